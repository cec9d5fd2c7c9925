import JvmDerived
import JvmDerived.Pilot.@@N@@Statement
import JvmDerived.Pilot.@@N@@Code
set_option linter.unusedVariables false
set_option linter.unusedSimpArgs false
namespace Jvm.Pilot.@@N@@
open Jvm Jvm.ClassFile Sem Op Lib Jvm.Free Jvm.Stand Jvm.LawKit Jvm.RoadKit Bundle Jvm.Pilot.@@N@@.Jvm.D
theorem own_w {a0 : Array Value} {Z : State} (hw : ∀ d ∈ tables_1, d.before a0 Z = true) (i : Nat) {d : Jvm.Cond} (h : tables_1[i]? = some d) : d.before a0 Z = true := hw _ (List.mem_of_getElem? h)
abbrev oS (p : Program) (e : Env) (b : List Frame) (T : State) (m : MethodId) (pc : Nat) (L : Array Slot) (S : List Value) (t : State) : Prop := Steps p.tables e b (T.setTop (mkF m pc L S)) t
abbrev lv (x : Int64) : Slot := .val (.long x)
theorem own_join {α : Type} {p : Program} {l : Launch} {e : Env} {R : Room} {s : State} {m : MethodId} {args : Array Value} {below : List Frame} {meth : Method} {c : Code} {T : State} {locs : List Loc} {cells slots n0 : Nat} {h : Heap}
    (_ : Stand p l e R s m args below meth c T locs cells slots) (_ : Fr n0 locs) (_ : T.heap = h) (A : JFrame) (B : α → JFrame) (P : α → Prop)
    (k : ∃ (v : α) (T' : State) (locs' : List Loc), P v ∧ Fr n0 locs' ∧ Stand p l e R s m args below meth c T' locs' cells slots ∧ T'.heap = h ∧ ∀ t, Steps p.tables e below (T'.setTop (B v)) t → Steps p.tables e below (T.setTop A) t) :
    ∃ (v : α) (T' : State) (locs' : List Loc), P v ∧ Fr n0 locs' ∧ Stand p l e R s m args below meth c T' locs' cells slots ∧ T'.heap = h ∧ ∀ t, Steps p.tables e below (T'.setTop (B v)) t → Steps p.tables e below (T.setTop A) t := k
theorem own_joinH {α : Type} {p : Program} {l : Launch} {e : Env} {R : Room} {s : State} {m : MethodId} {args : Array Value} {below : List Frame} {meth : Method} {c : Code} {T : State} {locs : List Loc} {cells slots n0 : Nat} {h : Heap}
    (_ : Stand p l e R s m args below meth c T locs cells slots) (_ : Fr n0 locs) (_ : T.heap = h) (A : JFrame) (B : α → JFrame) (P : α → Heap → Prop)
    (k : ∃ (v : α) (T' : State) (h' : Heap) (locs' : List Loc), P v h' ∧ Fr n0 locs' ∧ Stand p l e R s m args below meth c T' locs' cells slots ∧ T'.heap = h' ∧ ∀ t, Steps p.tables e below (T'.setTop (B v)) t → Steps p.tables e below (T.setTop A) t) :
    ∃ (v : α) (T' : State) (h' : Heap) (locs' : List Loc), P v h' ∧ Fr n0 locs' ∧ Stand p l e R s m args below meth c T' locs' cells slots ∧ T'.heap = h' ∧ ∀ t, Steps p.tables e below (T'.setTop (B v)) t → Steps p.tables e below (T.setTop A) t := k
theorem own_selp {s Z : State} {a0 args : Array Value} {y : MethodName} {n : Nat} (hZ : Z.Warmed39 s.vm) (wi : (Cond.instantiable y.cls n).before a0 Z = true) (wp : (Cond.privateMethod y).before a0 Z = true) (wm : (Cond.instanceMethod y).before a0 Z = true)
    (hy : y.cls ≠ "java/lang/invoke/MethodHandle" ∧ y.cls ≠ "java/lang/invoke/VarHandle") : (Cond.selects y.cls y y).before args s = true := by
  have wi' : (Cond.instantiable y.cls n).before args s = true := mvT hZ wi
  obtain ⟨c, k, h1, h2, h3, h4, -⟩ := Cond.instantiable_spec wi'
  exact Stand.selects_self_of_private h1 h2 (Bool.or_eq_false_iff.mp h4).1 (Cond.privateMethod_at (mvP hZ wp (args := #[]))) (mvT hZ wm) hy
theorem own_nn (x : Int64) : ¬ ((x &&& (9223372036854775807 : Int64)) < (0 : Int64)) := by
  have h := c_maskL x 9223372036854775807 63 (by decide) (by decide)
  rw [Int64.lt_iff_toInt_lt, h]
  have e : (0 : Int64).toInt = 0 := rfl
  omega
theorem own_e0 : (0 : Int64).toInt = 0 := rfl
theorem own_e1 : (1 : Int64).toInt = 1 := rfl
theorem own_eM : (9223372036854775807 : Int64).toInt = 9223372036854775807 := rfl

theorem own_a (v c : Int64) (h : ¬ ((if v < (0 : Int64) then (0 : Int32) else (if v < c then (1 : Int32) else (0 : Int32))) = (0 : Int32))) : (if v < c then (0 : Int32) else (if v < (9223372036854775807 : Int64) then (1 : Int32) else (0 : Int32))) = (0 : Int32) := by
  by_cases h1 : v < (0 : Int64)
  · rw [if_pos h1] at h; exact absurd rfl h
  · rw [if_neg h1] at h
    by_cases h2 : v < c
    · rw [if_pos h2]
    · rw [if_neg h2] at h; exact absurd rfl h
theorem own_b (c : Int64) (h : ¬ c < (0 : Int64)) : (if c < (0 : Int64) then (0 : Int32) else (if c < c then (1 : Int32) else (0 : Int32))) = (0 : Int32) := by
  have h2 : ¬ c < c := by rw [Int64.lt_iff_toInt_lt]; omega
  rw [if_neg h, if_neg h2]
theorem own_c (c : Int64) (h : (0 : Int64) < c) : ¬ ((if (c - (1 : Int64)) < (0 : Int64) then (0 : Int32) else (if (c - (1 : Int64)) < c then (1 : Int32) else (0 : Int32))) = (0 : Int32)) := by
  have e := c_lsub c 1
  have r := rng64 (c - 1)
  have r2 := rng64 c
  rw [own_e1] at e
  rw [Int64.lt_iff_toInt_lt, own_e0] at h
  have h1 : ¬ (c - 1) < (0 : Int64) := by rw [Int64.lt_iff_toInt_lt, own_e0]; omega
  have h2 : (c - 1) < c := by rw [Int64.lt_iff_toInt_lt]; omega
  rw [if_neg h1, if_pos h2]; decide
theorem own_d (c : Int64) : (if (0 : Int64) < (0 : Int64) then (0 : Int32) else (if (0 : Int64) < c then (1 : Int32) else (0 : Int32))) = (if (0 : Int64) < c then (1 : Int32) else (0 : Int32)) := by
  rw [if_neg (by decide : ¬ (0 : Int64) < 0)]
theorem d2_0 : decode jdk_30_method_1_code 0 = .ok (.aload_n 0, 1) := by decide +kernel
theorem d2_1 : decode jdk_30_method_1_code 1 = .ok (.invokespecial 1, 3) := by decide +kernel
theorem d2_4 : decode jdk_30_method_1_code 4 = .ok (.return_, 1) := by decide +kernel
theorem own_pn0 : plainName "java/lang/Record" = true := by first | (simp [plainName, overriddenIn]; done) | decide +kernel
theorem ef2 (m : MethodId) (o : Addr) : entryFrame m #[(.ref o)] 1 = mkF m 0 #[rv o] [] := by first | (simp [entryFrame, mkF, argsToLocals, Value.category]; done) | rfl
def Q2 (Z : State) (o : Addr) (h0 : Heap) (n0 : Nat) (v : Option Value) (h : Heap) (L : List Loc) : Prop := v = none ∧ Fr n0 L ∧ h = h0
set_option maxRecDepth 65536 in
set_option maxHeartbeats 40000000 in
theorem rm2 (l : Launch) (Z : State) (a0 : Array Value) (hw : ∀ d ∈ tables_1, d.before a0 Z = true) (ws : List Jvm.Cond) (o : Addr) (h0 : Heap) (n0 : Nat) (Z0 : n0 ≤ h0.size) :
    MetFree l (⟨"java/lang/Record", "<init>", "()V"⟩ : MethodName) (head1 (Jvm.Cond.code (⟨"java/lang/Record", "<init>", "()V"⟩ : MethodName) jdk_30_method_1_code 1 none :: ws) ({ frames := 1, cells := 0, slots := 0, locals := 12 } : Room)) (fun a U => a = #[(.ref o)] ∧ Z.Warmed39 U.vm ∧ U.heap = h0) (fun _ _ _ _ _ => True) (fun _ U oc U' => ∃ v L, oc = .returned v ∧ Q2 Z o h0 n0 v U'.heap L ∧ FrameEnd U oc U' L ({ frames := 1, cells := 0, slots := 0, locals := 12 } : Room).cells ({ frames := 1, cells := 0, slots := 0, locals := 12 } : Room).slots) := by
  refine MetFree.of_bodySF (plainFor_of_name own_pn0) hisR ?_
  intro p e s m args below meth c s₁ Bd hml0 hP hK
  obtain ⟨rfl, hZ, hh⟩ := hP
  have hx := Bd.exec
  have hby := Bd.bytes
  have hml : c.maxLocals = 1 := hml0
  have hown : s.vm.findClass "java/lang/Record" = some m.cls := findClass_of_methodNamed Bd.named
  have hnm := (name_of_methodNamed Bd.named Bd.method).1
  have X0 : Stand p l e ({ frames := 1, cells := 0, slots := 0, locals := 12 } : Room) s m #[(.ref o)] below meth c s₁ [] 0 0 := Stand.of_body Bd
  have e0 : s₁.heap = h0 := by rw [← hh, Bd.state]; rfl
  have N0 := Fr.nil n0
  have pre0 : ∀ t, Steps p.tables e below (s₁.setTop (mkF m 0 #[rv o] [])) t → Steps p.tables e below (s₁.setTop (entryFrame m #[(.ref o)] 1)) t := fun t k => castTop (ef2 m o) k
  obtain ⟨T1, X1, e1, st1⟩ := initO X0 hx hZ hown (own_w hw 12 rfl) (own_w hw 13 rfl) (own_w hw 14 rfl) e0 (g := (mkF m 1 #[rv o] [(.ref o)])) rfl (by rw [hml]; rfl) rfl (hb hby d2_1) (by decide) (W := 0) (by show 2 * 0 + _ ≤ _; exact Nat.le_of_eq rfl) (by decide)
  have pre2 : ∀ tz, oS p e below T1 m 4 #[rv o] [] tz → oS p e below s₁ m 0 #[rv o] [] tz := fun tz kt => by
    show oS p e below s₁ m 0 #[rv o] [] _
    refine XS.aloadN X0.here hx rfl (hb hby d2_0) rfl rfl ?_
    show oS p e below s₁ m 1 #[rv o] [(.ref o)] _
    refine st1 _ ?_
    exact kt
  obtain ⟨fs, hr, hrun, hended, hW, hsame⟩ := X1.leave (v := none) (fun _ => rfl)
  refine ⟨_, _, pre0 _ (pre2 _ ?_), hrun, hended, _, _, rfl, ?_, ⟨_, rfl⟩, hW, hsame.mono (by decide) (by decide)⟩
  · show oS p e below T1 m 4 #[rv o] [] _
    exact X1.returnOut hx Bd.returns (hb hby d2_4) hr
  · show Q2 Z o h0 n0 _ T1.heap _
    rw [e1]
    exact ⟨rfl, N0, rfl⟩
theorem own_pd0 : parseMethodDescriptor "()V" = some ⟨[], none⟩ := by decide +kernel
theorem d1_0 : decode prog_10_method_1_code 0 = .ok (.aload_n 0, 1) := by decide +kernel
theorem d1_1 : decode prog_10_method_1_code 1 = .ok (.invokespecial 1, 3) := by decide +kernel
theorem d1_4 : decode prog_10_method_1_code 4 = .ok (.lload_n 1, 1) := by decide +kernel
theorem d1_5 : decode prog_10_method_1_code 5 = .ok (.lconst 0, 1) := by decide +kernel
theorem d1_6 : decode prog_10_method_1_code 6 = .ok (.lcmp, 1) := by decide +kernel
theorem d1_7 : decode prog_10_method_1_code 7 = .ok (.ifCond .ge 17, 3) := by decide +kernel
theorem d1_24 : decode prog_10_method_1_code 24 = .ok (.aload_n 0, 1) := by decide +kernel
theorem d1_25 : decode prog_10_method_1_code 25 = .ok (.lload_n 1, 1) := by decide +kernel
theorem d1_26 : decode prog_10_method_1_code 26 = .ok (.putfield 16, 3) := by decide +kernel
theorem d1_29 : decode prog_10_method_1_code 29 = .ok (.return_, 1) := by decide +kernel
theorem own_pn1 : plainName "com/example/ostiarius/ostiarius/MovingFactor$Counter" = true := by first | (simp [plainName, overriddenIn]; done) | decide +kernel
theorem ef1 (m : MethodId) (o : Addr) (x1 : Int64) : entryFrame m #[(.ref o), (.long x1)] 3 = mkF m 0 #[rv o, lv x1, .second] [] := by first | (simp [entryFrame, mkF, argsToLocals, Value.category]; done) | rfl
def Q1 (Z : State) (o : Addr) (x1 : Int64) (w_counter_o : Value) (h0 : Heap) (n0 : Nat) (v : Option Value) (h : Heap) (L : List Loc) : Prop := v = none ∧ Fr n0 L ∧ Keep h0 h [o] ∧ Exa Z h o "com/example/ostiarius/ostiarius/MovingFactor$Counter" ∧ Fld Z h o "com/example/ostiarius/ostiarius/MovingFactor$Counter" "counter" "J" (.long x1)
set_option maxRecDepth 65536 in
set_option maxHeartbeats 40000000 in
theorem rm1 (l : Launch) (Z : State) (a0 : Array Value) (hw : ∀ d ∈ tables_1, d.before a0 Z = true) (ws : List Jvm.Cond) (o : Addr) (x1 : Int64) (w_counter_o : Value) (h0 : Heap) (n0 : Nat) (Z0 : n0 ≤ h0.size) (h1 : ¬ (x1 < (0 : Int64))) (E_o : Exa Z h0 o "com/example/ostiarius/ostiarius/MovingFactor$Counter") (F_counter_o : Fld Z h0 o "com/example/ostiarius/ostiarius/MovingFactor$Counter" "counter" "J" w_counter_o) (g_o : n0 ≤ o) :
    MetFree l (⟨"com/example/ostiarius/ostiarius/MovingFactor$Counter", "<init>", "(J)V"⟩ : MethodName) (head1 (Jvm.Cond.code (⟨"com/example/ostiarius/ostiarius/MovingFactor$Counter", "<init>", "(J)V"⟩ : MethodName) prog_10_method_1_code 3 none :: ws) ({ frames := 2, cells := 0, slots := 0, locals := 24 } : Room)) (fun a U => a = #[(.ref o), (.long x1)] ∧ Z.Warmed39 U.vm ∧ U.heap = h0) (fun _ _ _ _ _ => True) (fun _ U oc U' => ∃ v L, oc = .returned v ∧ Q1 Z o x1 w_counter_o h0 n0 v U'.heap L ∧ FrameEnd U oc U' L ({ frames := 2, cells := 0, slots := 0, locals := 24 } : Room).cells ({ frames := 2, cells := 0, slots := 0, locals := 24 } : Room).slots) := by
  refine MetFree.of_bodySF (plainFor_of_name own_pn1) hisR ?_
  intro p e s m args below meth c s₁ Bd hml0 hP hK
  obtain ⟨rfl, hZ, hh⟩ := hP
  have hx := Bd.exec
  have hby := Bd.bytes
  have hml : c.maxLocals = 3 := hml0
  have hown : s.vm.findClass "com/example/ostiarius/ostiarius/MovingFactor$Counter" = some m.cls := findClass_of_methodNamed Bd.named
  have hnm := (name_of_methodNamed Bd.named Bd.method).1
  have X0 : Stand p l e ({ frames := 2, cells := 0, slots := 0, locals := 24 } : Room) s m #[(.ref o), (.long x1)] below meth c s₁ [] 0 0 := Stand.of_body Bd
  have e0 : s₁.heap = h0 := by rw [← hh, Bd.state]; rfl
  have N0 := Fr.nil n0
  have pre0 : ∀ t, Steps p.tables e below (s₁.setTop (mkF m 0 #[rv o, lv x1, .second] [])) t → Steps p.tables e below (s₁.setTop (entryFrame m #[(.ref o), (.long x1)] 3)) t := fun t k => castTop (ef1 m o x1) k
  obtain ⟨_, _, ⟨T1, Lw1, kw1, nw1⟩, -, X1, ⟨Lc1, hQ1, l1, y1, z1⟩, st1⟩ := X0.specialBack hx (y := (⟨"java/lang/Record", "<init>", "()V"⟩ : MethodName)) rfl hown (mvT hZ (own_w hw 7 rfl)) (mvT hZ (own_w hw 8 rfl)) (mvT hZ (own_w hw 11 rfl)) (by decide) (backOf (W := 0) (rm2 l Z a0 hw [] o h0 n0 Z0 ) hZ (own_w hw 11 rfl) (own_w hw 10 rfl) (by decide) (by decide)) (g := (mkF m 1 #[rv o, lv x1, .second] [(.ref o)])) rfl (by rw [hml]; rfl) (Steps.refl _) (a := o) (argsL := []) (rest := []) (lenOf own_pd0 rfl) rfl (by show 2 * 0 + _ ≤ _; exact Nat.le_of_eq rfl) (hb hby d1_1) (fun _ _ => ⟨rfl, e0, (by decide : 0 + 0 ≤ _), (by decide : 0 + 0 ≤ _)⟩)
  dsimp only [Pt.U, Pt.locs, Pt.cells, Pt.slots] at X1 l1 y1 z1 st1 hQ1
  subst l1 y1 z1
  obtain ⟨rfl, Nq1, eh1⟩ := hQ1
  have N1 := Fr.app N0 Nq1
  have hc7 : ¬ (x1 < (0 : Int64)) := id fun hc7 => by
    exact h1 hc7
  obtain ⟨T2, h2, X2, e2, W2, st2⟩ := putF X1 hx hZ hown (host := "") (Or.inl (own_w hw 15 rfl)) Via.refl eh1 F_counter_o E_o (Or.inr ⟨(own_w hw 16 rfl), rfl, hnm⟩) (own_w hw 2 rfl) (ty := .long) (by decide) rfl rfl (g := (mkF m 26 #[rv o, lv x1, .second] [(.long x1), (.ref o)])) rfl rfl (hb hby d1_26)
  have Fw2 : Fld Z h2 o "com/example/ostiarius/ostiarius/MovingFactor$Counter" "counter" "J" (.long x1) := F_counter_o.same W2
  have N2 := Fr.snoc X2 N1 g_o
  have pre3 : ∀ tz, oS p e below T2 m 29 #[rv o, lv x1, .second] [] tz → oS p e below s₁ m 0 #[rv o, lv x1, .second] [] tz := fun tz kt => by
    show oS p e below s₁ m 0 #[rv o, lv x1, .second] [] _
    refine XS.aloadN X0.here hx rfl (hb hby d1_0) rfl rfl ?_
    show oS p e below s₁ m 1 #[rv o, lv x1, .second] [(.ref o)] _
    refine st1.trans ?_
    refine XS.lloadN X1.here hx rfl (hb hby d1_4) rfl ?_
    refine XS.lconst X1.here hx rfl (hb hby d1_5) ?_
    refine XS.lcmp X1.here hx rfl (hb hby d1_6) rfl ?_
    show oS p e below T1 m 7 #[rv o, lv x1, .second] [(.int (lcmpW x1 (0 : Int64)))] _
    refine XS.ifYes X1.here hx rfl (pc0 := 7) (pc' := 24) rfl (hb hby d1_7) rfl ((if0 _ _).trans (flt (fun q => hc7 ((lw_lt x1 (0 : Int64)).mp q))).2.1) (by decide) (by decide) ?_
    refine XS.aloadN X1.here hx rfl (hb hby d1_24) rfl rfl ?_
    refine XS.lloadN X1.here hx rfl (hb hby d1_25) rfl ?_
    show oS p e below T1 m 26 #[rv o, lv x1, .second] [(.long x1), (.ref o)] _
    refine st2 _ ?_
    exact kt
  have Ec4 : Exa Z h2 o "com/example/ostiarius/ostiarius/MovingFactor$Counter" := (E_o.wr W2)
  have KP5 : Keep h0 h2 [o] := ((Keep.refl h0 [o]).wr W2 (Or.inl (List.mem_of_getElem? (i := 0) rfl)))
  obtain ⟨fs, hr, hrun, hended, hW, hsame⟩ := X2.leave (v := none) (fun _ => rfl)
  refine ⟨_, _, pre0 _ (pre3 _ ?_), hrun, hended, _, _, rfl, ?_, ⟨_, rfl⟩, hW, hsame.mono (by decide) (by decide)⟩
  · show oS p e below T2 m 29 #[rv o, lv x1, .second] [] _
    exact X2.returnOut hx Bd.returns (hb hby d1_29) hr
  · show Q1 Z o x1 w_counter_o h0 n0 _ T2.heap _
    rw [e2]
    exact ⟨rfl, N2, KP5, Ec4, Fw2⟩
theorem d4_0 : decode prog_10_method_7_code 0 = .ok (.lload_n 1, 1) := by decide +kernel
theorem d4_1 : decode prog_10_method_7_code 1 = .ok (.lconst 0, 1) := by decide +kernel
theorem d4_2 : decode prog_10_method_7_code 2 = .ok (.lcmp, 1) := by decide +kernel
theorem d4_3 : decode prog_10_method_7_code 3 = .ok (.ifCond .lt 16, 3) := by decide +kernel
theorem d4_6 : decode prog_10_method_7_code 6 = .ok (.lload_n 1, 1) := by decide +kernel
theorem d4_7 : decode prog_10_method_7_code 7 = .ok (.aload_n 0, 1) := by decide +kernel
theorem d4_8 : decode prog_10_method_7_code 8 = .ok (.getfield 16, 3) := by decide +kernel
theorem d4_11 : decode prog_10_method_7_code 11 = .ok (.lcmp, 1) := by decide +kernel
theorem d4_12 : decode prog_10_method_7_code 12 = .ok (.ifCond .ge 7, 3) := by decide +kernel
theorem d4_15 : decode prog_10_method_7_code 15 = .ok (.iconst 1, 1) := by decide +kernel
theorem d4_16 : decode prog_10_method_7_code 16 = .ok (.goto 4, 3) := by decide +kernel
theorem d4_19 : decode prog_10_method_7_code 19 = .ok (.iconst 0, 1) := by decide +kernel
theorem d4_20 : decode prog_10_method_7_code 20 = .ok (.ireturn, 1) := by decide +kernel
theorem ef4 (m : MethodId) (o : Addr) (x1 : Int64) : entryFrame m #[(.ref o), (.long x1)] 3 = mkF m 0 #[rv o, lv x1, .second] [] := by first | (simp [entryFrame, mkF, argsToLocals, Value.category]; done) | rfl
def Q4 (Z : State) (o : Addr) (x1 : Int64) (w_counter_o : Int64) (h0 : Heap) (n0 : Nat) (v : Option Value) (h : Heap) (L : List Loc) : Prop := v = some (.int (if x1 < (0 : Int64) then (0 : Int32) else (if x1 < w_counter_o then (1 : Int32) else (0 : Int32)))) ∧ Fr n0 L ∧ h = h0
set_option maxRecDepth 65536 in
set_option maxHeartbeats 40000000 in
theorem rm4 (l : Launch) (Z : State) (a0 : Array Value) (hw : ∀ d ∈ tables_1, d.before a0 Z = true) (ws : List Jvm.Cond) (o : Addr) (x1 : Int64) (w_counter_o : Int64) (h0 : Heap) (n0 : Nat) (Z0 : n0 ≤ h0.size) (F_counter_o : Fld Z h0 o "com/example/ostiarius/ostiarius/MovingFactor$Counter" "counter" "J" (.long w_counter_o)) :
    MetFree l (⟨"com/example/ostiarius/ostiarius/MovingFactor$Counter", "used", "(J)Z"⟩ : MethodName) (head1 (Jvm.Cond.code (⟨"com/example/ostiarius/ostiarius/MovingFactor$Counter", "used", "(J)Z"⟩ : MethodName) prog_10_method_7_code 3 (some .boolean) :: ws) ({ frames := 0, cells := 0, slots := 0, locals := 0 } : Room)) (fun a U => a = #[(.ref o), (.long x1)] ∧ Z.Warmed39 U.vm ∧ U.heap = h0) (fun _ _ _ _ _ => True) (fun _ U oc U' => ∃ v L, oc = .returned v ∧ Q4 Z o x1 w_counter_o h0 n0 v U'.heap L ∧ FrameEnd U oc U' L ({ frames := 0, cells := 0, slots := 0, locals := 0 } : Room).cells ({ frames := 0, cells := 0, slots := 0, locals := 0 } : Room).slots) := by
  refine MetFree.of_bodySF (plainFor_of_name own_pn1) hisR ?_
  intro p e s m args below meth c s₁ Bd hml0 hP hK
  obtain ⟨rfl, hZ, hh⟩ := hP
  have hx := Bd.exec
  have hby := Bd.bytes
  have hml : c.maxLocals = 3 := hml0
  have hown : s.vm.findClass "com/example/ostiarius/ostiarius/MovingFactor$Counter" = some m.cls := findClass_of_methodNamed Bd.named
  have hnm := (name_of_methodNamed Bd.named Bd.method).1
  have X0 : Stand p l e ({ frames := 0, cells := 0, slots := 0, locals := 0 } : Room) s m #[(.ref o), (.long x1)] below meth c s₁ [] 0 0 := Stand.of_body Bd
  have e0 : s₁.heap = h0 := by rw [← hh, Bd.state]; rfl
  have N0 := Fr.nil n0
  have pre0 : ∀ t, Steps p.tables e below (s₁.setTop (mkF m 0 #[rv o, lv x1, .second] [])) t → Steps p.tables e below (s₁.setTop (entryFrame m #[(.ref o), (.long x1)] 3)) t := fun t k => castTop (ef4 m o x1) k
  have pre1 : ∀ tz, oS p e below s₁ m 3 #[rv o, lv x1, .second] [(.int (lcmpW x1 (0 : Int64)))] tz → oS p e below s₁ m 0 #[rv o, lv x1, .second] [] tz := fun tz kt => by
    show oS p e below s₁ m 0 #[rv o, lv x1, .second] [] _
    refine XS.lloadN X0.here hx rfl (hb hby d4_0) rfl ?_
    refine XS.lconst X0.here hx rfl (hb hby d4_1) ?_
    refine XS.lcmp X0.here hx rfl (hb hby d4_2) rfl ?_
    exact kt
  by_cases hc3 : x1 < (0 : Int64)
  · have pre2 : ∀ tz, oS p e below s₁ m 20 #[rv o, lv x1, .second] [(.int (0 : Int32))] tz → oS p e below s₁ m 3 #[rv o, lv x1, .second] [(.int (lcmpW x1 (0 : Int64)))] tz := fun tz kt => by
      show oS p e below s₁ m 3 #[rv o, lv x1, .second] [(.int (lcmpW x1 (0 : Int64)))] _
      refine XS.ifYes X0.here hx rfl (pc0 := 3) (pc' := 19) rfl (hb hby d4_3) rfl ((if0 _ _).trans (tlt ((lw_lt x1 (0 : Int64)).mpr hc3)).1) (by decide) (by decide) ?_
      refine XS.iconst X0.here hx rfl (hb hby d4_19) ?_
      exact kt
    obtain ⟨fs, hr, hrun, hended, hW, hsame⟩ := X0.leave (v := some (.int (0 : Int32))) (fun h => by rw [Bd.returns] at h; cases h)
    refine ⟨_, _, pre0 _ (pre1 _ (pre2 _ ?_)), hrun, hended, _, _, rfl, ?_, ⟨_, rfl⟩, hW, hsame.mono (by decide) (by decide)⟩
    · show oS p e below s₁ m 20 #[rv o, lv x1, .second] [(.int (0 : Int32))] _
      exact retN X0 hx (t := .boolean) Bd.returns (by simp) (hb hby d4_20) hr
    · show Q4 Z o x1 w_counter_o h0 n0 _ s₁.heap _
      rw [e0]
      exact ⟨(by first | rfl | simp only [if_pos hc3]), N0, rfl⟩
  · obtain ⟨T3, X3, e3, st3⟩ := getF X0 hx hZ hown (host := "") (Or.inl (own_w hw 15 rfl)) Via.refl e0 F_counter_o (g := (mkF m 8 #[rv o, lv x1, .second] [(.ref o), (.long x1)])) rfl rfl (hb hby d4_8)
    have pre4 : ∀ tz, oS p e below T3 m 12 #[rv o, lv x1, .second] [(.int (lcmpW x1 w_counter_o))] tz → oS p e below s₁ m 3 #[rv o, lv x1, .second] [(.int (lcmpW x1 (0 : Int64)))] tz := fun tz kt => by
      show oS p e below s₁ m 3 #[rv o, lv x1, .second] [(.int (lcmpW x1 (0 : Int64)))] _
      refine XS.ifNo X0.here hx rfl (hb hby d4_3) rfl ((if0 _ _).trans (flt (fun q => hc3 ((lw_lt x1 (0 : Int64)).mp q))).1) ?_
      refine XS.lloadN X0.here hx rfl (hb hby d4_6) rfl ?_
      refine XS.aloadN X0.here hx rfl (hb hby d4_7) rfl rfl ?_
      show oS p e below s₁ m 8 #[rv o, lv x1, .second] [(.ref o), (.long x1)] _
      refine st3 _ ?_
      refine XS.lcmp X3.here hx rfl (hb hby d4_11) rfl ?_
      exact kt
    by_cases hc12 : x1 < w_counter_o
    · have pre5 : ∀ tz, oS p e below T3 m 20 #[rv o, lv x1, .second] [(.int (1 : Int32))] tz → oS p e below T3 m 12 #[rv o, lv x1, .second] [(.int (lcmpW x1 w_counter_o))] tz := fun tz kt => by
        show oS p e below T3 m 12 #[rv o, lv x1, .second] [(.int (lcmpW x1 w_counter_o))] _
        refine XS.ifNo X3.here hx rfl (hb hby d4_12) rfl ((if0 _ _).trans (tlt ((lw_lt x1 w_counter_o).mpr hc12)).2.1) ?_
        refine XS.iconst X3.here hx rfl (hb hby d4_15) ?_
        refine XS.goto X3.here hx rfl (pc0 := 16) (pc' := 20) rfl (hb hby d4_16) (by decide) (by decide) ?_
        exact kt
      obtain ⟨fs, hr, hrun, hended, hW, hsame⟩ := X3.leave (v := some (.int (1 : Int32))) (fun h => by rw [Bd.returns] at h; cases h)
      refine ⟨_, _, pre0 _ (pre1 _ (pre4 _ (pre5 _ ?_))), hrun, hended, _, _, rfl, ?_, ⟨_, rfl⟩, hW, hsame.mono (by decide) (by decide)⟩
      · show oS p e below T3 m 20 #[rv o, lv x1, .second] [(.int (1 : Int32))] _
        exact retN X3 hx (t := .boolean) Bd.returns (by simp) (hb hby d4_20) hr
      · show Q4 Z o x1 w_counter_o h0 n0 _ T3.heap _
        rw [e3]
        exact ⟨(by first | rfl | simp only [if_neg hc3, if_pos hc12]), N0, rfl⟩
    · have pre6 : ∀ tz, oS p e below T3 m 20 #[rv o, lv x1, .second] [(.int (0 : Int32))] tz → oS p e below T3 m 12 #[rv o, lv x1, .second] [(.int (lcmpW x1 w_counter_o))] tz := fun tz kt => by
        show oS p e below T3 m 12 #[rv o, lv x1, .second] [(.int (lcmpW x1 w_counter_o))] _
        refine XS.ifYes X3.here hx rfl (pc0 := 12) (pc' := 19) rfl (hb hby d4_12) rfl ((if0 _ _).trans (flt (fun q => hc12 ((lw_lt x1 w_counter_o).mp q))).2.1) (by decide) (by decide) ?_
        refine XS.iconst X3.here hx rfl (hb hby d4_19) ?_
        exact kt
      obtain ⟨fs, hr, hrun, hended, hW, hsame⟩ := X3.leave (v := some (.int (0 : Int32))) (fun h => by rw [Bd.returns] at h; cases h)
      refine ⟨_, _, pre0 _ (pre1 _ (pre4 _ (pre6 _ ?_))), hrun, hended, _, _, rfl, ?_, ⟨_, rfl⟩, hW, hsame.mono (by decide) (by decide)⟩
      · show oS p e below T3 m 20 #[rv o, lv x1, .second] [(.int (0 : Int32))] _
        exact retN X3 hx (t := .boolean) Bd.returns (by simp) (hb hby d4_20) hr
      · show Q4 Z o x1 w_counter_o h0 n0 _ T3.heap _
        rw [e3]
        exact ⟨(by first | rfl | simp only [if_neg hc3, if_neg hc12]), N0, rfl⟩
theorem d5_0 : decode prog_10_method_6_code 0 = .ok (.lload_n 1, 1) := by decide +kernel
theorem d5_1 : decode prog_10_method_6_code 1 = .ok (.aload_n 0, 1) := by decide +kernel
theorem d5_2 : decode prog_10_method_6_code 2 = .ok (.getfield 16, 3) := by decide +kernel
theorem d5_5 : decode prog_10_method_6_code 5 = .ok (.lcmp, 1) := by decide +kernel
theorem d5_6 : decode prog_10_method_6_code 6 = .ok (.ifCond .lt 15, 3) := by decide +kernel
theorem d5_9 : decode prog_10_method_6_code 9 = .ok (.lload_n 1, 1) := by decide +kernel
theorem d5_10 : decode prog_10_method_6_code 10 = .ok (.ldc2_w 46, 3) := by decide +kernel
theorem d5_13 : decode prog_10_method_6_code 13 = .ok (.lcmp, 1) := by decide +kernel
theorem d5_14 : decode prog_10_method_6_code 14 = .ok (.ifCond .ge 7, 3) := by decide +kernel
theorem d5_17 : decode prog_10_method_6_code 17 = .ok (.iconst 1, 1) := by decide +kernel
theorem d5_18 : decode prog_10_method_6_code 18 = .ok (.goto 4, 3) := by decide +kernel
theorem d5_21 : decode prog_10_method_6_code 21 = .ok (.iconst 0, 1) := by decide +kernel
theorem d5_22 : decode prog_10_method_6_code 22 = .ok (.ireturn, 1) := by decide +kernel
theorem ef5 (m : MethodId) (o : Addr) (x1 : Int64) : entryFrame m #[(.ref o), (.long x1)] 3 = mkF m 0 #[rv o, lv x1, .second] [] := by first | (simp [entryFrame, mkF, argsToLocals, Value.category]; done) | rfl
def Q5 (Z : State) (o : Addr) (x1 : Int64) (w_counter_o : Int64) (h0 : Heap) (n0 : Nat) (v : Option Value) (h : Heap) (L : List Loc) : Prop := v = some (.int (if x1 < w_counter_o then (0 : Int32) else (if x1 < (9223372036854775807 : Int64) then (1 : Int32) else (0 : Int32)))) ∧ Fr n0 L ∧ h = h0
set_option maxRecDepth 65536 in
set_option maxHeartbeats 40000000 in
theorem rm5 (l : Launch) (Z : State) (a0 : Array Value) (hw : ∀ d ∈ tables_1, d.before a0 Z = true) (ws : List Jvm.Cond) (o : Addr) (x1 : Int64) (w_counter_o : Int64) (h0 : Heap) (n0 : Nat) (Z0 : n0 ≤ h0.size) (F_counter_o : Fld Z h0 o "com/example/ostiarius/ostiarius/MovingFactor$Counter" "counter" "J" (.long w_counter_o)) :
    MetFree l (⟨"com/example/ostiarius/ostiarius/MovingFactor$Counter", "unused", "(J)Z"⟩ : MethodName) (head1 (Jvm.Cond.code (⟨"com/example/ostiarius/ostiarius/MovingFactor$Counter", "unused", "(J)Z"⟩ : MethodName) prog_10_method_6_code 3 (some .boolean) :: ws) ({ frames := 0, cells := 0, slots := 0, locals := 0 } : Room)) (fun a U => a = #[(.ref o), (.long x1)] ∧ Z.Warmed39 U.vm ∧ U.heap = h0) (fun _ _ _ _ _ => True) (fun _ U oc U' => ∃ v L, oc = .returned v ∧ Q5 Z o x1 w_counter_o h0 n0 v U'.heap L ∧ FrameEnd U oc U' L ({ frames := 0, cells := 0, slots := 0, locals := 0 } : Room).cells ({ frames := 0, cells := 0, slots := 0, locals := 0 } : Room).slots) := by
  refine MetFree.of_bodySF (plainFor_of_name own_pn1) hisR ?_
  intro p e s m args below meth c s₁ Bd hml0 hP hK
  obtain ⟨rfl, hZ, hh⟩ := hP
  have hx := Bd.exec
  have hby := Bd.bytes
  have hml : c.maxLocals = 3 := hml0
  have hown : s.vm.findClass "com/example/ostiarius/ostiarius/MovingFactor$Counter" = some m.cls := findClass_of_methodNamed Bd.named
  have hnm := (name_of_methodNamed Bd.named Bd.method).1
  have X0 : Stand p l e ({ frames := 0, cells := 0, slots := 0, locals := 0 } : Room) s m #[(.ref o), (.long x1)] below meth c s₁ [] 0 0 := Stand.of_body Bd
  have e0 : s₁.heap = h0 := by rw [← hh, Bd.state]; rfl
  have N0 := Fr.nil n0
  have pre0 : ∀ t, Steps p.tables e below (s₁.setTop (mkF m 0 #[rv o, lv x1, .second] [])) t → Steps p.tables e below (s₁.setTop (entryFrame m #[(.ref o), (.long x1)] 3)) t := fun t k => castTop (ef5 m o x1) k
  obtain ⟨T1, X1, e1, st1⟩ := getF X0 hx hZ hown (host := "") (Or.inl (own_w hw 15 rfl)) Via.refl e0 F_counter_o (g := (mkF m 2 #[rv o, lv x1, .second] [(.ref o), (.long x1)])) rfl rfl (hb hby d5_2)
  have pre2 : ∀ tz, oS p e below T1 m 6 #[rv o, lv x1, .second] [(.int (lcmpW x1 w_counter_o))] tz → oS p e below s₁ m 0 #[rv o, lv x1, .second] [] tz := fun tz kt => by
    show oS p e below s₁ m 0 #[rv o, lv x1, .second] [] _
    refine XS.lloadN X0.here hx rfl (hb hby d5_0) rfl ?_
    refine XS.aloadN X0.here hx rfl (hb hby d5_1) rfl rfl ?_
    show oS p e below s₁ m 2 #[rv o, lv x1, .second] [(.ref o), (.long x1)] _
    refine st1 _ ?_
    refine XS.lcmp X1.here hx rfl (hb hby d5_5) rfl ?_
    exact kt
  by_cases hc6 : x1 < w_counter_o
  · have pre3 : ∀ tz, oS p e below T1 m 22 #[rv o, lv x1, .second] [(.int (0 : Int32))] tz → oS p e below T1 m 6 #[rv o, lv x1, .second] [(.int (lcmpW x1 w_counter_o))] tz := fun tz kt => by
      show oS p e below T1 m 6 #[rv o, lv x1, .second] [(.int (lcmpW x1 w_counter_o))] _
      refine XS.ifYes X1.here hx rfl (pc0 := 6) (pc' := 21) rfl (hb hby d5_6) rfl ((if0 _ _).trans (tlt ((lw_lt x1 w_counter_o).mpr hc6)).1) (by decide) (by decide) ?_
      refine XS.iconst X1.here hx rfl (hb hby d5_21) ?_
      exact kt
    obtain ⟨fs, hr, hrun, hended, hW, hsame⟩ := X1.leave (v := some (.int (0 : Int32))) (fun h => by rw [Bd.returns] at h; cases h)
    refine ⟨_, _, pre0 _ (pre2 _ (pre3 _ ?_)), hrun, hended, _, _, rfl, ?_, ⟨_, rfl⟩, hW, hsame.mono (by decide) (by decide)⟩
    · show oS p e below T1 m 22 #[rv o, lv x1, .second] [(.int (0 : Int32))] _
      exact retN X1 hx (t := .boolean) Bd.returns (by simp) (hb hby d5_22) hr
    · show Q5 Z o x1 w_counter_o h0 n0 _ T1.heap _
      rw [e1]
      exact ⟨(by first | rfl | simp only [if_pos hc6]), N0, rfl⟩
  · have pre4 : ∀ tz, oS p e below T1 m 14 #[rv o, lv x1, .second] [(.int (lcmpW x1 (9223372036854775807 : Int64)))] tz → oS p e below T1 m 6 #[rv o, lv x1, .second] [(.int (lcmpW x1 w_counter_o))] tz := fun tz kt => by
      show oS p e below T1 m 6 #[rv o, lv x1, .second] [(.int (lcmpW x1 w_counter_o))] _
      refine XS.ifNo X1.here hx rfl (hb hby d5_6) rfl ((if0 _ _).trans (flt (fun q => hc6 ((lw_lt x1 w_counter_o).mp q))).1) ?_
      refine XS.lloadN X1.here hx rfl (hb hby d5_9) rfl ?_
      refine X1.ldc2Long hx hown (mvT hZ (own_w hw 31 rfl)) (g := (mkF m 10 #[rv o, lv x1, .second] [(.long x1)])) rfl (hb hby d5_10) _ ?_
      refine XS.lcmp X1.here hx rfl (hb hby d5_13) rfl ?_
      exact kt
    by_cases hc14 : x1 < (9223372036854775807 : Int64)
    · have pre5 : ∀ tz, oS p e below T1 m 22 #[rv o, lv x1, .second] [(.int (1 : Int32))] tz → oS p e below T1 m 14 #[rv o, lv x1, .second] [(.int (lcmpW x1 (9223372036854775807 : Int64)))] tz := fun tz kt => by
        show oS p e below T1 m 14 #[rv o, lv x1, .second] [(.int (lcmpW x1 (9223372036854775807 : Int64)))] _
        refine XS.ifNo X1.here hx rfl (hb hby d5_14) rfl ((if0 _ _).trans (tlt ((lw_lt x1 (9223372036854775807 : Int64)).mpr hc14)).2.1) ?_
        refine XS.iconst X1.here hx rfl (hb hby d5_17) ?_
        refine XS.goto X1.here hx rfl (pc0 := 18) (pc' := 22) rfl (hb hby d5_18) (by decide) (by decide) ?_
        exact kt
      obtain ⟨fs, hr, hrun, hended, hW, hsame⟩ := X1.leave (v := some (.int (1 : Int32))) (fun h => by rw [Bd.returns] at h; cases h)
      refine ⟨_, _, pre0 _ (pre2 _ (pre4 _ (pre5 _ ?_))), hrun, hended, _, _, rfl, ?_, ⟨_, rfl⟩, hW, hsame.mono (by decide) (by decide)⟩
      · show oS p e below T1 m 22 #[rv o, lv x1, .second] [(.int (1 : Int32))] _
        exact retN X1 hx (t := .boolean) Bd.returns (by simp) (hb hby d5_22) hr
      · show Q5 Z o x1 w_counter_o h0 n0 _ T1.heap _
        rw [e1]
        exact ⟨(by first | rfl | simp only [if_neg hc6, if_pos hc14]), N0, rfl⟩
    · have pre6 : ∀ tz, oS p e below T1 m 22 #[rv o, lv x1, .second] [(.int (0 : Int32))] tz → oS p e below T1 m 14 #[rv o, lv x1, .second] [(.int (lcmpW x1 (9223372036854775807 : Int64)))] tz := fun tz kt => by
        show oS p e below T1 m 14 #[rv o, lv x1, .second] [(.int (lcmpW x1 (9223372036854775807 : Int64)))] _
        refine XS.ifYes X1.here hx rfl (pc0 := 14) (pc' := 21) rfl (hb hby d5_14) rfl ((if0 _ _).trans (flt (fun q => hc14 ((lw_lt x1 (9223372036854775807 : Int64)).mp q))).2.1) (by decide) (by decide) ?_
        refine XS.iconst X1.here hx rfl (hb hby d5_21) ?_
        exact kt
      obtain ⟨fs, hr, hrun, hended, hW, hsame⟩ := X1.leave (v := some (.int (0 : Int32))) (fun h => by rw [Bd.returns] at h; cases h)
      refine ⟨_, _, pre0 _ (pre2 _ (pre4 _ (pre6 _ ?_))), hrun, hended, _, _, rfl, ?_, ⟨_, rfl⟩, hW, hsame.mono (by decide) (by decide)⟩
      · show oS p e below T1 m 22 #[rv o, lv x1, .second] [(.int (0 : Int32))] _
        exact retN X1 hx (t := .boolean) Bd.returns (by simp) (hb hby d5_22) hr
      · show Q5 Z o x1 w_counter_o h0 n0 _ T1.heap _
        rw [e1]
        exact ⟨(by first | rfl | simp only [if_neg hc6, if_neg hc14]), N0, rfl⟩
theorem own_pd1 : parseMethodDescriptor "(J)V" = some ⟨[.long], none⟩ := by decide +kernel
theorem own_pd2 : parseMethodDescriptor "(J)Z" = some ⟨[.long], some .boolean⟩ := by decide +kernel
theorem own_pn2 : plainName "com/example/ostiarius/ostiarius/CounterUsedPinLaw" = true := by first | (simp [plainName, overriddenIn]; done) | decide +kernel
theorem ef0 (m : MethodId) (x1 : Int64) (x2 : Int64) (x3 : Int64) : entryFrame m #[(.long x1), (.long x2), (.long x3)] maxLocals = mkF m 0 #[lv x1, .second, lv x2, .second, lv x3, .second, .unset, .unset, .unset, .unset, .unset, .unset, .unset, .unset, .unset] [] := by first | (simp [entryFrame, mkF, argsToLocals, Value.category, maxLocals]; done) | rfl
def Q0 (Z : State) (x1 : Int64) (x2 : Int64) (x3 : Int64) (h0 : Heap) (n0 : Nat) (v : Option Value) (h : Heap) (L : List Loc) : Prop := v = some (.int (1 : Int32)) ∧ Fr n0 L
set_option maxRecDepth 65536 in
set_option maxHeartbeats 40000000 in
theorem rm0 (l : Launch) (Z : State) (a0 : Array Value) (hw : ∀ d ∈ tables_1, d.before a0 Z = true) (ws : List Jvm.Cond) (x1 : Int64) (x2 : Int64) (x3 : Int64) (h0 : Heap) (n0 : Nat) (Z0 : n0 ≤ h0.size) :
    MetFree l x (head1 (Jvm.Cond.code x code maxLocals ret :: ws) room_1) (fun a U => a = #[(.long x1), (.long x2), (.long x3)] ∧ Z.Warmed39 U.vm ∧ U.heap = h0) (fun _ _ _ _ _ => True) (fun _ U oc U' => ∃ v L, oc = .returned v ∧ Q0 Z x1 x2 x3 h0 n0 v U'.heap L ∧ FrameEnd U oc U' L room_1.cells room_1.slots) := by
  refine MetFree.of_bodySF (plainFor_of_name own_pn2) hisR ?_
  intro p e s m args below meth c s₁ Bd hml0 hP hK
  obtain ⟨rfl, hZ, hh⟩ := hP
  have hx := Bd.exec
  have hby := Bd.bytes
  have hml : c.maxLocals = 15 := hml0
  have hown : s.vm.findClass "com/example/ostiarius/ostiarius/CounterUsedPinLaw" = some m.cls := findClass_of_methodNamed Bd.named
  have hnm := (name_of_methodNamed Bd.named Bd.method).1
  have X0 : Stand p l e room_1 s m #[(.long x1), (.long x2), (.long x3)] below meth c s₁ [] 0 0 := Stand.of_body Bd
  have e0 : s₁.heap = h0 := by rw [← hh, Bd.state]; rfl
  have N0 := Fr.nil n0
  have pre0 : ∀ t, Steps p.tables e below (s₁.setTop (mkF m 0 #[lv x1, .second, lv x2, .second, lv x3, .second, .unset, .unset, .unset, .unset, .unset, .unset, .unset, .unset, .unset] [])) t → Steps p.tables e below (s₁.setTop (entryFrame m #[(.long x1), (.long x2), (.long x3)] maxLocals)) t := fun t k => castTop (ef0 m x1 x2 x3) k
  obtain ⟨y5, hy5⟩ : ∃ z, z = (x1 &&& (9223372036854775807 : Int64)) := ⟨_, rfl⟩
  obtain ⟨T1, h1, X1, e1, E1, A1, D1, -, st1⟩ := newO X0 hx hZ hown (own_w hw 1 rfl) (own_w hw 2 rfl) (own_w hw 3 rfl) e0 (g := (mkF m 7 #[lv x1, .second, lv x2, .second, lv x3, .second, lv y5, .second, .unset, .unset, .unset, .unset, .unset, .unset, .unset] [])) rfl (hb hby at_7) (by decide) (by decide)
  obtain ⟨b1, g1⟩ : ∃ z, z = h0.size := ⟨_, rfl⟩
  rw [← g1] at A1 D1 st1
  have g_b1 : n0 ≤ b1 := Nat.le_trans Z0 (Nat.le_of_eq g1.symm)
  have F_counter_b1 : Fld Z h1 b1 "com/example/ostiarius/ostiarius/MovingFactor$Counter" "counter" "J" (.long (0 : Int64)) := D1 (Or.inr (own_w hw 16 rfl)) (ty := .long) (by decide)
  have hp2_h1 : ¬ (y5 < (0 : Int64)) := (by rw [hy5]; exact own_nn _)
  have Zc3 : n0 ≤ h1.size := (Nat.le_trans Z0 E1.1)
  obtain ⟨_, _, ⟨T2, Lw2, kw2, nw2⟩, -, X2, ⟨Lc2, hQ2, l2, y2, z2⟩, st2⟩ := X1.specialBack hx (y := (⟨"com/example/ostiarius/ostiarius/MovingFactor$Counter", "<init>", "(J)V"⟩ : MethodName)) rfl hown (mvT hZ (own_w hw 4 rfl)) (mvT hZ (own_w hw 5 rfl)) (mvT hZ (own_w hw 6 rfl)) (by decide) (backOf (W := 1) (rm1 l Z a0 hw [] b1 y5 (.long (0 : Int64)) h1 n0 Zc3 hp2_h1 A1 F_counter_b1 g_b1) hZ (own_w hw 6 rfl) (own_w hw 3 rfl) (by decide) (by decide)) (g := (mkF m 13 #[lv x1, .second, lv x2, .second, lv x3, .second, lv y5, .second, .unset, .unset, .unset, .unset, .unset, .unset, .unset] [(.long y5), (.ref b1), (.ref b1)])) rfl (by rw [hml]; rfl) (Steps.refl _) (a := b1) (argsL := [(.long y5)]) (rest := [(.ref b1)]) (lenOf own_pd1 rfl) rfl (by show 2 * 0 + _ ≤ _; exact Nat.le_of_eq rfl) (hb hby at_13) (fun _ _ => ⟨rfl, e1, (by decide : 1 + 0 ≤ _), (by decide : 1 + 0 ≤ _)⟩)
  dsimp only [Pt.U, Pt.locs, Pt.cells, Pt.slots] at X2 l2 y2 z2 st2 hQ2
  subst l2 y2 z2
  obtain ⟨rfl, Nq2, K2, pf2_0, pf2_1⟩ := hQ2
  have N2 := Fr.app N0 Nq2
  have Zc5 : n0 ≤ T2.heap.size := (Nat.le_trans Zc3 K2.1)
  obtain ⟨cq4, kq4, q4a, q4b, q4c⟩ := isOf hZ rfl pf2_0
  obtain ⟨_, _, ⟨T4, Lw4, kw4, nw4⟩, -, X4, ⟨Lc4, hQ4, l4, y4, z4⟩, st4⟩ := X2.virtualBack hx (y := (⟨"com/example/ostiarius/ostiarius/MovingFactor$Counter", "used", "(J)Z"⟩ : MethodName)) (z := (⟨"com/example/ostiarius/ostiarius/MovingFactor$Counter", "used", "(J)Z"⟩ : MethodName)) hown (mvT hZ (own_w hw 17 rfl)) (mvT hZ (own_w hw 18 rfl)) (notFace_of_selects (args := #[]) (mvT hZ (own_w hw 20 rfl))) (mvT hZ (own_w hw 20 rfl)) (mvT hZ (own_w hw 19 rfl)) (by decide) (backOf (W := 0) (rm4 l Z a0 hw [] b1 x2 y5 T2.heap n0 Zc5 pf2_1) hZ (own_w hw 21 rfl) (own_w hw 3 rfl) (by decide) (by decide)) q4a q4c (g := (mkF m 21 #[lv x1, .second, lv x2, .second, lv x3, .second, lv y5, .second, rv b1, .unset, .unset, .unset, .unset, .unset, .unset] [(.long x2), (.ref b1)])) rfl (by rw [hml]; rfl) (Steps.refl _) (argsL := [(.long x2)]) (rest := []) (lenOf own_pd2 rfl) rfl (by show 2 * 0 + _ ≤ _; exact Nat.le_of_eq rfl) (hb hby at_21) (fun _ _ => ⟨rfl, rfl, (by decide : 1 + 0 ≤ _), (by decide : 1 + 0 ≤ _)⟩)
  dsimp only [Pt.U, Pt.locs, Pt.cells, Pt.slots] at X4 l4 y4 z4 st4 hQ4
  subst l4 y4 z4
  obtain ⟨rfl, Nq4, eh4⟩ := hQ4
  have N4 := Fr.app N2 Nq4
  obtain ⟨y24, hy24⟩ : ∃ z, z = (if x2 < (0 : Int64) then (0 : Int32) else (if x2 < y5 then (1 : Int32) else (0 : Int32))) := ⟨_, rfl⟩
  have pre6 : ∀ tz, oS p e below T4 m 29 #[lv x1, .second, lv x2, .second, lv x3, .second, lv y5, .second, rv b1, iv y24, .unset, .unset, .unset, .unset, .unset] [(.int (lcmpW x2 (0 : Int64)))] tz → oS p e below s₁ m 0 #[lv x1, .second, lv x2, .second, lv x3, .second, .unset, .unset, .unset, .unset, .unset, .unset, .unset, .unset, .unset] [] tz := fun tz kt => by
    show oS p e below s₁ m 0 #[lv x1, .second, lv x2, .second, lv x3, .second, .unset, .unset, .unset, .unset, .unset, .unset, .unset, .unset, .unset] [] _
    refine XS.lloadN X0.here hx rfl (hb hby at_0) rfl ?_
    refine X0.ldc2Long hx hown (mvT hZ (own_w hw 0 rfl)) (g := (mkF m 1 #[lv x1, .second, lv x2, .second, lv x3, .second, .unset, .unset, .unset, .unset, .unset, .unset, .unset, .unset, .unset] [(.long x1)])) rfl (hb hby at_1) _ ?_
    refine XS.land X0.here hx rfl (hb hby at_4) rfl ?_
    refine XS.lstore X0.here hx rfl (hb hby at_5) rfl (l' := #[lv x1, .second, lv x2, .second, lv x3, .second, lv y5, .second, .unset, .unset, .unset, .unset, .unset, .unset, .unset]) (by rw [hy5]; rfl) ?_
    show oS p e below s₁ m 7 #[lv x1, .second, lv x2, .second, lv x3, .second, lv y5, .second, .unset, .unset, .unset, .unset, .unset, .unset, .unset] [] _
    refine st1 _ ?_
    refine XS.dup X1.here hx rfl (hb hby at_10) rfl rfl ?_
    refine XS.lload X1.here hx rfl (hb hby at_11) rfl ?_
    show oS p e below T1 m 13 #[lv x1, .second, lv x2, .second, lv x3, .second, lv y5, .second, .unset, .unset, .unset, .unset, .unset, .unset, .unset] [(.long y5), (.ref b1), (.ref b1)] _
    refine st2.trans ?_
    refine XS.astore X2.here hx rfl (hb hby at_16) rfl rfl (l' := #[lv x1, .second, lv x2, .second, lv x3, .second, lv y5, .second, rv b1, .unset, .unset, .unset, .unset, .unset, .unset]) rfl ?_
    refine XS.aload X2.here hx rfl (hb hby at_18) rfl rfl ?_
    refine XS.lloadN X2.here hx rfl (hb hby at_20) rfl ?_
    show oS p e below T2 m 21 #[lv x1, .second, lv x2, .second, lv x3, .second, lv y5, .second, rv b1, .unset, .unset, .unset, .unset, .unset, .unset] [(.long x2), (.ref b1)] _
    refine st4.trans ?_
    refine XS.istore X4.here hx rfl (hb hby at_24) rfl (l' := #[lv x1, .second, lv x2, .second, lv x3, .second, lv y5, .second, rv b1, iv y24, .unset, .unset, .unset, .unset, .unset]) (by rw [hy24]; rfl) ?_
    refine XS.lloadN X4.here hx rfl (hb hby at_26) rfl ?_
    refine XS.lconst X4.here hx rfl (hb hby at_27) ?_
    show oS p e below T4 m 28 #[lv x1, .second, lv x2, .second, lv x3, .second, lv y5, .second, rv b1, iv y24, .unset, .unset, .unset, .unset, .unset] [(.long (0 : Int64)), (.long x2)] _
    refine XS.lcmp X4.here hx rfl (hb hby at_28) rfl ?_
    exact kt
  obtain ⟨v44, T11, Lj11, jv11, N11, X11, e11, st11⟩ := own_join (α := Int32) X4 N4 eh4 (mkF m 29 #[lv x1, .second, lv x2, .second, lv x3, .second, lv y5, .second, rv b1, iv y24, .unset, .unset, .unset, .unset, .unset] [(.int (lcmpW x2 (0 : Int64)))]) (fun v => (mkF m 44 #[lv x1, .second, lv x2, .second, lv x3, .second, lv y5, .second, rv b1, iv y24, .unset, .unset, .unset, .unset, .unset] [(.int v)])) (fun v => v = (if x2 < (0 : Int64) then (0 : Int32) else (if x2 < y5 then (1 : Int32) else (0 : Int32)))) (by
      by_cases hc29 : x2 < (0 : Int64)
      · have pre7 : ∀ tz, oS p e below T4 m 44 #[lv x1, .second, lv x2, .second, lv x3, .second, lv y5, .second, rv b1, iv y24, .unset, .unset, .unset, .unset, .unset] [(.int (0 : Int32))] tz → oS p e below T4 m 29 #[lv x1, .second, lv x2, .second, lv x3, .second, lv y5, .second, rv b1, iv y24, .unset, .unset, .unset, .unset, .unset] [(.int (lcmpW x2 (0 : Int64)))] tz := fun tz kt => by
          show oS p e below T4 m 29 #[lv x1, .second, lv x2, .second, lv x3, .second, lv y5, .second, rv b1, iv y24, .unset, .unset, .unset, .unset, .unset] [(.int (lcmpW x2 (0 : Int64)))] _
          refine XS.ifYes X4.here hx rfl (pc0 := 29) (pc' := 43) rfl (hb hby at_29) rfl ((if0 _ _).trans (tlt ((lw_lt x2 (0 : Int64)).mpr hc29)).1) (by decide) (by decide) ?_
          refine XS.iconst X4.here hx rfl (hb hby at_43) ?_
          exact kt
        exact ⟨(0 : Int32), T4, _, (by rw [if_pos hc29]), N4, X4, eh4, fun tz kt => (pre7 _ kt)⟩
      · have pre8 : ∀ tz, oS p e below T4 m 36 #[lv x1, .second, lv x2, .second, lv x3, .second, lv y5, .second, rv b1, iv y24, .unset, .unset, .unset, .unset, .unset] [(.int (lcmpW x2 y5))] tz → oS p e below T4 m 29 #[lv x1, .second, lv x2, .second, lv x3, .second, lv y5, .second, rv b1, iv y24, .unset, .unset, .unset, .unset, .unset] [(.int (lcmpW x2 (0 : Int64)))] tz := fun tz kt => by
          show oS p e below T4 m 29 #[lv x1, .second, lv x2, .second, lv x3, .second, lv y5, .second, rv b1, iv y24, .unset, .unset, .unset, .unset, .unset] [(.int (lcmpW x2 (0 : Int64)))] _
          refine XS.ifNo X4.here hx rfl (hb hby at_29) rfl ((if0 _ _).trans (flt (fun q => hc29 ((lw_lt x2 (0 : Int64)).mp q))).1) ?_
          refine XS.lloadN X4.here hx rfl (hb hby at_32) rfl ?_
          refine XS.lload X4.here hx rfl (hb hby at_33) rfl ?_
          refine XS.lcmp X4.here hx rfl (hb hby at_35) rfl ?_
          exact kt
        by_cases hc36 : x2 < y5
        · have pre9 : ∀ tz, oS p e below T4 m 44 #[lv x1, .second, lv x2, .second, lv x3, .second, lv y5, .second, rv b1, iv y24, .unset, .unset, .unset, .unset, .unset] [(.int (1 : Int32))] tz → oS p e below T4 m 36 #[lv x1, .second, lv x2, .second, lv x3, .second, lv y5, .second, rv b1, iv y24, .unset, .unset, .unset, .unset, .unset] [(.int (lcmpW x2 y5))] tz := fun tz kt => by
            show oS p e below T4 m 36 #[lv x1, .second, lv x2, .second, lv x3, .second, lv y5, .second, rv b1, iv y24, .unset, .unset, .unset, .unset, .unset] [(.int (lcmpW x2 y5))] _
            refine XS.ifNo X4.here hx rfl (hb hby at_36) rfl ((if0 _ _).trans (tlt ((lw_lt x2 y5).mpr hc36)).2.1) ?_
            refine XS.iconst X4.here hx rfl (hb hby at_39) ?_
            refine XS.goto X4.here hx rfl (pc0 := 40) (pc' := 44) rfl (hb hby at_40) (by decide) (by decide) ?_
            exact kt
          exact ⟨(1 : Int32), T4, _, (by rw [if_neg hc29, if_pos hc36]), N4, X4, eh4, fun tz kt => (pre8 _ (pre9 _ kt))⟩
        · have pre10 : ∀ tz, oS p e below T4 m 44 #[lv x1, .second, lv x2, .second, lv x3, .second, lv y5, .second, rv b1, iv y24, .unset, .unset, .unset, .unset, .unset] [(.int (0 : Int32))] tz → oS p e below T4 m 36 #[lv x1, .second, lv x2, .second, lv x3, .second, lv y5, .second, rv b1, iv y24, .unset, .unset, .unset, .unset, .unset] [(.int (lcmpW x2 y5))] tz := fun tz kt => by
            show oS p e below T4 m 36 #[lv x1, .second, lv x2, .second, lv x3, .second, lv y5, .second, rv b1, iv y24, .unset, .unset, .unset, .unset, .unset] [(.int (lcmpW x2 y5))] _
            refine XS.ifYes X4.here hx rfl (pc0 := 36) (pc' := 43) rfl (hb hby at_36) rfl ((if0 _ _).trans (flt (fun q => hc36 ((lw_lt x2 y5).mp q))).2.1) (by decide) (by decide) ?_
            refine XS.iconst X4.here hx rfl (hb hby at_43) ?_
            exact kt
          exact ⟨(0 : Int32), T4, _, (by rw [if_neg hc29, if_neg hc36]), N4, X4, eh4, fun tz kt => (pre8 _ (pre10 _ kt))⟩)
  have hv44 : v44 = (if x2 < (0 : Int64) then (0 : Int32) else (if x2 < y5 then (1 : Int32) else (0 : Int32))) := jv11
  have hc50 : y24 = v44 := Classical.byContradiction fun hc50 => by
    exact hc50 (hy24.trans hv44.symm)
  have pre12 : ∀ tz, oS p e below T11 m 57 #[lv x1, .second, lv x2, .second, lv x3, .second, lv y5, .second, rv b1, iv y24, iv v44, .unset, .unset, .unset, .unset] [(.int y24)] tz → oS p e below T4 m 29 #[lv x1, .second, lv x2, .second, lv x3, .second, lv y5, .second, rv b1, iv y24, .unset, .unset, .unset, .unset, .unset] [(.int (lcmpW x2 (0 : Int64)))] tz := fun tz kt => by
    show oS p e below T4 m 29 #[lv x1, .second, lv x2, .second, lv x3, .second, lv y5, .second, rv b1, iv y24, .unset, .unset, .unset, .unset, .unset] [(.int (lcmpW x2 (0 : Int64)))] _
    refine st11 _ ?_
    refine XS.istore X11.here hx rfl (hb hby at_44) rfl (l' := #[lv x1, .second, lv x2, .second, lv x3, .second, lv y5, .second, rv b1, iv y24, iv v44, .unset, .unset, .unset, .unset]) rfl ?_
    refine XS.iload X11.here hx rfl (hb hby at_46) rfl ?_
    refine XS.iload X11.here hx rfl (hb hby at_48) rfl ?_
    show oS p e below T11 m 50 #[lv x1, .second, lv x2, .second, lv x3, .second, lv y5, .second, rv b1, iv y24, iv v44, .unset, .unset, .unset, .unset] [(.int v44), (.int y24)] _
    refine XS.icmpYes X11.here hx rfl (pc0 := 50) (pc' := 55) rfl (hb hby at_50) rfl (teq hc50).1 (by decide) (by decide) ?_
    refine XS.iload X11.here hx rfl (hb hby at_55) rfl ?_
    exact kt
  by_cases hc57 : y24 = (0 : Int32)
  · obtain ⟨cq13, kq13, q13a, q13b, q13c⟩ := isOf hZ e11 pf2_0
    obtain ⟨_, _, ⟨T13, Lw13, kw13, nw13⟩, -, X13, ⟨Lc13, hQ13, l13, y13, z13⟩, st13⟩ := X11.virtualBack hx (y := (⟨"com/example/ostiarius/ostiarius/MovingFactor$Counter", "used", "(J)Z"⟩ : MethodName)) (z := (⟨"com/example/ostiarius/ostiarius/MovingFactor$Counter", "used", "(J)Z"⟩ : MethodName)) hown (mvT hZ (own_w hw 17 rfl)) (mvT hZ (own_w hw 18 rfl)) (notFace_of_selects (args := #[]) (mvT hZ (own_w hw 20 rfl))) (mvT hZ (own_w hw 20 rfl)) (mvT hZ (own_w hw 19 rfl)) (by decide) (backOf (W := 0) (rm4 l Z a0 hw [] b1 y5 y5 T2.heap n0 Zc5 pf2_1) hZ (own_w hw 21 rfl) (own_w hw 3 rfl) (by decide) (by decide)) q13a q13c (g := (mkF m 75 #[lv x1, .second, lv x2, .second, lv x3, .second, lv y5, .second, rv b1, iv y24, iv v44, .unset, .unset, .unset, .unset] [(.long y5), (.ref b1)])) rfl (by rw [hml]; rfl) (Steps.refl _) (argsL := [(.long y5)]) (rest := []) (lenOf own_pd2 rfl) rfl (by show 2 * 0 + _ ≤ _; exact Nat.le_of_eq rfl) (hb hby at_75) (fun _ _ => ⟨rfl, e11, (by decide : 1 + 0 ≤ _), (by decide : 1 + 0 ≤ _)⟩)
    dsimp only [Pt.U, Pt.locs, Pt.cells, Pt.slots] at X13 l13 y13 z13 st13 hQ13
    subst l13 y13 z13
    obtain ⟨rfl, Nq13, eh13⟩ := hQ13
    have N13 := Fr.app N11 Nq13
    have hc78 : (if y5 < (0 : Int64) then (0 : Int32) else (if y5 < y5 then (1 : Int32) else (0 : Int32))) = (0 : Int32) := Classical.byContradiction fun hc78 => by
      exact hc78 (own_b _ (by rw [hy5]; exact own_nn _))
    have pre14 : ∀ tz, oS p e below T13 m 87 #[lv x1, .second, lv x2, .second, lv x3, .second, lv y5, .second, rv b1, iv y24, iv v44, .unset, .unset, .unset, .unset] [(.int (lcmpW y5 (0 : Int64)))] tz → oS p e below T11 m 57 #[lv x1, .second, lv x2, .second, lv x3, .second, lv y5, .second, rv b1, iv y24, iv v44, .unset, .unset, .unset, .unset] [(.int y24)] tz := fun tz kt => by
      show oS p e below T11 m 57 #[lv x1, .second, lv x2, .second, lv x3, .second, lv y5, .second, rv b1, iv y24, iv v44, .unset, .unset, .unset, .unset] [(.int y24)] _
      refine XS.ifYes X11.here hx rfl (pc0 := 57) (pc' := 71) rfl (hb hby at_57) rfl ((if0 _ _).trans (teq hc57).1) (by decide) (by decide) ?_
      refine XS.aload X11.here hx rfl (hb hby at_71) rfl rfl ?_
      refine XS.lload X11.here hx rfl (hb hby at_73) rfl ?_
      show oS p e below T11 m 75 #[lv x1, .second, lv x2, .second, lv x3, .second, lv y5, .second, rv b1, iv y24, iv v44, .unset, .unset, .unset, .unset] [(.long y5), (.ref b1)] _
      refine st13.trans ?_
      refine XS.ifYes X13.here hx rfl (pc0 := 78) (pc' := 83) rfl (hb hby at_78) rfl ((if0 _ _).trans (teq hc78).1) (by decide) (by decide) ?_
      refine XS.lload X13.here hx rfl (hb hby at_83) rfl ?_
      refine XS.lconst X13.here hx rfl (hb hby at_85) ?_
      show oS p e below T13 m 86 #[lv x1, .second, lv x2, .second, lv x3, .second, lv y5, .second, rv b1, iv y24, iv v44, .unset, .unset, .unset, .unset] [(.long (0 : Int64)), (.long y5)] _
      refine XS.lcmp X13.here hx rfl (hb hby at_86) rfl ?_
      exact kt
    by_cases hc87 : (0 : Int64) < y5
    · obtain ⟨cq15, kq15, q15a, q15b, q15c⟩ := isOf hZ eh13 pf2_0
      obtain ⟨_, _, ⟨T15, Lw15, kw15, nw15⟩, -, X15, ⟨Lc15, hQ15, l15, y15, z15⟩, st15⟩ := X13.virtualBack hx (y := (⟨"com/example/ostiarius/ostiarius/MovingFactor$Counter", "used", "(J)Z"⟩ : MethodName)) (z := (⟨"com/example/ostiarius/ostiarius/MovingFactor$Counter", "used", "(J)Z"⟩ : MethodName)) hown (mvT hZ (own_w hw 17 rfl)) (mvT hZ (own_w hw 18 rfl)) (notFace_of_selects (args := #[]) (mvT hZ (own_w hw 20 rfl))) (mvT hZ (own_w hw 20 rfl)) (mvT hZ (own_w hw 19 rfl)) (by decide) (backOf (W := 0) (rm4 l Z a0 hw [] b1 (y5 - (1 : Int64)) y5 T2.heap n0 Zc5 pf2_1) hZ (own_w hw 21 rfl) (own_w hw 3 rfl) (by decide) (by decide)) q15a q15c (g := (mkF m 96 #[lv x1, .second, lv x2, .second, lv x3, .second, lv y5, .second, rv b1, iv y24, iv v44, .unset, .unset, .unset, .unset] [(.long (y5 - (1 : Int64))), (.ref b1)])) rfl (by rw [hml]; rfl) (Steps.refl _) (argsL := [(.long (y5 - (1 : Int64)))]) (rest := []) (lenOf own_pd2 rfl) rfl (by show 2 * 0 + _ ≤ _; exact Nat.le_of_eq rfl) (hb hby at_96) (fun _ _ => ⟨rfl, eh13, (by decide : 1 + 0 ≤ _), (by decide : 1 + 0 ≤ _)⟩)
      dsimp only [Pt.U, Pt.locs, Pt.cells, Pt.slots] at X15 l15 y15 z15 st15 hQ15
      subst l15 y15 z15
      obtain ⟨rfl, Nq15, eh15⟩ := hQ15
      have N15 := Fr.app N13 Nq15
      have hc99 : ¬ ((if (y5 - (1 : Int64)) < (0 : Int64) then (0 : Int32) else (if (y5 - (1 : Int64)) < y5 then (1 : Int32) else (0 : Int32))) = (0 : Int32)) := id fun hc99 => by
        exact own_c _ hc87 hc99
      obtain ⟨cq16, kq16, q16a, q16b, q16c⟩ := isOf hZ eh15 pf2_0
      obtain ⟨_, _, ⟨T16, Lw16, kw16, nw16⟩, -, X16, ⟨Lc16, hQ16, l16, y16, z16⟩, st16⟩ := X15.virtualBack hx (y := (⟨"com/example/ostiarius/ostiarius/MovingFactor$Counter", "used", "(J)Z"⟩ : MethodName)) (z := (⟨"com/example/ostiarius/ostiarius/MovingFactor$Counter", "used", "(J)Z"⟩ : MethodName)) hown (mvT hZ (own_w hw 17 rfl)) (mvT hZ (own_w hw 18 rfl)) (notFace_of_selects (args := #[]) (mvT hZ (own_w hw 20 rfl))) (mvT hZ (own_w hw 20 rfl)) (mvT hZ (own_w hw 19 rfl)) (by decide) (backOf (W := 0) (rm4 l Z a0 hw [] b1 (-1 : Int64) y5 T2.heap n0 Zc5 pf2_1) hZ (own_w hw 21 rfl) (own_w hw 3 rfl) (by decide) (by decide)) q16a q16c (g := (mkF m 109 #[lv x1, .second, lv x2, .second, lv x3, .second, lv y5, .second, rv b1, iv y24, iv v44, .unset, .unset, .unset, .unset] [(.long (-1 : Int64)), (.ref b1)])) rfl (by rw [hml]; rfl) (Steps.refl _) (argsL := [(.long (-1 : Int64))]) (rest := []) (lenOf own_pd2 rfl) rfl (by show 2 * 0 + _ ≤ _; exact Nat.le_of_eq rfl) (hb hby at_109) (fun _ _ => ⟨rfl, eh15, (by decide : 1 + 0 ≤ _), (by decide : 1 + 0 ≤ _)⟩)
      dsimp only [Pt.U, Pt.locs, Pt.cells, Pt.slots] at X16 l16 y16 z16 st16 hQ16
      subst l16 y16 z16
      obtain ⟨rfl, Nq16, eh16⟩ := hQ16
      have N16 := Fr.app N15 Nq16
      obtain ⟨cq17, kq17, q17a, q17b, q17c⟩ := isOf hZ eh16 pf2_0
      obtain ⟨_, _, ⟨T17, Lw17, kw17, nw17⟩, -, X17, ⟨Lc17, hQ17, l17, y17, z17⟩, st17⟩ := X16.virtualBack hx (y := (⟨"com/example/ostiarius/ostiarius/MovingFactor$Counter", "used", "(J)Z"⟩ : MethodName)) (z := (⟨"com/example/ostiarius/ostiarius/MovingFactor$Counter", "used", "(J)Z"⟩ : MethodName)) hown (mvT hZ (own_w hw 17 rfl)) (mvT hZ (own_w hw 18 rfl)) (notFace_of_selects (args := #[]) (mvT hZ (own_w hw 20 rfl))) (mvT hZ (own_w hw 20 rfl)) (mvT hZ (own_w hw 19 rfl)) (by decide) (backOf (W := 0) (rm4 l Z a0 hw [] b1 (-9223372036854775808 : Int64) y5 T2.heap n0 Zc5 pf2_1) hZ (own_w hw 21 rfl) (own_w hw 3 rfl) (by decide) (by decide)) q17a q17c (g := (mkF m 122 #[lv x1, .second, lv x2, .second, lv x3, .second, lv y5, .second, rv b1, iv y24, iv v44, .unset, .unset, .unset, .unset] [(.long (-9223372036854775808 : Int64)), (.ref b1)])) rfl (by rw [hml]; rfl) (Steps.refl _) (argsL := [(.long (-9223372036854775808 : Int64))]) (rest := []) (lenOf own_pd2 rfl) rfl (by show 2 * 0 + _ ≤ _; exact Nat.le_of_eq rfl) (hb hby at_122) (fun _ _ => ⟨rfl, eh16, (by decide : 1 + 0 ≤ _), (by decide : 1 + 0 ≤ _)⟩)
      dsimp only [Pt.U, Pt.locs, Pt.cells, Pt.slots] at X17 l17 y17 z17 st17 hQ17
      subst l17 y17 z17
      obtain ⟨rfl, Nq17, eh17⟩ := hQ17
      have N17 := Fr.app N16 Nq17
      obtain ⟨y143, hy143⟩ : ∃ z, z = (y5 + ((x3 &&& (7 : Int64)) - (4 : Int64))) := ⟨_, rfl⟩
      obtain ⟨cq18, kq18, q18a, q18b, q18c⟩ := isOf hZ eh17 pf2_0
      obtain ⟨_, _, ⟨T18, Lw18, kw18, nw18⟩, -, X18, ⟨Lc18, hQ18, l18, y18, z18⟩, st18⟩ := X17.virtualBack hx (y := (⟨"com/example/ostiarius/ostiarius/MovingFactor$Counter", "used", "(J)Z"⟩ : MethodName)) (z := (⟨"com/example/ostiarius/ostiarius/MovingFactor$Counter", "used", "(J)Z"⟩ : MethodName)) hown (mvT hZ (own_w hw 17 rfl)) (mvT hZ (own_w hw 18 rfl)) (notFace_of_selects (args := #[]) (mvT hZ (own_w hw 20 rfl))) (mvT hZ (own_w hw 20 rfl)) (mvT hZ (own_w hw 19 rfl)) (by decide) (backOf (W := 0) (rm4 l Z a0 hw [] b1 y143 y5 T2.heap n0 Zc5 pf2_1) hZ (own_w hw 21 rfl) (own_w hw 3 rfl) (by decide) (by decide)) q18a q18c (g := (mkF m 149 #[lv x1, .second, lv x2, .second, lv x3, .second, lv y5, .second, rv b1, iv y24, iv v44, lv y143, .second, .unset, .unset] [(.long y143), (.ref b1)])) rfl (by rw [hml]; rfl) (Steps.refl _) (argsL := [(.long y143)]) (rest := []) (lenOf own_pd2 rfl) rfl (by show 2 * 0 + _ ≤ _; exact Nat.le_of_eq rfl) (hb hby at_149) (fun _ _ => ⟨rfl, eh17, (by decide : 1 + 0 ≤ _), (by decide : 1 + 0 ≤ _)⟩)
      dsimp only [Pt.U, Pt.locs, Pt.cells, Pt.slots] at X18 l18 y18 z18 st18 hQ18
      subst l18 y18 z18
      obtain ⟨rfl, Nq18, eh18⟩ := hQ18
      have N18 := Fr.app N17 Nq18
      obtain ⟨y152, hy152⟩ : ∃ z, z = (if y143 < (0 : Int64) then (0 : Int32) else (if y143 < y5 then (1 : Int32) else (0 : Int32))) := ⟨_, rfl⟩
      have pre19 : ∀ tz, oS p e below T18 m 158 #[lv x1, .second, lv x2, .second, lv x3, .second, lv y5, .second, rv b1, iv y24, iv v44, lv y143, .second, iv y152, .unset] [(.int (lcmpW y143 (0 : Int64)))] tz → oS p e below T13 m 87 #[lv x1, .second, lv x2, .second, lv x3, .second, lv y5, .second, rv b1, iv y24, iv v44, .unset, .unset, .unset, .unset] [(.int (lcmpW y5 (0 : Int64)))] tz := fun tz kt => by
        show oS p e below T13 m 87 #[lv x1, .second, lv x2, .second, lv x3, .second, lv y5, .second, rv b1, iv y24, iv v44, .unset, .unset, .unset, .unset] [(.int (lcmpW y5 (0 : Int64)))] _
        refine XS.ifNo X13.here hx rfl (hb hby at_87) rfl ((if0 _ _).trans (tlt ((lw_gt y5 (0 : Int64)).mpr hc87)).2.2.2) ?_
        refine XS.aload X13.here hx rfl (hb hby at_90) rfl rfl ?_
        refine XS.lload X13.here hx rfl (hb hby at_92) rfl ?_
        refine XS.lconst X13.here hx rfl (hb hby at_94) ?_
        show oS p e below T13 m 95 #[lv x1, .second, lv x2, .second, lv x3, .second, lv y5, .second, rv b1, iv y24, iv v44, .unset, .unset, .unset, .unset] [(.long (1 : Int64)), (.long y5), (.ref b1)] _
        refine XS.lsub X13.here hx rfl (hb hby at_95) rfl ?_
        show oS p e below T13 m 96 #[lv x1, .second, lv x2, .second, lv x3, .second, lv y5, .second, rv b1, iv y24, iv v44, .unset, .unset, .unset, .unset] [(.long (y5 - (1 : Int64))), (.ref b1)] _
        refine st15.trans ?_
        refine XS.ifYes X15.here hx rfl (pc0 := 99) (pc' := 104) rfl (hb hby at_99) rfl ((if0 _ _).trans (feq hc99).2) (by decide) (by decide) ?_
        refine XS.aload X15.here hx rfl (hb hby at_104) rfl rfl ?_
        refine X15.ldc2Long hx hown (mvT hZ (own_w hw 27 rfl)) (g := (mkF m 106 #[lv x1, .second, lv x2, .second, lv x3, .second, lv y5, .second, rv b1, iv y24, iv v44, .unset, .unset, .unset, .unset] [(.ref b1)])) rfl (hb hby at_106) _ ?_
        show oS p e below T15 m 109 #[lv x1, .second, lv x2, .second, lv x3, .second, lv y5, .second, rv b1, iv y24, iv v44, .unset, .unset, .unset, .unset] [(.long (-1 : Int64)), (.ref b1)] _
        refine st16.trans ?_
        rw [((if_pos (by decide : (-1 : Int64) < (0 : Int64))) : (if (-1 : Int64) < (0 : Int64) then (0 : Int32) else (if (-1 : Int64) < y5 then (1 : Int32) else (0 : Int32))) = (0 : Int32))]
        show oS p e below T16 m 112 #[lv x1, .second, lv x2, .second, lv x3, .second, lv y5, .second, rv b1, iv y24, iv v44, .unset, .unset, .unset, .unset] [(.int (0 : Int32))] _
        refine XS.ifYes X16.here hx rfl (pc0 := 112) (pc' := 117) rfl (hb hby at_112) rfl ((if0 _ _).trans (teq (by decide : ((0 : Int32) = (0 : Int32)))).1) (by decide) (by decide) ?_
        refine XS.aload X16.here hx rfl (hb hby at_117) rfl rfl ?_
        refine X16.ldc2Long hx hown (mvT hZ (own_w hw 28 rfl)) (g := (mkF m 119 #[lv x1, .second, lv x2, .second, lv x3, .second, lv y5, .second, rv b1, iv y24, iv v44, .unset, .unset, .unset, .unset] [(.ref b1)])) rfl (hb hby at_119) _ ?_
        show oS p e below T16 m 122 #[lv x1, .second, lv x2, .second, lv x3, .second, lv y5, .second, rv b1, iv y24, iv v44, .unset, .unset, .unset, .unset] [(.long (-9223372036854775808 : Int64)), (.ref b1)] _
        refine st17.trans ?_
        rw [((if_pos (by decide : (-9223372036854775808 : Int64) < (0 : Int64))) : (if (-9223372036854775808 : Int64) < (0 : Int64) then (0 : Int32) else (if (-9223372036854775808 : Int64) < y5 then (1 : Int32) else (0 : Int32))) = (0 : Int32))]
        show oS p e below T17 m 125 #[lv x1, .second, lv x2, .second, lv x3, .second, lv y5, .second, rv b1, iv y24, iv v44, .unset, .unset, .unset, .unset] [(.int (0 : Int32))] _
        refine XS.ifYes X17.here hx rfl (pc0 := 125) (pc' := 130) rfl (hb hby at_125) rfl ((if0 _ _).trans (teq (by decide : ((0 : Int32) = (0 : Int32)))).1) (by decide) (by decide) ?_
        refine XS.lload X17.here hx rfl (hb hby at_130) rfl ?_
        refine XS.lload X17.here hx rfl (hb hby at_132) rfl ?_
        refine X17.ldc2Long hx hown (mvT hZ (own_w hw 29 rfl)) (g := (mkF m 134 #[lv x1, .second, lv x2, .second, lv x3, .second, lv y5, .second, rv b1, iv y24, iv v44, .unset, .unset, .unset, .unset] [(.long x3), (.long y5)])) rfl (hb hby at_134) _ ?_
        show oS p e below T17 m 137 #[lv x1, .second, lv x2, .second, lv x3, .second, lv y5, .second, rv b1, iv y24, iv v44, .unset, .unset, .unset, .unset] [(.long (7 : Int64)), (.long x3), (.long y5)] _
        refine XS.land X17.here hx rfl (hb hby at_137) rfl ?_
        refine X17.ldc2Long hx hown (mvT hZ (own_w hw 30 rfl)) (g := (mkF m 138 #[lv x1, .second, lv x2, .second, lv x3, .second, lv y5, .second, rv b1, iv y24, iv v44, .unset, .unset, .unset, .unset] [(.long (x3 &&& (7 : Int64))), (.long y5)])) rfl (hb hby at_138) _ ?_
        refine XS.lsub X17.here hx rfl (hb hby at_141) rfl ?_
        refine XS.ladd X17.here hx rfl (hb hby at_142) rfl ?_
        show oS p e below T17 m 143 #[lv x1, .second, lv x2, .second, lv x3, .second, lv y5, .second, rv b1, iv y24, iv v44, .unset, .unset, .unset, .unset] [(.long (y5 + ((x3 &&& (7 : Int64)) - (4 : Int64))))] _
        refine XS.lstore X17.here hx rfl (hb hby at_143) rfl (l' := #[lv x1, .second, lv x2, .second, lv x3, .second, lv y5, .second, rv b1, iv y24, iv v44, lv y143, .second, .unset, .unset]) (by rw [hy143]; rfl) ?_
        refine XS.aload X17.here hx rfl (hb hby at_145) rfl rfl ?_
        refine XS.lload X17.here hx rfl (hb hby at_147) rfl ?_
        show oS p e below T17 m 149 #[lv x1, .second, lv x2, .second, lv x3, .second, lv y5, .second, rv b1, iv y24, iv v44, lv y143, .second, .unset, .unset] [(.long y143), (.ref b1)] _
        refine st18.trans ?_
        refine XS.istore X18.here hx rfl (hb hby at_152) rfl (l' := #[lv x1, .second, lv x2, .second, lv x3, .second, lv y5, .second, rv b1, iv y24, iv v44, lv y143, .second, iv y152, .unset]) (by rw [hy152]; rfl) ?_
        refine XS.lload X18.here hx rfl (hb hby at_154) rfl ?_
        refine XS.lconst X18.here hx rfl (hb hby at_156) ?_
        show oS p e below T18 m 157 #[lv x1, .second, lv x2, .second, lv x3, .second, lv y5, .second, rv b1, iv y24, iv v44, lv y143, .second, iv y152, .unset] [(.long (0 : Int64)), (.long y143)] _
        refine XS.lcmp X18.here hx rfl (hb hby at_157) rfl ?_
        exact kt
      obtain ⟨v174, T24, Lj24, jv24, N24, X24, e24, st24⟩ := own_join (α := Int32) X18 N18 eh18 (mkF m 158 #[lv x1, .second, lv x2, .second, lv x3, .second, lv y5, .second, rv b1, iv y24, iv v44, lv y143, .second, iv y152, .unset] [(.int (lcmpW y143 (0 : Int64)))]) (fun v => (mkF m 174 #[lv x1, .second, lv x2, .second, lv x3, .second, lv y5, .second, rv b1, iv y24, iv v44, lv y143, .second, iv y152, .unset] [(.int v)])) (fun v => v = (if y143 < (0 : Int64) then (0 : Int32) else (if y143 < y5 then (1 : Int32) else (0 : Int32)))) (by
          by_cases hc158 : y143 < (0 : Int64)
          · have pre20 : ∀ tz, oS p e below T18 m 174 #[lv x1, .second, lv x2, .second, lv x3, .second, lv y5, .second, rv b1, iv y24, iv v44, lv y143, .second, iv y152, .unset] [(.int (0 : Int32))] tz → oS p e below T18 m 158 #[lv x1, .second, lv x2, .second, lv x3, .second, lv y5, .second, rv b1, iv y24, iv v44, lv y143, .second, iv y152, .unset] [(.int (lcmpW y143 (0 : Int64)))] tz := fun tz kt => by
              show oS p e below T18 m 158 #[lv x1, .second, lv x2, .second, lv x3, .second, lv y5, .second, rv b1, iv y24, iv v44, lv y143, .second, iv y152, .unset] [(.int (lcmpW y143 (0 : Int64)))] _
              refine XS.ifYes X18.here hx rfl (pc0 := 158) (pc' := 173) rfl (hb hby at_158) rfl ((if0 _ _).trans (tlt ((lw_lt y143 (0 : Int64)).mpr hc158)).1) (by decide) (by decide) ?_
              refine XS.iconst X18.here hx rfl (hb hby at_173) ?_
              exact kt
            exact ⟨(0 : Int32), T18, _, (by rw [if_pos hc158]), N18, X18, eh18, fun tz kt => (pre20 _ kt)⟩
          · have pre21 : ∀ tz, oS p e below T18 m 166 #[lv x1, .second, lv x2, .second, lv x3, .second, lv y5, .second, rv b1, iv y24, iv v44, lv y143, .second, iv y152, .unset] [(.int (lcmpW y143 y5))] tz → oS p e below T18 m 158 #[lv x1, .second, lv x2, .second, lv x3, .second, lv y5, .second, rv b1, iv y24, iv v44, lv y143, .second, iv y152, .unset] [(.int (lcmpW y143 (0 : Int64)))] tz := fun tz kt => by
              show oS p e below T18 m 158 #[lv x1, .second, lv x2, .second, lv x3, .second, lv y5, .second, rv b1, iv y24, iv v44, lv y143, .second, iv y152, .unset] [(.int (lcmpW y143 (0 : Int64)))] _
              refine XS.ifNo X18.here hx rfl (hb hby at_158) rfl ((if0 _ _).trans (flt (fun q => hc158 ((lw_lt y143 (0 : Int64)).mp q))).1) ?_
              refine XS.lload X18.here hx rfl (hb hby at_161) rfl ?_
              refine XS.lload X18.here hx rfl (hb hby at_163) rfl ?_
              refine XS.lcmp X18.here hx rfl (hb hby at_165) rfl ?_
              exact kt
            by_cases hc166 : y143 < y5
            · have pre22 : ∀ tz, oS p e below T18 m 174 #[lv x1, .second, lv x2, .second, lv x3, .second, lv y5, .second, rv b1, iv y24, iv v44, lv y143, .second, iv y152, .unset] [(.int (1 : Int32))] tz → oS p e below T18 m 166 #[lv x1, .second, lv x2, .second, lv x3, .second, lv y5, .second, rv b1, iv y24, iv v44, lv y143, .second, iv y152, .unset] [(.int (lcmpW y143 y5))] tz := fun tz kt => by
                show oS p e below T18 m 166 #[lv x1, .second, lv x2, .second, lv x3, .second, lv y5, .second, rv b1, iv y24, iv v44, lv y143, .second, iv y152, .unset] [(.int (lcmpW y143 y5))] _
                refine XS.ifNo X18.here hx rfl (hb hby at_166) rfl ((if0 _ _).trans (tlt ((lw_lt y143 y5).mpr hc166)).2.1) ?_
                refine XS.iconst X18.here hx rfl (hb hby at_169) ?_
                refine XS.goto X18.here hx rfl (pc0 := 170) (pc' := 174) rfl (hb hby at_170) (by decide) (by decide) ?_
                exact kt
              exact ⟨(1 : Int32), T18, _, (by rw [if_neg hc158, if_pos hc166]), N18, X18, eh18, fun tz kt => (pre21 _ (pre22 _ kt))⟩
            · have pre23 : ∀ tz, oS p e below T18 m 174 #[lv x1, .second, lv x2, .second, lv x3, .second, lv y5, .second, rv b1, iv y24, iv v44, lv y143, .second, iv y152, .unset] [(.int (0 : Int32))] tz → oS p e below T18 m 166 #[lv x1, .second, lv x2, .second, lv x3, .second, lv y5, .second, rv b1, iv y24, iv v44, lv y143, .second, iv y152, .unset] [(.int (lcmpW y143 y5))] tz := fun tz kt => by
                show oS p e below T18 m 166 #[lv x1, .second, lv x2, .second, lv x3, .second, lv y5, .second, rv b1, iv y24, iv v44, lv y143, .second, iv y152, .unset] [(.int (lcmpW y143 y5))] _
                refine XS.ifYes X18.here hx rfl (pc0 := 166) (pc' := 173) rfl (hb hby at_166) rfl ((if0 _ _).trans (flt (fun q => hc166 ((lw_lt y143 y5).mp q))).2.1) (by decide) (by decide) ?_
                refine XS.iconst X18.here hx rfl (hb hby at_173) ?_
                exact kt
              exact ⟨(0 : Int32), T18, _, (by rw [if_neg hc158, if_neg hc166]), N18, X18, eh18, fun tz kt => (pre21 _ (pre23 _ kt))⟩)
      have hv174 : v174 = (if y143 < (0 : Int64) then (0 : Int32) else (if y143 < y5 then (1 : Int32) else (0 : Int32))) := jv24
      have hc180 : y152 = v174 := Classical.byContradiction fun hc180 => by
        exact hc180 (hy152.trans hv174.symm)
      obtain ⟨cq25, kq25, q25a, q25b, q25c⟩ := isOf hZ e24 pf2_0
      obtain ⟨_, _, ⟨T25, Lw25, kw25, nw25⟩, -, X25, ⟨Lc25, hQ25, l25, y25, z25⟩, st25⟩ := X24.virtualBack hx (y := (⟨"com/example/ostiarius/ostiarius/MovingFactor$Counter", "used", "(J)Z"⟩ : MethodName)) (z := (⟨"com/example/ostiarius/ostiarius/MovingFactor$Counter", "used", "(J)Z"⟩ : MethodName)) hown (mvT hZ (own_w hw 17 rfl)) (mvT hZ (own_w hw 18 rfl)) (notFace_of_selects (args := #[]) (mvT hZ (own_w hw 20 rfl))) (mvT hZ (own_w hw 20 rfl)) (mvT hZ (own_w hw 19 rfl)) (by decide) (backOf (W := 0) (rm4 l Z a0 hw [] b1 (0 : Int64) y5 T2.heap n0 Zc5 pf2_1) hZ (own_w hw 21 rfl) (own_w hw 3 rfl) (by decide) (by decide)) q25a q25c (g := (mkF m 188 #[lv x1, .second, lv x2, .second, lv x3, .second, lv y5, .second, rv b1, iv y24, iv v44, lv y143, .second, iv y152, iv v174] [(.long (0 : Int64)), (.ref b1)])) rfl (by rw [hml]; rfl) (Steps.refl _) (argsL := [(.long (0 : Int64))]) (rest := []) (lenOf own_pd2 rfl) rfl (by show 2 * 0 + _ ≤ _; exact Nat.le_of_eq rfl) (hb hby at_188) (fun _ _ => ⟨rfl, e24, (by decide : 1 + 0 ≤ _), (by decide : 1 + 0 ≤ _)⟩)
      dsimp only [Pt.U, Pt.locs, Pt.cells, Pt.slots] at X25 l25 y25 z25 st25 hQ25
      subst l25 y25 z25
      obtain ⟨rfl, Nq25, eh25⟩ := hQ25
      have N25 := Fr.app N24 Nq25
      have hc203 : (if (0 : Int64) < (0 : Int64) then (0 : Int32) else (if (0 : Int64) < y5 then (1 : Int32) else (0 : Int32))) = (1 : Int32) := Classical.byContradiction fun hc203 => by
        exact hc203 ((own_d _).trans (by first | exact if_pos hc87 | exact if_neg hc87))
      have pre26 : ∀ tz, oS p e below T25 m 209 #[lv x1, .second, lv x2, .second, lv x3, .second, lv y5, .second, rv b1, iv y24, iv v44, lv y143, .second, iv y152, iv v174] [(.int (1 : Int32))] tz → oS p e below T18 m 158 #[lv x1, .second, lv x2, .second, lv x3, .second, lv y5, .second, rv b1, iv y24, iv v44, lv y143, .second, iv y152, .unset] [(.int (lcmpW y143 (0 : Int64)))] tz := fun tz kt => by
        show oS p e below T18 m 158 #[lv x1, .second, lv x2, .second, lv x3, .second, lv y5, .second, rv b1, iv y24, iv v44, lv y143, .second, iv y152, .unset] [(.int (lcmpW y143 (0 : Int64)))] _
        refine st24 _ ?_
        refine XS.istore X24.here hx rfl (hb hby at_174) rfl (l' := #[lv x1, .second, lv x2, .second, lv x3, .second, lv y5, .second, rv b1, iv y24, iv v44, lv y143, .second, iv y152, iv v174]) rfl ?_
        refine XS.iload X24.here hx rfl (hb hby at_176) rfl ?_
        refine XS.iload X24.here hx rfl (hb hby at_178) rfl ?_
        show oS p e below T24 m 180 #[lv x1, .second, lv x2, .second, lv x3, .second, lv y5, .second, rv b1, iv y24, iv v44, lv y143, .second, iv y152, iv v174] [(.int v174), (.int y152)] _
        refine XS.icmpYes X24.here hx rfl (pc0 := 180) (pc' := 185) rfl (hb hby at_180) rfl (teq hc180).1 (by decide) (by decide) ?_
        refine XS.aload X24.here hx rfl (hb hby at_185) rfl rfl ?_
        refine XS.lconst X24.here hx rfl (hb hby at_187) ?_
        show oS p e below T24 m 188 #[lv x1, .second, lv x2, .second, lv x3, .second, lv y5, .second, rv b1, iv y24, iv v44, lv y143, .second, iv y152, iv v174] [(.long (0 : Int64)), (.ref b1)] _
        refine st25.trans ?_
        refine XS.lload X25.here hx rfl (hb hby at_191) rfl ?_
        refine XS.lconst X25.here hx rfl (hb hby at_193) ?_
        refine XS.lcmp X25.here hx rfl (hb hby at_194) rfl ?_
        show oS p e below T25 m 195 #[lv x1, .second, lv x2, .second, lv x3, .second, lv y5, .second, rv b1, iv y24, iv v44, lv y143, .second, iv y152, iv v174] [(.int (lcmpW y5 (0 : Int64))), (.int (if (0 : Int64) < (0 : Int64) then (0 : Int32) else (if (0 : Int64) < y5 then (1 : Int32) else (0 : Int32))))] _
        refine XS.ifNo X25.here hx rfl (hb hby at_195) rfl ((if0 _ _).trans (tlt ((lw_gt y5 (0 : Int64)).mpr hc87)).2.2.2) ?_
        refine XS.iconst X25.here hx rfl (hb hby at_198) ?_
        refine XS.goto X25.here hx rfl (pc0 := 199) (pc' := 203) rfl (hb hby at_199) (by decide) (by decide) ?_
        refine XS.icmpYes X25.here hx rfl (pc0 := 203) (pc' := 208) rfl (hb hby at_203) rfl (teq hc203).1 (by decide) (by decide) ?_
        show oS p e below T25 m 208 #[lv x1, .second, lv x2, .second, lv x3, .second, lv y5, .second, rv b1, iv y24, iv v44, lv y143, .second, iv y152, iv v174] [] _
        refine XS.iconst X25.here hx rfl (hb hby at_208) ?_
        exact kt
      obtain ⟨fs, hr, hrun, hended, hW, hsame⟩ := X25.leave (v := some (.int (1 : Int32))) (fun h => by rw [Bd.returns] at h; cases h)
      refine ⟨_, _, pre0 _ (pre6 _ (pre12 _ (pre14 _ (pre19 _ (pre26 _ ?_))))), hrun, hended, _, _, rfl, ?_, ⟨_, rfl⟩, hW, hsame.mono (by decide) (by decide)⟩
      · show oS p e below T25 m 209 #[lv x1, .second, lv x2, .second, lv x3, .second, lv y5, .second, rv b1, iv y24, iv v44, lv y143, .second, iv y152, iv v174] [(.int (1 : Int32))] _
        exact retN X25 hx (t := .boolean) Bd.returns (by simp) (hb hby at_209) hr
      · show Q0 Z x1 x2 x3 h0 n0 _ T25.heap _
        rw [eh25]
        exact ⟨rfl, N25⟩
    · obtain ⟨cq27, kq27, q27a, q27b, q27c⟩ := isOf hZ eh13 pf2_0
      obtain ⟨_, _, ⟨T27, Lw27, kw27, nw27⟩, -, X27, ⟨Lc27, hQ27, l27, y27, z27⟩, st27⟩ := X13.virtualBack hx (y := (⟨"com/example/ostiarius/ostiarius/MovingFactor$Counter", "used", "(J)Z"⟩ : MethodName)) (z := (⟨"com/example/ostiarius/ostiarius/MovingFactor$Counter", "used", "(J)Z"⟩ : MethodName)) hown (mvT hZ (own_w hw 17 rfl)) (mvT hZ (own_w hw 18 rfl)) (notFace_of_selects (args := #[]) (mvT hZ (own_w hw 20 rfl))) (mvT hZ (own_w hw 20 rfl)) (mvT hZ (own_w hw 19 rfl)) (by decide) (backOf (W := 0) (rm4 l Z a0 hw [] b1 (-1 : Int64) y5 T2.heap n0 Zc5 pf2_1) hZ (own_w hw 21 rfl) (own_w hw 3 rfl) (by decide) (by decide)) q27a q27c (g := (mkF m 109 #[lv x1, .second, lv x2, .second, lv x3, .second, lv y5, .second, rv b1, iv y24, iv v44, .unset, .unset, .unset, .unset] [(.long (-1 : Int64)), (.ref b1)])) rfl (by rw [hml]; rfl) (Steps.refl _) (argsL := [(.long (-1 : Int64))]) (rest := []) (lenOf own_pd2 rfl) rfl (by show 2 * 0 + _ ≤ _; exact Nat.le_of_eq rfl) (hb hby at_109) (fun _ _ => ⟨rfl, eh13, (by decide : 1 + 0 ≤ _), (by decide : 1 + 0 ≤ _)⟩)
      dsimp only [Pt.U, Pt.locs, Pt.cells, Pt.slots] at X27 l27 y27 z27 st27 hQ27
      subst l27 y27 z27
      obtain ⟨rfl, Nq27, eh27⟩ := hQ27
      have N27 := Fr.app N13 Nq27
      obtain ⟨cq28, kq28, q28a, q28b, q28c⟩ := isOf hZ eh27 pf2_0
      obtain ⟨_, _, ⟨T28, Lw28, kw28, nw28⟩, -, X28, ⟨Lc28, hQ28, l28, y28, z28⟩, st28⟩ := X27.virtualBack hx (y := (⟨"com/example/ostiarius/ostiarius/MovingFactor$Counter", "used", "(J)Z"⟩ : MethodName)) (z := (⟨"com/example/ostiarius/ostiarius/MovingFactor$Counter", "used", "(J)Z"⟩ : MethodName)) hown (mvT hZ (own_w hw 17 rfl)) (mvT hZ (own_w hw 18 rfl)) (notFace_of_selects (args := #[]) (mvT hZ (own_w hw 20 rfl))) (mvT hZ (own_w hw 20 rfl)) (mvT hZ (own_w hw 19 rfl)) (by decide) (backOf (W := 0) (rm4 l Z a0 hw [] b1 (-9223372036854775808 : Int64) y5 T2.heap n0 Zc5 pf2_1) hZ (own_w hw 21 rfl) (own_w hw 3 rfl) (by decide) (by decide)) q28a q28c (g := (mkF m 122 #[lv x1, .second, lv x2, .second, lv x3, .second, lv y5, .second, rv b1, iv y24, iv v44, .unset, .unset, .unset, .unset] [(.long (-9223372036854775808 : Int64)), (.ref b1)])) rfl (by rw [hml]; rfl) (Steps.refl _) (argsL := [(.long (-9223372036854775808 : Int64))]) (rest := []) (lenOf own_pd2 rfl) rfl (by show 2 * 0 + _ ≤ _; exact Nat.le_of_eq rfl) (hb hby at_122) (fun _ _ => ⟨rfl, eh27, (by decide : 1 + 0 ≤ _), (by decide : 1 + 0 ≤ _)⟩)
      dsimp only [Pt.U, Pt.locs, Pt.cells, Pt.slots] at X28 l28 y28 z28 st28 hQ28
      subst l28 y28 z28
      obtain ⟨rfl, Nq28, eh28⟩ := hQ28
      have N28 := Fr.app N27 Nq28
      obtain ⟨y143, hy143⟩ : ∃ z, z = (y5 + ((x3 &&& (7 : Int64)) - (4 : Int64))) := ⟨_, rfl⟩
      obtain ⟨cq29, kq29, q29a, q29b, q29c⟩ := isOf hZ eh28 pf2_0
      obtain ⟨_, _, ⟨T29, Lw29, kw29, nw29⟩, -, X29, ⟨Lc29, hQ29, l29, y29, z29⟩, st29⟩ := X28.virtualBack hx (y := (⟨"com/example/ostiarius/ostiarius/MovingFactor$Counter", "used", "(J)Z"⟩ : MethodName)) (z := (⟨"com/example/ostiarius/ostiarius/MovingFactor$Counter", "used", "(J)Z"⟩ : MethodName)) hown (mvT hZ (own_w hw 17 rfl)) (mvT hZ (own_w hw 18 rfl)) (notFace_of_selects (args := #[]) (mvT hZ (own_w hw 20 rfl))) (mvT hZ (own_w hw 20 rfl)) (mvT hZ (own_w hw 19 rfl)) (by decide) (backOf (W := 0) (rm4 l Z a0 hw [] b1 y143 y5 T2.heap n0 Zc5 pf2_1) hZ (own_w hw 21 rfl) (own_w hw 3 rfl) (by decide) (by decide)) q29a q29c (g := (mkF m 149 #[lv x1, .second, lv x2, .second, lv x3, .second, lv y5, .second, rv b1, iv y24, iv v44, lv y143, .second, .unset, .unset] [(.long y143), (.ref b1)])) rfl (by rw [hml]; rfl) (Steps.refl _) (argsL := [(.long y143)]) (rest := []) (lenOf own_pd2 rfl) rfl (by show 2 * 0 + _ ≤ _; exact Nat.le_of_eq rfl) (hb hby at_149) (fun _ _ => ⟨rfl, eh28, (by decide : 1 + 0 ≤ _), (by decide : 1 + 0 ≤ _)⟩)
      dsimp only [Pt.U, Pt.locs, Pt.cells, Pt.slots] at X29 l29 y29 z29 st29 hQ29
      subst l29 y29 z29
      obtain ⟨rfl, Nq29, eh29⟩ := hQ29
      have N29 := Fr.app N28 Nq29
      obtain ⟨y152, hy152⟩ : ∃ z, z = (if y143 < (0 : Int64) then (0 : Int32) else (if y143 < y5 then (1 : Int32) else (0 : Int32))) := ⟨_, rfl⟩
      have pre30 : ∀ tz, oS p e below T29 m 158 #[lv x1, .second, lv x2, .second, lv x3, .second, lv y5, .second, rv b1, iv y24, iv v44, lv y143, .second, iv y152, .unset] [(.int (lcmpW y143 (0 : Int64)))] tz → oS p e below T13 m 87 #[lv x1, .second, lv x2, .second, lv x3, .second, lv y5, .second, rv b1, iv y24, iv v44, .unset, .unset, .unset, .unset] [(.int (lcmpW y5 (0 : Int64)))] tz := fun tz kt => by
        show oS p e below T13 m 87 #[lv x1, .second, lv x2, .second, lv x3, .second, lv y5, .second, rv b1, iv y24, iv v44, .unset, .unset, .unset, .unset] [(.int (lcmpW y5 (0 : Int64)))] _
        refine XS.ifYes X13.here hx rfl (pc0 := 87) (pc' := 104) rfl (hb hby at_87) rfl ((if0 _ _).trans (flt (fun q => hc87 ((lw_gt y5 (0 : Int64)).mp q))).2.2.2) (by decide) (by decide) ?_
        refine XS.aload X13.here hx rfl (hb hby at_104) rfl rfl ?_
        refine X13.ldc2Long hx hown (mvT hZ (own_w hw 27 rfl)) (g := (mkF m 106 #[lv x1, .second, lv x2, .second, lv x3, .second, lv y5, .second, rv b1, iv y24, iv v44, .unset, .unset, .unset, .unset] [(.ref b1)])) rfl (hb hby at_106) _ ?_
        show oS p e below T13 m 109 #[lv x1, .second, lv x2, .second, lv x3, .second, lv y5, .second, rv b1, iv y24, iv v44, .unset, .unset, .unset, .unset] [(.long (-1 : Int64)), (.ref b1)] _
        refine st27.trans ?_
        rw [((if_pos (by decide : (-1 : Int64) < (0 : Int64))) : (if (-1 : Int64) < (0 : Int64) then (0 : Int32) else (if (-1 : Int64) < y5 then (1 : Int32) else (0 : Int32))) = (0 : Int32))]
        show oS p e below T27 m 112 #[lv x1, .second, lv x2, .second, lv x3, .second, lv y5, .second, rv b1, iv y24, iv v44, .unset, .unset, .unset, .unset] [(.int (0 : Int32))] _
        refine XS.ifYes X27.here hx rfl (pc0 := 112) (pc' := 117) rfl (hb hby at_112) rfl ((if0 _ _).trans (teq (by decide : ((0 : Int32) = (0 : Int32)))).1) (by decide) (by decide) ?_
        refine XS.aload X27.here hx rfl (hb hby at_117) rfl rfl ?_
        refine X27.ldc2Long hx hown (mvT hZ (own_w hw 28 rfl)) (g := (mkF m 119 #[lv x1, .second, lv x2, .second, lv x3, .second, lv y5, .second, rv b1, iv y24, iv v44, .unset, .unset, .unset, .unset] [(.ref b1)])) rfl (hb hby at_119) _ ?_
        show oS p e below T27 m 122 #[lv x1, .second, lv x2, .second, lv x3, .second, lv y5, .second, rv b1, iv y24, iv v44, .unset, .unset, .unset, .unset] [(.long (-9223372036854775808 : Int64)), (.ref b1)] _
        refine st28.trans ?_
        rw [((if_pos (by decide : (-9223372036854775808 : Int64) < (0 : Int64))) : (if (-9223372036854775808 : Int64) < (0 : Int64) then (0 : Int32) else (if (-9223372036854775808 : Int64) < y5 then (1 : Int32) else (0 : Int32))) = (0 : Int32))]
        show oS p e below T28 m 125 #[lv x1, .second, lv x2, .second, lv x3, .second, lv y5, .second, rv b1, iv y24, iv v44, .unset, .unset, .unset, .unset] [(.int (0 : Int32))] _
        refine XS.ifYes X28.here hx rfl (pc0 := 125) (pc' := 130) rfl (hb hby at_125) rfl ((if0 _ _).trans (teq (by decide : ((0 : Int32) = (0 : Int32)))).1) (by decide) (by decide) ?_
        refine XS.lload X28.here hx rfl (hb hby at_130) rfl ?_
        refine XS.lload X28.here hx rfl (hb hby at_132) rfl ?_
        refine X28.ldc2Long hx hown (mvT hZ (own_w hw 29 rfl)) (g := (mkF m 134 #[lv x1, .second, lv x2, .second, lv x3, .second, lv y5, .second, rv b1, iv y24, iv v44, .unset, .unset, .unset, .unset] [(.long x3), (.long y5)])) rfl (hb hby at_134) _ ?_
        show oS p e below T28 m 137 #[lv x1, .second, lv x2, .second, lv x3, .second, lv y5, .second, rv b1, iv y24, iv v44, .unset, .unset, .unset, .unset] [(.long (7 : Int64)), (.long x3), (.long y5)] _
        refine XS.land X28.here hx rfl (hb hby at_137) rfl ?_
        refine X28.ldc2Long hx hown (mvT hZ (own_w hw 30 rfl)) (g := (mkF m 138 #[lv x1, .second, lv x2, .second, lv x3, .second, lv y5, .second, rv b1, iv y24, iv v44, .unset, .unset, .unset, .unset] [(.long (x3 &&& (7 : Int64))), (.long y5)])) rfl (hb hby at_138) _ ?_
        refine XS.lsub X28.here hx rfl (hb hby at_141) rfl ?_
        refine XS.ladd X28.here hx rfl (hb hby at_142) rfl ?_
        show oS p e below T28 m 143 #[lv x1, .second, lv x2, .second, lv x3, .second, lv y5, .second, rv b1, iv y24, iv v44, .unset, .unset, .unset, .unset] [(.long (y5 + ((x3 &&& (7 : Int64)) - (4 : Int64))))] _
        refine XS.lstore X28.here hx rfl (hb hby at_143) rfl (l' := #[lv x1, .second, lv x2, .second, lv x3, .second, lv y5, .second, rv b1, iv y24, iv v44, lv y143, .second, .unset, .unset]) (by rw [hy143]; rfl) ?_
        refine XS.aload X28.here hx rfl (hb hby at_145) rfl rfl ?_
        refine XS.lload X28.here hx rfl (hb hby at_147) rfl ?_
        show oS p e below T28 m 149 #[lv x1, .second, lv x2, .second, lv x3, .second, lv y5, .second, rv b1, iv y24, iv v44, lv y143, .second, .unset, .unset] [(.long y143), (.ref b1)] _
        refine st29.trans ?_
        refine XS.istore X29.here hx rfl (hb hby at_152) rfl (l' := #[lv x1, .second, lv x2, .second, lv x3, .second, lv y5, .second, rv b1, iv y24, iv v44, lv y143, .second, iv y152, .unset]) (by rw [hy152]; rfl) ?_
        refine XS.lload X29.here hx rfl (hb hby at_154) rfl ?_
        refine XS.lconst X29.here hx rfl (hb hby at_156) ?_
        show oS p e below T29 m 157 #[lv x1, .second, lv x2, .second, lv x3, .second, lv y5, .second, rv b1, iv y24, iv v44, lv y143, .second, iv y152, .unset] [(.long (0 : Int64)), (.long y143)] _
        refine XS.lcmp X29.here hx rfl (hb hby at_157) rfl ?_
        exact kt
      obtain ⟨v174, T35, Lj35, jv35, N35, X35, e35, st35⟩ := own_join (α := Int32) X29 N29 eh29 (mkF m 158 #[lv x1, .second, lv x2, .second, lv x3, .second, lv y5, .second, rv b1, iv y24, iv v44, lv y143, .second, iv y152, .unset] [(.int (lcmpW y143 (0 : Int64)))]) (fun v => (mkF m 174 #[lv x1, .second, lv x2, .second, lv x3, .second, lv y5, .second, rv b1, iv y24, iv v44, lv y143, .second, iv y152, .unset] [(.int v)])) (fun v => v = (if y143 < (0 : Int64) then (0 : Int32) else (if y143 < y5 then (1 : Int32) else (0 : Int32)))) (by
          by_cases hc158 : y143 < (0 : Int64)
          · have pre31 : ∀ tz, oS p e below T29 m 174 #[lv x1, .second, lv x2, .second, lv x3, .second, lv y5, .second, rv b1, iv y24, iv v44, lv y143, .second, iv y152, .unset] [(.int (0 : Int32))] tz → oS p e below T29 m 158 #[lv x1, .second, lv x2, .second, lv x3, .second, lv y5, .second, rv b1, iv y24, iv v44, lv y143, .second, iv y152, .unset] [(.int (lcmpW y143 (0 : Int64)))] tz := fun tz kt => by
              show oS p e below T29 m 158 #[lv x1, .second, lv x2, .second, lv x3, .second, lv y5, .second, rv b1, iv y24, iv v44, lv y143, .second, iv y152, .unset] [(.int (lcmpW y143 (0 : Int64)))] _
              refine XS.ifYes X29.here hx rfl (pc0 := 158) (pc' := 173) rfl (hb hby at_158) rfl ((if0 _ _).trans (tlt ((lw_lt y143 (0 : Int64)).mpr hc158)).1) (by decide) (by decide) ?_
              refine XS.iconst X29.here hx rfl (hb hby at_173) ?_
              exact kt
            exact ⟨(0 : Int32), T29, _, (by rw [if_pos hc158]), N29, X29, eh29, fun tz kt => (pre31 _ kt)⟩
          · have pre32 : ∀ tz, oS p e below T29 m 166 #[lv x1, .second, lv x2, .second, lv x3, .second, lv y5, .second, rv b1, iv y24, iv v44, lv y143, .second, iv y152, .unset] [(.int (lcmpW y143 y5))] tz → oS p e below T29 m 158 #[lv x1, .second, lv x2, .second, lv x3, .second, lv y5, .second, rv b1, iv y24, iv v44, lv y143, .second, iv y152, .unset] [(.int (lcmpW y143 (0 : Int64)))] tz := fun tz kt => by
              show oS p e below T29 m 158 #[lv x1, .second, lv x2, .second, lv x3, .second, lv y5, .second, rv b1, iv y24, iv v44, lv y143, .second, iv y152, .unset] [(.int (lcmpW y143 (0 : Int64)))] _
              refine XS.ifNo X29.here hx rfl (hb hby at_158) rfl ((if0 _ _).trans (flt (fun q => hc158 ((lw_lt y143 (0 : Int64)).mp q))).1) ?_
              refine XS.lload X29.here hx rfl (hb hby at_161) rfl ?_
              refine XS.lload X29.here hx rfl (hb hby at_163) rfl ?_
              refine XS.lcmp X29.here hx rfl (hb hby at_165) rfl ?_
              exact kt
            by_cases hc166 : y143 < y5
            · have pre33 : ∀ tz, oS p e below T29 m 174 #[lv x1, .second, lv x2, .second, lv x3, .second, lv y5, .second, rv b1, iv y24, iv v44, lv y143, .second, iv y152, .unset] [(.int (1 : Int32))] tz → oS p e below T29 m 166 #[lv x1, .second, lv x2, .second, lv x3, .second, lv y5, .second, rv b1, iv y24, iv v44, lv y143, .second, iv y152, .unset] [(.int (lcmpW y143 y5))] tz := fun tz kt => by
                show oS p e below T29 m 166 #[lv x1, .second, lv x2, .second, lv x3, .second, lv y5, .second, rv b1, iv y24, iv v44, lv y143, .second, iv y152, .unset] [(.int (lcmpW y143 y5))] _
                refine XS.ifNo X29.here hx rfl (hb hby at_166) rfl ((if0 _ _).trans (tlt ((lw_lt y143 y5).mpr hc166)).2.1) ?_
                refine XS.iconst X29.here hx rfl (hb hby at_169) ?_
                refine XS.goto X29.here hx rfl (pc0 := 170) (pc' := 174) rfl (hb hby at_170) (by decide) (by decide) ?_
                exact kt
              exact ⟨(1 : Int32), T29, _, (by rw [if_neg hc158, if_pos hc166]), N29, X29, eh29, fun tz kt => (pre32 _ (pre33 _ kt))⟩
            · have pre34 : ∀ tz, oS p e below T29 m 174 #[lv x1, .second, lv x2, .second, lv x3, .second, lv y5, .second, rv b1, iv y24, iv v44, lv y143, .second, iv y152, .unset] [(.int (0 : Int32))] tz → oS p e below T29 m 166 #[lv x1, .second, lv x2, .second, lv x3, .second, lv y5, .second, rv b1, iv y24, iv v44, lv y143, .second, iv y152, .unset] [(.int (lcmpW y143 y5))] tz := fun tz kt => by
                show oS p e below T29 m 166 #[lv x1, .second, lv x2, .second, lv x3, .second, lv y5, .second, rv b1, iv y24, iv v44, lv y143, .second, iv y152, .unset] [(.int (lcmpW y143 y5))] _
                refine XS.ifYes X29.here hx rfl (pc0 := 166) (pc' := 173) rfl (hb hby at_166) rfl ((if0 _ _).trans (flt (fun q => hc166 ((lw_lt y143 y5).mp q))).2.1) (by decide) (by decide) ?_
                refine XS.iconst X29.here hx rfl (hb hby at_173) ?_
                exact kt
              exact ⟨(0 : Int32), T29, _, (by rw [if_neg hc158, if_neg hc166]), N29, X29, eh29, fun tz kt => (pre32 _ (pre34 _ kt))⟩)
      have hv174 : v174 = (if y143 < (0 : Int64) then (0 : Int32) else (if y143 < y5 then (1 : Int32) else (0 : Int32))) := jv35
      have hc180 : y152 = v174 := Classical.byContradiction fun hc180 => by
        exact hc180 (hy152.trans hv174.symm)
      obtain ⟨cq36, kq36, q36a, q36b, q36c⟩ := isOf hZ e35 pf2_0
      obtain ⟨_, _, ⟨T36, Lw36, kw36, nw36⟩, -, X36, ⟨Lc36, hQ36, l36, y36, z36⟩, st36⟩ := X35.virtualBack hx (y := (⟨"com/example/ostiarius/ostiarius/MovingFactor$Counter", "used", "(J)Z"⟩ : MethodName)) (z := (⟨"com/example/ostiarius/ostiarius/MovingFactor$Counter", "used", "(J)Z"⟩ : MethodName)) hown (mvT hZ (own_w hw 17 rfl)) (mvT hZ (own_w hw 18 rfl)) (notFace_of_selects (args := #[]) (mvT hZ (own_w hw 20 rfl))) (mvT hZ (own_w hw 20 rfl)) (mvT hZ (own_w hw 19 rfl)) (by decide) (backOf (W := 0) (rm4 l Z a0 hw [] b1 (0 : Int64) y5 T2.heap n0 Zc5 pf2_1) hZ (own_w hw 21 rfl) (own_w hw 3 rfl) (by decide) (by decide)) q36a q36c (g := (mkF m 188 #[lv x1, .second, lv x2, .second, lv x3, .second, lv y5, .second, rv b1, iv y24, iv v44, lv y143, .second, iv y152, iv v174] [(.long (0 : Int64)), (.ref b1)])) rfl (by rw [hml]; rfl) (Steps.refl _) (argsL := [(.long (0 : Int64))]) (rest := []) (lenOf own_pd2 rfl) rfl (by show 2 * 0 + _ ≤ _; exact Nat.le_of_eq rfl) (hb hby at_188) (fun _ _ => ⟨rfl, e35, (by decide : 1 + 0 ≤ _), (by decide : 1 + 0 ≤ _)⟩)
      dsimp only [Pt.U, Pt.locs, Pt.cells, Pt.slots] at X36 l36 y36 z36 st36 hQ36
      subst l36 y36 z36
      obtain ⟨rfl, Nq36, eh36⟩ := hQ36
      have N36 := Fr.app N35 Nq36
      have hc203 : (if (0 : Int64) < (0 : Int64) then (0 : Int32) else (if (0 : Int64) < y5 then (1 : Int32) else (0 : Int32))) = (0 : Int32) := Classical.byContradiction fun hc203 => by
        exact hc203 ((own_d _).trans (by first | exact if_pos hc87 | exact if_neg hc87))
      have pre37 : ∀ tz, oS p e below T36 m 209 #[lv x1, .second, lv x2, .second, lv x3, .second, lv y5, .second, rv b1, iv y24, iv v44, lv y143, .second, iv y152, iv v174] [(.int (1 : Int32))] tz → oS p e below T29 m 158 #[lv x1, .second, lv x2, .second, lv x3, .second, lv y5, .second, rv b1, iv y24, iv v44, lv y143, .second, iv y152, .unset] [(.int (lcmpW y143 (0 : Int64)))] tz := fun tz kt => by
        show oS p e below T29 m 158 #[lv x1, .second, lv x2, .second, lv x3, .second, lv y5, .second, rv b1, iv y24, iv v44, lv y143, .second, iv y152, .unset] [(.int (lcmpW y143 (0 : Int64)))] _
        refine st35 _ ?_
        refine XS.istore X35.here hx rfl (hb hby at_174) rfl (l' := #[lv x1, .second, lv x2, .second, lv x3, .second, lv y5, .second, rv b1, iv y24, iv v44, lv y143, .second, iv y152, iv v174]) rfl ?_
        refine XS.iload X35.here hx rfl (hb hby at_176) rfl ?_
        refine XS.iload X35.here hx rfl (hb hby at_178) rfl ?_
        show oS p e below T35 m 180 #[lv x1, .second, lv x2, .second, lv x3, .second, lv y5, .second, rv b1, iv y24, iv v44, lv y143, .second, iv y152, iv v174] [(.int v174), (.int y152)] _
        refine XS.icmpYes X35.here hx rfl (pc0 := 180) (pc' := 185) rfl (hb hby at_180) rfl (teq hc180).1 (by decide) (by decide) ?_
        refine XS.aload X35.here hx rfl (hb hby at_185) rfl rfl ?_
        refine XS.lconst X35.here hx rfl (hb hby at_187) ?_
        show oS p e below T35 m 188 #[lv x1, .second, lv x2, .second, lv x3, .second, lv y5, .second, rv b1, iv y24, iv v44, lv y143, .second, iv y152, iv v174] [(.long (0 : Int64)), (.ref b1)] _
        refine st36.trans ?_
        refine XS.lload X36.here hx rfl (hb hby at_191) rfl ?_
        refine XS.lconst X36.here hx rfl (hb hby at_193) ?_
        refine XS.lcmp X36.here hx rfl (hb hby at_194) rfl ?_
        show oS p e below T36 m 195 #[lv x1, .second, lv x2, .second, lv x3, .second, lv y5, .second, rv b1, iv y24, iv v44, lv y143, .second, iv y152, iv v174] [(.int (lcmpW y5 (0 : Int64))), (.int (if (0 : Int64) < (0 : Int64) then (0 : Int32) else (if (0 : Int64) < y5 then (1 : Int32) else (0 : Int32))))] _
        refine XS.ifYes X36.here hx rfl (pc0 := 195) (pc' := 202) rfl (hb hby at_195) rfl ((if0 _ _).trans (flt (fun q => hc87 ((lw_gt y5 (0 : Int64)).mp q))).2.2.2) (by decide) (by decide) ?_
        refine XS.iconst X36.here hx rfl (hb hby at_202) ?_
        refine XS.icmpYes X36.here hx rfl (pc0 := 203) (pc' := 208) rfl (hb hby at_203) rfl (teq hc203).1 (by decide) (by decide) ?_
        refine XS.iconst X36.here hx rfl (hb hby at_208) ?_
        exact kt
      obtain ⟨fs, hr, hrun, hended, hW, hsame⟩ := X36.leave (v := some (.int (1 : Int32))) (fun h => by rw [Bd.returns] at h; cases h)
      refine ⟨_, _, pre0 _ (pre6 _ (pre12 _ (pre14 _ (pre30 _ (pre37 _ ?_))))), hrun, hended, _, _, rfl, ?_, ⟨_, rfl⟩, hW, hsame.mono (by decide) (by decide)⟩
      · show oS p e below T36 m 209 #[lv x1, .second, lv x2, .second, lv x3, .second, lv y5, .second, rv b1, iv y24, iv v44, lv y143, .second, iv y152, iv v174] [(.int (1 : Int32))] _
        exact retN X36 hx (t := .boolean) Bd.returns (by simp) (hb hby at_209) hr
      · show Q0 Z x1 x2 x3 h0 n0 _ T36.heap _
        rw [eh36]
        exact ⟨rfl, N36⟩
  · obtain ⟨cq38, kq38, q38a, q38b, q38c⟩ := isOf hZ e11 pf2_0
    obtain ⟨_, _, ⟨T38, Lw38, kw38, nw38⟩, -, X38, ⟨Lc38, hQ38, l38, y38, z38⟩, st38⟩ := X11.virtualBack hx (y := (⟨"com/example/ostiarius/ostiarius/MovingFactor$Counter", "unused", "(J)Z"⟩ : MethodName)) (z := (⟨"com/example/ostiarius/ostiarius/MovingFactor$Counter", "unused", "(J)Z"⟩ : MethodName)) hown (mvT hZ (own_w hw 22 rfl)) (mvT hZ (own_w hw 23 rfl)) (notFace_of_selects (args := #[]) (mvT hZ (own_w hw 25 rfl))) (mvT hZ (own_w hw 25 rfl)) (mvT hZ (own_w hw 24 rfl)) (by decide) (backOf (W := 0) (rm5 l Z a0 hw [] b1 x2 y5 T2.heap n0 Zc5 pf2_1) hZ (own_w hw 26 rfl) (own_w hw 3 rfl) (by decide) (by decide)) q38a q38c (g := (mkF m 63 #[lv x1, .second, lv x2, .second, lv x3, .second, lv y5, .second, rv b1, iv y24, iv v44, .unset, .unset, .unset, .unset] [(.long x2), (.ref b1)])) rfl (by rw [hml]; rfl) (Steps.refl _) (argsL := [(.long x2)]) (rest := []) (lenOf own_pd2 rfl) rfl (by show 2 * 0 + _ ≤ _; exact Nat.le_of_eq rfl) (hb hby at_63) (fun _ _ => ⟨rfl, e11, (by decide : 1 + 0 ≤ _), (by decide : 1 + 0 ≤ _)⟩)
    dsimp only [Pt.U, Pt.locs, Pt.cells, Pt.slots] at X38 l38 y38 z38 st38 hQ38
    subst l38 y38 z38
    obtain ⟨rfl, Nq38, eh38⟩ := hQ38
    have N38 := Fr.app N11 Nq38
    have hc66 : (if x2 < y5 then (0 : Int32) else (if x2 < (9223372036854775807 : Int64) then (1 : Int32) else (0 : Int32))) = (0 : Int32) := Classical.byContradiction fun hc66 => by
      exact hc66 (own_a _ _ (fun q => hc57 (hy24.trans q)))
    obtain ⟨cq39, kq39, q39a, q39b, q39c⟩ := isOf hZ eh38 pf2_0
    obtain ⟨_, _, ⟨T39, Lw39, kw39, nw39⟩, -, X39, ⟨Lc39, hQ39, l39, y39, z39⟩, st39⟩ := X38.virtualBack hx (y := (⟨"com/example/ostiarius/ostiarius/MovingFactor$Counter", "used", "(J)Z"⟩ : MethodName)) (z := (⟨"com/example/ostiarius/ostiarius/MovingFactor$Counter", "used", "(J)Z"⟩ : MethodName)) hown (mvT hZ (own_w hw 17 rfl)) (mvT hZ (own_w hw 18 rfl)) (notFace_of_selects (args := #[]) (mvT hZ (own_w hw 20 rfl))) (mvT hZ (own_w hw 20 rfl)) (mvT hZ (own_w hw 19 rfl)) (by decide) (backOf (W := 0) (rm4 l Z a0 hw [] b1 y5 y5 T2.heap n0 Zc5 pf2_1) hZ (own_w hw 21 rfl) (own_w hw 3 rfl) (by decide) (by decide)) q39a q39c (g := (mkF m 75 #[lv x1, .second, lv x2, .second, lv x3, .second, lv y5, .second, rv b1, iv y24, iv v44, .unset, .unset, .unset, .unset] [(.long y5), (.ref b1)])) rfl (by rw [hml]; rfl) (Steps.refl _) (argsL := [(.long y5)]) (rest := []) (lenOf own_pd2 rfl) rfl (by show 2 * 0 + _ ≤ _; exact Nat.le_of_eq rfl) (hb hby at_75) (fun _ _ => ⟨rfl, eh38, (by decide : 1 + 0 ≤ _), (by decide : 1 + 0 ≤ _)⟩)
    dsimp only [Pt.U, Pt.locs, Pt.cells, Pt.slots] at X39 l39 y39 z39 st39 hQ39
    subst l39 y39 z39
    obtain ⟨rfl, Nq39, eh39⟩ := hQ39
    have N39 := Fr.app N38 Nq39
    have hc78 : (if y5 < (0 : Int64) then (0 : Int32) else (if y5 < y5 then (1 : Int32) else (0 : Int32))) = (0 : Int32) := Classical.byContradiction fun hc78 => by
      exact hc78 (own_b _ (by rw [hy5]; exact own_nn _))
    have pre40 : ∀ tz, oS p e below T39 m 87 #[lv x1, .second, lv x2, .second, lv x3, .second, lv y5, .second, rv b1, iv y24, iv v44, .unset, .unset, .unset, .unset] [(.int (lcmpW y5 (0 : Int64)))] tz → oS p e below T11 m 57 #[lv x1, .second, lv x2, .second, lv x3, .second, lv y5, .second, rv b1, iv y24, iv v44, .unset, .unset, .unset, .unset] [(.int y24)] tz := fun tz kt => by
      show oS p e below T11 m 57 #[lv x1, .second, lv x2, .second, lv x3, .second, lv y5, .second, rv b1, iv y24, iv v44, .unset, .unset, .unset, .unset] [(.int y24)] _
      refine XS.ifNo X11.here hx rfl (hb hby at_57) rfl ((if0 _ _).trans (feq hc57).1) ?_
      refine XS.aload X11.here hx rfl (hb hby at_60) rfl rfl ?_
      refine XS.lloadN X11.here hx rfl (hb hby at_62) rfl ?_
      show oS p e below T11 m 63 #[lv x1, .second, lv x2, .second, lv x3, .second, lv y5, .second, rv b1, iv y24, iv v44, .unset, .unset, .unset, .unset] [(.long x2), (.ref b1)] _
      refine st38.trans ?_
      refine XS.ifYes X38.here hx rfl (pc0 := 66) (pc' := 71) rfl (hb hby at_66) rfl ((if0 _ _).trans (teq hc66).1) (by decide) (by decide) ?_
      refine XS.aload X38.here hx rfl (hb hby at_71) rfl rfl ?_
      refine XS.lload X38.here hx rfl (hb hby at_73) rfl ?_
      show oS p e below T38 m 75 #[lv x1, .second, lv x2, .second, lv x3, .second, lv y5, .second, rv b1, iv y24, iv v44, .unset, .unset, .unset, .unset] [(.long y5), (.ref b1)] _
      refine st39.trans ?_
      refine XS.ifYes X39.here hx rfl (pc0 := 78) (pc' := 83) rfl (hb hby at_78) rfl ((if0 _ _).trans (teq hc78).1) (by decide) (by decide) ?_
      refine XS.lload X39.here hx rfl (hb hby at_83) rfl ?_
      refine XS.lconst X39.here hx rfl (hb hby at_85) ?_
      show oS p e below T39 m 86 #[lv x1, .second, lv x2, .second, lv x3, .second, lv y5, .second, rv b1, iv y24, iv v44, .unset, .unset, .unset, .unset] [(.long (0 : Int64)), (.long y5)] _
      refine XS.lcmp X39.here hx rfl (hb hby at_86) rfl ?_
      exact kt
    by_cases hc87 : (0 : Int64) < y5
    · obtain ⟨cq41, kq41, q41a, q41b, q41c⟩ := isOf hZ eh39 pf2_0
      obtain ⟨_, _, ⟨T41, Lw41, kw41, nw41⟩, -, X41, ⟨Lc41, hQ41, l41, y41, z41⟩, st41⟩ := X39.virtualBack hx (y := (⟨"com/example/ostiarius/ostiarius/MovingFactor$Counter", "used", "(J)Z"⟩ : MethodName)) (z := (⟨"com/example/ostiarius/ostiarius/MovingFactor$Counter", "used", "(J)Z"⟩ : MethodName)) hown (mvT hZ (own_w hw 17 rfl)) (mvT hZ (own_w hw 18 rfl)) (notFace_of_selects (args := #[]) (mvT hZ (own_w hw 20 rfl))) (mvT hZ (own_w hw 20 rfl)) (mvT hZ (own_w hw 19 rfl)) (by decide) (backOf (W := 0) (rm4 l Z a0 hw [] b1 (y5 - (1 : Int64)) y5 T2.heap n0 Zc5 pf2_1) hZ (own_w hw 21 rfl) (own_w hw 3 rfl) (by decide) (by decide)) q41a q41c (g := (mkF m 96 #[lv x1, .second, lv x2, .second, lv x3, .second, lv y5, .second, rv b1, iv y24, iv v44, .unset, .unset, .unset, .unset] [(.long (y5 - (1 : Int64))), (.ref b1)])) rfl (by rw [hml]; rfl) (Steps.refl _) (argsL := [(.long (y5 - (1 : Int64)))]) (rest := []) (lenOf own_pd2 rfl) rfl (by show 2 * 0 + _ ≤ _; exact Nat.le_of_eq rfl) (hb hby at_96) (fun _ _ => ⟨rfl, eh39, (by decide : 1 + 0 ≤ _), (by decide : 1 + 0 ≤ _)⟩)
      dsimp only [Pt.U, Pt.locs, Pt.cells, Pt.slots] at X41 l41 y41 z41 st41 hQ41
      subst l41 y41 z41
      obtain ⟨rfl, Nq41, eh41⟩ := hQ41
      have N41 := Fr.app N39 Nq41
      have hc99 : ¬ ((if (y5 - (1 : Int64)) < (0 : Int64) then (0 : Int32) else (if (y5 - (1 : Int64)) < y5 then (1 : Int32) else (0 : Int32))) = (0 : Int32)) := id fun hc99 => by
        exact own_c _ hc87 hc99
      obtain ⟨cq42, kq42, q42a, q42b, q42c⟩ := isOf hZ eh41 pf2_0
      obtain ⟨_, _, ⟨T42, Lw42, kw42, nw42⟩, -, X42, ⟨Lc42, hQ42, l42, y42, z42⟩, st42⟩ := X41.virtualBack hx (y := (⟨"com/example/ostiarius/ostiarius/MovingFactor$Counter", "used", "(J)Z"⟩ : MethodName)) (z := (⟨"com/example/ostiarius/ostiarius/MovingFactor$Counter", "used", "(J)Z"⟩ : MethodName)) hown (mvT hZ (own_w hw 17 rfl)) (mvT hZ (own_w hw 18 rfl)) (notFace_of_selects (args := #[]) (mvT hZ (own_w hw 20 rfl))) (mvT hZ (own_w hw 20 rfl)) (mvT hZ (own_w hw 19 rfl)) (by decide) (backOf (W := 0) (rm4 l Z a0 hw [] b1 (-1 : Int64) y5 T2.heap n0 Zc5 pf2_1) hZ (own_w hw 21 rfl) (own_w hw 3 rfl) (by decide) (by decide)) q42a q42c (g := (mkF m 109 #[lv x1, .second, lv x2, .second, lv x3, .second, lv y5, .second, rv b1, iv y24, iv v44, .unset, .unset, .unset, .unset] [(.long (-1 : Int64)), (.ref b1)])) rfl (by rw [hml]; rfl) (Steps.refl _) (argsL := [(.long (-1 : Int64))]) (rest := []) (lenOf own_pd2 rfl) rfl (by show 2 * 0 + _ ≤ _; exact Nat.le_of_eq rfl) (hb hby at_109) (fun _ _ => ⟨rfl, eh41, (by decide : 1 + 0 ≤ _), (by decide : 1 + 0 ≤ _)⟩)
      dsimp only [Pt.U, Pt.locs, Pt.cells, Pt.slots] at X42 l42 y42 z42 st42 hQ42
      subst l42 y42 z42
      obtain ⟨rfl, Nq42, eh42⟩ := hQ42
      have N42 := Fr.app N41 Nq42
      obtain ⟨cq43, kq43, q43a, q43b, q43c⟩ := isOf hZ eh42 pf2_0
      obtain ⟨_, _, ⟨T43, Lw43, kw43, nw43⟩, -, X43, ⟨Lc43, hQ43, l43, y43, z43⟩, st43⟩ := X42.virtualBack hx (y := (⟨"com/example/ostiarius/ostiarius/MovingFactor$Counter", "used", "(J)Z"⟩ : MethodName)) (z := (⟨"com/example/ostiarius/ostiarius/MovingFactor$Counter", "used", "(J)Z"⟩ : MethodName)) hown (mvT hZ (own_w hw 17 rfl)) (mvT hZ (own_w hw 18 rfl)) (notFace_of_selects (args := #[]) (mvT hZ (own_w hw 20 rfl))) (mvT hZ (own_w hw 20 rfl)) (mvT hZ (own_w hw 19 rfl)) (by decide) (backOf (W := 0) (rm4 l Z a0 hw [] b1 (-9223372036854775808 : Int64) y5 T2.heap n0 Zc5 pf2_1) hZ (own_w hw 21 rfl) (own_w hw 3 rfl) (by decide) (by decide)) q43a q43c (g := (mkF m 122 #[lv x1, .second, lv x2, .second, lv x3, .second, lv y5, .second, rv b1, iv y24, iv v44, .unset, .unset, .unset, .unset] [(.long (-9223372036854775808 : Int64)), (.ref b1)])) rfl (by rw [hml]; rfl) (Steps.refl _) (argsL := [(.long (-9223372036854775808 : Int64))]) (rest := []) (lenOf own_pd2 rfl) rfl (by show 2 * 0 + _ ≤ _; exact Nat.le_of_eq rfl) (hb hby at_122) (fun _ _ => ⟨rfl, eh42, (by decide : 1 + 0 ≤ _), (by decide : 1 + 0 ≤ _)⟩)
      dsimp only [Pt.U, Pt.locs, Pt.cells, Pt.slots] at X43 l43 y43 z43 st43 hQ43
      subst l43 y43 z43
      obtain ⟨rfl, Nq43, eh43⟩ := hQ43
      have N43 := Fr.app N42 Nq43
      obtain ⟨y143, hy143⟩ : ∃ z, z = (y5 + ((x3 &&& (7 : Int64)) - (4 : Int64))) := ⟨_, rfl⟩
      obtain ⟨cq44, kq44, q44a, q44b, q44c⟩ := isOf hZ eh43 pf2_0
      obtain ⟨_, _, ⟨T44, Lw44, kw44, nw44⟩, -, X44, ⟨Lc44, hQ44, l44, y44, z44⟩, st44⟩ := X43.virtualBack hx (y := (⟨"com/example/ostiarius/ostiarius/MovingFactor$Counter", "used", "(J)Z"⟩ : MethodName)) (z := (⟨"com/example/ostiarius/ostiarius/MovingFactor$Counter", "used", "(J)Z"⟩ : MethodName)) hown (mvT hZ (own_w hw 17 rfl)) (mvT hZ (own_w hw 18 rfl)) (notFace_of_selects (args := #[]) (mvT hZ (own_w hw 20 rfl))) (mvT hZ (own_w hw 20 rfl)) (mvT hZ (own_w hw 19 rfl)) (by decide) (backOf (W := 0) (rm4 l Z a0 hw [] b1 y143 y5 T2.heap n0 Zc5 pf2_1) hZ (own_w hw 21 rfl) (own_w hw 3 rfl) (by decide) (by decide)) q44a q44c (g := (mkF m 149 #[lv x1, .second, lv x2, .second, lv x3, .second, lv y5, .second, rv b1, iv y24, iv v44, lv y143, .second, .unset, .unset] [(.long y143), (.ref b1)])) rfl (by rw [hml]; rfl) (Steps.refl _) (argsL := [(.long y143)]) (rest := []) (lenOf own_pd2 rfl) rfl (by show 2 * 0 + _ ≤ _; exact Nat.le_of_eq rfl) (hb hby at_149) (fun _ _ => ⟨rfl, eh43, (by decide : 1 + 0 ≤ _), (by decide : 1 + 0 ≤ _)⟩)
      dsimp only [Pt.U, Pt.locs, Pt.cells, Pt.slots] at X44 l44 y44 z44 st44 hQ44
      subst l44 y44 z44
      obtain ⟨rfl, Nq44, eh44⟩ := hQ44
      have N44 := Fr.app N43 Nq44
      obtain ⟨y152, hy152⟩ : ∃ z, z = (if y143 < (0 : Int64) then (0 : Int32) else (if y143 < y5 then (1 : Int32) else (0 : Int32))) := ⟨_, rfl⟩
      have pre45 : ∀ tz, oS p e below T44 m 158 #[lv x1, .second, lv x2, .second, lv x3, .second, lv y5, .second, rv b1, iv y24, iv v44, lv y143, .second, iv y152, .unset] [(.int (lcmpW y143 (0 : Int64)))] tz → oS p e below T39 m 87 #[lv x1, .second, lv x2, .second, lv x3, .second, lv y5, .second, rv b1, iv y24, iv v44, .unset, .unset, .unset, .unset] [(.int (lcmpW y5 (0 : Int64)))] tz := fun tz kt => by
        show oS p e below T39 m 87 #[lv x1, .second, lv x2, .second, lv x3, .second, lv y5, .second, rv b1, iv y24, iv v44, .unset, .unset, .unset, .unset] [(.int (lcmpW y5 (0 : Int64)))] _
        refine XS.ifNo X39.here hx rfl (hb hby at_87) rfl ((if0 _ _).trans (tlt ((lw_gt y5 (0 : Int64)).mpr hc87)).2.2.2) ?_
        refine XS.aload X39.here hx rfl (hb hby at_90) rfl rfl ?_
        refine XS.lload X39.here hx rfl (hb hby at_92) rfl ?_
        refine XS.lconst X39.here hx rfl (hb hby at_94) ?_
        show oS p e below T39 m 95 #[lv x1, .second, lv x2, .second, lv x3, .second, lv y5, .second, rv b1, iv y24, iv v44, .unset, .unset, .unset, .unset] [(.long (1 : Int64)), (.long y5), (.ref b1)] _
        refine XS.lsub X39.here hx rfl (hb hby at_95) rfl ?_
        show oS p e below T39 m 96 #[lv x1, .second, lv x2, .second, lv x3, .second, lv y5, .second, rv b1, iv y24, iv v44, .unset, .unset, .unset, .unset] [(.long (y5 - (1 : Int64))), (.ref b1)] _
        refine st41.trans ?_
        refine XS.ifYes X41.here hx rfl (pc0 := 99) (pc' := 104) rfl (hb hby at_99) rfl ((if0 _ _).trans (feq hc99).2) (by decide) (by decide) ?_
        refine XS.aload X41.here hx rfl (hb hby at_104) rfl rfl ?_
        refine X41.ldc2Long hx hown (mvT hZ (own_w hw 27 rfl)) (g := (mkF m 106 #[lv x1, .second, lv x2, .second, lv x3, .second, lv y5, .second, rv b1, iv y24, iv v44, .unset, .unset, .unset, .unset] [(.ref b1)])) rfl (hb hby at_106) _ ?_
        show oS p e below T41 m 109 #[lv x1, .second, lv x2, .second, lv x3, .second, lv y5, .second, rv b1, iv y24, iv v44, .unset, .unset, .unset, .unset] [(.long (-1 : Int64)), (.ref b1)] _
        refine st42.trans ?_
        rw [((if_pos (by decide : (-1 : Int64) < (0 : Int64))) : (if (-1 : Int64) < (0 : Int64) then (0 : Int32) else (if (-1 : Int64) < y5 then (1 : Int32) else (0 : Int32))) = (0 : Int32))]
        show oS p e below T42 m 112 #[lv x1, .second, lv x2, .second, lv x3, .second, lv y5, .second, rv b1, iv y24, iv v44, .unset, .unset, .unset, .unset] [(.int (0 : Int32))] _
        refine XS.ifYes X42.here hx rfl (pc0 := 112) (pc' := 117) rfl (hb hby at_112) rfl ((if0 _ _).trans (teq (by decide : ((0 : Int32) = (0 : Int32)))).1) (by decide) (by decide) ?_
        refine XS.aload X42.here hx rfl (hb hby at_117) rfl rfl ?_
        refine X42.ldc2Long hx hown (mvT hZ (own_w hw 28 rfl)) (g := (mkF m 119 #[lv x1, .second, lv x2, .second, lv x3, .second, lv y5, .second, rv b1, iv y24, iv v44, .unset, .unset, .unset, .unset] [(.ref b1)])) rfl (hb hby at_119) _ ?_
        show oS p e below T42 m 122 #[lv x1, .second, lv x2, .second, lv x3, .second, lv y5, .second, rv b1, iv y24, iv v44, .unset, .unset, .unset, .unset] [(.long (-9223372036854775808 : Int64)), (.ref b1)] _
        refine st43.trans ?_
        rw [((if_pos (by decide : (-9223372036854775808 : Int64) < (0 : Int64))) : (if (-9223372036854775808 : Int64) < (0 : Int64) then (0 : Int32) else (if (-9223372036854775808 : Int64) < y5 then (1 : Int32) else (0 : Int32))) = (0 : Int32))]
        show oS p e below T43 m 125 #[lv x1, .second, lv x2, .second, lv x3, .second, lv y5, .second, rv b1, iv y24, iv v44, .unset, .unset, .unset, .unset] [(.int (0 : Int32))] _
        refine XS.ifYes X43.here hx rfl (pc0 := 125) (pc' := 130) rfl (hb hby at_125) rfl ((if0 _ _).trans (teq (by decide : ((0 : Int32) = (0 : Int32)))).1) (by decide) (by decide) ?_
        refine XS.lload X43.here hx rfl (hb hby at_130) rfl ?_
        refine XS.lload X43.here hx rfl (hb hby at_132) rfl ?_
        refine X43.ldc2Long hx hown (mvT hZ (own_w hw 29 rfl)) (g := (mkF m 134 #[lv x1, .second, lv x2, .second, lv x3, .second, lv y5, .second, rv b1, iv y24, iv v44, .unset, .unset, .unset, .unset] [(.long x3), (.long y5)])) rfl (hb hby at_134) _ ?_
        show oS p e below T43 m 137 #[lv x1, .second, lv x2, .second, lv x3, .second, lv y5, .second, rv b1, iv y24, iv v44, .unset, .unset, .unset, .unset] [(.long (7 : Int64)), (.long x3), (.long y5)] _
        refine XS.land X43.here hx rfl (hb hby at_137) rfl ?_
        refine X43.ldc2Long hx hown (mvT hZ (own_w hw 30 rfl)) (g := (mkF m 138 #[lv x1, .second, lv x2, .second, lv x3, .second, lv y5, .second, rv b1, iv y24, iv v44, .unset, .unset, .unset, .unset] [(.long (x3 &&& (7 : Int64))), (.long y5)])) rfl (hb hby at_138) _ ?_
        refine XS.lsub X43.here hx rfl (hb hby at_141) rfl ?_
        refine XS.ladd X43.here hx rfl (hb hby at_142) rfl ?_
        show oS p e below T43 m 143 #[lv x1, .second, lv x2, .second, lv x3, .second, lv y5, .second, rv b1, iv y24, iv v44, .unset, .unset, .unset, .unset] [(.long (y5 + ((x3 &&& (7 : Int64)) - (4 : Int64))))] _
        refine XS.lstore X43.here hx rfl (hb hby at_143) rfl (l' := #[lv x1, .second, lv x2, .second, lv x3, .second, lv y5, .second, rv b1, iv y24, iv v44, lv y143, .second, .unset, .unset]) (by rw [hy143]; rfl) ?_
        refine XS.aload X43.here hx rfl (hb hby at_145) rfl rfl ?_
        refine XS.lload X43.here hx rfl (hb hby at_147) rfl ?_
        show oS p e below T43 m 149 #[lv x1, .second, lv x2, .second, lv x3, .second, lv y5, .second, rv b1, iv y24, iv v44, lv y143, .second, .unset, .unset] [(.long y143), (.ref b1)] _
        refine st44.trans ?_
        refine XS.istore X44.here hx rfl (hb hby at_152) rfl (l' := #[lv x1, .second, lv x2, .second, lv x3, .second, lv y5, .second, rv b1, iv y24, iv v44, lv y143, .second, iv y152, .unset]) (by rw [hy152]; rfl) ?_
        refine XS.lload X44.here hx rfl (hb hby at_154) rfl ?_
        refine XS.lconst X44.here hx rfl (hb hby at_156) ?_
        show oS p e below T44 m 157 #[lv x1, .second, lv x2, .second, lv x3, .second, lv y5, .second, rv b1, iv y24, iv v44, lv y143, .second, iv y152, .unset] [(.long (0 : Int64)), (.long y143)] _
        refine XS.lcmp X44.here hx rfl (hb hby at_157) rfl ?_
        exact kt
      obtain ⟨v174, T50, Lj50, jv50, N50, X50, e50, st50⟩ := own_join (α := Int32) X44 N44 eh44 (mkF m 158 #[lv x1, .second, lv x2, .second, lv x3, .second, lv y5, .second, rv b1, iv y24, iv v44, lv y143, .second, iv y152, .unset] [(.int (lcmpW y143 (0 : Int64)))]) (fun v => (mkF m 174 #[lv x1, .second, lv x2, .second, lv x3, .second, lv y5, .second, rv b1, iv y24, iv v44, lv y143, .second, iv y152, .unset] [(.int v)])) (fun v => v = (if y143 < (0 : Int64) then (0 : Int32) else (if y143 < y5 then (1 : Int32) else (0 : Int32)))) (by
          by_cases hc158 : y143 < (0 : Int64)
          · have pre46 : ∀ tz, oS p e below T44 m 174 #[lv x1, .second, lv x2, .second, lv x3, .second, lv y5, .second, rv b1, iv y24, iv v44, lv y143, .second, iv y152, .unset] [(.int (0 : Int32))] tz → oS p e below T44 m 158 #[lv x1, .second, lv x2, .second, lv x3, .second, lv y5, .second, rv b1, iv y24, iv v44, lv y143, .second, iv y152, .unset] [(.int (lcmpW y143 (0 : Int64)))] tz := fun tz kt => by
              show oS p e below T44 m 158 #[lv x1, .second, lv x2, .second, lv x3, .second, lv y5, .second, rv b1, iv y24, iv v44, lv y143, .second, iv y152, .unset] [(.int (lcmpW y143 (0 : Int64)))] _
              refine XS.ifYes X44.here hx rfl (pc0 := 158) (pc' := 173) rfl (hb hby at_158) rfl ((if0 _ _).trans (tlt ((lw_lt y143 (0 : Int64)).mpr hc158)).1) (by decide) (by decide) ?_
              refine XS.iconst X44.here hx rfl (hb hby at_173) ?_
              exact kt
            exact ⟨(0 : Int32), T44, _, (by rw [if_pos hc158]), N44, X44, eh44, fun tz kt => (pre46 _ kt)⟩
          · have pre47 : ∀ tz, oS p e below T44 m 166 #[lv x1, .second, lv x2, .second, lv x3, .second, lv y5, .second, rv b1, iv y24, iv v44, lv y143, .second, iv y152, .unset] [(.int (lcmpW y143 y5))] tz → oS p e below T44 m 158 #[lv x1, .second, lv x2, .second, lv x3, .second, lv y5, .second, rv b1, iv y24, iv v44, lv y143, .second, iv y152, .unset] [(.int (lcmpW y143 (0 : Int64)))] tz := fun tz kt => by
              show oS p e below T44 m 158 #[lv x1, .second, lv x2, .second, lv x3, .second, lv y5, .second, rv b1, iv y24, iv v44, lv y143, .second, iv y152, .unset] [(.int (lcmpW y143 (0 : Int64)))] _
              refine XS.ifNo X44.here hx rfl (hb hby at_158) rfl ((if0 _ _).trans (flt (fun q => hc158 ((lw_lt y143 (0 : Int64)).mp q))).1) ?_
              refine XS.lload X44.here hx rfl (hb hby at_161) rfl ?_
              refine XS.lload X44.here hx rfl (hb hby at_163) rfl ?_
              refine XS.lcmp X44.here hx rfl (hb hby at_165) rfl ?_
              exact kt
            by_cases hc166 : y143 < y5
            · have pre48 : ∀ tz, oS p e below T44 m 174 #[lv x1, .second, lv x2, .second, lv x3, .second, lv y5, .second, rv b1, iv y24, iv v44, lv y143, .second, iv y152, .unset] [(.int (1 : Int32))] tz → oS p e below T44 m 166 #[lv x1, .second, lv x2, .second, lv x3, .second, lv y5, .second, rv b1, iv y24, iv v44, lv y143, .second, iv y152, .unset] [(.int (lcmpW y143 y5))] tz := fun tz kt => by
                show oS p e below T44 m 166 #[lv x1, .second, lv x2, .second, lv x3, .second, lv y5, .second, rv b1, iv y24, iv v44, lv y143, .second, iv y152, .unset] [(.int (lcmpW y143 y5))] _
                refine XS.ifNo X44.here hx rfl (hb hby at_166) rfl ((if0 _ _).trans (tlt ((lw_lt y143 y5).mpr hc166)).2.1) ?_
                refine XS.iconst X44.here hx rfl (hb hby at_169) ?_
                refine XS.goto X44.here hx rfl (pc0 := 170) (pc' := 174) rfl (hb hby at_170) (by decide) (by decide) ?_
                exact kt
              exact ⟨(1 : Int32), T44, _, (by rw [if_neg hc158, if_pos hc166]), N44, X44, eh44, fun tz kt => (pre47 _ (pre48 _ kt))⟩
            · have pre49 : ∀ tz, oS p e below T44 m 174 #[lv x1, .second, lv x2, .second, lv x3, .second, lv y5, .second, rv b1, iv y24, iv v44, lv y143, .second, iv y152, .unset] [(.int (0 : Int32))] tz → oS p e below T44 m 166 #[lv x1, .second, lv x2, .second, lv x3, .second, lv y5, .second, rv b1, iv y24, iv v44, lv y143, .second, iv y152, .unset] [(.int (lcmpW y143 y5))] tz := fun tz kt => by
                show oS p e below T44 m 166 #[lv x1, .second, lv x2, .second, lv x3, .second, lv y5, .second, rv b1, iv y24, iv v44, lv y143, .second, iv y152, .unset] [(.int (lcmpW y143 y5))] _
                refine XS.ifYes X44.here hx rfl (pc0 := 166) (pc' := 173) rfl (hb hby at_166) rfl ((if0 _ _).trans (flt (fun q => hc166 ((lw_lt y143 y5).mp q))).2.1) (by decide) (by decide) ?_
                refine XS.iconst X44.here hx rfl (hb hby at_173) ?_
                exact kt
              exact ⟨(0 : Int32), T44, _, (by rw [if_neg hc158, if_neg hc166]), N44, X44, eh44, fun tz kt => (pre47 _ (pre49 _ kt))⟩)
      have hv174 : v174 = (if y143 < (0 : Int64) then (0 : Int32) else (if y143 < y5 then (1 : Int32) else (0 : Int32))) := jv50
      have hc180 : y152 = v174 := Classical.byContradiction fun hc180 => by
        exact hc180 (hy152.trans hv174.symm)
      obtain ⟨cq51, kq51, q51a, q51b, q51c⟩ := isOf hZ e50 pf2_0
      obtain ⟨_, _, ⟨T51, Lw51, kw51, nw51⟩, -, X51, ⟨Lc51, hQ51, l51, y51, z51⟩, st51⟩ := X50.virtualBack hx (y := (⟨"com/example/ostiarius/ostiarius/MovingFactor$Counter", "used", "(J)Z"⟩ : MethodName)) (z := (⟨"com/example/ostiarius/ostiarius/MovingFactor$Counter", "used", "(J)Z"⟩ : MethodName)) hown (mvT hZ (own_w hw 17 rfl)) (mvT hZ (own_w hw 18 rfl)) (notFace_of_selects (args := #[]) (mvT hZ (own_w hw 20 rfl))) (mvT hZ (own_w hw 20 rfl)) (mvT hZ (own_w hw 19 rfl)) (by decide) (backOf (W := 0) (rm4 l Z a0 hw [] b1 (0 : Int64) y5 T2.heap n0 Zc5 pf2_1) hZ (own_w hw 21 rfl) (own_w hw 3 rfl) (by decide) (by decide)) q51a q51c (g := (mkF m 188 #[lv x1, .second, lv x2, .second, lv x3, .second, lv y5, .second, rv b1, iv y24, iv v44, lv y143, .second, iv y152, iv v174] [(.long (0 : Int64)), (.ref b1)])) rfl (by rw [hml]; rfl) (Steps.refl _) (argsL := [(.long (0 : Int64))]) (rest := []) (lenOf own_pd2 rfl) rfl (by show 2 * 0 + _ ≤ _; exact Nat.le_of_eq rfl) (hb hby at_188) (fun _ _ => ⟨rfl, e50, (by decide : 1 + 0 ≤ _), (by decide : 1 + 0 ≤ _)⟩)
      dsimp only [Pt.U, Pt.locs, Pt.cells, Pt.slots] at X51 l51 y51 z51 st51 hQ51
      subst l51 y51 z51
      obtain ⟨rfl, Nq51, eh51⟩ := hQ51
      have N51 := Fr.app N50 Nq51
      have hc203 : (if (0 : Int64) < (0 : Int64) then (0 : Int32) else (if (0 : Int64) < y5 then (1 : Int32) else (0 : Int32))) = (1 : Int32) := Classical.byContradiction fun hc203 => by
        exact hc203 ((own_d _).trans (by first | exact if_pos hc87 | exact if_neg hc87))
      have pre52 : ∀ tz, oS p e below T51 m 209 #[lv x1, .second, lv x2, .second, lv x3, .second, lv y5, .second, rv b1, iv y24, iv v44, lv y143, .second, iv y152, iv v174] [(.int (1 : Int32))] tz → oS p e below T44 m 158 #[lv x1, .second, lv x2, .second, lv x3, .second, lv y5, .second, rv b1, iv y24, iv v44, lv y143, .second, iv y152, .unset] [(.int (lcmpW y143 (0 : Int64)))] tz := fun tz kt => by
        show oS p e below T44 m 158 #[lv x1, .second, lv x2, .second, lv x3, .second, lv y5, .second, rv b1, iv y24, iv v44, lv y143, .second, iv y152, .unset] [(.int (lcmpW y143 (0 : Int64)))] _
        refine st50 _ ?_
        refine XS.istore X50.here hx rfl (hb hby at_174) rfl (l' := #[lv x1, .second, lv x2, .second, lv x3, .second, lv y5, .second, rv b1, iv y24, iv v44, lv y143, .second, iv y152, iv v174]) rfl ?_
        refine XS.iload X50.here hx rfl (hb hby at_176) rfl ?_
        refine XS.iload X50.here hx rfl (hb hby at_178) rfl ?_
        show oS p e below T50 m 180 #[lv x1, .second, lv x2, .second, lv x3, .second, lv y5, .second, rv b1, iv y24, iv v44, lv y143, .second, iv y152, iv v174] [(.int v174), (.int y152)] _
        refine XS.icmpYes X50.here hx rfl (pc0 := 180) (pc' := 185) rfl (hb hby at_180) rfl (teq hc180).1 (by decide) (by decide) ?_
        refine XS.aload X50.here hx rfl (hb hby at_185) rfl rfl ?_
        refine XS.lconst X50.here hx rfl (hb hby at_187) ?_
        show oS p e below T50 m 188 #[lv x1, .second, lv x2, .second, lv x3, .second, lv y5, .second, rv b1, iv y24, iv v44, lv y143, .second, iv y152, iv v174] [(.long (0 : Int64)), (.ref b1)] _
        refine st51.trans ?_
        refine XS.lload X51.here hx rfl (hb hby at_191) rfl ?_
        refine XS.lconst X51.here hx rfl (hb hby at_193) ?_
        refine XS.lcmp X51.here hx rfl (hb hby at_194) rfl ?_
        show oS p e below T51 m 195 #[lv x1, .second, lv x2, .second, lv x3, .second, lv y5, .second, rv b1, iv y24, iv v44, lv y143, .second, iv y152, iv v174] [(.int (lcmpW y5 (0 : Int64))), (.int (if (0 : Int64) < (0 : Int64) then (0 : Int32) else (if (0 : Int64) < y5 then (1 : Int32) else (0 : Int32))))] _
        refine XS.ifNo X51.here hx rfl (hb hby at_195) rfl ((if0 _ _).trans (tlt ((lw_gt y5 (0 : Int64)).mpr hc87)).2.2.2) ?_
        refine XS.iconst X51.here hx rfl (hb hby at_198) ?_
        refine XS.goto X51.here hx rfl (pc0 := 199) (pc' := 203) rfl (hb hby at_199) (by decide) (by decide) ?_
        refine XS.icmpYes X51.here hx rfl (pc0 := 203) (pc' := 208) rfl (hb hby at_203) rfl (teq hc203).1 (by decide) (by decide) ?_
        show oS p e below T51 m 208 #[lv x1, .second, lv x2, .second, lv x3, .second, lv y5, .second, rv b1, iv y24, iv v44, lv y143, .second, iv y152, iv v174] [] _
        refine XS.iconst X51.here hx rfl (hb hby at_208) ?_
        exact kt
      obtain ⟨fs, hr, hrun, hended, hW, hsame⟩ := X51.leave (v := some (.int (1 : Int32))) (fun h => by rw [Bd.returns] at h; cases h)
      refine ⟨_, _, pre0 _ (pre6 _ (pre12 _ (pre40 _ (pre45 _ (pre52 _ ?_))))), hrun, hended, _, _, rfl, ?_, ⟨_, rfl⟩, hW, hsame.mono (by decide) (by decide)⟩
      · show oS p e below T51 m 209 #[lv x1, .second, lv x2, .second, lv x3, .second, lv y5, .second, rv b1, iv y24, iv v44, lv y143, .second, iv y152, iv v174] [(.int (1 : Int32))] _
        exact retN X51 hx (t := .boolean) Bd.returns (by simp) (hb hby at_209) hr
      · show Q0 Z x1 x2 x3 h0 n0 _ T51.heap _
        rw [eh51]
        exact ⟨rfl, N51⟩
    · obtain ⟨cq53, kq53, q53a, q53b, q53c⟩ := isOf hZ eh39 pf2_0
      obtain ⟨_, _, ⟨T53, Lw53, kw53, nw53⟩, -, X53, ⟨Lc53, hQ53, l53, y53, z53⟩, st53⟩ := X39.virtualBack hx (y := (⟨"com/example/ostiarius/ostiarius/MovingFactor$Counter", "used", "(J)Z"⟩ : MethodName)) (z := (⟨"com/example/ostiarius/ostiarius/MovingFactor$Counter", "used", "(J)Z"⟩ : MethodName)) hown (mvT hZ (own_w hw 17 rfl)) (mvT hZ (own_w hw 18 rfl)) (notFace_of_selects (args := #[]) (mvT hZ (own_w hw 20 rfl))) (mvT hZ (own_w hw 20 rfl)) (mvT hZ (own_w hw 19 rfl)) (by decide) (backOf (W := 0) (rm4 l Z a0 hw [] b1 (-1 : Int64) y5 T2.heap n0 Zc5 pf2_1) hZ (own_w hw 21 rfl) (own_w hw 3 rfl) (by decide) (by decide)) q53a q53c (g := (mkF m 109 #[lv x1, .second, lv x2, .second, lv x3, .second, lv y5, .second, rv b1, iv y24, iv v44, .unset, .unset, .unset, .unset] [(.long (-1 : Int64)), (.ref b1)])) rfl (by rw [hml]; rfl) (Steps.refl _) (argsL := [(.long (-1 : Int64))]) (rest := []) (lenOf own_pd2 rfl) rfl (by show 2 * 0 + _ ≤ _; exact Nat.le_of_eq rfl) (hb hby at_109) (fun _ _ => ⟨rfl, eh39, (by decide : 1 + 0 ≤ _), (by decide : 1 + 0 ≤ _)⟩)
      dsimp only [Pt.U, Pt.locs, Pt.cells, Pt.slots] at X53 l53 y53 z53 st53 hQ53
      subst l53 y53 z53
      obtain ⟨rfl, Nq53, eh53⟩ := hQ53
      have N53 := Fr.app N39 Nq53
      obtain ⟨cq54, kq54, q54a, q54b, q54c⟩ := isOf hZ eh53 pf2_0
      obtain ⟨_, _, ⟨T54, Lw54, kw54, nw54⟩, -, X54, ⟨Lc54, hQ54, l54, y54, z54⟩, st54⟩ := X53.virtualBack hx (y := (⟨"com/example/ostiarius/ostiarius/MovingFactor$Counter", "used", "(J)Z"⟩ : MethodName)) (z := (⟨"com/example/ostiarius/ostiarius/MovingFactor$Counter", "used", "(J)Z"⟩ : MethodName)) hown (mvT hZ (own_w hw 17 rfl)) (mvT hZ (own_w hw 18 rfl)) (notFace_of_selects (args := #[]) (mvT hZ (own_w hw 20 rfl))) (mvT hZ (own_w hw 20 rfl)) (mvT hZ (own_w hw 19 rfl)) (by decide) (backOf (W := 0) (rm4 l Z a0 hw [] b1 (-9223372036854775808 : Int64) y5 T2.heap n0 Zc5 pf2_1) hZ (own_w hw 21 rfl) (own_w hw 3 rfl) (by decide) (by decide)) q54a q54c (g := (mkF m 122 #[lv x1, .second, lv x2, .second, lv x3, .second, lv y5, .second, rv b1, iv y24, iv v44, .unset, .unset, .unset, .unset] [(.long (-9223372036854775808 : Int64)), (.ref b1)])) rfl (by rw [hml]; rfl) (Steps.refl _) (argsL := [(.long (-9223372036854775808 : Int64))]) (rest := []) (lenOf own_pd2 rfl) rfl (by show 2 * 0 + _ ≤ _; exact Nat.le_of_eq rfl) (hb hby at_122) (fun _ _ => ⟨rfl, eh53, (by decide : 1 + 0 ≤ _), (by decide : 1 + 0 ≤ _)⟩)
      dsimp only [Pt.U, Pt.locs, Pt.cells, Pt.slots] at X54 l54 y54 z54 st54 hQ54
      subst l54 y54 z54
      obtain ⟨rfl, Nq54, eh54⟩ := hQ54
      have N54 := Fr.app N53 Nq54
      obtain ⟨y143, hy143⟩ : ∃ z, z = (y5 + ((x3 &&& (7 : Int64)) - (4 : Int64))) := ⟨_, rfl⟩
      obtain ⟨cq55, kq55, q55a, q55b, q55c⟩ := isOf hZ eh54 pf2_0
      obtain ⟨_, _, ⟨T55, Lw55, kw55, nw55⟩, -, X55, ⟨Lc55, hQ55, l55, y55, z55⟩, st55⟩ := X54.virtualBack hx (y := (⟨"com/example/ostiarius/ostiarius/MovingFactor$Counter", "used", "(J)Z"⟩ : MethodName)) (z := (⟨"com/example/ostiarius/ostiarius/MovingFactor$Counter", "used", "(J)Z"⟩ : MethodName)) hown (mvT hZ (own_w hw 17 rfl)) (mvT hZ (own_w hw 18 rfl)) (notFace_of_selects (args := #[]) (mvT hZ (own_w hw 20 rfl))) (mvT hZ (own_w hw 20 rfl)) (mvT hZ (own_w hw 19 rfl)) (by decide) (backOf (W := 0) (rm4 l Z a0 hw [] b1 y143 y5 T2.heap n0 Zc5 pf2_1) hZ (own_w hw 21 rfl) (own_w hw 3 rfl) (by decide) (by decide)) q55a q55c (g := (mkF m 149 #[lv x1, .second, lv x2, .second, lv x3, .second, lv y5, .second, rv b1, iv y24, iv v44, lv y143, .second, .unset, .unset] [(.long y143), (.ref b1)])) rfl (by rw [hml]; rfl) (Steps.refl _) (argsL := [(.long y143)]) (rest := []) (lenOf own_pd2 rfl) rfl (by show 2 * 0 + _ ≤ _; exact Nat.le_of_eq rfl) (hb hby at_149) (fun _ _ => ⟨rfl, eh54, (by decide : 1 + 0 ≤ _), (by decide : 1 + 0 ≤ _)⟩)
      dsimp only [Pt.U, Pt.locs, Pt.cells, Pt.slots] at X55 l55 y55 z55 st55 hQ55
      subst l55 y55 z55
      obtain ⟨rfl, Nq55, eh55⟩ := hQ55
      have N55 := Fr.app N54 Nq55
      obtain ⟨y152, hy152⟩ : ∃ z, z = (if y143 < (0 : Int64) then (0 : Int32) else (if y143 < y5 then (1 : Int32) else (0 : Int32))) := ⟨_, rfl⟩
      have pre56 : ∀ tz, oS p e below T55 m 158 #[lv x1, .second, lv x2, .second, lv x3, .second, lv y5, .second, rv b1, iv y24, iv v44, lv y143, .second, iv y152, .unset] [(.int (lcmpW y143 (0 : Int64)))] tz → oS p e below T39 m 87 #[lv x1, .second, lv x2, .second, lv x3, .second, lv y5, .second, rv b1, iv y24, iv v44, .unset, .unset, .unset, .unset] [(.int (lcmpW y5 (0 : Int64)))] tz := fun tz kt => by
        show oS p e below T39 m 87 #[lv x1, .second, lv x2, .second, lv x3, .second, lv y5, .second, rv b1, iv y24, iv v44, .unset, .unset, .unset, .unset] [(.int (lcmpW y5 (0 : Int64)))] _
        refine XS.ifYes X39.here hx rfl (pc0 := 87) (pc' := 104) rfl (hb hby at_87) rfl ((if0 _ _).trans (flt (fun q => hc87 ((lw_gt y5 (0 : Int64)).mp q))).2.2.2) (by decide) (by decide) ?_
        refine XS.aload X39.here hx rfl (hb hby at_104) rfl rfl ?_
        refine X39.ldc2Long hx hown (mvT hZ (own_w hw 27 rfl)) (g := (mkF m 106 #[lv x1, .second, lv x2, .second, lv x3, .second, lv y5, .second, rv b1, iv y24, iv v44, .unset, .unset, .unset, .unset] [(.ref b1)])) rfl (hb hby at_106) _ ?_
        show oS p e below T39 m 109 #[lv x1, .second, lv x2, .second, lv x3, .second, lv y5, .second, rv b1, iv y24, iv v44, .unset, .unset, .unset, .unset] [(.long (-1 : Int64)), (.ref b1)] _
        refine st53.trans ?_
        rw [((if_pos (by decide : (-1 : Int64) < (0 : Int64))) : (if (-1 : Int64) < (0 : Int64) then (0 : Int32) else (if (-1 : Int64) < y5 then (1 : Int32) else (0 : Int32))) = (0 : Int32))]
        show oS p e below T53 m 112 #[lv x1, .second, lv x2, .second, lv x3, .second, lv y5, .second, rv b1, iv y24, iv v44, .unset, .unset, .unset, .unset] [(.int (0 : Int32))] _
        refine XS.ifYes X53.here hx rfl (pc0 := 112) (pc' := 117) rfl (hb hby at_112) rfl ((if0 _ _).trans (teq (by decide : ((0 : Int32) = (0 : Int32)))).1) (by decide) (by decide) ?_
        refine XS.aload X53.here hx rfl (hb hby at_117) rfl rfl ?_
        refine X53.ldc2Long hx hown (mvT hZ (own_w hw 28 rfl)) (g := (mkF m 119 #[lv x1, .second, lv x2, .second, lv x3, .second, lv y5, .second, rv b1, iv y24, iv v44, .unset, .unset, .unset, .unset] [(.ref b1)])) rfl (hb hby at_119) _ ?_
        show oS p e below T53 m 122 #[lv x1, .second, lv x2, .second, lv x3, .second, lv y5, .second, rv b1, iv y24, iv v44, .unset, .unset, .unset, .unset] [(.long (-9223372036854775808 : Int64)), (.ref b1)] _
        refine st54.trans ?_
        rw [((if_pos (by decide : (-9223372036854775808 : Int64) < (0 : Int64))) : (if (-9223372036854775808 : Int64) < (0 : Int64) then (0 : Int32) else (if (-9223372036854775808 : Int64) < y5 then (1 : Int32) else (0 : Int32))) = (0 : Int32))]
        show oS p e below T54 m 125 #[lv x1, .second, lv x2, .second, lv x3, .second, lv y5, .second, rv b1, iv y24, iv v44, .unset, .unset, .unset, .unset] [(.int (0 : Int32))] _
        refine XS.ifYes X54.here hx rfl (pc0 := 125) (pc' := 130) rfl (hb hby at_125) rfl ((if0 _ _).trans (teq (by decide : ((0 : Int32) = (0 : Int32)))).1) (by decide) (by decide) ?_
        refine XS.lload X54.here hx rfl (hb hby at_130) rfl ?_
        refine XS.lload X54.here hx rfl (hb hby at_132) rfl ?_
        refine X54.ldc2Long hx hown (mvT hZ (own_w hw 29 rfl)) (g := (mkF m 134 #[lv x1, .second, lv x2, .second, lv x3, .second, lv y5, .second, rv b1, iv y24, iv v44, .unset, .unset, .unset, .unset] [(.long x3), (.long y5)])) rfl (hb hby at_134) _ ?_
        show oS p e below T54 m 137 #[lv x1, .second, lv x2, .second, lv x3, .second, lv y5, .second, rv b1, iv y24, iv v44, .unset, .unset, .unset, .unset] [(.long (7 : Int64)), (.long x3), (.long y5)] _
        refine XS.land X54.here hx rfl (hb hby at_137) rfl ?_
        refine X54.ldc2Long hx hown (mvT hZ (own_w hw 30 rfl)) (g := (mkF m 138 #[lv x1, .second, lv x2, .second, lv x3, .second, lv y5, .second, rv b1, iv y24, iv v44, .unset, .unset, .unset, .unset] [(.long (x3 &&& (7 : Int64))), (.long y5)])) rfl (hb hby at_138) _ ?_
        refine XS.lsub X54.here hx rfl (hb hby at_141) rfl ?_
        refine XS.ladd X54.here hx rfl (hb hby at_142) rfl ?_
        show oS p e below T54 m 143 #[lv x1, .second, lv x2, .second, lv x3, .second, lv y5, .second, rv b1, iv y24, iv v44, .unset, .unset, .unset, .unset] [(.long (y5 + ((x3 &&& (7 : Int64)) - (4 : Int64))))] _
        refine XS.lstore X54.here hx rfl (hb hby at_143) rfl (l' := #[lv x1, .second, lv x2, .second, lv x3, .second, lv y5, .second, rv b1, iv y24, iv v44, lv y143, .second, .unset, .unset]) (by rw [hy143]; rfl) ?_
        refine XS.aload X54.here hx rfl (hb hby at_145) rfl rfl ?_
        refine XS.lload X54.here hx rfl (hb hby at_147) rfl ?_
        show oS p e below T54 m 149 #[lv x1, .second, lv x2, .second, lv x3, .second, lv y5, .second, rv b1, iv y24, iv v44, lv y143, .second, .unset, .unset] [(.long y143), (.ref b1)] _
        refine st55.trans ?_
        refine XS.istore X55.here hx rfl (hb hby at_152) rfl (l' := #[lv x1, .second, lv x2, .second, lv x3, .second, lv y5, .second, rv b1, iv y24, iv v44, lv y143, .second, iv y152, .unset]) (by rw [hy152]; rfl) ?_
        refine XS.lload X55.here hx rfl (hb hby at_154) rfl ?_
        refine XS.lconst X55.here hx rfl (hb hby at_156) ?_
        show oS p e below T55 m 157 #[lv x1, .second, lv x2, .second, lv x3, .second, lv y5, .second, rv b1, iv y24, iv v44, lv y143, .second, iv y152, .unset] [(.long (0 : Int64)), (.long y143)] _
        refine XS.lcmp X55.here hx rfl (hb hby at_157) rfl ?_
        exact kt
      obtain ⟨v174, T61, Lj61, jv61, N61, X61, e61, st61⟩ := own_join (α := Int32) X55 N55 eh55 (mkF m 158 #[lv x1, .second, lv x2, .second, lv x3, .second, lv y5, .second, rv b1, iv y24, iv v44, lv y143, .second, iv y152, .unset] [(.int (lcmpW y143 (0 : Int64)))]) (fun v => (mkF m 174 #[lv x1, .second, lv x2, .second, lv x3, .second, lv y5, .second, rv b1, iv y24, iv v44, lv y143, .second, iv y152, .unset] [(.int v)])) (fun v => v = (if y143 < (0 : Int64) then (0 : Int32) else (if y143 < y5 then (1 : Int32) else (0 : Int32)))) (by
          by_cases hc158 : y143 < (0 : Int64)
          · have pre57 : ∀ tz, oS p e below T55 m 174 #[lv x1, .second, lv x2, .second, lv x3, .second, lv y5, .second, rv b1, iv y24, iv v44, lv y143, .second, iv y152, .unset] [(.int (0 : Int32))] tz → oS p e below T55 m 158 #[lv x1, .second, lv x2, .second, lv x3, .second, lv y5, .second, rv b1, iv y24, iv v44, lv y143, .second, iv y152, .unset] [(.int (lcmpW y143 (0 : Int64)))] tz := fun tz kt => by
              show oS p e below T55 m 158 #[lv x1, .second, lv x2, .second, lv x3, .second, lv y5, .second, rv b1, iv y24, iv v44, lv y143, .second, iv y152, .unset] [(.int (lcmpW y143 (0 : Int64)))] _
              refine XS.ifYes X55.here hx rfl (pc0 := 158) (pc' := 173) rfl (hb hby at_158) rfl ((if0 _ _).trans (tlt ((lw_lt y143 (0 : Int64)).mpr hc158)).1) (by decide) (by decide) ?_
              refine XS.iconst X55.here hx rfl (hb hby at_173) ?_
              exact kt
            exact ⟨(0 : Int32), T55, _, (by rw [if_pos hc158]), N55, X55, eh55, fun tz kt => (pre57 _ kt)⟩
          · have pre58 : ∀ tz, oS p e below T55 m 166 #[lv x1, .second, lv x2, .second, lv x3, .second, lv y5, .second, rv b1, iv y24, iv v44, lv y143, .second, iv y152, .unset] [(.int (lcmpW y143 y5))] tz → oS p e below T55 m 158 #[lv x1, .second, lv x2, .second, lv x3, .second, lv y5, .second, rv b1, iv y24, iv v44, lv y143, .second, iv y152, .unset] [(.int (lcmpW y143 (0 : Int64)))] tz := fun tz kt => by
              show oS p e below T55 m 158 #[lv x1, .second, lv x2, .second, lv x3, .second, lv y5, .second, rv b1, iv y24, iv v44, lv y143, .second, iv y152, .unset] [(.int (lcmpW y143 (0 : Int64)))] _
              refine XS.ifNo X55.here hx rfl (hb hby at_158) rfl ((if0 _ _).trans (flt (fun q => hc158 ((lw_lt y143 (0 : Int64)).mp q))).1) ?_
              refine XS.lload X55.here hx rfl (hb hby at_161) rfl ?_
              refine XS.lload X55.here hx rfl (hb hby at_163) rfl ?_
              refine XS.lcmp X55.here hx rfl (hb hby at_165) rfl ?_
              exact kt
            by_cases hc166 : y143 < y5
            · have pre59 : ∀ tz, oS p e below T55 m 174 #[lv x1, .second, lv x2, .second, lv x3, .second, lv y5, .second, rv b1, iv y24, iv v44, lv y143, .second, iv y152, .unset] [(.int (1 : Int32))] tz → oS p e below T55 m 166 #[lv x1, .second, lv x2, .second, lv x3, .second, lv y5, .second, rv b1, iv y24, iv v44, lv y143, .second, iv y152, .unset] [(.int (lcmpW y143 y5))] tz := fun tz kt => by
                show oS p e below T55 m 166 #[lv x1, .second, lv x2, .second, lv x3, .second, lv y5, .second, rv b1, iv y24, iv v44, lv y143, .second, iv y152, .unset] [(.int (lcmpW y143 y5))] _
                refine XS.ifNo X55.here hx rfl (hb hby at_166) rfl ((if0 _ _).trans (tlt ((lw_lt y143 y5).mpr hc166)).2.1) ?_
                refine XS.iconst X55.here hx rfl (hb hby at_169) ?_
                refine XS.goto X55.here hx rfl (pc0 := 170) (pc' := 174) rfl (hb hby at_170) (by decide) (by decide) ?_
                exact kt
              exact ⟨(1 : Int32), T55, _, (by rw [if_neg hc158, if_pos hc166]), N55, X55, eh55, fun tz kt => (pre58 _ (pre59 _ kt))⟩
            · have pre60 : ∀ tz, oS p e below T55 m 174 #[lv x1, .second, lv x2, .second, lv x3, .second, lv y5, .second, rv b1, iv y24, iv v44, lv y143, .second, iv y152, .unset] [(.int (0 : Int32))] tz → oS p e below T55 m 166 #[lv x1, .second, lv x2, .second, lv x3, .second, lv y5, .second, rv b1, iv y24, iv v44, lv y143, .second, iv y152, .unset] [(.int (lcmpW y143 y5))] tz := fun tz kt => by
                show oS p e below T55 m 166 #[lv x1, .second, lv x2, .second, lv x3, .second, lv y5, .second, rv b1, iv y24, iv v44, lv y143, .second, iv y152, .unset] [(.int (lcmpW y143 y5))] _
                refine XS.ifYes X55.here hx rfl (pc0 := 166) (pc' := 173) rfl (hb hby at_166) rfl ((if0 _ _).trans (flt (fun q => hc166 ((lw_lt y143 y5).mp q))).2.1) (by decide) (by decide) ?_
                refine XS.iconst X55.here hx rfl (hb hby at_173) ?_
                exact kt
              exact ⟨(0 : Int32), T55, _, (by rw [if_neg hc158, if_neg hc166]), N55, X55, eh55, fun tz kt => (pre58 _ (pre60 _ kt))⟩)
      have hv174 : v174 = (if y143 < (0 : Int64) then (0 : Int32) else (if y143 < y5 then (1 : Int32) else (0 : Int32))) := jv61
      have hc180 : y152 = v174 := Classical.byContradiction fun hc180 => by
        exact hc180 (hy152.trans hv174.symm)
      obtain ⟨cq62, kq62, q62a, q62b, q62c⟩ := isOf hZ e61 pf2_0
      obtain ⟨_, _, ⟨T62, Lw62, kw62, nw62⟩, -, X62, ⟨Lc62, hQ62, l62, y62, z62⟩, st62⟩ := X61.virtualBack hx (y := (⟨"com/example/ostiarius/ostiarius/MovingFactor$Counter", "used", "(J)Z"⟩ : MethodName)) (z := (⟨"com/example/ostiarius/ostiarius/MovingFactor$Counter", "used", "(J)Z"⟩ : MethodName)) hown (mvT hZ (own_w hw 17 rfl)) (mvT hZ (own_w hw 18 rfl)) (notFace_of_selects (args := #[]) (mvT hZ (own_w hw 20 rfl))) (mvT hZ (own_w hw 20 rfl)) (mvT hZ (own_w hw 19 rfl)) (by decide) (backOf (W := 0) (rm4 l Z a0 hw [] b1 (0 : Int64) y5 T2.heap n0 Zc5 pf2_1) hZ (own_w hw 21 rfl) (own_w hw 3 rfl) (by decide) (by decide)) q62a q62c (g := (mkF m 188 #[lv x1, .second, lv x2, .second, lv x3, .second, lv y5, .second, rv b1, iv y24, iv v44, lv y143, .second, iv y152, iv v174] [(.long (0 : Int64)), (.ref b1)])) rfl (by rw [hml]; rfl) (Steps.refl _) (argsL := [(.long (0 : Int64))]) (rest := []) (lenOf own_pd2 rfl) rfl (by show 2 * 0 + _ ≤ _; exact Nat.le_of_eq rfl) (hb hby at_188) (fun _ _ => ⟨rfl, e61, (by decide : 1 + 0 ≤ _), (by decide : 1 + 0 ≤ _)⟩)
      dsimp only [Pt.U, Pt.locs, Pt.cells, Pt.slots] at X62 l62 y62 z62 st62 hQ62
      subst l62 y62 z62
      obtain ⟨rfl, Nq62, eh62⟩ := hQ62
      have N62 := Fr.app N61 Nq62
      have hc203 : (if (0 : Int64) < (0 : Int64) then (0 : Int32) else (if (0 : Int64) < y5 then (1 : Int32) else (0 : Int32))) = (0 : Int32) := Classical.byContradiction fun hc203 => by
        exact hc203 ((own_d _).trans (by first | exact if_pos hc87 | exact if_neg hc87))
      have pre63 : ∀ tz, oS p e below T62 m 209 #[lv x1, .second, lv x2, .second, lv x3, .second, lv y5, .second, rv b1, iv y24, iv v44, lv y143, .second, iv y152, iv v174] [(.int (1 : Int32))] tz → oS p e below T55 m 158 #[lv x1, .second, lv x2, .second, lv x3, .second, lv y5, .second, rv b1, iv y24, iv v44, lv y143, .second, iv y152, .unset] [(.int (lcmpW y143 (0 : Int64)))] tz := fun tz kt => by
        show oS p e below T55 m 158 #[lv x1, .second, lv x2, .second, lv x3, .second, lv y5, .second, rv b1, iv y24, iv v44, lv y143, .second, iv y152, .unset] [(.int (lcmpW y143 (0 : Int64)))] _
        refine st61 _ ?_
        refine XS.istore X61.here hx rfl (hb hby at_174) rfl (l' := #[lv x1, .second, lv x2, .second, lv x3, .second, lv y5, .second, rv b1, iv y24, iv v44, lv y143, .second, iv y152, iv v174]) rfl ?_
        refine XS.iload X61.here hx rfl (hb hby at_176) rfl ?_
        refine XS.iload X61.here hx rfl (hb hby at_178) rfl ?_
        show oS p e below T61 m 180 #[lv x1, .second, lv x2, .second, lv x3, .second, lv y5, .second, rv b1, iv y24, iv v44, lv y143, .second, iv y152, iv v174] [(.int v174), (.int y152)] _
        refine XS.icmpYes X61.here hx rfl (pc0 := 180) (pc' := 185) rfl (hb hby at_180) rfl (teq hc180).1 (by decide) (by decide) ?_
        refine XS.aload X61.here hx rfl (hb hby at_185) rfl rfl ?_
        refine XS.lconst X61.here hx rfl (hb hby at_187) ?_
        show oS p e below T61 m 188 #[lv x1, .second, lv x2, .second, lv x3, .second, lv y5, .second, rv b1, iv y24, iv v44, lv y143, .second, iv y152, iv v174] [(.long (0 : Int64)), (.ref b1)] _
        refine st62.trans ?_
        refine XS.lload X62.here hx rfl (hb hby at_191) rfl ?_
        refine XS.lconst X62.here hx rfl (hb hby at_193) ?_
        refine XS.lcmp X62.here hx rfl (hb hby at_194) rfl ?_
        show oS p e below T62 m 195 #[lv x1, .second, lv x2, .second, lv x3, .second, lv y5, .second, rv b1, iv y24, iv v44, lv y143, .second, iv y152, iv v174] [(.int (lcmpW y5 (0 : Int64))), (.int (if (0 : Int64) < (0 : Int64) then (0 : Int32) else (if (0 : Int64) < y5 then (1 : Int32) else (0 : Int32))))] _
        refine XS.ifYes X62.here hx rfl (pc0 := 195) (pc' := 202) rfl (hb hby at_195) rfl ((if0 _ _).trans (flt (fun q => hc87 ((lw_gt y5 (0 : Int64)).mp q))).2.2.2) (by decide) (by decide) ?_
        refine XS.iconst X62.here hx rfl (hb hby at_202) ?_
        refine XS.icmpYes X62.here hx rfl (pc0 := 203) (pc' := 208) rfl (hb hby at_203) rfl (teq hc203).1 (by decide) (by decide) ?_
        refine XS.iconst X62.here hx rfl (hb hby at_208) ?_
        exact kt
      obtain ⟨fs, hr, hrun, hended, hW, hsame⟩ := X62.leave (v := some (.int (1 : Int32))) (fun h => by rw [Bd.returns] at h; cases h)
      refine ⟨_, _, pre0 _ (pre6 _ (pre12 _ (pre40 _ (pre56 _ (pre63 _ ?_))))), hrun, hended, _, _, rfl, ?_, ⟨_, rfl⟩, hW, hsame.mono (by decide) (by decide)⟩
      · show oS p e below T62 m 209 #[lv x1, .second, lv x2, .second, lv x3, .second, lv y5, .second, rv b1, iv y24, iv v44, lv y143, .second, iv y152, iv v174] [(.int (1 : Int32))] _
        exact retN X62 hx (t := .boolean) Bd.returns (by simp) (hb hby at_209) hr
      · show Q0 Z x1 x2 x3 h0 n0 _ T62.heap _
        rw [eh62]
        exact ⟨rfl, N62⟩
set_option maxRecDepth 65536 in
set_option maxHeartbeats 40000000 in
theorem comes_1 {Post : Tables → Env → Array Value → State → Outcome → State → Prop} (hpost : ∀ tb e args s v u, (limb_1_1.after args s (.returned v) u = true ∧ limb_1_2.after args s (.returned v) u = true ∧ True) → FrameEnd s (.returned v) u (Jvm.fieldLocs frame_1_writes args s ++ Jvm.arrayLocs frame_1_arrays args s ++ Jvm.staticLocs frame_1_statics s) 16 128 → Post tb e args s (.returned v) u) :
    ArmFor flags0 classFile x code maxLocals ret World_1 tables_1 room_1 Calls_1 rest_1 Pre_1 Post := by
  intro l hfl _ _ p e ha hc hk s m args below hf hA hF happ hP
  obtain ⟨hcalls, hrest, hpre⟩ := hP
  obtain ⟨-, -, -, hnamed, -, -, -, hat⟩ := (Spec.applies_iff hf).mp happ
  obtain ⟨hg, hn⟩ := and_e (Cond.before_iff.mp (show (Jvm.Cond.and given_1 narrow_1).before args s = true from hpre))
  obtain ⟨gc, gr0⟩ := and_e hg
  obtain ⟨ga0, gr1⟩ := and_e gr0
  obtain ⟨ga1, gr2⟩ := and_e gr1
  have ga2 := gr2
  obtain ⟨w0, w1, w2, rfl⟩ : ∃ w0 w1 w2 : Value, args = #[w0, w1, w2] := by
    have hs : args.size = 3 := by simpa [Cond.value, given_1] using gc
    obtain ⟨L⟩ := args
    match L, hs with
    | [w0, w1, w2], _ => exact ⟨w0, w1, w2, rfl⟩
  have hw := fun d (hd : d ∈ tables_1) => atoms_spec (ws := Jvm.Cond.code x code maxLocals ret :: tables_1) hat d (List.mem_cons_of_mem _ hd)
  obtain ⟨i0, ei0⟩ := isL_v ga0
  obtain rfl : w0 = (.long i0) := Option.some.inj ei0
  obtain ⟨i1, ei1⟩ := isL_v ga1
  obtain rfl : w1 = (.long i1) := Option.some.inj ei1
  obtain ⟨i2, ei2⟩ := isL_v ga2
  obtain rfl : w2 = (.long i2) := Option.some.inj ei2
  obtain ⟨n, o, h1, h2, h3, _, L, rfl, ⟨rfl, N⟩, hq⟩ := rm0 l s _ hw tables_1 i0 i1 i2 s.heap s.heap.size (Nat.le_refl _)  p e ha hc hk s m _ below hf ((Spec.applies_iff_loose hf).mp happ).1 ⟨rfl, State.Warmed39.refl s, rfl⟩ trivial
  refine ⟨n, _, h1, h2, h3, hpost _ _ _ _ _ _ ⟨Cond.after_iff.mpr rfl, Cond.after_iff.mpr (eq_i res_at (Term.int_eval (1)) rfl), trivial⟩ ⟨hq.1, hq.2.1, (hq.2.2.sift fun y hy => Or.inr (N y hy)).mono (by decide) (by decide)⟩⟩
theorem main_1_1 : Claimed_1_1 := comes_1 fun _ _ _ _ _ _ h hF => ⟨h.1, hF⟩
theorem main_1_2 : Claimed_1_2 := comes_1 fun _ _ _ _ _ _ h hF => ⟨h.2.1, hF⟩
end Jvm.Pilot.@@N@@
namespace Jvm.Pilot.@@N@@
open Jvm Jvm.ClassFile Sem Op Lib Jvm.Free Jvm.Stand Jvm.Pilot.@@N@@.Jvm.D
/-! MADE BY PROGRAM (witnessworld.py) out of the Statement's table words and the real class files: 11 classes; the members and pool entries that the words name. The judged class is class 1, her method 1. -/
namespace start1
open Jvm.ClassFile
def u (s : String) : CpInfo := .utf8 (stringToUtf16 s)
/-- a pool by its gaps: so many unusable entries, then the entry; so many at the end -/
def gap : Nat → List CpInfo → List CpInfo
  | 0, r => r
  | n + 1, r => .unusable :: gap n r
def poolList (es : List (Nat × CpInfo)) (last : Nat) : List CpInfo := es.foldr (fun e r => gap e.1 (e.2 :: r)) (gap last [])
def pool (es : List (Nat × CpInfo)) (last : Nat) : Array CpInfo := ⟨poolList es last⟩
def fileOf (pool : Array CpInfo) (this : Nat) (attrs : Array Attribute := #[]) (ms : Array MethodInfo := #[]) (fl : Nat := 33) (sup : Nat := 0) (ifs : Array Nat := #[]) (fds : Array FieldInfo := #[]) : ClassFile where
  minorVersion := 0
  majorVersion := 65
  constantPool := pool
  accessFlags := fl
  thisClass := this
  superClass := sup
  interfaces := ifs
  fields := fds
  methods := ms
  attributes := attrs
def plain (name : String) (sup : Option ClassId) : Class where
  name := name
  kind := .ordinary
  loader := none
  accessFlags := 33
  super := sup
  interfaces := #[]
  cf := none
  fields := #[]
  methods := #[]
  instanceTypes := #[]
  staticTypes := #[]
  resolved := #[]
  callSites := []
  init := .initialized
  statics := none
  mirror := none

def pool0 : Array CpInfo := pool [(5, u "<init>"), (0, u "()V"), (1, .class_ 10), (1, u "java/lang/Object")] 113

def k0c0 : Code := { maxStack := 0, maxLocals := 1, code := object_method_1_code, exceptionTable := #[], attributes := #[] }
def k0m0 : Method := { name := "<init>", desc := "()V", sig := { parameters := [], returnType := none }, accessFlags := 1, code := some k0c0 }
/-- java/lang/Object -/
def k0 : Class := { plain "java/lang/Object" none with
  accessFlags := 33
  interfaces := #[]
  cf := some (fileOf pool0 8 #[] #[{ accessFlags := 1, nameIndex := 5, descriptorIndex := 6, attributes := #[] }] 33 0 #[] #[])
  fields := #[]
  methods := #[k0m0]
  instanceTypes := #[]
  staticTypes := #[]
  resolved := Array.replicate 124 none
  statics := none }

def pool1 : Array CpInfo := pool [(2, .class_ 4), (1, u "java/lang/Object"), (0, u "<init>"), (0, u "()V"), (2, .long 9223372036854775807), (1, .class_ 12), (0, u "com/example/ostiarius/ostiarius/MovingFactor$Counter"), (0, .methodref 11 14), (0, .nameAndType 5 15), (0, u "(J)V"), (0, .methodref 11 17), (0, .nameAndType 18 19), (0, u "used"), (0, u "(J)Z"), (0, .methodref 11 21), (0, .nameAndType 22 19), (0, u "unused"), (0, .long 18446744073709551615), (1, .long 9223372036854775808), (1, .long 7), (1, .long 4), (1, .class_ 32), (0, u "com/example/ostiarius/ostiarius/CounterUsedPinLaw"), (2, u "law"), (0, u "(JJJ)Z")] 7

def k1m0 : Method := { name := "<init>", desc := "()V", sig := { parameters := [], returnType := none }, accessFlags := 1, code := none }
def k1c1 : Code := { maxStack := 6, maxLocals := 15, code := code, exceptionTable := #[], attributes := #[] }
def k1m1 : Method := { name := "law", desc := "(JJJ)Z", sig := { parameters := [.long, .long, .long], returnType := some .boolean }, accessFlags := 9, code := some k1c1 }
/-- com/example/ostiarius/ostiarius/CounterUsedPinLaw -/
def k1 : Class := { plain "com/example/ostiarius/ostiarius/CounterUsedPinLaw" (some 0) with
  accessFlags := 49
  interfaces := #[]
  cf := some (fileOf pool1 31 #[] #[{ accessFlags := 1, nameIndex := 5, descriptorIndex := 6, attributes := #[] }, { accessFlags := 9, nameIndex := 35, descriptorIndex := 36, attributes := #[] }] 49 2 #[] #[])
  fields := #[]
  methods := #[k1m0, k1m1]
  instanceTypes := #[]
  staticTypes := #[]
  resolved := Array.replicate 44 none
  statics := none }

def pool2 : Array CpInfo := pool [(1, .methodref 2 3), (0, .class_ 4), (0, .nameAndType 5 6), (0, u "java/lang/Object"), (0, u "<init>"), (0, u "()V"), (0, .class_ 8), (0, u "java/lang/Record")] 13

def k2c0 : Code := { maxStack := 1, maxLocals := 1, code := jdk_30_method_1_code, exceptionTable := #[], attributes := #[] }
def k2m0 : Method := { name := "<init>", desc := "()V", sig := { parameters := [], returnType := none }, accessFlags := 4, code := some k2c0 }
/-- java/lang/Record -/
def k2 : Class := { plain "java/lang/Record" (some 0) with
  accessFlags := 1057
  interfaces := #[]
  cf := some (fileOf pool2 7 #[] #[{ accessFlags := 4, nameIndex := 5, descriptorIndex := 6, attributes := #[] }] 1057 2 #[] #[])
  fields := #[]
  methods := #[k2m0]
  instanceTypes := #[]
  staticTypes := #[]
  resolved := Array.replicate 22 none
  statics := none }

def pool3 : Array CpInfo := pool [(4, .class_ 6), (1, u "com/example/ostiarius/ostiarius/MovingFactor$1"), (14, .class_ 22), (0, u "com/example/ostiarius/ostiarius/MovingFactor$TimeSteps"), (3, .class_ 27), (0, u "com/example/ostiarius/ostiarius/MovingFactor$Counter"), (3, .class_ 32), (0, u "com/example/ostiarius/ostiarius/MovingFactor"), (2, .class_ 36), (0, u "java/lang/Object"), (0, u "NONE"), (0, u "J")] 32

/-- com/example/ostiarius/ostiarius/MovingFactor -/
def k3 : Class := { plain "com/example/ostiarius/ostiarius/MovingFactor" (some 0) with
  accessFlags := 1536
  interfaces := #[]
  cf := some (fileOf pool3 31 #[.nestMembers #[4, 26, 21]] #[] 1536 35 #[] #[{ accessFlags := 25, nameIndex := 37, descriptorIndex := 38, attributes := #[] }])
  fields := #[{ name := "NONE", type := .long, accessFlags := 25, slot := 0, constantValue := 0 }]
  methods := #[]
  instanceTypes := #[]
  staticTypes := #[.long]
  resolved := Array.replicate 71 none
  statics := none }

def pool4 : Array CpInfo := pool [(1, .methodref 2 3), (0, .class_ 4), (0, .nameAndType 5 6), (0, u "java/lang/Record"), (0, u "<init>"), (0, u "()V"), (9, .fieldref 17 18), (0, .class_ 19), (0, .nameAndType 20 21), (0, u "com/example/ostiarius/ostiarius/MovingFactor$Counter"), (0, u "counter"), (0, u "J"), (24, .long 9223372036854775807), (3, u "(J)V"), (14, .class_ 66), (0, u "com/example/ostiarius/ostiarius/MovingFactor"), (0, u "LOOK_AHEAD"), (0, u "I"), (2, u "RESYNC_VALUES"), (12, u "unused"), (0, u "(J)Z"), (0, u "used")] 48

def k4c0 : Code := { maxStack := 4, maxLocals := 3, code := prog_10_method_1_code, exceptionTable := #[], attributes := #[] }
def k4m0 : Method := { name := "<init>", desc := "(J)V", sig := { parameters := [.long], returnType := none }, accessFlags := 1, code := some k4c0 }
def k4c1 : Code := { maxStack := 4, maxLocals := 3, code := prog_10_method_6_code, exceptionTable := #[], attributes := #[] }
def k4m1 : Method := { name := "unused", desc := "(J)Z", sig := { parameters := [.long], returnType := some .boolean }, accessFlags := 1, code := some k4c1 }
def k4c2 : Code := { maxStack := 4, maxLocals := 3, code := prog_10_method_7_code, exceptionTable := #[], attributes := #[] }
def k4m2 : Method := { name := "used", desc := "(J)Z", sig := { parameters := [.long], returnType := some .boolean }, accessFlags := 1, code := some k4c2 }
/-- com/example/ostiarius/ostiarius/MovingFactor$Counter -/
def k4 : Class := { plain "com/example/ostiarius/ostiarius/MovingFactor$Counter" (some 2) with
  accessFlags := 49
  interfaces := #[3]
  cf := some (fileOf pool4 17 #[.nestHost 65] #[{ accessFlags := 1, nameIndex := 5, descriptorIndex := 50, attributes := #[] }, { accessFlags := 1, nameIndex := 84, descriptorIndex := 85, attributes := #[] }, { accessFlags := 1, nameIndex := 86, descriptorIndex := 85, attributes := #[] }] 49 2 #[65] #[{ accessFlags := 18, nameIndex := 20, descriptorIndex := 21, attributes := #[] }, { accessFlags := 24, nameIndex := 67, descriptorIndex := 68, attributes := #[] }, { accessFlags := 24, nameIndex := 71, descriptorIndex := 68, attributes := #[] }])
  fields := #[{ name := "counter", type := .long, accessFlags := 18, slot := 0, constantValue := 0 }, { name := "LOOK_AHEAD", type := .int, accessFlags := 24, slot := 0, constantValue := 0 }, { name := "RESYNC_VALUES", type := .int, accessFlags := 24, slot := 1, constantValue := 0 }]
  methods := #[k4m0, k4m1, k4m2]
  instanceTypes := #[.long]
  staticTypes := #[.int, .int]
  resolved := Array.replicate 135 none
  statics := none }

def pool5 : Array CpInfo := pool [(1, u "java/lang/Cloneable"), (0, .class_ 1), (0, u "java/lang/Object"), (0, .class_ 3)] 3

/-- java/lang/Cloneable -/
def k5 : Class := { plain "java/lang/Cloneable" (some 0) with
  accessFlags := 1537
  interfaces := #[]
  cf := some (fileOf pool5 2 #[] #[] 1537 4 #[] #[])
  fields := #[]
  methods := #[]
  instanceTypes := #[]
  staticTypes := #[]
  resolved := Array.replicate 8 none
  statics := none }

def pool6 : Array CpInfo := pool [(1, u "java/io/Serializable"), (0, .class_ 1), (0, u "java/lang/Object"), (0, .class_ 3)] 3

/-- java/io/Serializable -/
def k6 : Class := { plain "java/io/Serializable" (some 0) with
  accessFlags := 1537
  interfaces := #[]
  cf := some (fileOf pool6 2 #[] #[] 1537 4 #[] #[])
  fields := #[]
  methods := #[]
  instanceTypes := #[]
  staticTypes := #[]
  resolved := Array.replicate 8 none
  statics := none }

/-- the primitive byte -/
def k7 : Class := { plain "byte" none with kind := .primitive 'B', accessFlags := 0x411 }
/-- [B -/
def k8 : Class := { plain "[B" (some 0) with kind := .array 7 .byte, interfaces := #[5, 6], accessFlags := 1041 }

/-- the primitive int -/
def k9 : Class := { plain "int" none with kind := .primitive 'I', accessFlags := 0x411 }
/-- [I -/
def k10 : Class := { plain "[I" (some 0) with kind := .array 9 .int, interfaces := #[5, 6], accessFlags := 1041 }

def heap : Heap := #[]
def classes : Array Class := #[k0, k1, k2, k3, k4, k5, k6, k7, k8, k9, k10]
def interned : List (Array UInt16 × Addr) := []
def slotsUsed : Nat := 0
def theMethod : MethodId := ⟨1, 1⟩
def args0 : Array Value := #[.long 5, .long 6, .long 7]
def aboutOver (below : List Frame) : State where
  vm := { classes := classes, interned := interned.toArray }
  heap := heap
  slotsUsed := slotsUsed
  threads := #[{ frames := .invoking theMethod args0 :: below }]
def below0 : List Frame := [.native { method := ⟨0, 0⟩, args := #[] }]
def about1 : State := aboutOver below0
def p0 : Program := .bare "" "" ""
def e0 : Env := launch0.env 0 0 0
theorem w_frames : about1.frames = Frame.invoking theMethod args0 :: below0 := rfl
set_option maxRecDepth 65536 in
theorem w_args : argsFit about1.vm theMethod args0 = true := by decide +kernel
set_option maxRecDepth 65536 in
theorem w_heap : heapFits about1 = true := by decide +kernel
set_option maxRecDepth 65536 in
theorem w_runnable : about1.curStatus? = some .runnable := by decide +kernel
set_option maxRecDepth 65536 in
theorem w_alone : about1.alone = true := by decide +kernel
set_option maxRecDepth 65536 in
theorem w_named : about1.methodNamed? x = some theMethod := by decide +kernel
set_option maxRecDepth 65536 in
theorem w_hears : about1.hears theMethod below0 = true := by decide +kernel
set_option maxRecDepth 65536 in
theorem w_ripe : about1.ripe theMethod args0 below0 = true := by decide +kernel
theorem w_running : about1.status = .running := rfl
set_option maxRecDepth 65536 in
theorem w_room : about1.hasRoom e0.platform room_1 = true :=
  launch0.hasRoom_least _ room_1 (by decide +kernel) (by decide +kernel) (by decide +kernel) (by decide +kernel) (by decide +kernel) (by decide +kernel)
theorem allAtoms_all (ts : List Jvm.Cond) (a : Array Jvm.Value) (st : Jvm.State) : (allAtoms ts).before a st = ts.all (fun c => c.before a st) := by
  induction ts with
  | nil => rfl
  | cons c t ih =>
    show (Jvm.Cond.and c (allAtoms t)).before a st = _
    rw [Jvm.Cond.before_and, ih, List.all_cons]
def words1 : List Jvm.Cond := Jvm.Cond.code x code maxLocals ret :: tables_1
/-- a 'code' word, met by the world's own term for the bytes: nothing is compared byte by byte -/
theorem code_word {y : MethodName} {bytes : ByteArray} {mx : Nat} {rt : Option FieldType} {a : Array Value} {s : State} {m : MethodId} {meth : Method} {c : Code} (h1 : s.methodNamed? y = some m) (h2 : s.vm.method? m = some meth) (h3 : meth.code = some c) (h4 : c.code = bytes)
    (h5 : (c.maxLocals == mx && c.exceptionTable.isEmpty && decide (c.maxStack ≤ mostOperands) && decide (meth.sig.returnType = rt) && !meth.locks && decide (parseMethodDescriptor y.desc = some meth.sig)) = true) : (Jvm.Cond.code y bytes mx rt).before a s = true := by
  simp only [Bool.and_eq_true, beq_iff_eq, Bool.not_eq_true', decide_eq_true_eq] at h5
  obtain ⟨⟨⟨⟨⟨g1, g2⟩, g3⟩, g4⟩, g5⟩, g6⟩ := h5
  simp [Cond.before, Cond.holds, Cond.value, h1, h2, h3, h4, g1, g2, g3, g4, g5, g6]
def isCode : Jvm.Cond → Bool
  | .code _ _ _ _ => true
  | _ => false
theorem all_split {L : List Jvm.Cond} {P : Jvm.Cond → Bool} (h1 : L.all (fun c => isCode c || P c) = true) (h2 : ∀ c ∈ L.filter isCode, P c = true) : L.all P = true := by
  refine List.all_eq_true.mpr fun c hc => ?_
  have h := List.all_eq_true.mp h1 c hc
  rcases Bool.eq_false_or_eq_true (isCode c) with hi | hi
  · exact h2 c (List.mem_filter.mpr ⟨hc, hi⟩)
  · simpa [hi] using h
set_option maxRecDepth 65536 in
theorem w_c0 : (Jvm.Cond.code x code maxLocals ret).before args0 about1 = true := code_word (m := ⟨1, 1⟩) (meth := k1m1) (c := k1c1) (by decide +kernel) rfl rfl rfl (by decide +kernel)
set_option maxRecDepth 65536 in
theorem w_c1 : (Jvm.Cond.code ({ cls := "com/example/ostiarius/ostiarius/MovingFactor$Counter", name := "<init>", desc := "(J)V" } : Jvm.MethodName) prog_10_method_1_code (3 : Nat) (Option.none : Option Jvm.ClassFile.FieldType)).before args0 about1 = true := code_word (m := ⟨4, 0⟩) (meth := k4m0) (c := k4c0) (by decide +kernel) rfl rfl rfl (by decide +kernel)
set_option maxRecDepth 65536 in
theorem w_c2 : (Jvm.Cond.code ({ cls := "java/lang/Record", name := "<init>", desc := "()V" } : Jvm.MethodName) jdk_30_method_1_code (1 : Nat) (Option.none : Option Jvm.ClassFile.FieldType)).before args0 about1 = true := code_word (m := ⟨2, 0⟩) (meth := k2m0) (c := k2c0) (by decide +kernel) rfl rfl rfl (by decide +kernel)
set_option maxRecDepth 65536 in
theorem w_c3 : (Jvm.Cond.code ({ cls := "java/lang/Object", name := "<init>", desc := "()V" } : Jvm.MethodName) object_method_1_code (1 : Nat) (Option.none : Option Jvm.ClassFile.FieldType)).before args0 about1 = true := code_word (m := ⟨0, 0⟩) (meth := k0m0) (c := k0c0) (by decide +kernel) rfl rfl rfl (by decide +kernel)
set_option maxRecDepth 65536 in
theorem w_c4 : (Jvm.Cond.code ({ cls := "com/example/ostiarius/ostiarius/MovingFactor$Counter", name := "used", desc := "(J)Z" } : Jvm.MethodName) prog_10_method_7_code (3 : Nat) (Option.some Jvm.ClassFile.FieldType.boolean)).before args0 about1 = true := code_word (m := ⟨4, 2⟩) (meth := k4m2) (c := k4c2) (by decide +kernel) rfl rfl rfl (by decide +kernel)
set_option maxRecDepth 65536 in
theorem w_c5 : (Jvm.Cond.code ({ cls := "com/example/ostiarius/ostiarius/MovingFactor$Counter", name := "unused", desc := "(J)Z" } : Jvm.MethodName) prog_10_method_6_code (3 : Nat) (Option.some Jvm.ClassFile.FieldType.boolean)).before args0 about1 = true := code_word (m := ⟨4, 1⟩) (meth := k4m1) (c := k4c1) (by decide +kernel) rfl rfl rfl (by decide +kernel)
def codes1 : List Jvm.Cond := [Jvm.Cond.code x code maxLocals ret, Jvm.Cond.code ({ cls := "com/example/ostiarius/ostiarius/MovingFactor$Counter", name := "<init>", desc := "(J)V" } : Jvm.MethodName) prog_10_method_1_code (3 : Nat) (Option.none : Option Jvm.ClassFile.FieldType), Jvm.Cond.code ({ cls := "java/lang/Record", name := "<init>", desc := "()V" } : Jvm.MethodName) jdk_30_method_1_code (1 : Nat) (Option.none : Option Jvm.ClassFile.FieldType), Jvm.Cond.code ({ cls := "java/lang/Object", name := "<init>", desc := "()V" } : Jvm.MethodName) object_method_1_code (1 : Nat) (Option.none : Option Jvm.ClassFile.FieldType), Jvm.Cond.code ({ cls := "com/example/ostiarius/ostiarius/MovingFactor$Counter", name := "used", desc := "(J)Z" } : Jvm.MethodName) prog_10_method_7_code (3 : Nat) (Option.some Jvm.ClassFile.FieldType.boolean), Jvm.Cond.code ({ cls := "com/example/ostiarius/ostiarius/MovingFactor$Counter", name := "unused", desc := "(J)Z" } : Jvm.MethodName) prog_10_method_6_code (3 : Nat) (Option.some Jvm.ClassFile.FieldType.boolean)]
set_option maxRecDepth 65536 in
theorem codes_eq : words1.filter isCode = codes1 := rfl
theorem w_codes : ∀ c ∈ words1.filter isCode, c.before args0 about1 = true := by
  rw [codes_eq]
  intro c hc
  simp only [codes1, List.mem_cons, List.not_mem_nil, or_false] at hc
  rcases hc with rfl | rfl | rfl | rfl | rfl | rfl
  · exact w_c0
  · exact w_c1
  · exact w_c2
  · exact w_c3
  · exact w_c4
  · exact w_c5
set_option maxRecDepth 65536 in
theorem w_t1 : (words1.take 24).all (fun c => isCode c || c.before args0 about1) = true := by decide +kernel
set_option maxRecDepth 65536 in
theorem w_t2 : (words1.drop 24).all (fun c => isCode c || c.before args0 about1) = true := by decide +kernel
theorem w_tables : (allAtoms (Jvm.Cond.code x code maxLocals ret :: tables_1)).before args0 about1 = true := by
  rw [allAtoms_all]
  show words1.all (fun c => c.before args0 about1) = true
  refine all_split ?_ w_codes
  rw [← List.take_append_drop 24 words1, List.all_append, w_t1, w_t2]
  rfl
set_option maxRecDepth 65536 in
theorem w_case : (Jvm.Cond.and given_1 narrow_1).before args0 about1 = true := by decide +kernel
theorem w_applies : (headSpec (Jvm.Cond.code x code maxLocals ret :: tables_1) room_1).applies x e0.platform about1 = true :=
  (Spec.applies_iff w_frames).mpr ⟨w_running, w_runnable, w_alone, w_named, w_hears, w_ripe, w_room, w_tables⟩
theorem atStart : AtStart classFile x code maxLocals ret World_1 tables_1 room_1 Calls_1 rest_1 Pre_1 launch0 p0 e0 about1 theMethod args0 below0 :=
  ⟨lists_1, trivial, launch0.admits_env _ _ _, launch0.least_env, fairChoices_fair.cas, fairChoices_fair.clock, w_frames, w_args, w_heap, w_applies, trivial, trivial, w_case⟩
end start1
theorem witness_1 : WitnessClaimed_1 := ⟨start1.p0, start1.e0, start1.about1, start1.theMethod, start1.args0, start1.below0, start1.atStart⟩
end Jvm.Pilot.@@N@@
