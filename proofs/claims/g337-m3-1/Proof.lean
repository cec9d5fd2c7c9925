import JvmDerived
import JvmDerived.Pilot.@@N@@Statement
import JvmDerived.Pilot.@@N@@Code
set_option linter.unusedVariables false
set_option linter.unusedSimpArgs false
namespace Jvm.Pilot.@@N@@
open Jvm Jvm.ClassFile Sem Op Lib Jvm.Free Jvm.Stand Jvm.LawKit Jvm.RoadKit Bundle Jvm.Pilot.@@N@@.Jvm.D
theorem own_w {a0 : Array Value} {Z : State} (hw : ∀ d ∈ tables_1, d.before a0 Z = true) (i : Nat) {d : Jvm.Cond} (h : tables_1[i]? = some d) : d.before a0 Z = true := hw _ (List.mem_of_getElem? h)
abbrev oS (p : Program) (e : Env) (b : List Frame) (T : State) (m : MethodId) (pc : Nat) (L : Array Slot) (S : List Value) (t : State) : Prop := Steps p.tables e b (T.setTop (mkF m pc L S)) t
abbrev lv (x : Int64) : Slot := .val (.long x)
theorem own_join {α : Type} {p : Program} {l : Launch} {e : Env} {R : Room} {s : State} {m : MethodId} {args : Array Value} {below : List Frame} {meth : Method} {c : Code} {T : State} {locs : List Loc} {cells slots n0 : Nat} {h : Heap}
    (_ : Stand p l e R s m args below meth c T locs cells slots) (_ : Fr n0 locs) (_ : T.heap = h) (A : JFrame) (B : α → JFrame) (P : α → Prop)
    (k : ∃ (v : α) (T' : State) (locs' : List Loc), P v ∧ Fr n0 locs' ∧ Stand p l e R s m args below meth c T' locs' cells slots ∧ T'.heap = h ∧ ∀ t, Steps p.tables e below (T'.setTop (B v)) t → Steps p.tables e below (T.setTop A) t) :
    ∃ (v : α) (T' : State) (locs' : List Loc), P v ∧ Fr n0 locs' ∧ Stand p l e R s m args below meth c T' locs' cells slots ∧ T'.heap = h ∧ ∀ t, Steps p.tables e below (T'.setTop (B v)) t → Steps p.tables e below (T.setTop A) t := k
theorem own_joinH {α : Type} {p : Program} {l : Launch} {e : Env} {R : Room} {s : State} {m : MethodId} {args : Array Value} {below : List Frame} {meth : Method} {c : Code} {T : State} {locs : List Loc} {cells slots n0 : Nat} {h : Heap}
    (_ : Stand p l e R s m args below meth c T locs cells slots) (_ : Fr n0 locs) (_ : T.heap = h) (A : JFrame) (B : α → JFrame) (P : α → Heap → Prop)
    (k : ∃ (v : α) (T' : State) (h' : Heap) (locs' : List Loc), P v h' ∧ Fr n0 locs' ∧ Stand p l e R s m args below meth c T' locs' cells slots ∧ T'.heap = h' ∧ ∀ t, Steps p.tables e below (T'.setTop (B v)) t → Steps p.tables e below (T.setTop A) t) :
    ∃ (v : α) (T' : State) (h' : Heap) (locs' : List Loc), P v h' ∧ Fr n0 locs' ∧ Stand p l e R s m args below meth c T' locs' cells slots ∧ T'.heap = h' ∧ ∀ t, Steps p.tables e below (T'.setTop (B v)) t → Steps p.tables e below (T.setTop A) t := k
theorem own_selp {s Z : State} {a0 args : Array Value} {y : MethodName} {n : Nat} (hZ : Z.Warmed39 s.vm) (wi : (Cond.instantiable y.cls n).before a0 Z = true) (wp : (Cond.privateMethod y).before a0 Z = true) (wm : (Cond.instanceMethod y).before a0 Z = true)
    (hy : y.cls ≠ "java/lang/invoke/MethodHandle" ∧ y.cls ≠ "java/lang/invoke/VarHandle") : (Cond.selects y.cls y y).before args s = true := by
  have wi' : (Cond.instantiable y.cls n).before args s = true := mvT hZ wi
  obtain ⟨c, k, h1, h2, h3, h4, -⟩ := Cond.instantiable_spec wi'
  exact Stand.selects_self_of_private h1 h2 (Bool.or_eq_false_iff.mp h4).1 (Cond.privateMethod_at (mvP hZ wp (args := #[]))) (mvT hZ wm) hy
theorem own_sub (a b : Int32) : ((a.toInt64) - (b.toInt64)) < (0 : Int64) ↔ a < b := by
  have h := c_lsub a.toInt64 b.toInt64
  have ra := rng32 a
  have rb := rng32 b
  have r := rng64 (a.toInt64 - b.toInt64)
  rw [c_i2l, c_i2l] at h
  rw [Int64.lt_iff_toInt_lt, Int32.lt_iff_toInt_lt]
  have e : (0 : Int64).toInt = 0 := rfl
  omega
theorem own_law (lo hi x : Int32) : (if x < lo then (0 : Int32) else (if hi < x then (0 : Int32) else (1 : Int32))) = (if ((x.toInt64) - (lo.toInt64)) < (0 : Int64) then (0 : Int32) else (if ((hi.toInt64) - (x.toInt64)) < (0 : Int64) then (0 : Int32) else (1 : Int32))) := by
  simp only [own_sub]
theorem d2_0 : decode jdk_30_method_1_code 0 = .ok (.aload_n 0, 1) := by decide +kernel
theorem d2_1 : decode jdk_30_method_1_code 1 = .ok (.invokespecial 1, 3) := by decide +kernel
theorem d2_4 : decode jdk_30_method_1_code 4 = .ok (.return_, 1) := by decide +kernel
theorem own_pn0 : plainName "java/lang/Record" = true := by first | (simp [plainName, overriddenIn]; done) | decide +kernel
theorem ef2 (m : MethodId) (o : Addr) : entryFrame m #[(.ref o)] 1 = mkF m 0 #[rv o] [] := by first | (simp [entryFrame, mkF, argsToLocals, Value.category]; done) | rfl
def Q2 (Z : State) (o : Addr) (h0 : Heap) (n0 : Nat) (v : Option Value) (h : Heap) (L : List Loc) : Prop := v = none ∧ Fr n0 L ∧ h = h0
set_option maxRecDepth 65536 in
set_option maxHeartbeats 40000000 in
theorem rm2 (l : Launch) (Z : State) (a0 : Array Value) (hw : ∀ d ∈ tables_1, d.before a0 Z = true) (ws : List Jvm.Cond) (o : Addr) (h0 : Heap) (n0 : Nat) (Z0 : n0 ≤ h0.size) :
    MetFree l (⟨"java/lang/Record", "<init>", "()V"⟩ : MethodName) (head1 (Jvm.Cond.code (⟨"java/lang/Record", "<init>", "()V"⟩ : MethodName) jdk_30_method_1_code 1 none :: ws) ({ frames := 1, cells := 0, slots := 0, locals := 12 } : Room)) (fun a U => a = #[(.ref o)] ∧ Z.Warmed39 U.vm ∧ U.heap = h0) (fun _ _ _ _ _ => True) (fun _ U oc U' => ∃ v L, oc = .returned v ∧ Q2 Z o h0 n0 v U'.heap L ∧ FrameEnd U oc U' L ({ frames := 1, cells := 0, slots := 0, locals := 12 } : Room).cells ({ frames := 1, cells := 0, slots := 0, locals := 12 } : Room).slots) := by
  refine MetFree.of_bodySF (plainFor_of_name own_pn0) hisR ?_
  intro p e s m args below meth c s₁ Bd hml0 hP hK
  obtain ⟨rfl, hZ, hh⟩ := hP
  have hx := Bd.exec
  have hby := Bd.bytes
  have hml : c.maxLocals = 1 := hml0
  have hown : s.vm.findClass "java/lang/Record" = some m.cls := findClass_of_methodNamed Bd.named
  have hnm := (name_of_methodNamed Bd.named Bd.method).1
  have X0 : Stand p l e ({ frames := 1, cells := 0, slots := 0, locals := 12 } : Room) s m #[(.ref o)] below meth c s₁ [] 0 0 := Stand.of_body Bd
  have e0 : s₁.heap = h0 := by rw [← hh, Bd.state]; rfl
  have N0 := Fr.nil n0
  have pre0 : ∀ t, Steps p.tables e below (s₁.setTop (mkF m 0 #[rv o] [])) t → Steps p.tables e below (s₁.setTop (entryFrame m #[(.ref o)] 1)) t := fun t k => castTop (ef2 m o) k
  obtain ⟨T1, X1, e1, st1⟩ := initO X0 hx hZ hown (own_w hw 11 rfl) (own_w hw 12 rfl) (own_w hw 13 rfl) e0 (g := (mkF m 1 #[rv o] [(.ref o)])) rfl (by rw [hml]; rfl) rfl (hb hby d2_1) (by decide) (W := 0) (by show 2 * 0 + _ ≤ _; exact Nat.le_of_eq rfl) (by decide)
  have pre2 : ∀ tz, oS p e below T1 m 4 #[rv o] [] tz → oS p e below s₁ m 0 #[rv o] [] tz := fun tz kt => by
    show oS p e below s₁ m 0 #[rv o] [] _
    refine XS.aloadN X0.here hx rfl (hb hby d2_0) rfl rfl ?_
    show oS p e below s₁ m 1 #[rv o] [(.ref o)] _
    refine st1 _ ?_
    exact kt
  obtain ⟨fs, hr, hrun, hended, hW, hsame⟩ := X1.leave (v := none) (fun _ => rfl)
  refine ⟨_, _, pre0 _ (pre2 _ ?_), hrun, hended, _, _, rfl, ?_, ⟨_, rfl⟩, hW, hsame.mono (by decide) (by decide)⟩
  · show oS p e below T1 m 4 #[rv o] [] _
    exact X1.returnOut hx Bd.returns (hb hby d2_4) hr
  · show Q2 Z o h0 n0 _ T1.heap _
    rw [e1]
    exact ⟨rfl, N0, rfl⟩
theorem own_pd0 : parseMethodDescriptor "()V" = some ⟨[], none⟩ := by decide +kernel
theorem d1_0 : decode prog_90_method_1_code 0 = .ok (.aload_n 0, 1) := by decide +kernel
theorem d1_1 : decode prog_90_method_1_code 1 = .ok (.invokespecial 3, 3) := by decide +kernel
theorem d1_4 : decode prog_90_method_1_code 4 = .ok (.aload_n 0, 1) := by decide +kernel
theorem d1_5 : decode prog_90_method_1_code 5 = .ok (.iload_n 1, 1) := by decide +kernel
theorem d1_6 : decode prog_90_method_1_code 6 = .ok (.putfield 9, 3) := by decide +kernel
theorem d1_9 : decode prog_90_method_1_code 9 = .ok (.aload_n 0, 1) := by decide +kernel
theorem d1_10 : decode prog_90_method_1_code 10 = .ok (.iload_n 2, 1) := by decide +kernel
theorem d1_11 : decode prog_90_method_1_code 11 = .ok (.putfield 15, 3) := by decide +kernel
theorem d1_14 : decode prog_90_method_1_code 14 = .ok (.return_, 1) := by decide +kernel
theorem own_pn1 : plainName "com/example/planwright/planwright/model/RateBands$Band" = true := by first | (simp [plainName, overriddenIn]; done) | decide +kernel
theorem ef1 (m : MethodId) (o : Addr) (x1 : Int32) (x2 : Int32) : entryFrame m #[(.ref o), (.int x1), (.int x2)] 3 = mkF m 0 #[rv o, iv x1, iv x2] [] := by first | (simp [entryFrame, mkF, argsToLocals, Value.category]; done) | rfl
def Q1 (Z : State) (o : Addr) (x1 : Int32) (x2 : Int32) (w_lowest_o : Value) (w_highest_o : Value) (h0 : Heap) (n0 : Nat) (v : Option Value) (h : Heap) (L : List Loc) : Prop := v = none ∧ Fr n0 L ∧ Keep h0 h [o] ∧ Exa Z h o "com/example/planwright/planwright/model/RateBands$Band" ∧ Fld Z h o "com/example/planwright/planwright/model/RateBands$Band" "lowest" "I" (.int x1) ∧ Fld Z h o "com/example/planwright/planwright/model/RateBands$Band" "highest" "I" (.int x2)
set_option maxRecDepth 65536 in
set_option maxHeartbeats 40000000 in
theorem rm1 (l : Launch) (Z : State) (a0 : Array Value) (hw : ∀ d ∈ tables_1, d.before a0 Z = true) (ws : List Jvm.Cond) (o : Addr) (x1 : Int32) (x2 : Int32) (w_lowest_o : Value) (w_highest_o : Value) (h0 : Heap) (n0 : Nat) (Z0 : n0 ≤ h0.size) (E_o : Exa Z h0 o "com/example/planwright/planwright/model/RateBands$Band") (F_lowest_o : Fld Z h0 o "com/example/planwright/planwright/model/RateBands$Band" "lowest" "I" w_lowest_o) (g_o : n0 ≤ o) (F_highest_o : Fld Z h0 o "com/example/planwright/planwright/model/RateBands$Band" "highest" "I" w_highest_o) :
    MetFree l (⟨"com/example/planwright/planwright/model/RateBands$Band", "<init>", "(II)V"⟩ : MethodName) (head1 (Jvm.Cond.code (⟨"com/example/planwright/planwright/model/RateBands$Band", "<init>", "(II)V"⟩ : MethodName) prog_90_method_1_code 3 none :: ws) ({ frames := 2, cells := 0, slots := 0, locals := 24 } : Room)) (fun a U => a = #[(.ref o), (.int x1), (.int x2)] ∧ Z.Warmed39 U.vm ∧ U.heap = h0) (fun _ _ _ _ _ => True) (fun _ U oc U' => ∃ v L, oc = .returned v ∧ Q1 Z o x1 x2 w_lowest_o w_highest_o h0 n0 v U'.heap L ∧ FrameEnd U oc U' L ({ frames := 2, cells := 0, slots := 0, locals := 24 } : Room).cells ({ frames := 2, cells := 0, slots := 0, locals := 24 } : Room).slots) := by
  refine MetFree.of_bodySF (plainFor_of_name own_pn1) hisR ?_
  intro p e s m args below meth c s₁ Bd hml0 hP hK
  obtain ⟨rfl, hZ, hh⟩ := hP
  have hx := Bd.exec
  have hby := Bd.bytes
  have hml : c.maxLocals = 3 := hml0
  have hown : s.vm.findClass "com/example/planwright/planwright/model/RateBands$Band" = some m.cls := findClass_of_methodNamed Bd.named
  have hnm := (name_of_methodNamed Bd.named Bd.method).1
  have X0 : Stand p l e ({ frames := 2, cells := 0, slots := 0, locals := 24 } : Room) s m #[(.ref o), (.int x1), (.int x2)] below meth c s₁ [] 0 0 := Stand.of_body Bd
  have e0 : s₁.heap = h0 := by rw [← hh, Bd.state]; rfl
  have N0 := Fr.nil n0
  have pre0 : ∀ t, Steps p.tables e below (s₁.setTop (mkF m 0 #[rv o, iv x1, iv x2] [])) t → Steps p.tables e below (s₁.setTop (entryFrame m #[(.ref o), (.int x1), (.int x2)] 3)) t := fun t k => castTop (ef1 m o x1 x2) k
  obtain ⟨_, _, ⟨T1, Lw1, kw1, nw1⟩, -, X1, ⟨Lc1, hQ1, l1, y1, z1⟩, st1⟩ := X0.specialBack hx (y := (⟨"java/lang/Record", "<init>", "()V"⟩ : MethodName)) rfl hown (mvT hZ (own_w hw 6 rfl)) (mvT hZ (own_w hw 7 rfl)) (mvT hZ (own_w hw 10 rfl)) (by decide) (backOf (W := 0) (rm2 l Z a0 hw [] o h0 n0 Z0 ) hZ (own_w hw 10 rfl) (own_w hw 9 rfl) (by decide) (by decide)) (g := (mkF m 1 #[rv o, iv x1, iv x2] [(.ref o)])) rfl (by rw [hml]; rfl) (Steps.refl _) (a := o) (argsL := []) (rest := []) (lenOf own_pd0 rfl) rfl (by show 2 * 0 + _ ≤ _; exact Nat.le_of_eq rfl) (hb hby d1_1) (fun _ _ => ⟨rfl, e0, (by decide : 0 + 0 ≤ _), (by decide : 0 + 0 ≤ _)⟩)
  dsimp only [Pt.U, Pt.locs, Pt.cells, Pt.slots] at X1 l1 y1 z1 st1 hQ1
  subst l1 y1 z1
  obtain ⟨rfl, Nq1, eh1⟩ := hQ1
  have N1 := Fr.app N0 Nq1
  obtain ⟨T2, h2, X2, e2, W2, st2⟩ := putF X1 hx hZ hown (host := "") (Or.inl (own_w hw 14 rfl)) Via.refl eh1 F_lowest_o E_o (Or.inr ⟨(own_w hw 15 rfl), rfl, hnm⟩) (own_w hw 1 rfl) (ty := .int) (by decide) rfl rfl (g := (mkF m 6 #[rv o, iv x1, iv x2] [(.int x1), (.ref o)])) rfl rfl (hb hby d1_6)
  have Fw2 : Fld Z h2 o "com/example/planwright/planwright/model/RateBands$Band" "lowest" "I" (.int x1) := F_lowest_o.same W2
  have N2 := Fr.snoc X2 N1 g_o
  have Ec3 : Exa Z h2 o "com/example/planwright/planwright/model/RateBands$Band" := (E_o.wr W2)
  have Fc4 : Fld Z h2 o "com/example/planwright/planwright/model/RateBands$Band" "highest" "I" w_highest_o := (F_highest_o.other W2 (Or.inr (slot_ne (Or.inr (own_w hw 17 rfl)) (Or.inr (own_w hw 15 rfl)) (by decide) (t := .int) (t' := .int) (by decide) (by decide))))
  obtain ⟨T5, h5, X5, e5, W5, st5⟩ := putF X2 hx hZ hown (host := "") (Or.inl (own_w hw 16 rfl)) Via.refl e2 Fc4 Ec3 (Or.inr ⟨(own_w hw 17 rfl), rfl, hnm⟩) (own_w hw 1 rfl) (ty := .int) (by decide) rfl rfl (g := (mkF m 11 #[rv o, iv x1, iv x2] [(.int x2), (.ref o)])) rfl rfl (hb hby d1_11)
  have Fw5 : Fld Z h5 o "com/example/planwright/planwright/model/RateBands$Band" "highest" "I" (.int x2) := Fc4.same W5
  have N5 := Fr.snoc X5 N2 g_o
  have pre6 : ∀ tz, oS p e below T5 m 14 #[rv o, iv x1, iv x2] [] tz → oS p e below s₁ m 0 #[rv o, iv x1, iv x2] [] tz := fun tz kt => by
    show oS p e below s₁ m 0 #[rv o, iv x1, iv x2] [] _
    refine XS.aloadN X0.here hx rfl (hb hby d1_0) rfl rfl ?_
    show oS p e below s₁ m 1 #[rv o, iv x1, iv x2] [(.ref o)] _
    refine st1.trans ?_
    refine XS.aloadN X1.here hx rfl (hb hby d1_4) rfl rfl ?_
    refine XS.iloadN X1.here hx rfl (hb hby d1_5) rfl ?_
    show oS p e below T1 m 6 #[rv o, iv x1, iv x2] [(.int x1), (.ref o)] _
    refine st2 _ ?_
    refine XS.aloadN X2.here hx rfl (hb hby d1_9) rfl rfl ?_
    refine XS.iloadN X2.here hx rfl (hb hby d1_10) rfl ?_
    show oS p e below T2 m 11 #[rv o, iv x1, iv x2] [(.int x2), (.ref o)] _
    refine st5 _ ?_
    exact kt
  have Ec7 : Exa Z h5 o "com/example/planwright/planwright/model/RateBands$Band" := (Ec3.wr W5)
  have KP8 : Keep h0 h5 [o] := (((Keep.refl h0 [o]).wr W2 (Or.inl (List.mem_of_getElem? (i := 0) rfl))).wr W5 (Or.inl (List.mem_of_getElem? (i := 0) rfl)))
  have Fc9 : Fld Z h5 o "com/example/planwright/planwright/model/RateBands$Band" "lowest" "I" (.int x1) := (Fw2.other W5 (Or.inr (slot_ne (Or.inr (own_w hw 15 rfl)) (Or.inr (own_w hw 17 rfl)) (by decide) (t := .int) (t' := .int) (by decide) (by decide))))
  obtain ⟨fs, hr, hrun, hended, hW, hsame⟩ := X5.leave (v := none) (fun _ => rfl)
  refine ⟨_, _, pre0 _ (pre6 _ ?_), hrun, hended, _, _, rfl, ?_, ⟨_, rfl⟩, hW, hsame.mono (by decide) (by decide)⟩
  · show oS p e below T5 m 14 #[rv o, iv x1, iv x2] [] _
    exact X5.returnOut hx Bd.returns (hb hby d1_14) hr
  · show Q1 Z o x1 x2 w_lowest_o w_highest_o h0 n0 _ T5.heap _
    rw [e5]
    exact ⟨rfl, N5, KP8, Ec7, Fc9, Fw5⟩
theorem d4_0 : decode prog_90_method_3_code 0 = .ok (.aload_n 0, 1) := by decide +kernel
theorem d4_1 : decode prog_90_method_3_code 1 = .ok (.getfield 9, 3) := by decide +kernel
theorem d4_4 : decode prog_90_method_3_code 4 = .ok (.iload_n 1, 1) := by decide +kernel
theorem d4_5 : decode prog_90_method_3_code 5 = .ok (.if_icmp .gt 15, 3) := by decide +kernel
theorem d4_8 : decode prog_90_method_3_code 8 = .ok (.iload_n 1, 1) := by decide +kernel
theorem d4_9 : decode prog_90_method_3_code 9 = .ok (.aload_n 0, 1) := by decide +kernel
theorem d4_10 : decode prog_90_method_3_code 10 = .ok (.getfield 15, 3) := by decide +kernel
theorem d4_13 : decode prog_90_method_3_code 13 = .ok (.if_icmp .gt 7, 3) := by decide +kernel
theorem d4_16 : decode prog_90_method_3_code 16 = .ok (.iconst 1, 1) := by decide +kernel
theorem d4_17 : decode prog_90_method_3_code 17 = .ok (.goto 4, 3) := by decide +kernel
theorem d4_20 : decode prog_90_method_3_code 20 = .ok (.iconst 0, 1) := by decide +kernel
theorem d4_21 : decode prog_90_method_3_code 21 = .ok (.ireturn, 1) := by decide +kernel
theorem ef4 (m : MethodId) (o : Addr) (x1 : Int32) : entryFrame m #[(.ref o), (.int x1)] 2 = mkF m 0 #[rv o, iv x1] [] := by first | (simp [entryFrame, mkF, argsToLocals, Value.category]; done) | rfl
def Q4 (Z : State) (o : Addr) (x1 : Int32) (w_lowest_o : Int32) (w_highest_o : Int32) (h0 : Heap) (n0 : Nat) (v : Option Value) (h : Heap) (L : List Loc) : Prop := v = some (.int (if x1 < w_lowest_o then (0 : Int32) else (if w_highest_o < x1 then (0 : Int32) else (1 : Int32)))) ∧ Fr n0 L ∧ h = h0
set_option maxRecDepth 65536 in
set_option maxHeartbeats 40000000 in
theorem rm4 (l : Launch) (Z : State) (a0 : Array Value) (hw : ∀ d ∈ tables_1, d.before a0 Z = true) (ws : List Jvm.Cond) (o : Addr) (x1 : Int32) (w_lowest_o : Int32) (w_highest_o : Int32) (h0 : Heap) (n0 : Nat) (Z0 : n0 ≤ h0.size) (F_lowest_o : Fld Z h0 o "com/example/planwright/planwright/model/RateBands$Band" "lowest" "I" (.int w_lowest_o)) (F_highest_o : Fld Z h0 o "com/example/planwright/planwright/model/RateBands$Band" "highest" "I" (.int w_highest_o)) :
    MetFree l (⟨"com/example/planwright/planwright/model/RateBands$Band", "holds", "(I)Z"⟩ : MethodName) (head1 (Jvm.Cond.code (⟨"com/example/planwright/planwright/model/RateBands$Band", "holds", "(I)Z"⟩ : MethodName) prog_90_method_3_code 2 (some .boolean) :: ws) ({ frames := 0, cells := 0, slots := 0, locals := 0 } : Room)) (fun a U => a = #[(.ref o), (.int x1)] ∧ Z.Warmed39 U.vm ∧ U.heap = h0) (fun _ _ _ _ _ => True) (fun _ U oc U' => ∃ v L, oc = .returned v ∧ Q4 Z o x1 w_lowest_o w_highest_o h0 n0 v U'.heap L ∧ FrameEnd U oc U' L ({ frames := 0, cells := 0, slots := 0, locals := 0 } : Room).cells ({ frames := 0, cells := 0, slots := 0, locals := 0 } : Room).slots) := by
  refine MetFree.of_bodySF (plainFor_of_name own_pn1) hisR ?_
  intro p e s m args below meth c s₁ Bd hml0 hP hK
  obtain ⟨rfl, hZ, hh⟩ := hP
  have hx := Bd.exec
  have hby := Bd.bytes
  have hml : c.maxLocals = 2 := hml0
  have hown : s.vm.findClass "com/example/planwright/planwright/model/RateBands$Band" = some m.cls := findClass_of_methodNamed Bd.named
  have hnm := (name_of_methodNamed Bd.named Bd.method).1
  have X0 : Stand p l e ({ frames := 0, cells := 0, slots := 0, locals := 0 } : Room) s m #[(.ref o), (.int x1)] below meth c s₁ [] 0 0 := Stand.of_body Bd
  have e0 : s₁.heap = h0 := by rw [← hh, Bd.state]; rfl
  have N0 := Fr.nil n0
  have pre0 : ∀ t, Steps p.tables e below (s₁.setTop (mkF m 0 #[rv o, iv x1] [])) t → Steps p.tables e below (s₁.setTop (entryFrame m #[(.ref o), (.int x1)] 2)) t := fun t k => castTop (ef4 m o x1) k
  obtain ⟨T1, X1, e1, st1⟩ := getF X0 hx hZ hown (host := "") (Or.inl (own_w hw 14 rfl)) Via.refl e0 F_lowest_o (g := (mkF m 1 #[rv o, iv x1] [(.ref o)])) rfl rfl (hb hby d4_1)
  have pre2 : ∀ tz, oS p e below T1 m 5 #[rv o, iv x1] [(.int x1), (.int w_lowest_o)] tz → oS p e below s₁ m 0 #[rv o, iv x1] [] tz := fun tz kt => by
    show oS p e below s₁ m 0 #[rv o, iv x1] [] _
    refine XS.aloadN X0.here hx rfl (hb hby d4_0) rfl rfl ?_
    show oS p e below s₁ m 1 #[rv o, iv x1] [(.ref o)] _
    refine st1 _ ?_
    refine XS.iloadN X1.here hx rfl (hb hby d4_4) rfl ?_
    exact kt
  by_cases hc5 : x1 < w_lowest_o
  · have pre3 : ∀ tz, oS p e below T1 m 21 #[rv o, iv x1] [(.int (0 : Int32))] tz → oS p e below T1 m 5 #[rv o, iv x1] [(.int x1), (.int w_lowest_o)] tz := fun tz kt => by
      show oS p e below T1 m 5 #[rv o, iv x1] [(.int x1), (.int w_lowest_o)] _
      refine XS.icmpYes X1.here hx rfl (pc0 := 5) (pc' := 20) rfl (hb hby d4_5) rfl (tlt hc5).2.2.1 (by decide) (by decide) ?_
      refine XS.iconst X1.here hx rfl (hb hby d4_20) ?_
      exact kt
    obtain ⟨fs, hr, hrun, hended, hW, hsame⟩ := X1.leave (v := some (.int (0 : Int32))) (fun h => by rw [Bd.returns] at h; cases h)
    refine ⟨_, _, pre0 _ (pre2 _ (pre3 _ ?_)), hrun, hended, _, _, rfl, ?_, ⟨_, rfl⟩, hW, hsame.mono (by decide) (by decide)⟩
    · show oS p e below T1 m 21 #[rv o, iv x1] [(.int (0 : Int32))] _
      exact retN X1 hx (t := .boolean) Bd.returns (by simp) (hb hby d4_21) hr
    · show Q4 Z o x1 w_lowest_o w_highest_o h0 n0 _ T1.heap _
      rw [e1]
      exact ⟨(by first | rfl | simp only [if_pos hc5]), N0, rfl⟩
  · obtain ⟨T4, X4, e4, st4⟩ := getF X1 hx hZ hown (host := "") (Or.inl (own_w hw 16 rfl)) Via.refl e1 F_highest_o (g := (mkF m 10 #[rv o, iv x1] [(.ref o), (.int x1)])) rfl rfl (hb hby d4_10)
    have pre5 : ∀ tz, oS p e below T4 m 13 #[rv o, iv x1] [(.int w_highest_o), (.int x1)] tz → oS p e below T1 m 5 #[rv o, iv x1] [(.int x1), (.int w_lowest_o)] tz := fun tz kt => by
      show oS p e below T1 m 5 #[rv o, iv x1] [(.int x1), (.int w_lowest_o)] _
      refine XS.icmpNo X1.here hx rfl (hb hby d4_5) rfl (flt hc5).2.2.1 ?_
      refine XS.iloadN X1.here hx rfl (hb hby d4_8) rfl ?_
      refine XS.aloadN X1.here hx rfl (hb hby d4_9) rfl rfl ?_
      show oS p e below T1 m 10 #[rv o, iv x1] [(.ref o), (.int x1)] _
      refine st4 _ ?_
      exact kt
    by_cases hc13 : w_highest_o < x1
    · have pre6 : ∀ tz, oS p e below T4 m 21 #[rv o, iv x1] [(.int (0 : Int32))] tz → oS p e below T4 m 13 #[rv o, iv x1] [(.int w_highest_o), (.int x1)] tz := fun tz kt => by
        show oS p e below T4 m 13 #[rv o, iv x1] [(.int w_highest_o), (.int x1)] _
        refine XS.icmpYes X4.here hx rfl (pc0 := 13) (pc' := 20) rfl (hb hby d4_13) rfl (tlt hc13).2.2.1 (by decide) (by decide) ?_
        refine XS.iconst X4.here hx rfl (hb hby d4_20) ?_
        exact kt
      obtain ⟨fs, hr, hrun, hended, hW, hsame⟩ := X4.leave (v := some (.int (0 : Int32))) (fun h => by rw [Bd.returns] at h; cases h)
      refine ⟨_, _, pre0 _ (pre2 _ (pre5 _ (pre6 _ ?_))), hrun, hended, _, _, rfl, ?_, ⟨_, rfl⟩, hW, hsame.mono (by decide) (by decide)⟩
      · show oS p e below T4 m 21 #[rv o, iv x1] [(.int (0 : Int32))] _
        exact retN X4 hx (t := .boolean) Bd.returns (by simp) (hb hby d4_21) hr
      · show Q4 Z o x1 w_lowest_o w_highest_o h0 n0 _ T4.heap _
        rw [e4]
        exact ⟨(by first | rfl | simp only [if_neg hc5, if_pos hc13]), N0, rfl⟩
    · have pre7 : ∀ tz, oS p e below T4 m 21 #[rv o, iv x1] [(.int (1 : Int32))] tz → oS p e below T4 m 13 #[rv o, iv x1] [(.int w_highest_o), (.int x1)] tz := fun tz kt => by
        show oS p e below T4 m 13 #[rv o, iv x1] [(.int w_highest_o), (.int x1)] _
        refine XS.icmpNo X4.here hx rfl (hb hby d4_13) rfl (flt hc13).2.2.1 ?_
        refine XS.iconst X4.here hx rfl (hb hby d4_16) ?_
        refine XS.goto X4.here hx rfl (pc0 := 17) (pc' := 21) rfl (hb hby d4_17) (by decide) (by decide) ?_
        exact kt
      obtain ⟨fs, hr, hrun, hended, hW, hsame⟩ := X4.leave (v := some (.int (1 : Int32))) (fun h => by rw [Bd.returns] at h; cases h)
      refine ⟨_, _, pre0 _ (pre2 _ (pre5 _ (pre7 _ ?_))), hrun, hended, _, _, rfl, ?_, ⟨_, rfl⟩, hW, hsame.mono (by decide) (by decide)⟩
      · show oS p e below T4 m 21 #[rv o, iv x1] [(.int (1 : Int32))] _
        exact retN X4 hx (t := .boolean) Bd.returns (by simp) (hb hby d4_21) hr
      · show Q4 Z o x1 w_lowest_o w_highest_o h0 n0 _ T4.heap _
        rw [e4]
        exact ⟨(by first | rfl | simp only [if_neg hc5, if_neg hc13]), N0, rfl⟩
theorem own_pd1 : parseMethodDescriptor "(II)V" = some ⟨[.int, .int], none⟩ := by decide +kernel
theorem own_pd2 : parseMethodDescriptor "(I)Z" = some ⟨[.int], some .boolean⟩ := by decide +kernel
theorem own_pn2 : plainName "com/example/planwright/planwright/model/BandHoldsPinLaw" = true := by first | (simp [plainName, overriddenIn]; done) | decide +kernel
theorem ef0 (m : MethodId) (x1 : Int32) (x2 : Int32) (x3 : Int32) (x4 : Int32) : entryFrame m #[(.int x1), (.int x2), (.int x3), (.int x4)] maxLocals = mkF m 0 #[iv x1, iv x2, iv x3, iv x4, .unset, .unset, .unset, .unset, .unset] [] := by first | (simp [entryFrame, mkF, argsToLocals, Value.category, maxLocals]; done) | rfl
def Q0 (Z : State) (x1 : Int32) (x2 : Int32) (x3 : Int32) (x4 : Int32) (h0 : Heap) (n0 : Nat) (v : Option Value) (h : Heap) (L : List Loc) : Prop := v = some (.int (1 : Int32)) ∧ Fr n0 L
set_option maxRecDepth 65536 in
set_option maxHeartbeats 40000000 in
theorem rm0 (l : Launch) (Z : State) (a0 : Array Value) (hw : ∀ d ∈ tables_1, d.before a0 Z = true) (ws : List Jvm.Cond) (x1 : Int32) (x2 : Int32) (x3 : Int32) (x4 : Int32) (h0 : Heap) (n0 : Nat) (Z0 : n0 ≤ h0.size) :
    MetFree l x (head1 (Jvm.Cond.code x code maxLocals ret :: ws) room_1) (fun a U => a = #[(.int x1), (.int x2), (.int x3), (.int x4)] ∧ Z.Warmed39 U.vm ∧ U.heap = h0) (fun _ _ _ _ _ => True) (fun _ U oc U' => ∃ v L, oc = .returned v ∧ Q0 Z x1 x2 x3 x4 h0 n0 v U'.heap L ∧ FrameEnd U oc U' L room_1.cells room_1.slots) := by
  refine MetFree.of_bodySF (plainFor_of_name own_pn2) hisR ?_
  intro p e s m args below meth c s₁ Bd hml0 hP hK
  obtain ⟨rfl, hZ, hh⟩ := hP
  have hx := Bd.exec
  have hby := Bd.bytes
  have hml : c.maxLocals = 9 := hml0
  have hown : s.vm.findClass "com/example/planwright/planwright/model/BandHoldsPinLaw" = some m.cls := findClass_of_methodNamed Bd.named
  have hnm := (name_of_methodNamed Bd.named Bd.method).1
  have X0 : Stand p l e room_1 s m #[(.int x1), (.int x2), (.int x3), (.int x4)] below meth c s₁ [] 0 0 := Stand.of_body Bd
  have e0 : s₁.heap = h0 := by rw [← hh, Bd.state]; rfl
  have N0 := Fr.nil n0
  have pre0 : ∀ t, Steps p.tables e below (s₁.setTop (mkF m 0 #[iv x1, iv x2, iv x3, iv x4, .unset, .unset, .unset, .unset, .unset] [])) t → Steps p.tables e below (s₁.setTop (entryFrame m #[(.int x1), (.int x2), (.int x3), (.int x4)] maxLocals)) t := fun t k => castTop (ef0 m x1 x2 x3 x4) k
  obtain ⟨y4, hy4⟩ : ∃ z, z = (x4 &&& (7 : Int32)) := ⟨_, rfl⟩
  have pre1 : ∀ tz, oS p e below s₁ m 11 #[iv x1, iv x2, iv x3, iv x4, iv y4, .unset, .unset, .unset, .unset] [(.int (((x4.toUInt32 >>> ((3 : Int32) &&& 31).toUInt32).toInt32) &&& (1 : Int32)))] tz → oS p e below s₁ m 0 #[iv x1, iv x2, iv x3, iv x4, .unset, .unset, .unset, .unset, .unset] [] tz := fun tz kt => by
    show oS p e below s₁ m 0 #[iv x1, iv x2, iv x3, iv x4, .unset, .unset, .unset, .unset, .unset] [] _
    refine XS.iloadN X0.here hx rfl (hb hby at_0) rfl ?_
    refine XS.bipush X0.here hx rfl (hb hby at_1) ?_
    refine XS.iand X0.here hx rfl (hb hby at_3) rfl ?_
    refine XS.istore X0.here hx rfl (hb hby at_4) rfl (l' := #[iv x1, iv x2, iv x3, iv x4, iv y4, .unset, .unset, .unset, .unset]) (by rw [hy4]; rfl) ?_
    show oS p e below s₁ m 6 #[iv x1, iv x2, iv x3, iv x4, iv y4, .unset, .unset, .unset, .unset] [] _
    refine XS.iloadN X0.here hx rfl (hb hby at_6) rfl ?_
    refine XS.iconst X0.here hx rfl (hb hby at_7) ?_
    refine XS.iushr X0.here hx rfl (hb hby at_8) rfl ?_
    refine XS.iconst X0.here hx rfl (hb hby at_9) ?_
    show oS p e below s₁ m 10 #[iv x1, iv x2, iv x3, iv x4, iv y4, .unset, .unset, .unset, .unset] [(.int (1 : Int32)), (.int ((x4.toUInt32 >>> ((3 : Int32) &&& 31).toUInt32).toInt32))] _
    refine XS.iand X0.here hx rfl (hb hby at_10) rfl ?_
    exact kt
  obtain ⟨v20, T4, Lj4, jv4, N4, X4, e4, st4⟩ := own_join (α := Int32) X0 N0 e0 (mkF m 11 #[iv x1, iv x2, iv x3, iv x4, iv y4, .unset, .unset, .unset, .unset] [(.int (((x4.toUInt32 >>> ((3 : Int32) &&& 31).toUInt32).toInt32) &&& (1 : Int32)))]) (fun v => (mkF m 20 #[iv x1, iv x2, iv x3, iv x4, iv y4, .unset, .unset, .unset, .unset] [(.int v)])) (fun v => v = (if (((x4.toUInt32 >>> ((3 : Int32) &&& 31).toUInt32).toInt32) &&& (1 : Int32)) = (0 : Int32) then x2 else (2147483647 : Int32))) (by
      by_cases hc11 : (((x4.toUInt32 >>> ((3 : Int32) &&& 31).toUInt32).toInt32) &&& (1 : Int32)) = (0 : Int32)
      · have pre2 : ∀ tz, oS p e below s₁ m 20 #[iv x1, iv x2, iv x3, iv x4, iv y4, .unset, .unset, .unset, .unset] [(.int x2)] tz → oS p e below s₁ m 11 #[iv x1, iv x2, iv x3, iv x4, iv y4, .unset, .unset, .unset, .unset] [(.int (((x4.toUInt32 >>> ((3 : Int32) &&& 31).toUInt32).toInt32) &&& (1 : Int32)))] tz := fun tz kt => by
          show oS p e below s₁ m 11 #[iv x1, iv x2, iv x3, iv x4, iv y4, .unset, .unset, .unset, .unset] [(.int (((x4.toUInt32 >>> ((3 : Int32) &&& 31).toUInt32).toInt32) &&& (1 : Int32)))] _
          refine XS.ifYes X0.here hx rfl (pc0 := 11) (pc' := 19) rfl (hb hby at_11) rfl ((if0 _ _).trans (teq hc11).1) (by decide) (by decide) ?_
          refine XS.iloadN X0.here hx rfl (hb hby at_19) rfl ?_
          exact kt
        exact ⟨x2, s₁, _, (by rw [if_pos hc11]), N0, X0, e0, fun tz kt => (pre2 _ kt)⟩
      · have pre3 : ∀ tz, oS p e below s₁ m 20 #[iv x1, iv x2, iv x3, iv x4, iv y4, .unset, .unset, .unset, .unset] [(.int (2147483647 : Int32))] tz → oS p e below s₁ m 11 #[iv x1, iv x2, iv x3, iv x4, iv y4, .unset, .unset, .unset, .unset] [(.int (((x4.toUInt32 >>> ((3 : Int32) &&& 31).toUInt32).toInt32) &&& (1 : Int32)))] tz := fun tz kt => by
          show oS p e below s₁ m 11 #[iv x1, iv x2, iv x3, iv x4, iv y4, .unset, .unset, .unset, .unset] [(.int (((x4.toUInt32 >>> ((3 : Int32) &&& 31).toUInt32).toInt32) &&& (1 : Int32)))] _
          refine XS.ifNo X0.here hx rfl (hb hby at_11) rfl ((if0 _ _).trans (feq hc11).1) ?_
          refine X0.ldcInt hx hown (mvT hZ (own_w hw 23 rfl)) (g := (mkF m 14 #[iv x1, iv x2, iv x3, iv x4, iv y4, .unset, .unset, .unset, .unset] [])) rfl (hb hby at_14) _ ?_
          refine XS.goto X0.here hx rfl (pc0 := 16) (pc' := 20) rfl (hb hby at_16) (by decide) (by decide) ?_
          exact kt
        exact ⟨(2147483647 : Int32), s₁, _, (by rw [if_neg hc11]), N0, X0, e0, fun tz kt => (pre3 _ kt)⟩)
  have hv20 : v20 = (if (((x4.toUInt32 >>> ((3 : Int32) &&& 31).toUInt32).toInt32) &&& (1 : Int32)) = (0 : Int32) then x2 else (2147483647 : Int32)) := jv4
  have pre5 : ∀ tz, oS p e below T4 m 25 #[iv x1, iv x2, iv x3, iv x4, iv y4, iv v20, .unset, .unset, .unset] [(.int (1 : Int32)), (.int y4)] tz → oS p e below s₁ m 11 #[iv x1, iv x2, iv x3, iv x4, iv y4, .unset, .unset, .unset, .unset] [(.int (((x4.toUInt32 >>> ((3 : Int32) &&& 31).toUInt32).toInt32) &&& (1 : Int32)))] tz := fun tz kt => by
    show oS p e below s₁ m 11 #[iv x1, iv x2, iv x3, iv x4, iv y4, .unset, .unset, .unset, .unset] [(.int (((x4.toUInt32 >>> ((3 : Int32) &&& 31).toUInt32).toInt32) &&& (1 : Int32)))] _
    refine st4 _ ?_
    refine XS.istore X4.here hx rfl (hb hby at_20) rfl (l' := #[iv x1, iv x2, iv x3, iv x4, iv y4, iv v20, .unset, .unset, .unset]) rfl ?_
    refine XS.iload X4.here hx rfl (hb hby at_22) rfl ?_
    refine XS.iconst X4.here hx rfl (hb hby at_24) ?_
    exact kt
  obtain ⟨v79, T14, Lj14, jv14, N14, X14, e14, st14⟩ := own_join (α := Int32) X4 N4 e4 (mkF m 25 #[iv x1, iv x2, iv x3, iv x4, iv y4, iv v20, .unset, .unset, .unset] [(.int (1 : Int32)), (.int y4)]) (fun v => (mkF m 79 #[iv x1, iv x2, iv x3, iv x4, iv y4, iv v20, iv v, .unset, .unset] [])) (fun v => v = (if y4 = (1 : Int32) then x1 else (if y4 = (2 : Int32) then (x1 - (1 : Int32)) else (if y4 = (3 : Int32) then v20 else (if y4 = (4 : Int32) then (v20 + (1 : Int32)) else x3))))) (by
      by_cases hc25 : y4 = (1 : Int32)
      · have pre6 : ∀ tz, oS p e below T4 m 79 #[iv x1, iv x2, iv x3, iv x4, iv y4, iv v20, iv x1, .unset, .unset] [] tz → oS p e below T4 m 25 #[iv x1, iv x2, iv x3, iv x4, iv y4, iv v20, .unset, .unset, .unset] [(.int (1 : Int32)), (.int y4)] tz := fun tz kt => by
          show oS p e below T4 m 25 #[iv x1, iv x2, iv x3, iv x4, iv y4, iv v20, .unset, .unset, .unset] [(.int (1 : Int32)), (.int y4)] _
          refine XS.icmpNo X4.here hx rfl (hb hby at_25) rfl (teq hc25).2 ?_
          refine XS.iloadN X4.here hx rfl (hb hby at_28) rfl ?_
          refine XS.istore X4.here hx rfl (hb hby at_29) rfl (l' := #[iv x1, iv x2, iv x3, iv x4, iv y4, iv v20, iv x1, .unset, .unset]) rfl ?_
          refine XS.goto X4.here hx rfl (pc0 := 31) (pc' := 79) rfl (hb hby at_31) (by decide) (by decide) ?_
          exact kt
        exact ⟨x1, T4, _, (by rw [if_pos hc25]), N4, X4, e4, fun tz kt => (pre6 _ kt)⟩
      · have pre7 : ∀ tz, oS p e below T4 m 37 #[iv x1, iv x2, iv x3, iv x4, iv y4, iv v20, .unset, .unset, .unset] [(.int (2 : Int32)), (.int y4)] tz → oS p e below T4 m 25 #[iv x1, iv x2, iv x3, iv x4, iv y4, iv v20, .unset, .unset, .unset] [(.int (1 : Int32)), (.int y4)] tz := fun tz kt => by
          show oS p e below T4 m 25 #[iv x1, iv x2, iv x3, iv x4, iv y4, iv v20, .unset, .unset, .unset] [(.int (1 : Int32)), (.int y4)] _
          refine XS.icmpYes X4.here hx rfl (pc0 := 25) (pc' := 34) rfl (hb hby at_25) rfl (feq hc25).2 (by decide) (by decide) ?_
          refine XS.iload X4.here hx rfl (hb hby at_34) rfl ?_
          refine XS.iconst X4.here hx rfl (hb hby at_36) ?_
          exact kt
        by_cases hc37 : y4 = (2 : Int32)
        · have pre8 : ∀ tz, oS p e below T4 m 79 #[iv x1, iv x2, iv x3, iv x4, iv y4, iv v20, iv (x1 - (1 : Int32)), .unset, .unset] [] tz → oS p e below T4 m 37 #[iv x1, iv x2, iv x3, iv x4, iv y4, iv v20, .unset, .unset, .unset] [(.int (2 : Int32)), (.int y4)] tz := fun tz kt => by
            show oS p e below T4 m 37 #[iv x1, iv x2, iv x3, iv x4, iv y4, iv v20, .unset, .unset, .unset] [(.int (2 : Int32)), (.int y4)] _
            refine XS.icmpNo X4.here hx rfl (hb hby at_37) rfl (teq hc37).2 ?_
            refine XS.iloadN X4.here hx rfl (hb hby at_40) rfl ?_
            refine XS.iconst X4.here hx rfl (hb hby at_41) ?_
            refine XS.isub X4.here hx rfl (hb hby at_42) rfl ?_
            show oS p e below T4 m 43 #[iv x1, iv x2, iv x3, iv x4, iv y4, iv v20, .unset, .unset, .unset] [(.int (x1 - (1 : Int32)))] _
            refine XS.istore X4.here hx rfl (hb hby at_43) rfl (l' := #[iv x1, iv x2, iv x3, iv x4, iv y4, iv v20, iv (x1 - (1 : Int32)), .unset, .unset]) rfl ?_
            refine XS.goto X4.here hx rfl (pc0 := 45) (pc' := 79) rfl (hb hby at_45) (by decide) (by decide) ?_
            exact kt
          exact ⟨(x1 - (1 : Int32)), T4, _, (by rw [if_neg hc25, if_pos hc37]), N4, X4, e4, fun tz kt => (pre7 _ (pre8 _ kt))⟩
        · have pre9 : ∀ tz, oS p e below T4 m 51 #[iv x1, iv x2, iv x3, iv x4, iv y4, iv v20, .unset, .unset, .unset] [(.int (3 : Int32)), (.int y4)] tz → oS p e below T4 m 37 #[iv x1, iv x2, iv x3, iv x4, iv y4, iv v20, .unset, .unset, .unset] [(.int (2 : Int32)), (.int y4)] tz := fun tz kt => by
            show oS p e below T4 m 37 #[iv x1, iv x2, iv x3, iv x4, iv y4, iv v20, .unset, .unset, .unset] [(.int (2 : Int32)), (.int y4)] _
            refine XS.icmpYes X4.here hx rfl (pc0 := 37) (pc' := 48) rfl (hb hby at_37) rfl (feq hc37).2 (by decide) (by decide) ?_
            refine XS.iload X4.here hx rfl (hb hby at_48) rfl ?_
            refine XS.iconst X4.here hx rfl (hb hby at_50) ?_
            exact kt
          by_cases hc51 : y4 = (3 : Int32)
          · have pre10 : ∀ tz, oS p e below T4 m 79 #[iv x1, iv x2, iv x3, iv x4, iv y4, iv v20, iv v20, .unset, .unset] [] tz → oS p e below T4 m 51 #[iv x1, iv x2, iv x3, iv x4, iv y4, iv v20, .unset, .unset, .unset] [(.int (3 : Int32)), (.int y4)] tz := fun tz kt => by
              show oS p e below T4 m 51 #[iv x1, iv x2, iv x3, iv x4, iv y4, iv v20, .unset, .unset, .unset] [(.int (3 : Int32)), (.int y4)] _
              refine XS.icmpNo X4.here hx rfl (hb hby at_51) rfl (teq hc51).2 ?_
              refine XS.iload X4.here hx rfl (hb hby at_54) rfl ?_
              refine XS.istore X4.here hx rfl (hb hby at_56) rfl (l' := #[iv x1, iv x2, iv x3, iv x4, iv y4, iv v20, iv v20, .unset, .unset]) rfl ?_
              refine XS.goto X4.here hx rfl (pc0 := 58) (pc' := 79) rfl (hb hby at_58) (by decide) (by decide) ?_
              exact kt
            exact ⟨v20, T4, _, (by rw [if_neg hc25, if_neg hc37, if_pos hc51]), N4, X4, e4, fun tz kt => (pre7 _ (pre9 _ (pre10 _ kt)))⟩
          · have pre11 : ∀ tz, oS p e below T4 m 64 #[iv x1, iv x2, iv x3, iv x4, iv y4, iv v20, .unset, .unset, .unset] [(.int (4 : Int32)), (.int y4)] tz → oS p e below T4 m 51 #[iv x1, iv x2, iv x3, iv x4, iv y4, iv v20, .unset, .unset, .unset] [(.int (3 : Int32)), (.int y4)] tz := fun tz kt => by
              show oS p e below T4 m 51 #[iv x1, iv x2, iv x3, iv x4, iv y4, iv v20, .unset, .unset, .unset] [(.int (3 : Int32)), (.int y4)] _
              refine XS.icmpYes X4.here hx rfl (pc0 := 51) (pc' := 61) rfl (hb hby at_51) rfl (feq hc51).2 (by decide) (by decide) ?_
              refine XS.iload X4.here hx rfl (hb hby at_61) rfl ?_
              refine XS.iconst X4.here hx rfl (hb hby at_63) ?_
              exact kt
            by_cases hc64 : y4 = (4 : Int32)
            · have pre12 : ∀ tz, oS p e below T4 m 79 #[iv x1, iv x2, iv x3, iv x4, iv y4, iv v20, iv (v20 + (1 : Int32)), .unset, .unset] [] tz → oS p e below T4 m 64 #[iv x1, iv x2, iv x3, iv x4, iv y4, iv v20, .unset, .unset, .unset] [(.int (4 : Int32)), (.int y4)] tz := fun tz kt => by
                show oS p e below T4 m 64 #[iv x1, iv x2, iv x3, iv x4, iv y4, iv v20, .unset, .unset, .unset] [(.int (4 : Int32)), (.int y4)] _
                refine XS.icmpNo X4.here hx rfl (hb hby at_64) rfl (teq hc64).2 ?_
                refine XS.iload X4.here hx rfl (hb hby at_67) rfl ?_
                refine XS.iconst X4.here hx rfl (hb hby at_69) ?_
                refine XS.iadd X4.here hx rfl (hb hby at_70) rfl ?_
                show oS p e below T4 m 71 #[iv x1, iv x2, iv x3, iv x4, iv y4, iv v20, .unset, .unset, .unset] [(.int (v20 + (1 : Int32)))] _
                refine XS.istore X4.here hx rfl (hb hby at_71) rfl (l' := #[iv x1, iv x2, iv x3, iv x4, iv y4, iv v20, iv (v20 + (1 : Int32)), .unset, .unset]) rfl ?_
                refine XS.goto X4.here hx rfl (pc0 := 73) (pc' := 79) rfl (hb hby at_73) (by decide) (by decide) ?_
                exact kt
              exact ⟨(v20 + (1 : Int32)), T4, _, (by rw [if_neg hc25, if_neg hc37, if_neg hc51, if_pos hc64]), N4, X4, e4, fun tz kt => (pre7 _ (pre9 _ (pre11 _ (pre12 _ kt))))⟩
            · have pre13 : ∀ tz, oS p e below T4 m 79 #[iv x1, iv x2, iv x3, iv x4, iv y4, iv v20, iv x3, .unset, .unset] [] tz → oS p e below T4 m 64 #[iv x1, iv x2, iv x3, iv x4, iv y4, iv v20, .unset, .unset, .unset] [(.int (4 : Int32)), (.int y4)] tz := fun tz kt => by
                show oS p e below T4 m 64 #[iv x1, iv x2, iv x3, iv x4, iv y4, iv v20, .unset, .unset, .unset] [(.int (4 : Int32)), (.int y4)] _
                refine XS.icmpYes X4.here hx rfl (pc0 := 64) (pc' := 76) rfl (hb hby at_64) rfl (feq hc64).2 (by decide) (by decide) ?_
                refine XS.iloadN X4.here hx rfl (hb hby at_76) rfl ?_
                refine XS.istore X4.here hx rfl (hb hby at_77) rfl (l' := #[iv x1, iv x2, iv x3, iv x4, iv y4, iv v20, iv x3, .unset, .unset]) rfl ?_
                exact kt
              exact ⟨x3, T4, _, (by rw [if_neg hc25, if_neg hc37, if_neg hc51, if_neg hc64]), N4, X4, e4, fun tz kt => (pre7 _ (pre9 _ (pre11 _ (pre13 _ kt))))⟩)
  have hv79 : v79 = (if y4 = (1 : Int32) then x1 else (if y4 = (2 : Int32) then (x1 - (1 : Int32)) else (if y4 = (3 : Int32) then v20 else (if y4 = (4 : Int32) then (v20 + (1 : Int32)) else x3)))) := jv14
  obtain ⟨T15, h15, X15, e15, E15, A15, D15, -, st15⟩ := newO X14 hx hZ hown (own_w hw 0 rfl) (own_w hw 1 rfl) (own_w hw 2 rfl) e14 (g := (mkF m 79 #[iv x1, iv x2, iv x3, iv x4, iv y4, iv v20, iv v79, .unset, .unset] [])) rfl (hb hby at_79) (by decide) (by decide)
  obtain ⟨b15, g15⟩ : ∃ z, z = h0.size := ⟨_, rfl⟩
  rw [← g15] at A15 D15 st15
  have g_b15 : n0 ≤ b15 := Nat.le_trans Z0 (Nat.le_of_eq g15.symm)
  have F_lowest_b15 : Fld Z h15 b15 "com/example/planwright/planwright/model/RateBands$Band" "lowest" "I" (.int (0 : Int32)) := D15 (Or.inr (own_w hw 15 rfl)) (ty := .int) (by decide)
  have F_highest_b15 : Fld Z h15 b15 "com/example/planwright/planwright/model/RateBands$Band" "highest" "I" (.int (0 : Int32)) := D15 (Or.inr (own_w hw 17 rfl)) (ty := .int) (by decide)
  have Zc17 : n0 ≤ h15.size := (Nat.le_trans Z0 E15.1)
  obtain ⟨_, _, ⟨T16, Lw16, kw16, nw16⟩, -, X16, ⟨Lc16, hQ16, l16, y16, z16⟩, st16⟩ := X15.specialBack hx (y := (⟨"com/example/planwright/planwright/model/RateBands$Band", "<init>", "(II)V"⟩ : MethodName)) rfl hown (mvT hZ (own_w hw 3 rfl)) (mvT hZ (own_w hw 4 rfl)) (mvT hZ (own_w hw 5 rfl)) (by decide) (backOf (W := 1) (rm1 l Z a0 hw [] b15 x1 v20 (.int (0 : Int32)) (.int (0 : Int32)) h15 n0 Zc17 A15 F_lowest_b15 g_b15 F_highest_b15) hZ (own_w hw 5 rfl) (own_w hw 2 rfl) (by decide) (by decide)) (g := (mkF m 86 #[iv x1, iv x2, iv x3, iv x4, iv y4, iv v20, iv v79, .unset, .unset] [(.int v20), (.int x1), (.ref b15), (.ref b15)])) rfl (by rw [hml]; rfl) (Steps.refl _) (a := b15) (argsL := [(.int x1), (.int v20)]) (rest := [(.ref b15)]) (lenOf own_pd1 rfl) rfl (by show 2 * 0 + _ ≤ _; exact Nat.le_of_eq rfl) (hb hby at_86) (fun _ _ => ⟨rfl, e15, (by decide : 1 + 0 ≤ _), (by decide : 2 + 0 ≤ _)⟩)
  dsimp only [Pt.U, Pt.locs, Pt.cells, Pt.slots] at X16 l16 y16 z16 st16 hQ16
  subst l16 y16 z16
  obtain ⟨rfl, Nq16, K16, pf16_0, pf16_1, pf16_2⟩ := hQ16
  have N16 := Fr.app N14 Nq16
  have pre18 : ∀ tz, oS p e below T16 m 99 #[iv x1, iv x2, iv x3, iv x4, iv y4, iv v20, iv v79, rv b15, .unset] [(.int (lcmpW ((v79.toInt64) - (x1.toInt64)) (0 : Int64)))] tz → oS p e below T4 m 25 #[iv x1, iv x2, iv x3, iv x4, iv y4, iv v20, .unset, .unset, .unset] [(.int (1 : Int32)), (.int y4)] tz := fun tz kt => by
    show oS p e below T4 m 25 #[iv x1, iv x2, iv x3, iv x4, iv y4, iv v20, .unset, .unset, .unset] [(.int (1 : Int32)), (.int y4)] _
    refine st14 _ ?_
    show oS p e below T14 m 79 #[iv x1, iv x2, iv x3, iv x4, iv y4, iv v20, iv v79, .unset, .unset] [] _
    refine st15 _ ?_
    refine XS.dup X15.here hx rfl (hb hby at_82) rfl rfl ?_
    refine XS.iloadN X15.here hx rfl (hb hby at_83) rfl ?_
    refine XS.iload X15.here hx rfl (hb hby at_84) rfl ?_
    show oS p e below T15 m 86 #[iv x1, iv x2, iv x3, iv x4, iv y4, iv v20, iv v79, .unset, .unset] [(.int v20), (.int x1), (.ref b15), (.ref b15)] _
    refine st16.trans ?_
    refine XS.astore X16.here hx rfl (hb hby at_89) rfl rfl (l' := #[iv x1, iv x2, iv x3, iv x4, iv y4, iv v20, iv v79, rv b15, .unset]) rfl ?_
    refine XS.iload X16.here hx rfl (hb hby at_91) rfl ?_
    refine XS.i2l X16.here hx rfl (hb hby at_93) rfl ?_
    show oS p e below T16 m 94 #[iv x1, iv x2, iv x3, iv x4, iv y4, iv v20, iv v79, rv b15, .unset] [(.long (v79.toInt64))] _
    refine XS.iloadN X16.here hx rfl (hb hby at_94) rfl ?_
    refine XS.i2l X16.here hx rfl (hb hby at_95) rfl ?_
    refine XS.lsub X16.here hx rfl (hb hby at_96) rfl ?_
    refine XS.lconst X16.here hx rfl (hb hby at_97) ?_
    show oS p e below T16 m 98 #[iv x1, iv x2, iv x3, iv x4, iv y4, iv v20, iv v79, rv b15, .unset] [(.long (0 : Int64)), (.long ((v79.toInt64) - (x1.toInt64)))] _
    refine XS.lcmp X16.here hx rfl (hb hby at_98) rfl ?_
    exact kt
  obtain ⟨v119, T23, Lj23, jv23, N23, X23, e23, st23⟩ := own_join (α := Int32) X16 N16 rfl (mkF m 99 #[iv x1, iv x2, iv x3, iv x4, iv y4, iv v20, iv v79, rv b15, .unset] [(.int (lcmpW ((v79.toInt64) - (x1.toInt64)) (0 : Int64)))]) (fun v => (mkF m 119 #[iv x1, iv x2, iv x3, iv x4, iv y4, iv v20, iv v79, rv b15, .unset] [(.int v)])) (fun v => v = (if ((v79.toInt64) - (x1.toInt64)) < (0 : Int64) then (0 : Int32) else (if ((v20.toInt64) - (v79.toInt64)) < (0 : Int64) then (0 : Int32) else (1 : Int32)))) (by
      by_cases hc99 : ((v79.toInt64) - (x1.toInt64)) < (0 : Int64)
      · have pre19 : ∀ tz, oS p e below T16 m 119 #[iv x1, iv x2, iv x3, iv x4, iv y4, iv v20, iv v79, rv b15, .unset] [(.int (0 : Int32))] tz → oS p e below T16 m 99 #[iv x1, iv x2, iv x3, iv x4, iv y4, iv v20, iv v79, rv b15, .unset] [(.int (lcmpW ((v79.toInt64) - (x1.toInt64)) (0 : Int64)))] tz := fun tz kt => by
          show oS p e below T16 m 99 #[iv x1, iv x2, iv x3, iv x4, iv y4, iv v20, iv v79, rv b15, .unset] [(.int (lcmpW ((v79.toInt64) - (x1.toInt64)) (0 : Int64)))] _
          refine XS.ifYes X16.here hx rfl (pc0 := 99) (pc' := 118) rfl (hb hby at_99) rfl ((if0 _ _).trans (tlt ((lw_lt ((v79.toInt64) - (x1.toInt64)) (0 : Int64)).mpr hc99)).1) (by decide) (by decide) ?_
          refine XS.iconst X16.here hx rfl (hb hby at_118) ?_
          exact kt
        exact ⟨(0 : Int32), T16, _, (by rw [if_pos hc99]), N16, X16, rfl, fun tz kt => (pre19 _ kt)⟩
      · have pre20 : ∀ tz, oS p e below T16 m 111 #[iv x1, iv x2, iv x3, iv x4, iv y4, iv v20, iv v79, rv b15, .unset] [(.int (lcmpW ((v20.toInt64) - (v79.toInt64)) (0 : Int64)))] tz → oS p e below T16 m 99 #[iv x1, iv x2, iv x3, iv x4, iv y4, iv v20, iv v79, rv b15, .unset] [(.int (lcmpW ((v79.toInt64) - (x1.toInt64)) (0 : Int64)))] tz := fun tz kt => by
          show oS p e below T16 m 99 #[iv x1, iv x2, iv x3, iv x4, iv y4, iv v20, iv v79, rv b15, .unset] [(.int (lcmpW ((v79.toInt64) - (x1.toInt64)) (0 : Int64)))] _
          refine XS.ifNo X16.here hx rfl (hb hby at_99) rfl ((if0 _ _).trans (flt (fun q => hc99 ((lw_lt ((v79.toInt64) - (x1.toInt64)) (0 : Int64)).mp q))).1) ?_
          refine XS.iload X16.here hx rfl (hb hby at_102) rfl ?_
          refine XS.i2l X16.here hx rfl (hb hby at_104) rfl ?_
          refine XS.iload X16.here hx rfl (hb hby at_105) rfl ?_
          show oS p e below T16 m 107 #[iv x1, iv x2, iv x3, iv x4, iv y4, iv v20, iv v79, rv b15, .unset] [(.int v79), (.long (v20.toInt64))] _
          refine XS.i2l X16.here hx rfl (hb hby at_107) rfl ?_
          refine XS.lsub X16.here hx rfl (hb hby at_108) rfl ?_
          refine XS.lconst X16.here hx rfl (hb hby at_109) ?_
          refine XS.lcmp X16.here hx rfl (hb hby at_110) rfl ?_
          exact kt
        by_cases hc111 : ((v20.toInt64) - (v79.toInt64)) < (0 : Int64)
        · have pre21 : ∀ tz, oS p e below T16 m 119 #[iv x1, iv x2, iv x3, iv x4, iv y4, iv v20, iv v79, rv b15, .unset] [(.int (0 : Int32))] tz → oS p e below T16 m 111 #[iv x1, iv x2, iv x3, iv x4, iv y4, iv v20, iv v79, rv b15, .unset] [(.int (lcmpW ((v20.toInt64) - (v79.toInt64)) (0 : Int64)))] tz := fun tz kt => by
            show oS p e below T16 m 111 #[iv x1, iv x2, iv x3, iv x4, iv y4, iv v20, iv v79, rv b15, .unset] [(.int (lcmpW ((v20.toInt64) - (v79.toInt64)) (0 : Int64)))] _
            refine XS.ifYes X16.here hx rfl (pc0 := 111) (pc' := 118) rfl (hb hby at_111) rfl ((if0 _ _).trans (tlt ((lw_lt ((v20.toInt64) - (v79.toInt64)) (0 : Int64)).mpr hc111)).1) (by decide) (by decide) ?_
            refine XS.iconst X16.here hx rfl (hb hby at_118) ?_
            exact kt
          exact ⟨(0 : Int32), T16, _, (by rw [if_neg hc99, if_pos hc111]), N16, X16, rfl, fun tz kt => (pre20 _ (pre21 _ kt))⟩
        · have pre22 : ∀ tz, oS p e below T16 m 119 #[iv x1, iv x2, iv x3, iv x4, iv y4, iv v20, iv v79, rv b15, .unset] [(.int (1 : Int32))] tz → oS p e below T16 m 111 #[iv x1, iv x2, iv x3, iv x4, iv y4, iv v20, iv v79, rv b15, .unset] [(.int (lcmpW ((v20.toInt64) - (v79.toInt64)) (0 : Int64)))] tz := fun tz kt => by
            show oS p e below T16 m 111 #[iv x1, iv x2, iv x3, iv x4, iv y4, iv v20, iv v79, rv b15, .unset] [(.int (lcmpW ((v20.toInt64) - (v79.toInt64)) (0 : Int64)))] _
            refine XS.ifNo X16.here hx rfl (hb hby at_111) rfl ((if0 _ _).trans (flt (fun q => hc111 ((lw_lt ((v20.toInt64) - (v79.toInt64)) (0 : Int64)).mp q))).1) ?_
            refine XS.iconst X16.here hx rfl (hb hby at_114) ?_
            refine XS.goto X16.here hx rfl (pc0 := 115) (pc' := 119) rfl (hb hby at_115) (by decide) (by decide) ?_
            exact kt
          exact ⟨(1 : Int32), T16, _, (by rw [if_neg hc99, if_neg hc111]), N16, X16, rfl, fun tz kt => (pre20 _ (pre22 _ kt))⟩)
  have hv119 : v119 = (if ((v79.toInt64) - (x1.toInt64)) < (0 : Int64) then (0 : Int32) else (if ((v20.toInt64) - (v79.toInt64)) < (0 : Int64) then (0 : Int32) else (1 : Int32))) := jv23
  have Zc25 : n0 ≤ T16.heap.size := (Nat.le_trans Zc17 K16.1)
  obtain ⟨cq24, kq24, q24a, q24b, q24c⟩ := isOf hZ e23 pf16_0
  obtain ⟨_, _, ⟨T24, Lw24, kw24, nw24⟩, -, X24, ⟨Lc24, hQ24, l24, y24, z24⟩, st24⟩ := X23.virtualBack hx (y := (⟨"com/example/planwright/planwright/model/RateBands$Band", "holds", "(I)Z"⟩ : MethodName)) (z := (⟨"com/example/planwright/planwright/model/RateBands$Band", "holds", "(I)Z"⟩ : MethodName)) hown (mvT hZ (own_w hw 18 rfl)) (mvT hZ (own_w hw 19 rfl)) (notFace_of_selects (args := #[]) (mvT hZ (own_w hw 21 rfl))) (mvT hZ (own_w hw 21 rfl)) (mvT hZ (own_w hw 20 rfl)) (by decide) (backOf (W := 0) (rm4 l Z a0 hw [] b15 v79 x1 v20 T16.heap n0 Zc25 pf16_1 pf16_2) hZ (own_w hw 22 rfl) (own_w hw 2 rfl) (by decide) (by decide)) q24a q24c (g := (mkF m 125 #[iv x1, iv x2, iv x3, iv x4, iv y4, iv v20, iv v79, rv b15, iv v119] [(.int v79), (.ref b15)])) rfl (by rw [hml]; rfl) (Steps.refl _) (argsL := [(.int v79)]) (rest := []) (lenOf own_pd2 rfl) rfl (by show 2 * 0 + _ ≤ _; exact Nat.le_of_eq rfl) (hb hby at_125) (fun _ _ => ⟨rfl, e23, (by decide : 1 + 0 ≤ _), (by decide : 2 + 0 ≤ _)⟩)
  dsimp only [Pt.U, Pt.locs, Pt.cells, Pt.slots] at X24 l24 y24 z24 st24 hQ24
  subst l24 y24 z24
  obtain ⟨rfl, Nq24, eh24⟩ := hQ24
  have N24 := Fr.app N23 Nq24
  have hc130 : (if v79 < x1 then (0 : Int32) else (if v20 < v79 then (0 : Int32) else (1 : Int32))) = v119 := Classical.byContradiction fun hc130 => by
    subst hv119; exact hc130 (own_law _ _ _)
  have pre26 : ∀ tz, oS p e below T24 m 138 #[iv x1, iv x2, iv x3, iv x4, iv y4, iv v20, iv v79, rv b15, iv v119] [(.int (1 : Int32))] tz → oS p e below T16 m 99 #[iv x1, iv x2, iv x3, iv x4, iv y4, iv v20, iv v79, rv b15, .unset] [(.int (lcmpW ((v79.toInt64) - (x1.toInt64)) (0 : Int64)))] tz := fun tz kt => by
    show oS p e below T16 m 99 #[iv x1, iv x2, iv x3, iv x4, iv y4, iv v20, iv v79, rv b15, .unset] [(.int (lcmpW ((v79.toInt64) - (x1.toInt64)) (0 : Int64)))] _
    refine st23 _ ?_
    refine XS.istore X23.here hx rfl (hb hby at_119) rfl (l' := #[iv x1, iv x2, iv x3, iv x4, iv y4, iv v20, iv v79, rv b15, iv v119]) rfl ?_
    refine XS.aload X23.here hx rfl (hb hby at_121) rfl rfl ?_
    refine XS.iload X23.here hx rfl (hb hby at_123) rfl ?_
    show oS p e below T23 m 125 #[iv x1, iv x2, iv x3, iv x4, iv y4, iv v20, iv v79, rv b15, iv v119] [(.int v79), (.ref b15)] _
    refine st24.trans ?_
    refine XS.iload X24.here hx rfl (hb hby at_128) rfl ?_
    refine XS.icmpNo X24.here hx rfl (hb hby at_130) rfl (teq hc130).2 ?_
    refine XS.iconst X24.here hx rfl (hb hby at_133) ?_
    show oS p e below T24 m 134 #[iv x1, iv x2, iv x3, iv x4, iv y4, iv v20, iv v79, rv b15, iv v119] [(.int (1 : Int32))] _
    refine XS.goto X24.here hx rfl (pc0 := 134) (pc' := 138) rfl (hb hby at_134) (by decide) (by decide) ?_
    exact kt
  obtain ⟨fs, hr, hrun, hended, hW, hsame⟩ := X24.leave (v := some (.int (1 : Int32))) (fun h => by rw [Bd.returns] at h; cases h)
  refine ⟨_, _, pre0 _ (pre1 _ (pre5 _ (pre18 _ (pre26 _ ?_)))), hrun, hended, _, _, rfl, ?_, ⟨_, rfl⟩, hW, hsame.mono (by decide) (by decide)⟩
  · show oS p e below T24 m 138 #[iv x1, iv x2, iv x3, iv x4, iv y4, iv v20, iv v79, rv b15, iv v119] [(.int (1 : Int32))] _
    exact retN X24 hx (t := .boolean) Bd.returns (by simp) (hb hby at_138) hr
  · show Q0 Z x1 x2 x3 x4 h0 n0 _ T24.heap _
    rw [eh24]
    exact ⟨rfl, N24⟩
set_option maxRecDepth 65536 in
set_option maxHeartbeats 40000000 in
theorem comes_1 {Post : Tables → Env → Array Value → State → Outcome → State → Prop} (hpost : ∀ tb e args s v u, (limb_1_1.after args s (.returned v) u = true ∧ limb_1_2.after args s (.returned v) u = true ∧ True) → FrameEnd s (.returned v) u (Jvm.fieldLocs frame_1_writes args s ++ Jvm.arrayLocs frame_1_arrays args s ++ Jvm.staticLocs frame_1_statics s) 16 128 → Post tb e args s (.returned v) u) :
    ArmFor flags0 classFile x code maxLocals ret World_1 tables_1 room_1 Calls_1 rest_1 Pre_1 Post := by
  intro l hfl _ _ p e ha hc hk s m args below hf hA hF happ hP
  obtain ⟨hcalls, hrest, hpre⟩ := hP
  obtain ⟨-, -, -, hnamed, -, -, -, hat⟩ := (Spec.applies_iff hf).mp happ
  obtain ⟨hg, hn⟩ := and_e (Cond.before_iff.mp (show (Jvm.Cond.and given_1 narrow_1).before args s = true from hpre))
  obtain ⟨gc, gr0⟩ := and_e hg
  obtain ⟨ga0, gr1⟩ := and_e gr0
  obtain ⟨ga1, gr2⟩ := and_e gr1
  obtain ⟨ga2, gr3⟩ := and_e gr2
  have ga3 := gr3
  obtain ⟨w0, w1, w2, w3, rfl⟩ : ∃ w0 w1 w2 w3 : Value, args = #[w0, w1, w2, w3] := by
    have hs : args.size = 4 := by simpa [Cond.value, given_1] using gc
    obtain ⟨L⟩ := args
    match L, hs with
    | [w0, w1, w2, w3], _ => exact ⟨w0, w1, w2, w3, rfl⟩
  have hw := fun d (hd : d ∈ tables_1) => atoms_spec (ws := Jvm.Cond.code x code maxLocals ret :: tables_1) hat d (List.mem_cons_of_mem _ hd)
  obtain ⟨i0, ei0⟩ := is_v ga0
  obtain rfl : w0 = (.int i0) := Option.some.inj ei0
  obtain ⟨i1, ei1⟩ := is_v ga1
  obtain rfl : w1 = (.int i1) := Option.some.inj ei1
  obtain ⟨i2, ei2⟩ := is_v ga2
  obtain rfl : w2 = (.int i2) := Option.some.inj ei2
  obtain ⟨i3, ei3⟩ := is_v ga3
  obtain rfl : w3 = (.int i3) := Option.some.inj ei3
  obtain ⟨n, o, h1, h2, h3, _, L, rfl, ⟨rfl, N⟩, hq⟩ := rm0 l s _ hw tables_1 i0 i1 i2 i3 s.heap s.heap.size (Nat.le_refl _)  p e ha hc hk s m _ below hf ((Spec.applies_iff_loose hf).mp happ).1 ⟨rfl, State.Warmed39.refl s, rfl⟩ trivial
  refine ⟨n, _, h1, h2, h3, hpost _ _ _ _ _ _ ⟨Cond.after_iff.mpr rfl, Cond.after_iff.mpr (eq_i res_at (Term.int_eval (1)) rfl), trivial⟩ ⟨hq.1, hq.2.1, (hq.2.2.sift fun y hy => Or.inr (N y hy)).mono (by decide) (by decide)⟩⟩
theorem main_1_1 : Claimed_1_1 := comes_1 fun _ _ _ _ _ _ h hF => ⟨h.1, hF⟩
theorem main_1_2 : Claimed_1_2 := comes_1 fun _ _ _ _ _ _ h hF => ⟨h.2.1, hF⟩
end Jvm.Pilot.@@N@@
namespace Jvm.Pilot.@@N@@
open Jvm Jvm.ClassFile Sem Op Lib Jvm.Free Jvm.Stand Jvm.Pilot.@@N@@.Jvm.D
/-! MADE BY PROGRAM (witnessworld.py) out of the Statement's table words and the real class files: 10 classes; the members and pool entries that the words name. The judged class is class 1, her method 1. -/
namespace start1
open Jvm.ClassFile
def u (s : String) : CpInfo := .utf8 (stringToUtf16 s)
/-- a pool by its gaps: so many unusable entries, then the entry; so many at the end -/
def gap : Nat → List CpInfo → List CpInfo
  | 0, r => r
  | n + 1, r => .unusable :: gap n r
def poolList (es : List (Nat × CpInfo)) (last : Nat) : List CpInfo := es.foldr (fun e r => gap e.1 (e.2 :: r)) (gap last [])
def pool (es : List (Nat × CpInfo)) (last : Nat) : Array CpInfo := ⟨poolList es last⟩
def fileOf (pool : Array CpInfo) (this : Nat) (attrs : Array Attribute := #[]) (ms : Array MethodInfo := #[]) (fl : Nat := 33) (sup : Nat := 0) (ifs : Array Nat := #[]) (fds : Array FieldInfo := #[]) : ClassFile where
  minorVersion := 0
  majorVersion := 65
  constantPool := pool
  accessFlags := fl
  thisClass := this
  superClass := sup
  interfaces := ifs
  fields := fds
  methods := ms
  attributes := attrs
def plain (name : String) (sup : Option ClassId) : Class where
  name := name
  kind := .ordinary
  loader := none
  accessFlags := 33
  super := sup
  interfaces := #[]
  cf := none
  fields := #[]
  methods := #[]
  instanceTypes := #[]
  staticTypes := #[]
  resolved := #[]
  callSites := []
  init := .initialized
  statics := none
  mirror := none

def pool0 : Array CpInfo := pool [(5, u "<init>"), (0, u "()V"), (1, .class_ 10), (1, u "java/lang/Object")] 113

def k0c0 : Code := { maxStack := 0, maxLocals := 1, code := object_method_1_code, exceptionTable := #[], attributes := #[] }
def k0m0 : Method := { name := "<init>", desc := "()V", sig := { parameters := [], returnType := none }, accessFlags := 1, code := some k0c0 }
/-- java/lang/Object -/
def k0 : Class := { plain "java/lang/Object" none with
  accessFlags := 33
  interfaces := #[]
  cf := some (fileOf pool0 8 #[] #[{ accessFlags := 1, nameIndex := 5, descriptorIndex := 6, attributes := #[] }] 33 0 #[] #[])
  fields := #[]
  methods := #[k0m0]
  instanceTypes := #[]
  staticTypes := #[]
  resolved := Array.replicate 124 none
  statics := none }

def pool1 : Array CpInfo := pool [(2, .class_ 4), (1, u "java/lang/Object"), (0, u "<init>"), (0, u "()V"), (0, .class_ 8), (0, u "com/example/planwright/planwright/model/RateBands$Band"), (0, .integer 2147483647), (0, .methodref 7 11), (0, .nameAndType 5 12), (0, u "(II)V"), (0, .methodref 7 14), (0, .nameAndType 15 16), (0, u "holds"), (0, u "(I)Z"), (0, .class_ 18), (0, u "com/example/planwright/planwright/model/BandHoldsPinLaw"), (2, u "law"), (0, u "(IIII)Z")] 7

def k1m0 : Method := { name := "<init>", desc := "()V", sig := { parameters := [], returnType := none }, accessFlags := 2, code := none }
def k1c1 : Code := { maxStack := 4, maxLocals := 9, code := code, exceptionTable := #[], attributes := #[] }
def k1m1 : Method := { name := "law", desc := "(IIII)Z", sig := { parameters := [.int, .int, .int, .int], returnType := some .boolean }, accessFlags := 9, code := some k1c1 }
/-- com/example/planwright/planwright/model/BandHoldsPinLaw -/
def k1 : Class := { plain "com/example/planwright/planwright/model/BandHoldsPinLaw" (some 0) with
  accessFlags := 49
  interfaces := #[]
  cf := some (fileOf pool1 17 #[] #[{ accessFlags := 2, nameIndex := 5, descriptorIndex := 6, attributes := #[] }, { accessFlags := 9, nameIndex := 21, descriptorIndex := 22, attributes := #[] }] 49 2 #[] #[])
  fields := #[]
  methods := #[k1m0, k1m1]
  instanceTypes := #[]
  staticTypes := #[]
  resolved := Array.replicate 30 none
  statics := none }

def pool2 : Array CpInfo := pool [(1, .methodref 2 3), (0, .class_ 4), (0, .nameAndType 5 6), (0, u "java/lang/Object"), (0, u "<init>"), (0, u "()V"), (0, .class_ 8), (0, u "java/lang/Record")] 13

def k2c0 : Code := { maxStack := 1, maxLocals := 1, code := jdk_30_method_1_code, exceptionTable := #[], attributes := #[] }
def k2m0 : Method := { name := "<init>", desc := "()V", sig := { parameters := [], returnType := none }, accessFlags := 4, code := some k2c0 }
/-- java/lang/Record -/
def k2 : Class := { plain "java/lang/Record" (some 0) with
  accessFlags := 1057
  interfaces := #[]
  cf := some (fileOf pool2 7 #[] #[{ accessFlags := 4, nameIndex := 5, descriptorIndex := 6, attributes := #[] }] 1057 2 #[] #[])
  fields := #[]
  methods := #[k2m0]
  instanceTypes := #[]
  staticTypes := #[]
  resolved := Array.replicate 22 none
  statics := none }

def pool3 : Array CpInfo := pool [(3, .methodref 4 5), (0, .class_ 6), (0, .nameAndType 7 8), (0, u "java/lang/Record"), (0, u "<init>"), (0, u "()V"), (0, .fieldref 10 11), (0, .class_ 12), (0, .nameAndType 13 14), (0, u "com/example/planwright/planwright/model/RateBands$Band"), (0, u "lowest"), (0, u "I"), (0, .fieldref 10 16), (0, .nameAndType 17 14), (0, u "highest"), (2, u "UNDER"), (0, u "Ljava/util/regex/Pattern;"), (8, u "THROUGH"), (2, u "OR_MORE"), (16, u "(II)V"), (35, u "NO_HIGHEST"), (7, u "holds"), (0, u "(I)Z"), (10, .class_ 107), (0, u "com/example/planwright/planwright/model/RateBands")] 36

def k3c0 : Code := { maxStack := 2, maxLocals := 3, code := prog_90_method_1_code, exceptionTable := #[], attributes := #[] }
def k3m0 : Method := { name := "<init>", desc := "(II)V", sig := { parameters := [.int, .int], returnType := none }, accessFlags := 1, code := some k3c0 }
def k3c1 : Code := { maxStack := 2, maxLocals := 2, code := prog_90_method_3_code, exceptionTable := #[], attributes := #[] }
def k3m1 : Method := { name := "holds", desc := "(I)Z", sig := { parameters := [.int], returnType := some .boolean }, accessFlags := 1, code := some k3c1 }
/-- com/example/planwright/planwright/model/RateBands$Band -/
def k3 : Class := { plain "com/example/planwright/planwright/model/RateBands$Band" (some 2) with
  accessFlags := 49
  interfaces := #[]
  cf := some (fileOf pool3 10 #[.nestHost 106] #[{ accessFlags := 1, nameIndex := 7, descriptorIndex := 50, attributes := #[] }, { accessFlags := 1, nameIndex := 94, descriptorIndex := 95, attributes := #[] }] 49 4 #[] #[{ accessFlags := 18, nameIndex := 13, descriptorIndex := 14, attributes := #[] }, { accessFlags := 18, nameIndex := 17, descriptorIndex := 14, attributes := #[] }, { accessFlags := 25, nameIndex := 86, descriptorIndex := 14, attributes := #[] }, { accessFlags := 26, nameIndex := 20, descriptorIndex := 21, attributes := #[] }, { accessFlags := 26, nameIndex := 30, descriptorIndex := 21, attributes := #[] }, { accessFlags := 26, nameIndex := 33, descriptorIndex := 21, attributes := #[] }])
  fields := #[{ name := "lowest", type := .int, accessFlags := 18, slot := 0, constantValue := 0 }, { name := "highest", type := .int, accessFlags := 18, slot := 1, constantValue := 0 }, { name := "NO_HIGHEST", type := .int, accessFlags := 25, slot := 0, constantValue := 0 }, { name := "UNDER", type := (.object "java/util/regex/Pattern"), accessFlags := 26, slot := 1, constantValue := 0 }, { name := "THROUGH", type := (.object "java/util/regex/Pattern"), accessFlags := 26, slot := 2, constantValue := 0 }, { name := "OR_MORE", type := (.object "java/util/regex/Pattern"), accessFlags := 26, slot := 3, constantValue := 0 }]
  methods := #[k3m0, k3m1]
  instanceTypes := #[.int, .int]
  staticTypes := #[.int, (.object "java/util/regex/Pattern"), (.object "java/util/regex/Pattern"), (.object "java/util/regex/Pattern")]
  resolved := Array.replicate 144 none
  statics := none }

def pool4 : Array CpInfo := pool [(1, u "java/lang/Cloneable"), (0, .class_ 1), (0, u "java/lang/Object"), (0, .class_ 3)] 3

/-- java/lang/Cloneable -/
def k4 : Class := { plain "java/lang/Cloneable" (some 0) with
  accessFlags := 1537
  interfaces := #[]
  cf := some (fileOf pool4 2 #[] #[] 1537 4 #[] #[])
  fields := #[]
  methods := #[]
  instanceTypes := #[]
  staticTypes := #[]
  resolved := Array.replicate 8 none
  statics := none }

def pool5 : Array CpInfo := pool [(1, u "java/io/Serializable"), (0, .class_ 1), (0, u "java/lang/Object"), (0, .class_ 3)] 3

/-- java/io/Serializable -/
def k5 : Class := { plain "java/io/Serializable" (some 0) with
  accessFlags := 1537
  interfaces := #[]
  cf := some (fileOf pool5 2 #[] #[] 1537 4 #[] #[])
  fields := #[]
  methods := #[]
  instanceTypes := #[]
  staticTypes := #[]
  resolved := Array.replicate 8 none
  statics := none }

/-- the primitive byte -/
def k6 : Class := { plain "byte" none with kind := .primitive 'B', accessFlags := 0x411 }
/-- [B -/
def k7 : Class := { plain "[B" (some 0) with kind := .array 6 .byte, interfaces := #[4, 5], accessFlags := 1041 }

/-- the primitive int -/
def k8 : Class := { plain "int" none with kind := .primitive 'I', accessFlags := 0x411 }
/-- [I -/
def k9 : Class := { plain "[I" (some 0) with kind := .array 8 .int, interfaces := #[4, 5], accessFlags := 1041 }

def heap : Heap := #[]
def classes : Array Class := #[k0, k1, k2, k3, k4, k5, k6, k7, k8, k9]
def interned : List (Array UInt16 × Addr) := []
def slotsUsed : Nat := 0
def theMethod : MethodId := ⟨1, 1⟩
def args0 : Array Value := #[.int 5, .int 6, .int 7, .int 8]
def aboutOver (below : List Frame) : State where
  vm := { classes := classes, interned := interned.toArray }
  heap := heap
  slotsUsed := slotsUsed
  threads := #[{ frames := .invoking theMethod args0 :: below }]
def below0 : List Frame := [.native { method := ⟨0, 0⟩, args := #[] }]
def about1 : State := aboutOver below0
def p0 : Program := .bare "" "" ""
def e0 : Env := launch0.env 0 0 0
theorem w_frames : about1.frames = Frame.invoking theMethod args0 :: below0 := rfl
set_option maxRecDepth 65536 in
theorem w_args : argsFit about1.vm theMethod args0 = true := by decide +kernel
set_option maxRecDepth 65536 in
theorem w_heap : heapFits about1 = true := by decide +kernel
set_option maxRecDepth 65536 in
theorem w_runnable : about1.curStatus? = some .runnable := by decide +kernel
set_option maxRecDepth 65536 in
theorem w_alone : about1.alone = true := by decide +kernel
set_option maxRecDepth 65536 in
theorem w_named : about1.methodNamed? x = some theMethod := by decide +kernel
set_option maxRecDepth 65536 in
theorem w_hears : about1.hears theMethod below0 = true := by decide +kernel
set_option maxRecDepth 65536 in
theorem w_ripe : about1.ripe theMethod args0 below0 = true := by decide +kernel
theorem w_running : about1.status = .running := rfl
set_option maxRecDepth 65536 in
theorem w_room : about1.hasRoom e0.platform room_1 = true :=
  launch0.hasRoom_least _ room_1 (by decide +kernel) (by decide +kernel) (by decide +kernel) (by decide +kernel) (by decide +kernel) (by decide +kernel)
theorem allAtoms_all (ts : List Jvm.Cond) (a : Array Jvm.Value) (st : Jvm.State) : (allAtoms ts).before a st = ts.all (fun c => c.before a st) := by
  induction ts with
  | nil => rfl
  | cons c t ih =>
    show (Jvm.Cond.and c (allAtoms t)).before a st = _
    rw [Jvm.Cond.before_and, ih, List.all_cons]
def words1 : List Jvm.Cond := Jvm.Cond.code x code maxLocals ret :: tables_1
/-- a 'code' word, met by the world's own term for the bytes: nothing is compared byte by byte -/
theorem code_word {y : MethodName} {bytes : ByteArray} {mx : Nat} {rt : Option FieldType} {a : Array Value} {s : State} {m : MethodId} {meth : Method} {c : Code} (h1 : s.methodNamed? y = some m) (h2 : s.vm.method? m = some meth) (h3 : meth.code = some c) (h4 : c.code = bytes)
    (h5 : (c.maxLocals == mx && c.exceptionTable.isEmpty && decide (c.maxStack ≤ mostOperands) && decide (meth.sig.returnType = rt) && !meth.locks && decide (parseMethodDescriptor y.desc = some meth.sig)) = true) : (Jvm.Cond.code y bytes mx rt).before a s = true := by
  simp only [Bool.and_eq_true, beq_iff_eq, Bool.not_eq_true', decide_eq_true_eq] at h5
  obtain ⟨⟨⟨⟨⟨g1, g2⟩, g3⟩, g4⟩, g5⟩, g6⟩ := h5
  simp [Cond.before, Cond.holds, Cond.value, h1, h2, h3, h4, g1, g2, g3, g4, g5, g6]
def isCode : Jvm.Cond → Bool
  | .code _ _ _ _ => true
  | _ => false
theorem all_split {L : List Jvm.Cond} {P : Jvm.Cond → Bool} (h1 : L.all (fun c => isCode c || P c) = true) (h2 : ∀ c ∈ L.filter isCode, P c = true) : L.all P = true := by
  refine List.all_eq_true.mpr fun c hc => ?_
  have h := List.all_eq_true.mp h1 c hc
  rcases Bool.eq_false_or_eq_true (isCode c) with hi | hi
  · exact h2 c (List.mem_filter.mpr ⟨hc, hi⟩)
  · simpa [hi] using h
set_option maxRecDepth 65536 in
theorem w_c0 : (Jvm.Cond.code x code maxLocals ret).before args0 about1 = true := code_word (m := ⟨1, 1⟩) (meth := k1m1) (c := k1c1) (by decide +kernel) rfl rfl rfl (by decide +kernel)
set_option maxRecDepth 65536 in
theorem w_c1 : (Jvm.Cond.code ({ cls := "com/example/planwright/planwright/model/RateBands$Band", name := "<init>", desc := "(II)V" } : Jvm.MethodName) prog_90_method_1_code (3 : Nat) (Option.none : Option Jvm.ClassFile.FieldType)).before args0 about1 = true := code_word (m := ⟨3, 0⟩) (meth := k3m0) (c := k3c0) (by decide +kernel) rfl rfl rfl (by decide +kernel)
set_option maxRecDepth 65536 in
theorem w_c2 : (Jvm.Cond.code ({ cls := "java/lang/Record", name := "<init>", desc := "()V" } : Jvm.MethodName) jdk_30_method_1_code (1 : Nat) (Option.none : Option Jvm.ClassFile.FieldType)).before args0 about1 = true := code_word (m := ⟨2, 0⟩) (meth := k2m0) (c := k2c0) (by decide +kernel) rfl rfl rfl (by decide +kernel)
set_option maxRecDepth 65536 in
theorem w_c3 : (Jvm.Cond.code ({ cls := "java/lang/Object", name := "<init>", desc := "()V" } : Jvm.MethodName) object_method_1_code (1 : Nat) (Option.none : Option Jvm.ClassFile.FieldType)).before args0 about1 = true := code_word (m := ⟨0, 0⟩) (meth := k0m0) (c := k0c0) (by decide +kernel) rfl rfl rfl (by decide +kernel)
set_option maxRecDepth 65536 in
theorem w_c4 : (Jvm.Cond.code ({ cls := "com/example/planwright/planwright/model/RateBands$Band", name := "holds", desc := "(I)Z" } : Jvm.MethodName) prog_90_method_3_code (2 : Nat) (Option.some Jvm.ClassFile.FieldType.boolean)).before args0 about1 = true := code_word (m := ⟨3, 1⟩) (meth := k3m1) (c := k3c1) (by decide +kernel) rfl rfl rfl (by decide +kernel)
def codes1 : List Jvm.Cond := [Jvm.Cond.code x code maxLocals ret, Jvm.Cond.code ({ cls := "com/example/planwright/planwright/model/RateBands$Band", name := "<init>", desc := "(II)V" } : Jvm.MethodName) prog_90_method_1_code (3 : Nat) (Option.none : Option Jvm.ClassFile.FieldType), Jvm.Cond.code ({ cls := "java/lang/Record", name := "<init>", desc := "()V" } : Jvm.MethodName) jdk_30_method_1_code (1 : Nat) (Option.none : Option Jvm.ClassFile.FieldType), Jvm.Cond.code ({ cls := "java/lang/Object", name := "<init>", desc := "()V" } : Jvm.MethodName) object_method_1_code (1 : Nat) (Option.none : Option Jvm.ClassFile.FieldType), Jvm.Cond.code ({ cls := "com/example/planwright/planwright/model/RateBands$Band", name := "holds", desc := "(I)Z" } : Jvm.MethodName) prog_90_method_3_code (2 : Nat) (Option.some Jvm.ClassFile.FieldType.boolean)]
set_option maxRecDepth 65536 in
theorem codes_eq : words1.filter isCode = codes1 := rfl
theorem w_codes : ∀ c ∈ words1.filter isCode, c.before args0 about1 = true := by
  rw [codes_eq]
  intro c hc
  simp only [codes1, List.mem_cons, List.not_mem_nil, or_false] at hc
  rcases hc with rfl | rfl | rfl | rfl | rfl
  · exact w_c0
  · exact w_c1
  · exact w_c2
  · exact w_c3
  · exact w_c4
set_option maxRecDepth 65536 in
theorem w_t1 : (words1.take 24).all (fun c => isCode c || c.before args0 about1) = true := by decide +kernel
set_option maxRecDepth 65536 in
theorem w_t2 : (words1.drop 24).all (fun c => isCode c || c.before args0 about1) = true := by decide +kernel
theorem w_tables : (allAtoms (Jvm.Cond.code x code maxLocals ret :: tables_1)).before args0 about1 = true := by
  rw [allAtoms_all]
  show words1.all (fun c => c.before args0 about1) = true
  refine all_split ?_ w_codes
  rw [← List.take_append_drop 24 words1, List.all_append, w_t1, w_t2]
  rfl
set_option maxRecDepth 65536 in
theorem w_case : (Jvm.Cond.and given_1 narrow_1).before args0 about1 = true := by decide +kernel
theorem w_applies : (headSpec (Jvm.Cond.code x code maxLocals ret :: tables_1) room_1).applies x e0.platform about1 = true :=
  (Spec.applies_iff w_frames).mpr ⟨w_running, w_runnable, w_alone, w_named, w_hears, w_ripe, w_room, w_tables⟩
theorem atStart : AtStart classFile x code maxLocals ret World_1 tables_1 room_1 Calls_1 rest_1 Pre_1 launch0 p0 e0 about1 theMethod args0 below0 :=
  ⟨lists_1, trivial, launch0.admits_env _ _ _, launch0.least_env, fairChoices_fair.cas, fairChoices_fair.clock, w_frames, w_args, w_heap, w_applies, trivial, trivial, w_case⟩
end start1
theorem witness_1 : WitnessClaimed_1 := ⟨start1.p0, start1.e0, start1.about1, start1.theMethod, start1.args0, start1.below0, start1.atStart⟩
end Jvm.Pilot.@@N@@
