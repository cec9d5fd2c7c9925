import JvmDerived
import JvmDerived.Pilot.@@N@@Statement
import JvmDerived.Pilot.@@N@@Code
set_option linter.unusedVariables false
set_option linter.unusedSimpArgs false
namespace Jvm.Pilot.@@N@@
open Jvm Jvm.ClassFile Sem Op Lib Jvm.Free Jvm.Stand Jvm.LawKit Jvm.RoadKit Bundle Jvm.Pilot.@@N@@.Jvm.D
theorem own_w {a0 : Array Value} {Z : State} (hw : ∀ d ∈ tables_1, d.before a0 Z = true) (i : Nat) {d : Jvm.Cond} (h : tables_1[i]? = some d) : d.before a0 Z = true := hw _ (List.mem_of_getElem? h)
abbrev oS (p : Program) (e : Env) (b : List Frame) (T : State) (m : MethodId) (pc : Nat) (L : Array Slot) (S : List Value) (t : State) : Prop := Steps p.tables e b (T.setTop (mkF m pc L S)) t
abbrev lv (x : Int64) : Slot := .val (.long x)
theorem own_join {α : Type} {p : Program} {l : Launch} {e : Env} {R : Room} {s : State} {m : MethodId} {args : Array Value} {below : List Frame} {meth : Method} {c : Code} {T : State} {locs : List Loc} {cells slots n0 : Nat} {h : Heap}
    (_ : Stand p l e R s m args below meth c T locs cells slots) (_ : Fr n0 locs) (_ : T.heap = h) (A : JFrame) (B : α → JFrame) (P : α → Prop)
    (k : ∃ (v : α) (T' : State) (locs' : List Loc), P v ∧ Fr n0 locs' ∧ Stand p l e R s m args below meth c T' locs' cells slots ∧ T'.heap = h ∧ ∀ t, Steps p.tables e below (T'.setTop (B v)) t → Steps p.tables e below (T.setTop A) t) :
    ∃ (v : α) (T' : State) (locs' : List Loc), P v ∧ Fr n0 locs' ∧ Stand p l e R s m args below meth c T' locs' cells slots ∧ T'.heap = h ∧ ∀ t, Steps p.tables e below (T'.setTop (B v)) t → Steps p.tables e below (T.setTop A) t := k
theorem own_joinH {α : Type} {p : Program} {l : Launch} {e : Env} {R : Room} {s : State} {m : MethodId} {args : Array Value} {below : List Frame} {meth : Method} {c : Code} {T : State} {locs : List Loc} {cells slots n0 : Nat} {h : Heap}
    (_ : Stand p l e R s m args below meth c T locs cells slots) (_ : Fr n0 locs) (_ : T.heap = h) (A : JFrame) (B : α → JFrame) (P : α → Heap → Prop)
    (k : ∃ (v : α) (T' : State) (h' : Heap) (locs' : List Loc), P v h' ∧ Fr n0 locs' ∧ Stand p l e R s m args below meth c T' locs' cells slots ∧ T'.heap = h' ∧ ∀ t, Steps p.tables e below (T'.setTop (B v)) t → Steps p.tables e below (T.setTop A) t) :
    ∃ (v : α) (T' : State) (h' : Heap) (locs' : List Loc), P v h' ∧ Fr n0 locs' ∧ Stand p l e R s m args below meth c T' locs' cells slots ∧ T'.heap = h' ∧ ∀ t, Steps p.tables e below (T'.setTop (B v)) t → Steps p.tables e below (T.setTop A) t := k
theorem own_selp {s Z : State} {a0 args : Array Value} {y : MethodName} {n : Nat} (hZ : Z.Warmed39 s.vm) (wi : (Cond.instantiable y.cls n).before a0 Z = true) (wp : (Cond.privateMethod y).before a0 Z = true) (wm : (Cond.instanceMethod y).before a0 Z = true)
    (hy : y.cls ≠ "java/lang/invoke/MethodHandle" ∧ y.cls ≠ "java/lang/invoke/VarHandle") : (Cond.selects y.cls y y).before args s = true := by
  have wi' : (Cond.instantiable y.cls n).before args s = true := mvT hZ wi
  obtain ⟨c, k, h1, h2, h3, h4, -⟩ := Cond.instantiable_spec wi'
  exact Stand.selects_self_of_private h1 h2 (Bool.or_eq_false_iff.mp h4).1 (Cond.privateMethod_at (mvP hZ wp (args := #[]))) (mvT hZ wm) hy
abbrev oz0 : String := "com/example/lockstep/lockstep/IntList"
abbrev oz1 : String := "com/example/lockstep/lockstep/IntListCountAtMostPinLaw"
theorem own_n (x : Int32) : (x &&& (7 : Int32)) = 0 ∨ (x &&& (7 : Int32)) = 1 ∨ (x &&& (7 : Int32)) = 2 ∨ (x &&& (7 : Int32)) = 3 ∨ (x &&& (7 : Int32)) = 4 ∨ (x &&& (7 : Int32)) = 5 ∨ (x &&& (7 : Int32)) = 6 ∨ (x &&& (7 : Int32)) = 7 := by
  have h := c_mask x 7 3 (by decide) (by decide)
  simp only [← Int32.toInt_inj]
  have e0 : (0 : Int32).toInt = 0 := rfl
  have e1 : (1 : Int32).toInt = 1 := rfl
  have e2 : (2 : Int32).toInt = 2 := rfl
  have e3 : (3 : Int32).toInt = 3 := rfl
  have e4 : (4 : Int32).toInt = 4 := rfl
  have e5 : (5 : Int32).toInt = 5 := rfl
  have e6 : (6 : Int32).toInt = 6 := rfl
  have e7 : (7 : Int32).toInt = 7 := rfl
  omega
theorem own_up {q a b : Int32} (h : q < a) (h2 : ¬ b < a) : q < b := by
  rw [Int32.lt_iff_toInt_lt] at *
  omega
theorem own_next (x : Int32) (d : Int64) : ¬ ((if (2147483647 : Int64) < ((x.toInt64) + (d &&& (4294967295 : Int64))) then (2147483647 : Int64) else ((x.toInt64) + (d &&& (4294967295 : Int64)))).toInt32) < x := by
  have h1 := c_maskL d 4294967295 32 (by decide) (by decide)
  have h2 := c_ladd x.toInt64 (d &&& 4294967295)
  have h3 := c_i2l x
  have r := rng64 (x.toInt64 + (d &&& 4294967295))
  have rx := rng32 x
  have e1 : (2147483647 : Int64).toInt = 2147483647 := rfl
  rw [Int32.lt_iff_toInt_lt]
  by_cases c : (2147483647 : Int64) < (x.toInt64 + (d &&& 4294967295))
  · rw [if_pos c]
    have h4 := c_l2i (2147483647 : Int64)
    have r4 := rng32 (2147483647 : Int64).toInt32
    omega
  · rw [if_neg c]
    rw [Int64.lt_iff_toInt_lt, e1] at c
    have h4 := c_l2i (x.toInt64 + (d &&& 4294967295))
    have r4 := rng32 (x.toInt64 + (d &&& 4294967295)).toInt32
    omega
theorem d2_0 : decode jdk_29_method_70_code 0 = .ok (.lload_n 0, 1) := by decide +kernel
theorem d2_1 : decode jdk_29_method_70_code 1 = .ok (.lload_n 2, 1) := by decide +kernel
theorem d2_2 : decode jdk_29_method_70_code 2 = .ok (.lcmp, 1) := by decide +kernel
theorem d2_3 : decode jdk_29_method_70_code 3 = .ok (.ifCond .gt 7, 3) := by decide +kernel
theorem d2_6 : decode jdk_29_method_70_code 6 = .ok (.lload_n 0, 1) := by decide +kernel
theorem d2_7 : decode jdk_29_method_70_code 7 = .ok (.goto 4, 3) := by decide +kernel
theorem d2_10 : decode jdk_29_method_70_code 10 = .ok (.lload_n 2, 1) := by decide +kernel
theorem d2_11 : decode jdk_29_method_70_code 11 = .ok (.lreturn, 1) := by decide +kernel
theorem ef2 (m : MethodId) (x1 : Int64) (x2 : Int64) : entryFrame m #[(.long x1), (.long x2)] 4 = mkF m 0 #[lv x1, .second, lv x2, .second] [] := by first | (simp [entryFrame, mkF, argsToLocals, Value.category]; done) | rfl
def Q2 (Z : State) (x1 : Int64) (x2 : Int64) (h0 : Heap) (n0 : Nat) (v : Option Value) (h : Heap) (L : List Loc) : Prop := v = some (.long (if x2 < x1 then x2 else x1)) ∧ Fr n0 L ∧ h = h0
set_option maxRecDepth 65536 in
set_option maxHeartbeats 40000000 in
theorem rm2 (l : Launch) (Z : State) (a0 : Array Value) (hw : ∀ d ∈ tables_1, d.before a0 Z = true) (ws : List Jvm.Cond) (x1 : Int64) (x2 : Int64) (h0 : Heap) (n0 : Nat) (Z0 : n0 ≤ h0.size) :
    MetFree l (⟨"java/lang/Math", "min", "(JJ)J"⟩ : MethodName) (head1 (Jvm.Cond.code (⟨"java/lang/Math", "min", "(JJ)J"⟩ : MethodName) jdk_29_method_70_code 4 (some .long) :: ws) ({ frames := 0, cells := 0, slots := 0, locals := 0 } : Room)) (fun a U => a = #[(.long x1), (.long x2)] ∧ Z.Warmed39 U.vm ∧ U.heap = h0) (fun _ _ _ _ _ => True) (fun _ U oc U' => ∃ v L, oc = .returned v ∧ Q2 Z x1 x2 h0 n0 v U'.heap L ∧ FrameEnd U oc U' L ({ frames := 0, cells := 0, slots := 0, locals := 0 } : Room).cells ({ frames := 0, cells := 0, slots := 0, locals := 0 } : Room).slots) := by
  refine MetFree.of_bodySF (Jvm.Free.JP.mathPlain rfl (by decide +kernel)) hisR ?_
  intro p e s m args below meth c s₁ Bd hml0 hP hK
  obtain ⟨rfl, hZ, hh⟩ := hP
  have hx := Bd.exec
  have hby := Bd.bytes
  have hml : c.maxLocals = 4 := hml0
  have hown : s.vm.findClass "java/lang/Math" = some m.cls := findClass_of_methodNamed Bd.named
  have hnm := (name_of_methodNamed Bd.named Bd.method).1
  have X0 : Stand p l e ({ frames := 0, cells := 0, slots := 0, locals := 0 } : Room) s m #[(.long x1), (.long x2)] below meth c s₁ [] 0 0 := Stand.of_body Bd
  have e0 : s₁.heap = h0 := by rw [← hh, Bd.state]; rfl
  have N0 := Fr.nil n0
  have pre0 : ∀ t, Steps p.tables e below (s₁.setTop (mkF m 0 #[lv x1, .second, lv x2, .second] [])) t → Steps p.tables e below (s₁.setTop (entryFrame m #[(.long x1), (.long x2)] 4)) t := fun t k => castTop (ef2 m x1 x2) k
  have pre1 : ∀ tz, oS p e below s₁ m 3 #[lv x1, .second, lv x2, .second] [(.int (lcmpW x1 x2))] tz → oS p e below s₁ m 0 #[lv x1, .second, lv x2, .second] [] tz := fun tz kt => by
    show oS p e below s₁ m 0 #[lv x1, .second, lv x2, .second] [] _
    refine XS.lloadN X0.here hx rfl (hb hby d2_0) rfl ?_
    refine XS.lloadN X0.here hx rfl (hb hby d2_1) rfl ?_
    refine XS.lcmp X0.here hx rfl (hb hby d2_2) rfl ?_
    exact kt
  by_cases hc3 : x2 < x1
  · have pre2 : ∀ tz, oS p e below s₁ m 11 #[lv x1, .second, lv x2, .second] [(.long x2)] tz → oS p e below s₁ m 3 #[lv x1, .second, lv x2, .second] [(.int (lcmpW x1 x2))] tz := fun tz kt => by
      show oS p e below s₁ m 3 #[lv x1, .second, lv x2, .second] [(.int (lcmpW x1 x2))] _
      refine XS.ifYes X0.here hx rfl (pc0 := 3) (pc' := 10) rfl (hb hby d2_3) rfl ((if0 _ _).trans (tlt ((lw_gt x1 x2).mpr hc3)).2.2.1) (by decide) (by decide) ?_
      refine XS.lloadN X0.here hx rfl (hb hby d2_10) rfl ?_
      exact kt
    obtain ⟨fs, hr, hrun, hended, hW, hsame⟩ := X0.leave (v := some (.long x2)) (fun h => by rw [Bd.returns] at h; cases h)
    refine ⟨_, _, pre0 _ (pre1 _ (pre2 _ ?_)), hrun, hended, _, _, rfl, ?_, ⟨_, rfl⟩, hW, hsame.mono (by decide) (by decide)⟩
    · show oS p e below s₁ m 11 #[lv x1, .second, lv x2, .second] [(.long x2)] _
      exact retOut X0 hx Bd.returns rfl (Or.inr (Or.inl ⟨rfl, rfl, _, rfl⟩)) (hb hby d2_11) hr
    · show Q2 Z x1 x2 h0 n0 _ s₁.heap _
      rw [e0]
      exact ⟨(by first | rfl | simp only [if_pos hc3]), N0, rfl⟩
  · have pre3 : ∀ tz, oS p e below s₁ m 11 #[lv x1, .second, lv x2, .second] [(.long x1)] tz → oS p e below s₁ m 3 #[lv x1, .second, lv x2, .second] [(.int (lcmpW x1 x2))] tz := fun tz kt => by
      show oS p e below s₁ m 3 #[lv x1, .second, lv x2, .second] [(.int (lcmpW x1 x2))] _
      refine XS.ifNo X0.here hx rfl (hb hby d2_3) rfl ((if0 _ _).trans (flt (fun q => hc3 ((lw_gt x1 x2).mp q))).2.2.1) ?_
      refine XS.lloadN X0.here hx rfl (hb hby d2_6) rfl ?_
      refine XS.goto X0.here hx rfl (pc0 := 7) (pc' := 11) rfl (hb hby d2_7) (by decide) (by decide) ?_
      exact kt
    obtain ⟨fs, hr, hrun, hended, hW, hsame⟩ := X0.leave (v := some (.long x1)) (fun h => by rw [Bd.returns] at h; cases h)
    refine ⟨_, _, pre0 _ (pre1 _ (pre3 _ ?_)), hrun, hended, _, _, rfl, ?_, ⟨_, rfl⟩, hW, hsame.mono (by decide) (by decide)⟩
    · show oS p e below s₁ m 11 #[lv x1, .second, lv x2, .second] [(.long x1)] _
      exact retOut X0 hx Bd.returns rfl (Or.inr (Or.inl ⟨rfl, rfl, _, rfl⟩)) (hb hby d2_11) hr
    · show Q2 Z x1 x2 h0 n0 _ s₁.heap _
      rw [e0]
      exact ⟨(by first | rfl | simp only [if_neg hc3]), N0, rfl⟩
theorem d9_0 : decode jdk_29_method_69_code 0 = .ok (.iload_n 0, 1) := by decide +kernel
theorem d9_1 : decode jdk_29_method_69_code 1 = .ok (.iload_n 1, 1) := by decide +kernel
theorem d9_2 : decode jdk_29_method_69_code 2 = .ok (.if_icmp .gt 7, 3) := by decide +kernel
theorem d9_5 : decode jdk_29_method_69_code 5 = .ok (.iload_n 0, 1) := by decide +kernel
theorem d9_6 : decode jdk_29_method_69_code 6 = .ok (.goto 4, 3) := by decide +kernel
theorem d9_9 : decode jdk_29_method_69_code 9 = .ok (.iload_n 1, 1) := by decide +kernel
theorem d9_10 : decode jdk_29_method_69_code 10 = .ok (.ireturn, 1) := by decide +kernel
theorem ef9 (m : MethodId) (x1 : Int32) (x2 : Int32) : entryFrame m #[(.int x1), (.int x2)] 2 = mkF m 0 #[iv x1, iv x2] [] := by first | (simp [entryFrame, mkF, argsToLocals, Value.category]; done) | rfl
def Q9 (Z : State) (x1 : Int32) (x2 : Int32) (h0 : Heap) (n0 : Nat) (v : Option Value) (h : Heap) (L : List Loc) : Prop := v = some (.int (if x2 < x1 then x2 else x1)) ∧ Fr n0 L ∧ h = h0
set_option maxRecDepth 65536 in
set_option maxHeartbeats 40000000 in
theorem rm9 (l : Launch) (Z : State) (a0 : Array Value) (hw : ∀ d ∈ tables_1, d.before a0 Z = true) (ws : List Jvm.Cond) (x1 : Int32) (x2 : Int32) (h0 : Heap) (n0 : Nat) (Z0 : n0 ≤ h0.size) :
    MetFree l (⟨"java/lang/Math", "min", "(II)I"⟩ : MethodName) (head1 (Jvm.Cond.code (⟨"java/lang/Math", "min", "(II)I"⟩ : MethodName) jdk_29_method_69_code 2 (some .int) :: ws) ({ frames := 0, cells := 0, slots := 0, locals := 0 } : Room)) (fun a U => a = #[(.int x1), (.int x2)] ∧ Z.Warmed39 U.vm ∧ U.heap = h0) (fun _ _ _ _ _ => True) (fun _ U oc U' => ∃ v L, oc = .returned v ∧ Q9 Z x1 x2 h0 n0 v U'.heap L ∧ FrameEnd U oc U' L ({ frames := 0, cells := 0, slots := 0, locals := 0 } : Room).cells ({ frames := 0, cells := 0, slots := 0, locals := 0 } : Room).slots) := by
  refine MetFree.of_bodySF (Jvm.Free.JP.mathPlain rfl (by decide +kernel)) hisR ?_
  intro p e s m args below meth c s₁ Bd hml0 hP hK
  obtain ⟨rfl, hZ, hh⟩ := hP
  have hx := Bd.exec
  have hby := Bd.bytes
  have hml : c.maxLocals = 2 := hml0
  have hown : s.vm.findClass "java/lang/Math" = some m.cls := findClass_of_methodNamed Bd.named
  have hnm := (name_of_methodNamed Bd.named Bd.method).1
  have X0 : Stand p l e ({ frames := 0, cells := 0, slots := 0, locals := 0 } : Room) s m #[(.int x1), (.int x2)] below meth c s₁ [] 0 0 := Stand.of_body Bd
  have e0 : s₁.heap = h0 := by rw [← hh, Bd.state]; rfl
  have N0 := Fr.nil n0
  have pre0 : ∀ t, Steps p.tables e below (s₁.setTop (mkF m 0 #[iv x1, iv x2] [])) t → Steps p.tables e below (s₁.setTop (entryFrame m #[(.int x1), (.int x2)] 2)) t := fun t k => castTop (ef9 m x1 x2) k
  have pre1 : ∀ tz, oS p e below s₁ m 2 #[iv x1, iv x2] [(.int x2), (.int x1)] tz → oS p e below s₁ m 0 #[iv x1, iv x2] [] tz := fun tz kt => by
    show oS p e below s₁ m 0 #[iv x1, iv x2] [] _
    refine XS.iloadN X0.here hx rfl (hb hby d9_0) rfl ?_
    refine XS.iloadN X0.here hx rfl (hb hby d9_1) rfl ?_
    exact kt
  by_cases hc2 : x2 < x1
  · have pre2 : ∀ tz, oS p e below s₁ m 10 #[iv x1, iv x2] [(.int x2)] tz → oS p e below s₁ m 2 #[iv x1, iv x2] [(.int x2), (.int x1)] tz := fun tz kt => by
      show oS p e below s₁ m 2 #[iv x1, iv x2] [(.int x2), (.int x1)] _
      refine XS.icmpYes X0.here hx rfl (pc0 := 2) (pc' := 9) rfl (hb hby d9_2) rfl (tlt hc2).2.2.1 (by decide) (by decide) ?_
      refine XS.iloadN X0.here hx rfl (hb hby d9_9) rfl ?_
      exact kt
    obtain ⟨fs, hr, hrun, hended, hW, hsame⟩ := X0.leave (v := some (.int x2)) (fun h => by rw [Bd.returns] at h; cases h)
    refine ⟨_, _, pre0 _ (pre1 _ (pre2 _ ?_)), hrun, hended, _, _, rfl, ?_, ⟨_, rfl⟩, hW, hsame.mono (by decide) (by decide)⟩
    · show oS p e below s₁ m 10 #[iv x1, iv x2] [(.int x2)] _
      exact retOut X0 hx Bd.returns rfl (Or.inl ⟨rfl, Or.inl rfl, _, rfl⟩) (hb hby d9_10) hr
    · show Q9 Z x1 x2 h0 n0 _ s₁.heap _
      rw [e0]
      exact ⟨(by first | rfl | simp only [if_pos hc2]), N0, rfl⟩
  · have pre3 : ∀ tz, oS p e below s₁ m 10 #[iv x1, iv x2] [(.int x1)] tz → oS p e below s₁ m 2 #[iv x1, iv x2] [(.int x2), (.int x1)] tz := fun tz kt => by
      show oS p e below s₁ m 2 #[iv x1, iv x2] [(.int x2), (.int x1)] _
      refine XS.icmpNo X0.here hx rfl (hb hby d9_2) rfl (flt hc2).2.2.1 ?_
      refine XS.iloadN X0.here hx rfl (hb hby d9_5) rfl ?_
      refine XS.goto X0.here hx rfl (pc0 := 6) (pc' := 10) rfl (hb hby d9_6) (by decide) (by decide) ?_
      exact kt
    obtain ⟨fs, hr, hrun, hended, hW, hsame⟩ := X0.leave (v := some (.int x1)) (fun h => by rw [Bd.returns] at h; cases h)
    refine ⟨_, _, pre0 _ (pre1 _ (pre3 _ ?_)), hrun, hended, _, _, rfl, ?_, ⟨_, rfl⟩, hW, hsame.mono (by decide) (by decide)⟩
    · show oS p e below s₁ m 10 #[iv x1, iv x2] [(.int x1)] _
      exact retOut X0 hx Bd.returns rfl (Or.inl ⟨rfl, Or.inl rfl, _, rfl⟩) (hb hby d9_10) hr
    · show Q9 Z x1 x2 h0 n0 _ s₁.heap _
      rw [e0]
      exact ⟨(by first | rfl | simp only [if_neg hc2]), N0, rfl⟩
theorem own_pd0 : parseMethodDescriptor "(JJ)J" = some ⟨[.long, .long], some .long⟩ := by decide +kernel
theorem d1_0 : decode method_2_code 0 = .ok (.iload_n 0, 1) := by decide +kernel
theorem d1_1 : decode method_2_code 1 = .ok (.i2l, 1) := by decide +kernel
theorem d1_2 : decode method_2_code 2 = .ok (.lload_n 1, 1) := by decide +kernel
theorem d1_3 : decode method_2_code 3 = .ok (.ldc2_w 7, 3) := by decide +kernel
theorem d1_6 : decode method_2_code 6 = .ok (.land, 1) := by decide +kernel
theorem d1_7 : decode method_2_code 7 = .ok (.ladd, 1) := by decide +kernel
theorem d1_8 : decode method_2_code 8 = .ok (.lstore_n 3, 1) := by decide +kernel
theorem d1_9 : decode method_2_code 9 = .ok (.lload_n 3, 1) := by decide +kernel
theorem d1_10 : decode method_2_code 10 = .ok (.ldc2_w 11, 3) := by decide +kernel
theorem d1_13 : decode method_2_code 13 = .ok (.invokestatic 13, 3) := by decide +kernel
theorem d1_16 : decode method_2_code 16 = .ok (.l2i, 1) := by decide +kernel
theorem d1_17 : decode method_2_code 17 = .ok (.ireturn, 1) := by decide +kernel
theorem own_pn0 : plainName "com/example/lockstep/lockstep/IntListCountAtMostPinLaw" = true := by first | (simp [plainName, overriddenIn]; done) | decide +kernel
theorem ef1 (m : MethodId) (x1 : Int32) (x2 : Int64) : entryFrame m #[(.int x1), (.long x2)] 5 = mkF m 0 #[iv x1, lv x2, .second, .unset, .unset] [] := by first | (simp [entryFrame, mkF, argsToLocals, Value.category]; done) | rfl
def Q1 (Z : State) (x1 : Int32) (x2 : Int64) (h0 : Heap) (n0 : Nat) (v : Option Value) (h : Heap) (L : List Loc) : Prop := ∃ (r : Int32), v = some (.int r) ∧ Fr n0 L ∧ h = h0 ∧ (¬ r < x1)
set_option maxRecDepth 65536 in
set_option maxHeartbeats 40000000 in
theorem rm1 (l : Launch) (Z : State) (a0 : Array Value) (hw : ∀ d ∈ tables_1, d.before a0 Z = true) (ws : List Jvm.Cond) (x1 : Int32) (x2 : Int64) (h0 : Heap) (n0 : Nat) (Z0 : n0 ≤ h0.size) :
    MetFree l (⟨oz1, "next", "(IJ)I"⟩ : MethodName) (head1 (Jvm.Cond.code (⟨oz1, "next", "(IJ)I"⟩ : MethodName) method_2_code 5 (some .int) :: ws) ({ frames := 1, cells := 0, slots := 0, locals := 15 } : Room)) (fun a U => a = #[(.int x1), (.long x2)] ∧ Z.Warmed39 U.vm ∧ U.heap = h0) (fun _ _ _ _ _ => True) (fun _ U oc U' => ∃ v L, oc = .returned v ∧ Q1 Z x1 x2 h0 n0 v U'.heap L ∧ FrameEnd U oc U' L ({ frames := 1, cells := 0, slots := 0, locals := 15 } : Room).cells ({ frames := 1, cells := 0, slots := 0, locals := 15 } : Room).slots) := by
  refine MetFree.of_bodySF (plainFor_of_name own_pn0) hisR ?_
  intro p e s m args below meth c s₁ Bd hml0 hP hK
  obtain ⟨rfl, hZ, hh⟩ := hP
  have hx := Bd.exec
  have hby := Bd.bytes
  have hml : c.maxLocals = 5 := hml0
  have hown : s.vm.findClass oz1 = some m.cls := findClass_of_methodNamed Bd.named
  have hnm := (name_of_methodNamed Bd.named Bd.method).1
  have X0 : Stand p l e ({ frames := 1, cells := 0, slots := 0, locals := 15 } : Room) s m #[(.int x1), (.long x2)] below meth c s₁ [] 0 0 := Stand.of_body Bd
  have e0 : s₁.heap = h0 := by rw [← hh, Bd.state]; rfl
  have N0 := Fr.nil n0
  have pre0 : ∀ t, Steps p.tables e below (s₁.setTop (mkF m 0 #[iv x1, lv x2, .second, .unset, .unset] [])) t → Steps p.tables e below (s₁.setTop (entryFrame m #[(.int x1), (.long x2)] 5)) t := fun t k => castTop (ef1 m x1 x2) k
  obtain ⟨_, _, ⟨T1, Lw1, kw1, nw1⟩, -, X1, ⟨Lc1, hQ1, l1, y1, z1⟩, st1⟩ := Jvm.LawKit.callS X0 hx (y := (⟨"java/lang/Math", "min", "(JJ)J"⟩ : MethodName)) hown (mvT hZ (own_w hw 6 rfl)) (mvT hZ (own_w hw 7 rfl)) (mvT hZ (own_w hw 8 rfl)) (mvT hZ (own_w hw 9 rfl)) (by decide) (backOf (W := 0) (rm2 l Z a0 hw [] ((x1.toInt64) + (x2 &&& (4294967295 : Int64))) (2147483647 : Int64) h0 n0 Z0 ) hZ (own_w hw 9 rfl) (own_w hw 8 rfl) (by decide) (by decide)) (g := (mkF m 13 #[iv x1, lv x2, .second, lv ((x1.toInt64) + (x2 &&& (4294967295 : Int64))), .second] [(.long (2147483647 : Int64)), (.long ((x1.toInt64) + (x2 &&& (4294967295 : Int64))))])) rfl (by rw [hml]; rfl) (argsL := [(.long ((x1.toInt64) + (x2 &&& (4294967295 : Int64)))), (.long (2147483647 : Int64))]) (rest := []) (lenOf own_pd0 rfl) rfl (by show 2 * 0 + _ ≤ _; exact Nat.le_of_eq rfl) (hb hby d1_13) (fun _ _ => ⟨rfl, e0, (by decide : 0 + 0 ≤ _), (by decide : 0 + 0 ≤ _)⟩)
  dsimp only [Pt.U, Pt.locs, Pt.cells, Pt.slots] at X1 l1 y1 z1 st1 hQ1
  subst l1 y1 z1
  obtain ⟨rfl, Nq1, eh1⟩ := hQ1
  have N1 := Fr.app N0 Nq1
  have pre2 : ∀ tz, oS p e below T1 m 17 #[iv x1, lv x2, .second, lv ((x1.toInt64) + (x2 &&& (4294967295 : Int64))), .second] [(.int ((if (2147483647 : Int64) < ((x1.toInt64) + (x2 &&& (4294967295 : Int64))) then (2147483647 : Int64) else ((x1.toInt64) + (x2 &&& (4294967295 : Int64)))).toInt32))] tz → oS p e below s₁ m 0 #[iv x1, lv x2, .second, .unset, .unset] [] tz := fun tz kt => by
    show oS p e below s₁ m 0 #[iv x1, lv x2, .second, .unset, .unset] [] _
    refine XS.iloadN X0.here hx rfl (hb hby d1_0) rfl ?_
    refine XS.i2l X0.here hx rfl (hb hby d1_1) rfl ?_
    refine XS.lloadN X0.here hx rfl (hb hby d1_2) rfl ?_
    refine X0.ldc2Long hx hown (mvT hZ (own_w hw 4 rfl)) (g := (mkF m 3 #[iv x1, lv x2, .second, .unset, .unset] [(.long x2), (.long (x1.toInt64))])) rfl (hb hby d1_3) _ ?_
    show oS p e below s₁ m 6 #[iv x1, lv x2, .second, .unset, .unset] [(.long (4294967295 : Int64)), (.long x2), (.long (x1.toInt64))] _
    refine XS.land X0.here hx rfl (hb hby d1_6) rfl ?_
    refine XS.ladd X0.here hx rfl (hb hby d1_7) rfl ?_
    refine XS.lstoreN X0.here hx rfl (hb hby d1_8) rfl (l' := #[iv x1, lv x2, .second, lv ((x1.toInt64) + (x2 &&& (4294967295 : Int64))), .second]) rfl ?_
    refine XS.lloadN X0.here hx rfl (hb hby d1_9) rfl ?_
    show oS p e below s₁ m 10 #[iv x1, lv x2, .second, lv ((x1.toInt64) + (x2 &&& (4294967295 : Int64))), .second] [(.long ((x1.toInt64) + (x2 &&& (4294967295 : Int64))))] _
    refine X0.ldc2Long hx hown (mvT hZ (own_w hw 5 rfl)) (g := (mkF m 10 #[iv x1, lv x2, .second, lv ((x1.toInt64) + (x2 &&& (4294967295 : Int64))), .second] [(.long ((x1.toInt64) + (x2 &&& (4294967295 : Int64))))])) rfl (hb hby d1_10) _ ?_
    show oS p e below s₁ m 13 #[iv x1, lv x2, .second, lv ((x1.toInt64) + (x2 &&& (4294967295 : Int64))), .second] [(.long (2147483647 : Int64)), (.long ((x1.toInt64) + (x2 &&& (4294967295 : Int64))))] _
    refine st1 _ ?_
    refine XS.l2i X1.here hx rfl (hb hby d1_16) rfl ?_
    exact kt
  obtain ⟨fs, hr, hrun, hended, hW, hsame⟩ := X1.leave (v := some (.int ((if (2147483647 : Int64) < ((x1.toInt64) + (x2 &&& (4294967295 : Int64))) then (2147483647 : Int64) else ((x1.toInt64) + (x2 &&& (4294967295 : Int64)))).toInt32))) (fun h => by rw [Bd.returns] at h; cases h)
  refine ⟨_, _, pre0 _ (pre2 _ ?_), hrun, hended, _, _, rfl, ?_, ⟨_, rfl⟩, hW, hsame.mono (by decide) (by decide)⟩
  · show oS p e below T1 m 17 #[iv x1, lv x2, .second, lv ((x1.toInt64) + (x2 &&& (4294967295 : Int64))), .second] [(.int ((if (2147483647 : Int64) < ((x1.toInt64) + (x2 &&& (4294967295 : Int64))) then (2147483647 : Int64) else ((x1.toInt64) + (x2 &&& (4294967295 : Int64)))).toInt32))] _
    exact retOut X1 hx Bd.returns rfl (Or.inl ⟨rfl, Or.inl rfl, _, rfl⟩) (hb hby d1_17) hr
  · show Q1 Z x1 x2 h0 n0 _ T1.heap _
    rw [eh1]
    exact ⟨((if (2147483647 : Int64) < ((x1.toInt64) + (x2 &&& (4294967295 : Int64))) then (2147483647 : Int64) else ((x1.toInt64) + (x2 &&& (4294967295 : Int64)))).toInt32), rfl, N1, rfl, (own_next x1 x2)⟩
theorem d5_0 : decode method_3_code 0 = .ok (.iload_n 0, 1) := by decide +kernel
theorem d5_1 : decode method_3_code 1 = .ok (.ifCond .eq 7, 3) := by decide +kernel
theorem d5_4 : decode method_3_code 4 = .ok (.iconst 1, 1) := by decide +kernel
theorem d5_5 : decode method_3_code 5 = .ok (.goto 4, 3) := by decide +kernel
theorem d5_8 : decode method_3_code 8 = .ok (.iconst 0, 1) := by decide +kernel
theorem d5_9 : decode method_3_code 9 = .ok (.ireturn, 1) := by decide +kernel
theorem ef5 (m : MethodId) (x1 : Int32) : entryFrame m #[(.int x1)] 1 = mkF m 0 #[iv x1] [] := by first | (simp [entryFrame, mkF, argsToLocals, Value.category]; done) | rfl
def Q5 (Z : State) (x1 : Int32) (h0 : Heap) (n0 : Nat) (v : Option Value) (h : Heap) (L : List Loc) : Prop := v = some (.int (if x1 = (0 : Int32) then (0 : Int32) else (1 : Int32))) ∧ Fr n0 L ∧ h = h0
set_option maxRecDepth 65536 in
set_option maxHeartbeats 40000000 in
theorem rm5 (l : Launch) (Z : State) (a0 : Array Value) (hw : ∀ d ∈ tables_1, d.before a0 Z = true) (ws : List Jvm.Cond) (x1 : Int32) (h0 : Heap) (n0 : Nat) (Z0 : n0 ≤ h0.size) :
    MetFree l (⟨oz1, "one", "(Z)I"⟩ : MethodName) (head1 (Jvm.Cond.code (⟨oz1, "one", "(Z)I"⟩ : MethodName) method_3_code 1 (some .int) :: ws) ({ frames := 0, cells := 0, slots := 0, locals := 0 } : Room)) (fun a U => a = #[(.int x1)] ∧ Z.Warmed39 U.vm ∧ U.heap = h0) (fun _ _ _ _ _ => True) (fun _ U oc U' => ∃ v L, oc = .returned v ∧ Q5 Z x1 h0 n0 v U'.heap L ∧ FrameEnd U oc U' L ({ frames := 0, cells := 0, slots := 0, locals := 0 } : Room).cells ({ frames := 0, cells := 0, slots := 0, locals := 0 } : Room).slots) := by
  refine MetFree.of_bodySF (plainFor_of_name own_pn0) hisR ?_
  intro p e s m args below meth c s₁ Bd hml0 hP hK
  obtain ⟨rfl, hZ, hh⟩ := hP
  have hx := Bd.exec
  have hby := Bd.bytes
  have hml : c.maxLocals = 1 := hml0
  have hown : s.vm.findClass oz1 = some m.cls := findClass_of_methodNamed Bd.named
  have hnm := (name_of_methodNamed Bd.named Bd.method).1
  have X0 : Stand p l e ({ frames := 0, cells := 0, slots := 0, locals := 0 } : Room) s m #[(.int x1)] below meth c s₁ [] 0 0 := Stand.of_body Bd
  have e0 : s₁.heap = h0 := by rw [← hh, Bd.state]; rfl
  have N0 := Fr.nil n0
  have pre0 : ∀ t, Steps p.tables e below (s₁.setTop (mkF m 0 #[iv x1] [])) t → Steps p.tables e below (s₁.setTop (entryFrame m #[(.int x1)] 1)) t := fun t k => castTop (ef5 m x1) k
  have pre1 : ∀ tz, oS p e below s₁ m 1 #[iv x1] [(.int x1)] tz → oS p e below s₁ m 0 #[iv x1] [] tz := fun tz kt => by
    show oS p e below s₁ m 0 #[iv x1] [] _
    refine XS.iloadN X0.here hx rfl (hb hby d5_0) rfl ?_
    exact kt
  by_cases hc1 : x1 = (0 : Int32)
  · have pre2 : ∀ tz, oS p e below s₁ m 9 #[iv x1] [(.int (0 : Int32))] tz → oS p e below s₁ m 1 #[iv x1] [(.int x1)] tz := fun tz kt => by
      show oS p e below s₁ m 1 #[iv x1] [(.int x1)] _
      refine XS.ifYes X0.here hx rfl (pc0 := 1) (pc' := 8) rfl (hb hby d5_1) rfl ((if0 _ _).trans (teq hc1).1) (by decide) (by decide) ?_
      refine XS.iconst X0.here hx rfl (hb hby d5_8) ?_
      exact kt
    obtain ⟨fs, hr, hrun, hended, hW, hsame⟩ := X0.leave (v := some (.int (0 : Int32))) (fun h => by rw [Bd.returns] at h; cases h)
    refine ⟨_, _, pre0 _ (pre1 _ (pre2 _ ?_)), hrun, hended, _, _, rfl, ?_, ⟨_, rfl⟩, hW, hsame.mono (by decide) (by decide)⟩
    · show oS p e below s₁ m 9 #[iv x1] [(.int (0 : Int32))] _
      exact retOut X0 hx Bd.returns rfl (Or.inl ⟨rfl, Or.inl rfl, _, rfl⟩) (hb hby d5_9) hr
    · show Q5 Z x1 h0 n0 _ s₁.heap _
      rw [e0]
      exact ⟨(by first | rfl | simp only [if_pos hc1]), N0, rfl⟩
  · have pre3 : ∀ tz, oS p e below s₁ m 9 #[iv x1] [(.int (1 : Int32))] tz → oS p e below s₁ m 1 #[iv x1] [(.int x1)] tz := fun tz kt => by
      show oS p e below s₁ m 1 #[iv x1] [(.int x1)] _
      refine XS.ifNo X0.here hx rfl (hb hby d5_1) rfl ((if0 _ _).trans (feq hc1).1) ?_
      refine XS.iconst X0.here hx rfl (hb hby d5_4) ?_
      refine XS.goto X0.here hx rfl (pc0 := 5) (pc' := 9) rfl (hb hby d5_5) (by decide) (by decide) ?_
      exact kt
    obtain ⟨fs, hr, hrun, hended, hW, hsame⟩ := X0.leave (v := some (.int (1 : Int32))) (fun h => by rw [Bd.returns] at h; cases h)
    refine ⟨_, _, pre0 _ (pre1 _ (pre3 _ ?_)), hrun, hended, _, _, rfl, ?_, ⟨_, rfl⟩, hW, hsame.mono (by decide) (by decide)⟩
    · show oS p e below s₁ m 9 #[iv x1] [(.int (1 : Int32))] _
      exact retOut X0 hx Bd.returns rfl (Or.inl ⟨rfl, Or.inl rfl, _, rfl⟩) (hb hby d5_9) hr
    · show Q5 Z x1 h0 n0 _ s₁.heap _
      rw [e0]
      exact ⟨(by first | rfl | simp only [if_neg hc1]), N0, rfl⟩
theorem d3_0 : decode prog_30_method_1_code 0 = .ok (.aload_n 0, 1) := by decide +kernel
theorem d3_1 : decode prog_30_method_1_code 1 = .ok (.invokespecial 1, 3) := by decide +kernel
theorem d3_4 : decode prog_30_method_1_code 4 = .ok (.aload_n 0, 1) := by decide +kernel
theorem d3_5 : decode prog_30_method_1_code 5 = .ok (.iconst 4, 1) := by decide +kernel
theorem d3_6 : decode prog_30_method_1_code 6 = .ok (.newarray .int, 2) := by decide +kernel
theorem d3_8 : decode prog_30_method_1_code 8 = .ok (.putfield 7, 3) := by decide +kernel
theorem d3_11 : decode prog_30_method_1_code 11 = .ok (.return_, 1) := by decide +kernel
theorem own_pn1 : plainName "com/example/lockstep/lockstep/IntList" = true := by first | (simp [plainName, overriddenIn]; done) | decide +kernel
theorem ef3 (m : MethodId) (o : Addr) : entryFrame m #[(.ref o)] 1 = mkF m 0 #[rv o] [] := by first | (simp [entryFrame, mkF, argsToLocals, Value.category]; done) | rfl
def Q3 (Z : State) (o : Addr) (w_values_o : Value) (h0 : Heap) (n0 : Nat) (v : Option Value) (h : Heap) (L : List Loc) : Prop := ∃ (b : Addr) (k : ClassId), v = none ∧ Fr n0 L ∧ Keep h0 h [o] ∧ h0.size ≤ b ∧ n0 ≤ b ∧ Fld Z h o oz0 "values" "[I" (.ref b) ∧ Fld Z h o oz0 "size" "I" (.int (0 : Int32)) ∧ Arv Z h b k .int (4 : Int32) [(.int (0 : Int32)), (.int (0 : Int32)), (.int (0 : Int32)), (.int (0 : Int32))] (.int (0 : Int32))
set_option maxRecDepth 65536 in
set_option maxHeartbeats 40000000 in
theorem rm3 (l : Launch) (Z : State) (a0 : Array Value) (hw : ∀ d ∈ tables_1, d.before a0 Z = true) (ws : List Jvm.Cond) (o : Addr) (w_values_o : Value) (h0 : Heap) (n0 : Nat) (Z0 : n0 ≤ h0.size) (E_o : Exa Z h0 o oz0) (g_o : n0 ≤ o) (F_size_o : Fld Z h0 o oz0 "size" "I" (.int (0 : Int32))) (F_values_o : Fld Z h0 o oz0 "values" "[I" w_values_o) :
    MetFree l (⟨oz0, "<init>", "()V"⟩ : MethodName) (head1 (Jvm.Cond.code (⟨oz0, "<init>", "()V"⟩ : MethodName) prog_30_method_1_code 1 none :: ws) ({ frames := 1, cells := 1, slots := 4, locals := 12 } : Room)) (fun a U => a = #[(.ref o)] ∧ Z.Warmed39 U.vm ∧ U.heap = h0) (fun _ _ _ _ _ => True) (fun _ U oc U' => ∃ v L, oc = .returned v ∧ Q3 Z o w_values_o h0 n0 v U'.heap L ∧ FrameEnd U oc U' L ({ frames := 1, cells := 1, slots := 4, locals := 12 } : Room).cells ({ frames := 1, cells := 1, slots := 4, locals := 12 } : Room).slots) := by
  refine MetFree.of_bodySF (plainFor_of_name own_pn1) hisR ?_
  intro p e s m args below meth c s₁ Bd hml0 hP hK
  obtain ⟨rfl, hZ, hh⟩ := hP
  have hx := Bd.exec
  have hby := Bd.bytes
  have hml : c.maxLocals = 1 := hml0
  have hown : s.vm.findClass oz0 = some m.cls := findClass_of_methodNamed Bd.named
  have hnm := (name_of_methodNamed Bd.named Bd.method).1
  have X0 : Stand p l e ({ frames := 1, cells := 1, slots := 4, locals := 12 } : Room) s m #[(.ref o)] below meth c s₁ [] 0 0 := Stand.of_body Bd
  have e0 : s₁.heap = h0 := by rw [← hh, Bd.state]; rfl
  have N0 := Fr.nil n0
  have pre0 : ∀ t, Steps p.tables e below (s₁.setTop (mkF m 0 #[rv o] [])) t → Steps p.tables e below (s₁.setTop (entryFrame m #[(.ref o)] 1)) t := fun t k => castTop (ef3 m o) k
  obtain ⟨T1, X1, e1, st1⟩ := initO X0 hx hZ hown (own_w hw 16 rfl) (own_w hw 17 rfl) (own_w hw 18 rfl) e0 (g := (mkF m 1 #[rv o] [(.ref o)])) rfl (by rw [hml]; rfl) rfl (hb hby d3_1) (by decide) (W := 0) (by show 2 * 0 + _ ≤ _; exact Nat.le_of_eq rfl) (by decide)
  obtain ⟨T2, h2, kk2, X2, e2, E2, A2, st2⟩ := newP X1 hx hZ (own_w hw 19 rfl) e1 (g := (mkF m 6 #[rv o] [(.int (4 : Int32)), (.ref o)])) rfl (hb hby d3_6) rfl (by decide) (cap := 4) (by decide) (by decide) (by decide) (by decide)
  obtain ⟨b2, g2⟩ : ∃ z, z = h0.size := ⟨_, rfl⟩
  rw [← g2] at A2 st2
  have g_b2 : n0 ≤ b2 := Nat.le_trans Z0 (Nat.le_of_eq g2.symm)
  have ne_o_b2 : o ≠ b2 := Nat.ne_of_lt (Nat.lt_of_lt_of_le E_o.lt (Nat.le_of_eq g2.symm))
  have sz_b2 : h0.size ≤ b2 := Nat.le_trans (Keep.refl h0 [o]).1 (Nat.le_of_eq g2.symm)
  have V_b2 : Arv Z h2 b2 kk2 .int (4 : Int32) [(.int (0 : Int32)), (.int (0 : Int32)), (.int (0 : Int32)), (.int (0 : Int32))] (.int (0 : Int32)) := (Arv.new A2 (by decide)).pad (pad_rep [] (.int (0 : Int32)) 4)
  have Ec3 : Exa Z h2 o oz0 := (E_o.ext E2)
  have Fc4 : Fld Z h2 o oz0 "values" "[I" w_values_o := (F_values_o.ext E2)
  obtain ⟨T5, h5, X5, e5, W5, st5⟩ := putF X2 hx hZ hown (host := "") (Or.inl (own_w hw 20 rfl)) Via.refl e2 Fc4 Ec3 (Or.inl (own_w hw 21 rfl)) (own_w hw 11 rfl) (ty := (.array .int)) (by decide) rfl rfl (g := (mkF m 8 #[rv o] [(.ref b2), (.ref o)])) rfl rfl (hb hby d3_8)
  have Fw5 : Fld Z h5 o oz0 "values" "[I" (.ref b2) := Fc4.same W5
  have N5 := Fr.snoc X5 N0 g_o
  have pre6 : ∀ tz, oS p e below T5 m 11 #[rv o] [] tz → oS p e below s₁ m 0 #[rv o] [] tz := fun tz kt => by
    show oS p e below s₁ m 0 #[rv o] [] _
    refine XS.aloadN X0.here hx rfl (hb hby d3_0) rfl rfl ?_
    show oS p e below s₁ m 1 #[rv o] [(.ref o)] _
    refine st1 _ ?_
    refine XS.aloadN X1.here hx rfl (hb hby d3_4) rfl rfl ?_
    refine XS.iconst X1.here hx rfl (hb hby d3_5) ?_
    show oS p e below T1 m 6 #[rv o] [(.int (4 : Int32)), (.ref o)] _
    refine st2 _ ?_
    show oS p e below T2 m 8 #[rv o] [(.ref b2), (.ref o)] _
    refine st5 _ ?_
    exact kt
  have KP7 : Keep h0 h5 [o] := (((Keep.refl h0 [o]).ext E2).wr W5 (Or.inl (List.mem_of_getElem? (i := 0) rfl)))
  have Fc8 : Fld Z h5 o oz0 "size" "I" (.int (0 : Int32)) := ((F_size_o.ext E2).other W5 (Or.inr (slot_ne (Or.inl (own_w hw 31 rfl)) (Or.inl (own_w hw 21 rfl)) (by decide) (t := .int) (t' := (.array .int)) (by decide) (by decide))))
  have Vc9 : Arv Z h5 b2 kk2 .int (4 : Int32) [(.int (0 : Int32)), (.int (0 : Int32)), (.int (0 : Int32)), (.int (0 : Int32))] (.int (0 : Int32)) := (V_b2.other W5 (Ne.symm ne_o_b2))
  obtain ⟨fs, hr, hrun, hended, hW, hsame⟩ := X5.leave (v := none) (fun _ => rfl)
  refine ⟨_, _, pre0 _ (pre6 _ ?_), hrun, hended, _, _, rfl, ?_, ⟨_, rfl⟩, hW, hsame.mono (by decide) (by decide)⟩
  · show oS p e below T5 m 11 #[rv o] [] _
    exact X5.returnOut hx Bd.returns (hb hby d3_11) hr
  · show Q3 Z o w_values_o h0 n0 _ T5.heap _
    rw [e5]
    exact ⟨b2, kk2, rfl, N5, KP7, sz_b2, g_b2, Fw5, Fc8, Vc9⟩
theorem own_pd1 : parseMethodDescriptor "(II)I" = some ⟨[.int, .int], some .int⟩ := by decide +kernel
theorem d8_0 : decode jdk_65_method_123_code 0 = .ok (.iload_n 1, 1) := by decide +kernel
theorem d8_1 : decode jdk_65_method_123_code 1 = .ok (.aload_n 0, 1) := by decide +kernel
theorem d8_2 : decode jdk_65_method_123_code 2 = .ok (.arraylength, 1) := by decide +kernel
theorem d8_3 : decode jdk_65_method_123_code 3 = .ok (.if_icmp .ne 11, 3) := by decide +kernel
theorem d8_14 : decode jdk_65_method_123_code 14 = .ok (.iload_n 1, 1) := by decide +kernel
theorem d8_15 : decode jdk_65_method_123_code 15 = .ok (.newarray .int, 2) := by decide +kernel
theorem d8_17 : decode jdk_65_method_123_code 17 = .ok (.astore_n 2, 1) := by decide +kernel
theorem d8_18 : decode jdk_65_method_123_code 18 = .ok (.aload_n 0, 1) := by decide +kernel
theorem d8_19 : decode jdk_65_method_123_code 19 = .ok (.iconst 0, 1) := by decide +kernel
theorem d8_20 : decode jdk_65_method_123_code 20 = .ok (.aload_n 2, 1) := by decide +kernel
theorem d8_21 : decode jdk_65_method_123_code 21 = .ok (.iconst 0, 1) := by decide +kernel
theorem d8_22 : decode jdk_65_method_123_code 22 = .ok (.aload_n 0, 1) := by decide +kernel
theorem d8_23 : decode jdk_65_method_123_code 23 = .ok (.arraylength, 1) := by decide +kernel
theorem d8_24 : decode jdk_65_method_123_code 24 = .ok (.iload_n 1, 1) := by decide +kernel
theorem d8_25 : decode jdk_65_method_123_code 25 = .ok (.invokestatic 304, 3) := by decide +kernel
theorem d8_28 : decode jdk_65_method_123_code 28 = .ok (.invokestatic 150, 3) := by decide +kernel
theorem d8_31 : decode jdk_65_method_123_code 31 = .ok (.aload_n 2, 1) := by decide +kernel
theorem d8_32 : decode jdk_65_method_123_code 32 = .ok (.areturn, 1) := by decide +kernel
theorem own_pn2 : plainName "java/util/Arrays" = true := by first | (simp [plainName, overriddenIn]; done) | decide +kernel
theorem ef8 (m : MethodId) (x1 : Addr) : entryFrame m #[(.ref x1), (.int (8 : Int32))] 3 = mkF m 0 #[rv x1, iv (8 : Int32), .unset] [] := by first | (simp [entryFrame, mkF, argsToLocals, Value.category]; done) | rfl
def Q8 (Z : State) (x1 : Addr) (w0 : Int32) (w1 : Int32) (w2 : Int32) (w3 : Int32) (k1 : ClassId) (h0 : Heap) (n0 : Nat) (v : Option Value) (h : Heap) (L : List Loc) : Prop := ∃ (b : Addr) (k : ClassId), v = some (.ref b) ∧ Fr n0 L ∧ Keep h0 h [] ∧ h0.size ≤ b ∧ n0 ≤ b ∧ Arv Z h b k .int (8 : Int32) [(.int w0), (.int w1), (.int w2), (.int w3), (.int (0 : Int32)), (.int (0 : Int32)), (.int (0 : Int32)), (.int (0 : Int32))] (.int (0 : Int32))
set_option maxRecDepth 65536 in
set_option maxHeartbeats 40000000 in
theorem rm8 (l : Launch) (Z : State) (a0 : Array Value) (hw : ∀ d ∈ tables_1, d.before a0 Z = true) (ws : List Jvm.Cond) (x1 : Addr) (w0 : Int32) (w1 : Int32) (w2 : Int32) (w3 : Int32) (k1 : ClassId) (h0 : Heap) (n0 : Nat) (Z0 : n0 ≤ h0.size) (V_x1 : Arv Z h0 x1 k1 .int (4 : Int32) [(.int w0), (.int w1), (.int w2), (.int w3)] (.int (0 : Int32))) :
    MetFree l (⟨"java/util/Arrays", "copyOf", "([II)[I"⟩ : MethodName) (head1 (Jvm.Cond.code (⟨"java/util/Arrays", "copyOf", "([II)[I"⟩ : MethodName) jdk_65_method_123_code 3 (some (.array .int)) :: ws) ({ frames := 1, cells := 1, slots := 8, locals := 18 } : Room)) (fun a U => a = #[(.ref x1), (.int (8 : Int32))] ∧ Z.Warmed39 U.vm ∧ U.heap = h0) (fun _ _ _ _ _ => True) (fun _ U oc U' => ∃ v L, oc = .returned v ∧ Q8 Z x1 w0 w1 w2 w3 k1 h0 n0 v U'.heap L ∧ FrameEnd U oc U' L ({ frames := 1, cells := 1, slots := 8, locals := 18 } : Room).cells ({ frames := 1, cells := 1, slots := 8, locals := 18 } : Room).slots) := by
  refine MetFree.of_bodySF (plainFor_of_name own_pn2) hisR ?_
  intro p e s m args below meth c s₁ Bd hml0 hP hK
  obtain ⟨rfl, hZ, hh⟩ := hP
  have hx := Bd.exec
  have hby := Bd.bytes
  have hml : c.maxLocals = 3 := hml0
  have hown : s.vm.findClass "java/util/Arrays" = some m.cls := findClass_of_methodNamed Bd.named
  have hnm := (name_of_methodNamed Bd.named Bd.method).1
  have X0 : Stand p l e ({ frames := 1, cells := 1, slots := 8, locals := 18 } : Room) s m #[(.ref x1), (.int (8 : Int32))] below meth c s₁ [] 0 0 := Stand.of_body Bd
  have e0 : s₁.heap = h0 := by rw [← hh, Bd.state]; rfl
  have N0 := Fr.nil n0
  have pre0 : ∀ t, Steps p.tables e below (s₁.setTop (mkF m 0 #[rv x1, iv (8 : Int32), .unset] [])) t → Steps p.tables e below (s₁.setTop (entryFrame m #[(.ref x1), (.int (8 : Int32))] 3)) t := fun t k => castTop (ef8 m x1) k
  obtain ⟨cl1, Ar1, qk1, Sz1, Ng1, Hs1, Gt1⟩ := id V_x1
  obtain ⟨T2, h2, kk2, X2, e2, E2, A2, st2⟩ := newP X0 hx hZ (own_w hw 19 rfl) e0 (g := (mkF m 15 #[rv x1, iv (8 : Int32), .unset] [(.int (8 : Int32))])) rfl (hb hby d8_15) rfl (by decide) (cap := 8) (by decide) (by decide) (by decide) (by decide)
  obtain ⟨b2, g2⟩ : ∃ z, z = h0.size := ⟨_, rfl⟩
  rw [← g2] at A2 st2
  have g_b2 : n0 ≤ b2 := Nat.le_trans Z0 (Nat.le_of_eq g2.symm)
  have ne_x1_b2 : x1 ≠ b2 := Nat.ne_of_lt (Nat.lt_of_lt_of_le V_x1.lt (Nat.le_of_eq g2.symm))
  have sz_b2 : h0.size ≤ b2 := Nat.le_trans (Keep.refl h0 []).1 (Nat.le_of_eq g2.symm)
  have V_b2 : Arv Z h2 b2 kk2 .int (8 : Int32) [(.int (0 : Int32)), (.int (0 : Int32)), (.int (0 : Int32)), (.int (0 : Int32)), (.int (0 : Int32)), (.int (0 : Int32)), (.int (0 : Int32)), (.int (0 : Int32))] (.int (0 : Int32)) := (Arv.new A2 (by decide)).pad (pad_rep [] (.int (0 : Int32)) 8)
  have Vc3 : Arv Z h2 x1 k1 .int (4 : Int32) [(.int w0), (.int w1), (.int w2), (.int w3)] (.int (0 : Int32)) := (V_x1.ext E2)
  obtain ⟨cl4, Ar4, qk4, Sz4, Ng4, Hs4, Gt4⟩ := id Vc3
  have Zc6 : n0 ≤ h2.size := (Nat.le_trans Z0 E2.1)
  obtain ⟨_, _, ⟨T5, Lw5, kw5, nw5⟩, -, X5, ⟨Lc5, hQ5, l5, y5, z5⟩, st5⟩ := Jvm.LawKit.callS X2 hx (y := (⟨"java/lang/Math", "min", "(II)I"⟩ : MethodName)) hown (mvT hZ (own_w hw 41 rfl)) (mvT hZ (own_w hw 42 rfl)) (mvT hZ (own_w hw 8 rfl)) (mvT hZ (own_w hw 43 rfl)) (by decide) (backOf (W := 4) (rm9 l Z a0 hw [] (4 : Int32) (8 : Int32) h2 n0 Zc6 ) hZ (own_w hw 43 rfl) (own_w hw 8 rfl) (by decide) (by decide)) (g := (mkF m 25 #[rv x1, iv (8 : Int32), rv b2] [(.int (8 : Int32)), (.int (4 : Int32)), (.int (0 : Int32)), (.ref b2), (.int (0 : Int32)), (.ref x1)])) rfl (by rw [hml]; rfl) (argsL := [(.int (4 : Int32)), (.int (8 : Int32))]) (rest := [(.int (0 : Int32)), (.ref b2), (.int (0 : Int32)), (.ref x1)]) (lenOf own_pd1 rfl) rfl (by show 2 * 0 + _ ≤ _; exact Nat.le_of_eq rfl) (hb hby d8_25) (fun _ _ => ⟨rfl, e2, (by decide : 1 + 0 ≤ _), (by decide : 8 + 0 ≤ _)⟩)
  dsimp only [Pt.U, Pt.locs, Pt.cells, Pt.slots] at X5 l5 y5 z5 st5 hQ5
  subst l5 y5 z5
  obtain ⟨rfl, Nq5, eh5⟩ := hQ5
  have N5 := Fr.app N0 Nq5
  obtain ⟨T7, h7, L7, X7, e7, N7, K7, Vc7, st7⟩ := cpA X5 hx hZ hown (own_w hw 44 rfl) (own_w hw 47 rfl) (own_w hw 45 rfl) (own_w hw 46 rfl) eh5 (sp := 0) (dp := 0) (nn := 4) (us := [(.int w0), (.int w1), (.int w2), (.int w3)]) Vc3 V_b2 (Or.inl ⟨rfl, rfl⟩) (by decide) (by decide) (by decide) (by decide) (by decide) rfl (by decide) N5 g_b2 (g := (mkF m 28 #[rv x1, iv (8 : Int32), rv b2] [(.int (4 : Int32)), (.int (0 : Int32)), (.ref b2), (.int (0 : Int32)), (.ref x1)])) rfl (by rw [hml]; rfl) (rest := []) rfl (hb hby d8_28) (by decide) (W := 0) (by show 2 * 0 + _ ≤ _; exact Nat.le_of_eq rfl) (by decide)
  have Vd7 : Arv Z h7 b2 kk2 .int (8 : Int32) [(.int w0), (.int w1), (.int w2), (.int w3), (.int (0 : Int32)), (.int (0 : Int32)), (.int (0 : Int32)), (.int (0 : Int32))] (.int (0 : Int32)) := Vc7
  have pre8 : ∀ tz, oS p e below T7 m 32 #[rv x1, iv (8 : Int32), rv b2] [(.ref b2)] tz → oS p e below s₁ m 0 #[rv x1, iv (8 : Int32), .unset] [] tz := fun tz kt => by
    show oS p e below s₁ m 0 #[rv x1, iv (8 : Int32), .unset] [] _
    refine XS.iloadN X0.here hx rfl (hb hby d8_0) rfl ?_
    refine XS.aloadN X0.here hx rfl (hb hby d8_1) rfl rfl ?_
    refine X0.arraylength hx (by rw [e0]; exact Ar1.1) (State.isArrayOf_alike hZ.alike Ar1.2.1) (g := (mkF m 2 #[rv x1, iv (8 : Int32), .unset] [(.ref x1), (.int (8 : Int32))])) rfl rfl (hb hby d8_2) _ ?_
    rw [len_of Sz1 Ng1]
    show oS p e below s₁ m 3 #[rv x1, iv (8 : Int32), .unset] [(.int (4 : Int32)), (.int (8 : Int32))] _
    refine XS.icmpYes X0.here hx rfl (pc0 := 3) (pc' := 14) rfl (hb hby d8_3) rfl (feq (by decide : ¬ ((8 : Int32) = (4 : Int32)))).2 (by decide) (by decide) ?_
    refine XS.iloadN X0.here hx rfl (hb hby d8_14) rfl ?_
    show oS p e below s₁ m 15 #[rv x1, iv (8 : Int32), .unset] [(.int (8 : Int32))] _
    refine st2 _ ?_
    refine XS.astoreN X2.here hx rfl (hb hby d8_17) rfl rfl (l' := #[rv x1, iv (8 : Int32), rv b2]) rfl ?_
    refine XS.aloadN X2.here hx rfl (hb hby d8_18) rfl rfl ?_
    refine XS.iconst X2.here hx rfl (hb hby d8_19) ?_
    show oS p e below T2 m 20 #[rv x1, iv (8 : Int32), rv b2] [(.int (0 : Int32)), (.ref x1)] _
    refine XS.aloadN X2.here hx rfl (hb hby d8_20) rfl rfl ?_
    refine XS.iconst X2.here hx rfl (hb hby d8_21) ?_
    refine XS.aloadN X2.here hx rfl (hb hby d8_22) rfl rfl ?_
    refine X2.arraylength hx (by rw [e2]; exact Ar4.1) (State.isArrayOf_alike hZ.alike Ar4.2.1) (g := (mkF m 23 #[rv x1, iv (8 : Int32), rv b2] [(.ref x1), (.int (0 : Int32)), (.ref b2), (.int (0 : Int32)), (.ref x1)])) rfl rfl (hb hby d8_23) _ ?_
    rw [len_of Sz4 Ng4]
    show oS p e below T2 m 24 #[rv x1, iv (8 : Int32), rv b2] [(.int (4 : Int32)), (.int (0 : Int32)), (.ref b2), (.int (0 : Int32)), (.ref x1)] _
    refine XS.iloadN X2.here hx rfl (hb hby d8_24) rfl ?_
    show oS p e below T2 m 25 #[rv x1, iv (8 : Int32), rv b2] [(.int (8 : Int32)), (.int (4 : Int32)), (.int (0 : Int32)), (.ref b2), (.int (0 : Int32)), (.ref x1)] _
    refine st5 _ ?_
    rw [((if_neg (by decide : ¬ ((8 : Int32) < (4 : Int32)))) : (if (8 : Int32) < (4 : Int32) then (8 : Int32) else (4 : Int32)) = (4 : Int32))]
    show oS p e below T5 m 28 #[rv x1, iv (8 : Int32), rv b2] [(.int (4 : Int32)), (.int (0 : Int32)), (.ref b2), (.int (0 : Int32)), (.ref x1)] _
    refine st7 _ ?_
    refine XS.aloadN X7.here hx rfl (hb hby d8_31) rfl rfl ?_
    exact kt
  have KP9 : Keep h0 h7 [] := (((Keep.refl h0 []).ext E2).trans K7 (allS (Or.inr sz_b2) all0))
  obtain ⟨fs, hr, hrun, hended, hW, hsame⟩ := X7.leave (v := some (.ref b2)) (fun h => by rw [Bd.returns] at h; cases h)
  refine ⟨_, _, pre0 _ (pre8 _ ?_), hrun, hended, _, _, rfl, ?_, ⟨_, rfl⟩, hW, hsame.mono (by decide) (by decide)⟩
  · show oS p e below T7 m 32 #[rv x1, iv (8 : Int32), rv b2] [(.ref b2)] _
    exact retOut X7 hx Bd.returns rfl (Or.inr (Or.inr (Or.inr (Or.inr ⟨rfl, rfl, rfl⟩)))) (hb hby d8_32) hr
  · show Q8 Z x1 w0 w1 w2 w3 k1 h0 n0 _ T7.heap _
    rw [e7]
    exact ⟨b2, kk2, rfl, N7, KP9, sz_b2, g_b2, Vd7⟩
theorem d7_0 : decode prog_30_method_2_code 0 = .ok (.aload_n 0, 1) := by decide +kernel
theorem d7_1 : decode prog_30_method_2_code 1 = .ok (.getfield 13, 3) := by decide +kernel
theorem d7_4 : decode prog_30_method_2_code 4 = .ok (.aload_n 0, 1) := by decide +kernel
theorem d7_5 : decode prog_30_method_2_code 5 = .ok (.getfield 7, 3) := by decide +kernel
theorem d7_8 : decode prog_30_method_2_code 8 = .ok (.arraylength, 1) := by decide +kernel
theorem d7_9 : decode prog_30_method_2_code 9 = .ok (.if_icmp .ne 20, 3) := by decide +kernel
theorem d7_29 : decode prog_30_method_2_code 29 = .ok (.aload_n 0, 1) := by decide +kernel
theorem d7_30 : decode prog_30_method_2_code 30 = .ok (.getfield 7, 3) := by decide +kernel
theorem d7_33 : decode prog_30_method_2_code 33 = .ok (.aload_n 0, 1) := by decide +kernel
theorem d7_34 : decode prog_30_method_2_code 34 = .ok (.dup, 1) := by decide +kernel
theorem d7_35 : decode prog_30_method_2_code 35 = .ok (.getfield 13, 3) := by decide +kernel
theorem d7_38 : decode prog_30_method_2_code 38 = .ok (.dup_x1, 1) := by decide +kernel
theorem d7_39 : decode prog_30_method_2_code 39 = .ok (.iconst 1, 1) := by decide +kernel
theorem d7_40 : decode prog_30_method_2_code 40 = .ok (.iadd, 1) := by decide +kernel
theorem d7_41 : decode prog_30_method_2_code 41 = .ok (.putfield 13, 3) := by decide +kernel
theorem d7_44 : decode prog_30_method_2_code 44 = .ok (.iload_n 1, 1) := by decide +kernel
theorem d7_45 : decode prog_30_method_2_code 45 = .ok (.iastore, 1) := by decide +kernel
theorem d7_46 : decode prog_30_method_2_code 46 = .ok (.return_, 1) := by decide +kernel
theorem efA0 (m : MethodId) (o : Addr) (x1 : Int32) : entryFrame m #[(.ref o), (.int x1)] 2 = mkF m 0 #[rv o, iv x1] [] := by first | (simp [entryFrame, mkF, argsToLocals, Value.category]; done) | rfl
def QA0 (Z : State) (o : Addr) (x1 : Int32) (a : Addr) (k1 : ClassId) (h0 : Heap) (n0 : Nat) (v : Option Value) (h : Heap) (L : List Loc) : Prop := v = none ∧ Fr n0 L ∧ Keep h0 h [o, a] ∧ Fld Z h o oz0 "size" "I" (.int (1 : Int32)) ∧ Fld Z h o oz0 "values" "[I" (.ref a) ∧ Arv Z h a k1 .int (4 : Int32) [(.int x1), (.int (0 : Int32)), (.int (0 : Int32)), (.int (0 : Int32))] (.int (0 : Int32))
set_option maxRecDepth 65536 in
set_option maxHeartbeats 40000000 in
theorem rmA0 (l : Launch) (Z : State) (a0 : Array Value) (hw : ∀ d ∈ tables_1, d.before a0 Z = true) (ws : List Jvm.Cond) (o : Addr) (x1 : Int32) (a : Addr) (k1 : ClassId) (h0 : Heap) (n0 : Nat) (Z0 : n0 ≤ h0.size) (E_o : Exa Z h0 o oz0) (g_o : n0 ≤ o) (g_a : n0 ≤ a) (ne_o_a : o ≠ a) (F_size_o : Fld Z h0 o oz0 "size" "I" (.int (0 : Int32))) (F_values_o : Fld Z h0 o oz0 "values" "[I" (.ref a)) (V_a : Arv Z h0 a k1 .int (4 : Int32) [(.int (0 : Int32)), (.int (0 : Int32)), (.int (0 : Int32)), (.int (0 : Int32))] (.int (0 : Int32))) :
    MetFree l (⟨oz0, "add", "(I)V"⟩ : MethodName) (head1 (Jvm.Cond.code (⟨oz0, "add", "(I)V"⟩ : MethodName) prog_30_method_2_code 2 none :: ws) ({ frames := 0, cells := 0, slots := 0, locals := 0 } : Room)) (fun a U => a = #[(.ref o), (.int x1)] ∧ Z.Warmed39 U.vm ∧ U.heap = h0) (fun _ _ _ _ _ => True) (fun _ U oc U' => ∃ v L, oc = .returned v ∧ QA0 Z o x1 a k1 h0 n0 v U'.heap L ∧ FrameEnd U oc U' L ({ frames := 0, cells := 0, slots := 0, locals := 0 } : Room).cells ({ frames := 0, cells := 0, slots := 0, locals := 0 } : Room).slots) := by
  refine MetFree.of_bodySF (plainFor_of_name own_pn1) hisR ?_
  intro p e s m args below meth c s₁ Bd hml0 hP hK
  obtain ⟨rfl, hZ, hh⟩ := hP
  have hx := Bd.exec
  have hby := Bd.bytes
  have hml : c.maxLocals = 2 := hml0
  have hown : s.vm.findClass oz0 = some m.cls := findClass_of_methodNamed Bd.named
  have hnm := (name_of_methodNamed Bd.named Bd.method).1
  have X0 : Stand p l e ({ frames := 0, cells := 0, slots := 0, locals := 0 } : Room) s m #[(.ref o), (.int x1)] below meth c s₁ [] 0 0 := Stand.of_body Bd
  have e0 : s₁.heap = h0 := by rw [← hh, Bd.state]; rfl
  have N0 := Fr.nil n0
  have pre0 : ∀ t, Steps p.tables e below (s₁.setTop (mkF m 0 #[rv o, iv x1] [])) t → Steps p.tables e below (s₁.setTop (entryFrame m #[(.ref o), (.int x1)] 2)) t := fun t k => castTop (efA0 m o x1) k
  obtain ⟨T1, X1, e1, st1⟩ := getF X0 hx hZ hown (host := "") (Or.inl (own_w hw 30 rfl)) Via.refl e0 F_size_o (g := (mkF m 1 #[rv o, iv x1] [(.ref o)])) rfl rfl (hb hby d7_1)
  obtain ⟨T2, X2, e2, st2⟩ := getF X1 hx hZ hown (host := "") (Or.inl (own_w hw 20 rfl)) Via.refl e1 F_values_o (g := (mkF m 5 #[rv o, iv x1] [(.ref o), (.int (0 : Int32))])) rfl rfl (hb hby d7_5)
  obtain ⟨cl3, Ar3, qk3, Sz3, Ng3, Hs3, Gt3⟩ := id V_a
  obtain ⟨T4, X4, e4, st4⟩ := getF X2 hx hZ hown (host := "") (Or.inl (own_w hw 20 rfl)) Via.refl e2 F_values_o (g := (mkF m 30 #[rv o, iv x1] [(.ref o)])) rfl rfl (hb hby d7_30)
  obtain ⟨T5, X5, e5, st5⟩ := getF X4 hx hZ hown (host := "") (Or.inl (own_w hw 30 rfl)) Via.refl e4 F_size_o (g := (mkF m 35 #[rv o, iv x1] [(.ref o), (.ref o), (.ref a)])) rfl rfl (hb hby d7_35)
  obtain ⟨T6, h6, X6, e6, W6, st6⟩ := putF X5 hx hZ hown (host := "") (Or.inl (own_w hw 30 rfl)) Via.refl e5 F_size_o E_o (Or.inl (own_w hw 31 rfl)) (own_w hw 11 rfl) (ty := .int) (by decide) rfl rfl (g := (mkF m 41 #[rv o, iv x1] [(.int (1 : Int32)), (.ref o), (.int (0 : Int32)), (.ref a)])) rfl rfl (hb hby d7_41)
  have Fw6 : Fld Z h6 o oz0 "size" "I" (.int (1 : Int32)) := F_size_o.same W6
  have N6 := Fr.snoc X6 N0 g_o
  have Vc7 : Arv Z h6 a k1 .int (4 : Int32) [(.int (0 : Int32)), (.int (0 : Int32)), (.int (0 : Int32)), (.int (0 : Int32))] (.int (0 : Int32)) := (V_a.other W6 (Ne.symm ne_o_a))
  obtain ⟨cl8, Ar8, qk8, Sz8, Ng8, Hs8, Gt8⟩ := id Vc7
  have hin8 : ¬ ((0 : Int32) < 0 ∨ cl8.slots.size ≤ ((0 : Int32)).toNatClampNeg) := inb_of Sz8 ⟨by decide, by decide⟩
  obtain ⟨T9, h9, X9, e9, W9, st9⟩ := stI X6 hx hZ e6 Ar8 (j := (0 : Int32)) hin8 (g := (mkF m 45 #[rv o, iv x1] [(.int x1), (.int (0 : Int32)), (.ref a)])) rfl rfl (hb hby d7_45)
  have Va9 : Arv Z h9 a k1 .int (4 : Int32) [(.int x1), (.int (0 : Int32)), (.int (0 : Int32)), (.int (0 : Int32))] (.int (0 : Int32)) := Arv.set Ar8 qk8 Sz8 Ng8 Hs8 Gt8 rfl W9 0 rfl (Nat.le_of_ble_eq_true rfl)
  have N9 := Fr.snoc X9 N6 g_a
  have pre10 : ∀ tz, oS p e below T9 m 46 #[rv o, iv x1] [] tz → oS p e below s₁ m 0 #[rv o, iv x1] [] tz := fun tz kt => by
    show oS p e below s₁ m 0 #[rv o, iv x1] [] _
    refine XS.aloadN X0.here hx rfl (hb hby d7_0) rfl rfl ?_
    show oS p e below s₁ m 1 #[rv o, iv x1] [(.ref o)] _
    refine st1 _ ?_
    refine XS.aloadN X1.here hx rfl (hb hby d7_4) rfl rfl ?_
    show oS p e below T1 m 5 #[rv o, iv x1] [(.ref o), (.int (0 : Int32))] _
    refine st2 _ ?_
    refine X2.arraylength hx (by rw [e2]; exact Ar3.1) (State.isArrayOf_alike hZ.alike Ar3.2.1) (g := (mkF m 8 #[rv o, iv x1] [(.ref a), (.int (0 : Int32))])) rfl rfl (hb hby d7_8) _ ?_
    rw [len_of Sz3 Ng3]
    show oS p e below T2 m 9 #[rv o, iv x1] [(.int (4 : Int32)), (.int (0 : Int32))] _
    refine XS.icmpYes X2.here hx rfl (pc0 := 9) (pc' := 29) rfl (hb hby d7_9) rfl (feq (by decide : ¬ ((0 : Int32) = (4 : Int32)))).2 (by decide) (by decide) ?_
    refine XS.aloadN X2.here hx rfl (hb hby d7_29) rfl rfl ?_
    show oS p e below T2 m 30 #[rv o, iv x1] [(.ref o)] _
    refine st4 _ ?_
    refine XS.aloadN X4.here hx rfl (hb hby d7_33) rfl rfl ?_
    refine XS.dup X4.here hx rfl (hb hby d7_34) rfl rfl ?_
    show oS p e below T4 m 35 #[rv o, iv x1] [(.ref o), (.ref o), (.ref a)] _
    refine st5 _ ?_
    refine XS.dupX1 X5.here hx rfl (hb hby d7_38) rfl rfl rfl ?_
    refine XS.iconst X5.here hx rfl (hb hby d7_39) ?_
    refine XS.iadd X5.here hx rfl (hb hby d7_40) rfl ?_
    show oS p e below T5 m 41 #[rv o, iv x1] [(.int (1 : Int32)), (.ref o), (.int (0 : Int32)), (.ref a)] _
    refine st6 _ ?_
    refine XS.iloadN X6.here hx rfl (hb hby d7_44) rfl ?_
    show oS p e below T6 m 45 #[rv o, iv x1] [(.int x1), (.int (0 : Int32)), (.ref a)] _
    refine st9 _ ?_
    exact kt
  have KP11 : Keep h0 h9 [o, a] := (((Keep.refl h0 [o, a]).wr W6 (Or.inl (List.mem_of_getElem? (i := 0) rfl))).wr W9 (Or.inl (List.mem_of_getElem? (i := 1) rfl)))
  have Fc12 : Fld Z h9 o oz0 "size" "I" (.int (1 : Int32)) := (Fw6.other W9 (Or.inl ne_o_a))
  have Fc13 : Fld Z h9 o oz0 "values" "[I" (.ref a) := ((F_values_o.other W6 (Or.inr (slot_ne (Or.inl (own_w hw 21 rfl)) (Or.inl (own_w hw 31 rfl)) (by decide) (t := (.array .int)) (t' := .int) (by decide) (by decide)))).other W9 (Or.inl ne_o_a))
  obtain ⟨fs, hr, hrun, hended, hW, hsame⟩ := X9.leave (v := none) (fun _ => rfl)
  refine ⟨_, _, pre0 _ (pre10 _ ?_), hrun, hended, _, _, rfl, ?_, ⟨_, rfl⟩, hW, hsame.mono (by decide) (by decide)⟩
  · show oS p e below T9 m 46 #[rv o, iv x1] [] _
    exact X9.returnOut hx Bd.returns (hb hby d7_46) hr
  · show QA0 Z o x1 a k1 h0 n0 _ T9.heap _
    rw [e9]
    exact ⟨rfl, N9, KP11, Fc12, Fc13, Va9⟩
theorem efA1 (m : MethodId) (o : Addr) (x1 : Int32) : entryFrame m #[(.ref o), (.int x1)] 2 = mkF m 0 #[rv o, iv x1] [] := by first | (simp [entryFrame, mkF, argsToLocals, Value.category]; done) | rfl
def QA1 (Z : State) (o : Addr) (x1 : Int32) (w0 : Int32) (a : Addr) (k1 : ClassId) (h0 : Heap) (n0 : Nat) (v : Option Value) (h : Heap) (L : List Loc) : Prop := v = none ∧ Fr n0 L ∧ Keep h0 h [o, a] ∧ Fld Z h o oz0 "size" "I" (.int (2 : Int32)) ∧ Fld Z h o oz0 "values" "[I" (.ref a) ∧ Arv Z h a k1 .int (4 : Int32) [(.int w0), (.int x1), (.int (0 : Int32)), (.int (0 : Int32))] (.int (0 : Int32))
set_option maxRecDepth 65536 in
set_option maxHeartbeats 40000000 in
theorem rmA1 (l : Launch) (Z : State) (a0 : Array Value) (hw : ∀ d ∈ tables_1, d.before a0 Z = true) (ws : List Jvm.Cond) (o : Addr) (x1 : Int32) (w0 : Int32) (a : Addr) (k1 : ClassId) (h0 : Heap) (n0 : Nat) (Z0 : n0 ≤ h0.size) (E_o : Exa Z h0 o oz0) (g_o : n0 ≤ o) (g_a : n0 ≤ a) (ne_o_a : o ≠ a) (F_size_o : Fld Z h0 o oz0 "size" "I" (.int (1 : Int32))) (F_values_o : Fld Z h0 o oz0 "values" "[I" (.ref a)) (V_a : Arv Z h0 a k1 .int (4 : Int32) [(.int w0), (.int (0 : Int32)), (.int (0 : Int32)), (.int (0 : Int32))] (.int (0 : Int32))) :
    MetFree l (⟨oz0, "add", "(I)V"⟩ : MethodName) (head1 (Jvm.Cond.code (⟨oz0, "add", "(I)V"⟩ : MethodName) prog_30_method_2_code 2 none :: ws) ({ frames := 0, cells := 0, slots := 0, locals := 0 } : Room)) (fun a U => a = #[(.ref o), (.int x1)] ∧ Z.Warmed39 U.vm ∧ U.heap = h0) (fun _ _ _ _ _ => True) (fun _ U oc U' => ∃ v L, oc = .returned v ∧ QA1 Z o x1 w0 a k1 h0 n0 v U'.heap L ∧ FrameEnd U oc U' L ({ frames := 0, cells := 0, slots := 0, locals := 0 } : Room).cells ({ frames := 0, cells := 0, slots := 0, locals := 0 } : Room).slots) := by
  refine MetFree.of_bodySF (plainFor_of_name own_pn1) hisR ?_
  intro p e s m args below meth c s₁ Bd hml0 hP hK
  obtain ⟨rfl, hZ, hh⟩ := hP
  have hx := Bd.exec
  have hby := Bd.bytes
  have hml : c.maxLocals = 2 := hml0
  have hown : s.vm.findClass oz0 = some m.cls := findClass_of_methodNamed Bd.named
  have hnm := (name_of_methodNamed Bd.named Bd.method).1
  have X0 : Stand p l e ({ frames := 0, cells := 0, slots := 0, locals := 0 } : Room) s m #[(.ref o), (.int x1)] below meth c s₁ [] 0 0 := Stand.of_body Bd
  have e0 : s₁.heap = h0 := by rw [← hh, Bd.state]; rfl
  have N0 := Fr.nil n0
  have pre0 : ∀ t, Steps p.tables e below (s₁.setTop (mkF m 0 #[rv o, iv x1] [])) t → Steps p.tables e below (s₁.setTop (entryFrame m #[(.ref o), (.int x1)] 2)) t := fun t k => castTop (efA1 m o x1) k
  obtain ⟨T1, X1, e1, st1⟩ := getF X0 hx hZ hown (host := "") (Or.inl (own_w hw 30 rfl)) Via.refl e0 F_size_o (g := (mkF m 1 #[rv o, iv x1] [(.ref o)])) rfl rfl (hb hby d7_1)
  obtain ⟨T2, X2, e2, st2⟩ := getF X1 hx hZ hown (host := "") (Or.inl (own_w hw 20 rfl)) Via.refl e1 F_values_o (g := (mkF m 5 #[rv o, iv x1] [(.ref o), (.int (1 : Int32))])) rfl rfl (hb hby d7_5)
  obtain ⟨cl3, Ar3, qk3, Sz3, Ng3, Hs3, Gt3⟩ := id V_a
  obtain ⟨T4, X4, e4, st4⟩ := getF X2 hx hZ hown (host := "") (Or.inl (own_w hw 20 rfl)) Via.refl e2 F_values_o (g := (mkF m 30 #[rv o, iv x1] [(.ref o)])) rfl rfl (hb hby d7_30)
  obtain ⟨T5, X5, e5, st5⟩ := getF X4 hx hZ hown (host := "") (Or.inl (own_w hw 30 rfl)) Via.refl e4 F_size_o (g := (mkF m 35 #[rv o, iv x1] [(.ref o), (.ref o), (.ref a)])) rfl rfl (hb hby d7_35)
  obtain ⟨T6, h6, X6, e6, W6, st6⟩ := putF X5 hx hZ hown (host := "") (Or.inl (own_w hw 30 rfl)) Via.refl e5 F_size_o E_o (Or.inl (own_w hw 31 rfl)) (own_w hw 11 rfl) (ty := .int) (by decide) rfl rfl (g := (mkF m 41 #[rv o, iv x1] [(.int (2 : Int32)), (.ref o), (.int (1 : Int32)), (.ref a)])) rfl rfl (hb hby d7_41)
  have Fw6 : Fld Z h6 o oz0 "size" "I" (.int (2 : Int32)) := F_size_o.same W6
  have N6 := Fr.snoc X6 N0 g_o
  have Vc7 : Arv Z h6 a k1 .int (4 : Int32) [(.int w0), (.int (0 : Int32)), (.int (0 : Int32)), (.int (0 : Int32))] (.int (0 : Int32)) := (V_a.other W6 (Ne.symm ne_o_a))
  obtain ⟨cl8, Ar8, qk8, Sz8, Ng8, Hs8, Gt8⟩ := id Vc7
  have hin8 : ¬ ((1 : Int32) < 0 ∨ cl8.slots.size ≤ ((1 : Int32)).toNatClampNeg) := inb_of Sz8 ⟨by decide, by decide⟩
  obtain ⟨T9, h9, X9, e9, W9, st9⟩ := stI X6 hx hZ e6 Ar8 (j := (1 : Int32)) hin8 (g := (mkF m 45 #[rv o, iv x1] [(.int x1), (.int (1 : Int32)), (.ref a)])) rfl rfl (hb hby d7_45)
  have Va9 : Arv Z h9 a k1 .int (4 : Int32) [(.int w0), (.int x1), (.int (0 : Int32)), (.int (0 : Int32))] (.int (0 : Int32)) := Arv.set Ar8 qk8 Sz8 Ng8 Hs8 Gt8 rfl W9 1 rfl (Nat.le_of_ble_eq_true rfl)
  have N9 := Fr.snoc X9 N6 g_a
  have pre10 : ∀ tz, oS p e below T9 m 46 #[rv o, iv x1] [] tz → oS p e below s₁ m 0 #[rv o, iv x1] [] tz := fun tz kt => by
    show oS p e below s₁ m 0 #[rv o, iv x1] [] _
    refine XS.aloadN X0.here hx rfl (hb hby d7_0) rfl rfl ?_
    show oS p e below s₁ m 1 #[rv o, iv x1] [(.ref o)] _
    refine st1 _ ?_
    refine XS.aloadN X1.here hx rfl (hb hby d7_4) rfl rfl ?_
    show oS p e below T1 m 5 #[rv o, iv x1] [(.ref o), (.int (1 : Int32))] _
    refine st2 _ ?_
    refine X2.arraylength hx (by rw [e2]; exact Ar3.1) (State.isArrayOf_alike hZ.alike Ar3.2.1) (g := (mkF m 8 #[rv o, iv x1] [(.ref a), (.int (1 : Int32))])) rfl rfl (hb hby d7_8) _ ?_
    rw [len_of Sz3 Ng3]
    show oS p e below T2 m 9 #[rv o, iv x1] [(.int (4 : Int32)), (.int (1 : Int32))] _
    refine XS.icmpYes X2.here hx rfl (pc0 := 9) (pc' := 29) rfl (hb hby d7_9) rfl (feq (by decide : ¬ ((1 : Int32) = (4 : Int32)))).2 (by decide) (by decide) ?_
    refine XS.aloadN X2.here hx rfl (hb hby d7_29) rfl rfl ?_
    show oS p e below T2 m 30 #[rv o, iv x1] [(.ref o)] _
    refine st4 _ ?_
    refine XS.aloadN X4.here hx rfl (hb hby d7_33) rfl rfl ?_
    refine XS.dup X4.here hx rfl (hb hby d7_34) rfl rfl ?_
    show oS p e below T4 m 35 #[rv o, iv x1] [(.ref o), (.ref o), (.ref a)] _
    refine st5 _ ?_
    refine XS.dupX1 X5.here hx rfl (hb hby d7_38) rfl rfl rfl ?_
    refine XS.iconst X5.here hx rfl (hb hby d7_39) ?_
    refine XS.iadd X5.here hx rfl (hb hby d7_40) rfl ?_
    show oS p e below T5 m 41 #[rv o, iv x1] [(.int (2 : Int32)), (.ref o), (.int (1 : Int32)), (.ref a)] _
    refine st6 _ ?_
    refine XS.iloadN X6.here hx rfl (hb hby d7_44) rfl ?_
    show oS p e below T6 m 45 #[rv o, iv x1] [(.int x1), (.int (1 : Int32)), (.ref a)] _
    refine st9 _ ?_
    exact kt
  have KP11 : Keep h0 h9 [o, a] := (((Keep.refl h0 [o, a]).wr W6 (Or.inl (List.mem_of_getElem? (i := 0) rfl))).wr W9 (Or.inl (List.mem_of_getElem? (i := 1) rfl)))
  have Fc12 : Fld Z h9 o oz0 "size" "I" (.int (2 : Int32)) := (Fw6.other W9 (Or.inl ne_o_a))
  have Fc13 : Fld Z h9 o oz0 "values" "[I" (.ref a) := ((F_values_o.other W6 (Or.inr (slot_ne (Or.inl (own_w hw 21 rfl)) (Or.inl (own_w hw 31 rfl)) (by decide) (t := (.array .int)) (t' := .int) (by decide) (by decide)))).other W9 (Or.inl ne_o_a))
  obtain ⟨fs, hr, hrun, hended, hW, hsame⟩ := X9.leave (v := none) (fun _ => rfl)
  refine ⟨_, _, pre0 _ (pre10 _ ?_), hrun, hended, _, _, rfl, ?_, ⟨_, rfl⟩, hW, hsame.mono (by decide) (by decide)⟩
  · show oS p e below T9 m 46 #[rv o, iv x1] [] _
    exact X9.returnOut hx Bd.returns (hb hby d7_46) hr
  · show QA1 Z o x1 w0 a k1 h0 n0 _ T9.heap _
    rw [e9]
    exact ⟨rfl, N9, KP11, Fc12, Fc13, Va9⟩
theorem efA2 (m : MethodId) (o : Addr) (x1 : Int32) : entryFrame m #[(.ref o), (.int x1)] 2 = mkF m 0 #[rv o, iv x1] [] := by first | (simp [entryFrame, mkF, argsToLocals, Value.category]; done) | rfl
def QA2 (Z : State) (o : Addr) (x1 : Int32) (w0 : Int32) (w1 : Int32) (a : Addr) (k1 : ClassId) (h0 : Heap) (n0 : Nat) (v : Option Value) (h : Heap) (L : List Loc) : Prop := v = none ∧ Fr n0 L ∧ Keep h0 h [o, a] ∧ Fld Z h o oz0 "size" "I" (.int (3 : Int32)) ∧ Fld Z h o oz0 "values" "[I" (.ref a) ∧ Arv Z h a k1 .int (4 : Int32) [(.int w0), (.int w1), (.int x1), (.int (0 : Int32))] (.int (0 : Int32))
set_option maxRecDepth 65536 in
set_option maxHeartbeats 40000000 in
theorem rmA2 (l : Launch) (Z : State) (a0 : Array Value) (hw : ∀ d ∈ tables_1, d.before a0 Z = true) (ws : List Jvm.Cond) (o : Addr) (x1 : Int32) (w0 : Int32) (w1 : Int32) (a : Addr) (k1 : ClassId) (h0 : Heap) (n0 : Nat) (Z0 : n0 ≤ h0.size) (E_o : Exa Z h0 o oz0) (g_o : n0 ≤ o) (g_a : n0 ≤ a) (ne_o_a : o ≠ a) (F_size_o : Fld Z h0 o oz0 "size" "I" (.int (2 : Int32))) (F_values_o : Fld Z h0 o oz0 "values" "[I" (.ref a)) (V_a : Arv Z h0 a k1 .int (4 : Int32) [(.int w0), (.int w1), (.int (0 : Int32)), (.int (0 : Int32))] (.int (0 : Int32))) :
    MetFree l (⟨oz0, "add", "(I)V"⟩ : MethodName) (head1 (Jvm.Cond.code (⟨oz0, "add", "(I)V"⟩ : MethodName) prog_30_method_2_code 2 none :: ws) ({ frames := 0, cells := 0, slots := 0, locals := 0 } : Room)) (fun a U => a = #[(.ref o), (.int x1)] ∧ Z.Warmed39 U.vm ∧ U.heap = h0) (fun _ _ _ _ _ => True) (fun _ U oc U' => ∃ v L, oc = .returned v ∧ QA2 Z o x1 w0 w1 a k1 h0 n0 v U'.heap L ∧ FrameEnd U oc U' L ({ frames := 0, cells := 0, slots := 0, locals := 0 } : Room).cells ({ frames := 0, cells := 0, slots := 0, locals := 0 } : Room).slots) := by
  refine MetFree.of_bodySF (plainFor_of_name own_pn1) hisR ?_
  intro p e s m args below meth c s₁ Bd hml0 hP hK
  obtain ⟨rfl, hZ, hh⟩ := hP
  have hx := Bd.exec
  have hby := Bd.bytes
  have hml : c.maxLocals = 2 := hml0
  have hown : s.vm.findClass oz0 = some m.cls := findClass_of_methodNamed Bd.named
  have hnm := (name_of_methodNamed Bd.named Bd.method).1
  have X0 : Stand p l e ({ frames := 0, cells := 0, slots := 0, locals := 0 } : Room) s m #[(.ref o), (.int x1)] below meth c s₁ [] 0 0 := Stand.of_body Bd
  have e0 : s₁.heap = h0 := by rw [← hh, Bd.state]; rfl
  have N0 := Fr.nil n0
  have pre0 : ∀ t, Steps p.tables e below (s₁.setTop (mkF m 0 #[rv o, iv x1] [])) t → Steps p.tables e below (s₁.setTop (entryFrame m #[(.ref o), (.int x1)] 2)) t := fun t k => castTop (efA2 m o x1) k
  obtain ⟨T1, X1, e1, st1⟩ := getF X0 hx hZ hown (host := "") (Or.inl (own_w hw 30 rfl)) Via.refl e0 F_size_o (g := (mkF m 1 #[rv o, iv x1] [(.ref o)])) rfl rfl (hb hby d7_1)
  obtain ⟨T2, X2, e2, st2⟩ := getF X1 hx hZ hown (host := "") (Or.inl (own_w hw 20 rfl)) Via.refl e1 F_values_o (g := (mkF m 5 #[rv o, iv x1] [(.ref o), (.int (2 : Int32))])) rfl rfl (hb hby d7_5)
  obtain ⟨cl3, Ar3, qk3, Sz3, Ng3, Hs3, Gt3⟩ := id V_a
  obtain ⟨T4, X4, e4, st4⟩ := getF X2 hx hZ hown (host := "") (Or.inl (own_w hw 20 rfl)) Via.refl e2 F_values_o (g := (mkF m 30 #[rv o, iv x1] [(.ref o)])) rfl rfl (hb hby d7_30)
  obtain ⟨T5, X5, e5, st5⟩ := getF X4 hx hZ hown (host := "") (Or.inl (own_w hw 30 rfl)) Via.refl e4 F_size_o (g := (mkF m 35 #[rv o, iv x1] [(.ref o), (.ref o), (.ref a)])) rfl rfl (hb hby d7_35)
  obtain ⟨T6, h6, X6, e6, W6, st6⟩ := putF X5 hx hZ hown (host := "") (Or.inl (own_w hw 30 rfl)) Via.refl e5 F_size_o E_o (Or.inl (own_w hw 31 rfl)) (own_w hw 11 rfl) (ty := .int) (by decide) rfl rfl (g := (mkF m 41 #[rv o, iv x1] [(.int (3 : Int32)), (.ref o), (.int (2 : Int32)), (.ref a)])) rfl rfl (hb hby d7_41)
  have Fw6 : Fld Z h6 o oz0 "size" "I" (.int (3 : Int32)) := F_size_o.same W6
  have N6 := Fr.snoc X6 N0 g_o
  have Vc7 : Arv Z h6 a k1 .int (4 : Int32) [(.int w0), (.int w1), (.int (0 : Int32)), (.int (0 : Int32))] (.int (0 : Int32)) := (V_a.other W6 (Ne.symm ne_o_a))
  obtain ⟨cl8, Ar8, qk8, Sz8, Ng8, Hs8, Gt8⟩ := id Vc7
  have hin8 : ¬ ((2 : Int32) < 0 ∨ cl8.slots.size ≤ ((2 : Int32)).toNatClampNeg) := inb_of Sz8 ⟨by decide, by decide⟩
  obtain ⟨T9, h9, X9, e9, W9, st9⟩ := stI X6 hx hZ e6 Ar8 (j := (2 : Int32)) hin8 (g := (mkF m 45 #[rv o, iv x1] [(.int x1), (.int (2 : Int32)), (.ref a)])) rfl rfl (hb hby d7_45)
  have Va9 : Arv Z h9 a k1 .int (4 : Int32) [(.int w0), (.int w1), (.int x1), (.int (0 : Int32))] (.int (0 : Int32)) := Arv.set Ar8 qk8 Sz8 Ng8 Hs8 Gt8 rfl W9 2 rfl (Nat.le_of_ble_eq_true rfl)
  have N9 := Fr.snoc X9 N6 g_a
  have pre10 : ∀ tz, oS p e below T9 m 46 #[rv o, iv x1] [] tz → oS p e below s₁ m 0 #[rv o, iv x1] [] tz := fun tz kt => by
    show oS p e below s₁ m 0 #[rv o, iv x1] [] _
    refine XS.aloadN X0.here hx rfl (hb hby d7_0) rfl rfl ?_
    show oS p e below s₁ m 1 #[rv o, iv x1] [(.ref o)] _
    refine st1 _ ?_
    refine XS.aloadN X1.here hx rfl (hb hby d7_4) rfl rfl ?_
    show oS p e below T1 m 5 #[rv o, iv x1] [(.ref o), (.int (2 : Int32))] _
    refine st2 _ ?_
    refine X2.arraylength hx (by rw [e2]; exact Ar3.1) (State.isArrayOf_alike hZ.alike Ar3.2.1) (g := (mkF m 8 #[rv o, iv x1] [(.ref a), (.int (2 : Int32))])) rfl rfl (hb hby d7_8) _ ?_
    rw [len_of Sz3 Ng3]
    show oS p e below T2 m 9 #[rv o, iv x1] [(.int (4 : Int32)), (.int (2 : Int32))] _
    refine XS.icmpYes X2.here hx rfl (pc0 := 9) (pc' := 29) rfl (hb hby d7_9) rfl (feq (by decide : ¬ ((2 : Int32) = (4 : Int32)))).2 (by decide) (by decide) ?_
    refine XS.aloadN X2.here hx rfl (hb hby d7_29) rfl rfl ?_
    show oS p e below T2 m 30 #[rv o, iv x1] [(.ref o)] _
    refine st4 _ ?_
    refine XS.aloadN X4.here hx rfl (hb hby d7_33) rfl rfl ?_
    refine XS.dup X4.here hx rfl (hb hby d7_34) rfl rfl ?_
    show oS p e below T4 m 35 #[rv o, iv x1] [(.ref o), (.ref o), (.ref a)] _
    refine st5 _ ?_
    refine XS.dupX1 X5.here hx rfl (hb hby d7_38) rfl rfl rfl ?_
    refine XS.iconst X5.here hx rfl (hb hby d7_39) ?_
    refine XS.iadd X5.here hx rfl (hb hby d7_40) rfl ?_
    show oS p e below T5 m 41 #[rv o, iv x1] [(.int (3 : Int32)), (.ref o), (.int (2 : Int32)), (.ref a)] _
    refine st6 _ ?_
    refine XS.iloadN X6.here hx rfl (hb hby d7_44) rfl ?_
    show oS p e below T6 m 45 #[rv o, iv x1] [(.int x1), (.int (2 : Int32)), (.ref a)] _
    refine st9 _ ?_
    exact kt
  have KP11 : Keep h0 h9 [o, a] := (((Keep.refl h0 [o, a]).wr W6 (Or.inl (List.mem_of_getElem? (i := 0) rfl))).wr W9 (Or.inl (List.mem_of_getElem? (i := 1) rfl)))
  have Fc12 : Fld Z h9 o oz0 "size" "I" (.int (3 : Int32)) := (Fw6.other W9 (Or.inl ne_o_a))
  have Fc13 : Fld Z h9 o oz0 "values" "[I" (.ref a) := ((F_values_o.other W6 (Or.inr (slot_ne (Or.inl (own_w hw 21 rfl)) (Or.inl (own_w hw 31 rfl)) (by decide) (t := (.array .int)) (t' := .int) (by decide) (by decide)))).other W9 (Or.inl ne_o_a))
  obtain ⟨fs, hr, hrun, hended, hW, hsame⟩ := X9.leave (v := none) (fun _ => rfl)
  refine ⟨_, _, pre0 _ (pre10 _ ?_), hrun, hended, _, _, rfl, ?_, ⟨_, rfl⟩, hW, hsame.mono (by decide) (by decide)⟩
  · show oS p e below T9 m 46 #[rv o, iv x1] [] _
    exact X9.returnOut hx Bd.returns (hb hby d7_46) hr
  · show QA2 Z o x1 w0 w1 a k1 h0 n0 _ T9.heap _
    rw [e9]
    exact ⟨rfl, N9, KP11, Fc12, Fc13, Va9⟩
theorem efA3 (m : MethodId) (o : Addr) (x1 : Int32) : entryFrame m #[(.ref o), (.int x1)] 2 = mkF m 0 #[rv o, iv x1] [] := by first | (simp [entryFrame, mkF, argsToLocals, Value.category]; done) | rfl
def QA3 (Z : State) (o : Addr) (x1 : Int32) (w0 : Int32) (w1 : Int32) (w2 : Int32) (a : Addr) (k1 : ClassId) (h0 : Heap) (n0 : Nat) (v : Option Value) (h : Heap) (L : List Loc) : Prop := v = none ∧ Fr n0 L ∧ Keep h0 h [o, a] ∧ Fld Z h o oz0 "size" "I" (.int (4 : Int32)) ∧ Fld Z h o oz0 "values" "[I" (.ref a) ∧ Arv Z h a k1 .int (4 : Int32) [(.int w0), (.int w1), (.int w2), (.int x1)] (.int (0 : Int32))
set_option maxRecDepth 65536 in
set_option maxHeartbeats 40000000 in
theorem rmA3 (l : Launch) (Z : State) (a0 : Array Value) (hw : ∀ d ∈ tables_1, d.before a0 Z = true) (ws : List Jvm.Cond) (o : Addr) (x1 : Int32) (w0 : Int32) (w1 : Int32) (w2 : Int32) (a : Addr) (k1 : ClassId) (h0 : Heap) (n0 : Nat) (Z0 : n0 ≤ h0.size) (E_o : Exa Z h0 o oz0) (g_o : n0 ≤ o) (g_a : n0 ≤ a) (ne_o_a : o ≠ a) (F_size_o : Fld Z h0 o oz0 "size" "I" (.int (3 : Int32))) (F_values_o : Fld Z h0 o oz0 "values" "[I" (.ref a)) (V_a : Arv Z h0 a k1 .int (4 : Int32) [(.int w0), (.int w1), (.int w2), (.int (0 : Int32))] (.int (0 : Int32))) :
    MetFree l (⟨oz0, "add", "(I)V"⟩ : MethodName) (head1 (Jvm.Cond.code (⟨oz0, "add", "(I)V"⟩ : MethodName) prog_30_method_2_code 2 none :: ws) ({ frames := 0, cells := 0, slots := 0, locals := 0 } : Room)) (fun a U => a = #[(.ref o), (.int x1)] ∧ Z.Warmed39 U.vm ∧ U.heap = h0) (fun _ _ _ _ _ => True) (fun _ U oc U' => ∃ v L, oc = .returned v ∧ QA3 Z o x1 w0 w1 w2 a k1 h0 n0 v U'.heap L ∧ FrameEnd U oc U' L ({ frames := 0, cells := 0, slots := 0, locals := 0 } : Room).cells ({ frames := 0, cells := 0, slots := 0, locals := 0 } : Room).slots) := by
  refine MetFree.of_bodySF (plainFor_of_name own_pn1) hisR ?_
  intro p e s m args below meth c s₁ Bd hml0 hP hK
  obtain ⟨rfl, hZ, hh⟩ := hP
  have hx := Bd.exec
  have hby := Bd.bytes
  have hml : c.maxLocals = 2 := hml0
  have hown : s.vm.findClass oz0 = some m.cls := findClass_of_methodNamed Bd.named
  have hnm := (name_of_methodNamed Bd.named Bd.method).1
  have X0 : Stand p l e ({ frames := 0, cells := 0, slots := 0, locals := 0 } : Room) s m #[(.ref o), (.int x1)] below meth c s₁ [] 0 0 := Stand.of_body Bd
  have e0 : s₁.heap = h0 := by rw [← hh, Bd.state]; rfl
  have N0 := Fr.nil n0
  have pre0 : ∀ t, Steps p.tables e below (s₁.setTop (mkF m 0 #[rv o, iv x1] [])) t → Steps p.tables e below (s₁.setTop (entryFrame m #[(.ref o), (.int x1)] 2)) t := fun t k => castTop (efA3 m o x1) k
  obtain ⟨T1, X1, e1, st1⟩ := getF X0 hx hZ hown (host := "") (Or.inl (own_w hw 30 rfl)) Via.refl e0 F_size_o (g := (mkF m 1 #[rv o, iv x1] [(.ref o)])) rfl rfl (hb hby d7_1)
  obtain ⟨T2, X2, e2, st2⟩ := getF X1 hx hZ hown (host := "") (Or.inl (own_w hw 20 rfl)) Via.refl e1 F_values_o (g := (mkF m 5 #[rv o, iv x1] [(.ref o), (.int (3 : Int32))])) rfl rfl (hb hby d7_5)
  obtain ⟨cl3, Ar3, qk3, Sz3, Ng3, Hs3, Gt3⟩ := id V_a
  obtain ⟨T4, X4, e4, st4⟩ := getF X2 hx hZ hown (host := "") (Or.inl (own_w hw 20 rfl)) Via.refl e2 F_values_o (g := (mkF m 30 #[rv o, iv x1] [(.ref o)])) rfl rfl (hb hby d7_30)
  obtain ⟨T5, X5, e5, st5⟩ := getF X4 hx hZ hown (host := "") (Or.inl (own_w hw 30 rfl)) Via.refl e4 F_size_o (g := (mkF m 35 #[rv o, iv x1] [(.ref o), (.ref o), (.ref a)])) rfl rfl (hb hby d7_35)
  obtain ⟨T6, h6, X6, e6, W6, st6⟩ := putF X5 hx hZ hown (host := "") (Or.inl (own_w hw 30 rfl)) Via.refl e5 F_size_o E_o (Or.inl (own_w hw 31 rfl)) (own_w hw 11 rfl) (ty := .int) (by decide) rfl rfl (g := (mkF m 41 #[rv o, iv x1] [(.int (4 : Int32)), (.ref o), (.int (3 : Int32)), (.ref a)])) rfl rfl (hb hby d7_41)
  have Fw6 : Fld Z h6 o oz0 "size" "I" (.int (4 : Int32)) := F_size_o.same W6
  have N6 := Fr.snoc X6 N0 g_o
  have Vc7 : Arv Z h6 a k1 .int (4 : Int32) [(.int w0), (.int w1), (.int w2), (.int (0 : Int32))] (.int (0 : Int32)) := (V_a.other W6 (Ne.symm ne_o_a))
  obtain ⟨cl8, Ar8, qk8, Sz8, Ng8, Hs8, Gt8⟩ := id Vc7
  have hin8 : ¬ ((3 : Int32) < 0 ∨ cl8.slots.size ≤ ((3 : Int32)).toNatClampNeg) := inb_of Sz8 ⟨by decide, by decide⟩
  obtain ⟨T9, h9, X9, e9, W9, st9⟩ := stI X6 hx hZ e6 Ar8 (j := (3 : Int32)) hin8 (g := (mkF m 45 #[rv o, iv x1] [(.int x1), (.int (3 : Int32)), (.ref a)])) rfl rfl (hb hby d7_45)
  have Va9 : Arv Z h9 a k1 .int (4 : Int32) [(.int w0), (.int w1), (.int w2), (.int x1)] (.int (0 : Int32)) := Arv.set Ar8 qk8 Sz8 Ng8 Hs8 Gt8 rfl W9 3 rfl (Nat.le_of_ble_eq_true rfl)
  have N9 := Fr.snoc X9 N6 g_a
  have pre10 : ∀ tz, oS p e below T9 m 46 #[rv o, iv x1] [] tz → oS p e below s₁ m 0 #[rv o, iv x1] [] tz := fun tz kt => by
    show oS p e below s₁ m 0 #[rv o, iv x1] [] _
    refine XS.aloadN X0.here hx rfl (hb hby d7_0) rfl rfl ?_
    show oS p e below s₁ m 1 #[rv o, iv x1] [(.ref o)] _
    refine st1 _ ?_
    refine XS.aloadN X1.here hx rfl (hb hby d7_4) rfl rfl ?_
    show oS p e below T1 m 5 #[rv o, iv x1] [(.ref o), (.int (3 : Int32))] _
    refine st2 _ ?_
    refine X2.arraylength hx (by rw [e2]; exact Ar3.1) (State.isArrayOf_alike hZ.alike Ar3.2.1) (g := (mkF m 8 #[rv o, iv x1] [(.ref a), (.int (3 : Int32))])) rfl rfl (hb hby d7_8) _ ?_
    rw [len_of Sz3 Ng3]
    show oS p e below T2 m 9 #[rv o, iv x1] [(.int (4 : Int32)), (.int (3 : Int32))] _
    refine XS.icmpYes X2.here hx rfl (pc0 := 9) (pc' := 29) rfl (hb hby d7_9) rfl (feq (by decide : ¬ ((3 : Int32) = (4 : Int32)))).2 (by decide) (by decide) ?_
    refine XS.aloadN X2.here hx rfl (hb hby d7_29) rfl rfl ?_
    show oS p e below T2 m 30 #[rv o, iv x1] [(.ref o)] _
    refine st4 _ ?_
    refine XS.aloadN X4.here hx rfl (hb hby d7_33) rfl rfl ?_
    refine XS.dup X4.here hx rfl (hb hby d7_34) rfl rfl ?_
    show oS p e below T4 m 35 #[rv o, iv x1] [(.ref o), (.ref o), (.ref a)] _
    refine st5 _ ?_
    refine XS.dupX1 X5.here hx rfl (hb hby d7_38) rfl rfl rfl ?_
    refine XS.iconst X5.here hx rfl (hb hby d7_39) ?_
    refine XS.iadd X5.here hx rfl (hb hby d7_40) rfl ?_
    show oS p e below T5 m 41 #[rv o, iv x1] [(.int (4 : Int32)), (.ref o), (.int (3 : Int32)), (.ref a)] _
    refine st6 _ ?_
    refine XS.iloadN X6.here hx rfl (hb hby d7_44) rfl ?_
    show oS p e below T6 m 45 #[rv o, iv x1] [(.int x1), (.int (3 : Int32)), (.ref a)] _
    refine st9 _ ?_
    exact kt
  have KP11 : Keep h0 h9 [o, a] := (((Keep.refl h0 [o, a]).wr W6 (Or.inl (List.mem_of_getElem? (i := 0) rfl))).wr W9 (Or.inl (List.mem_of_getElem? (i := 1) rfl)))
  have Fc12 : Fld Z h9 o oz0 "size" "I" (.int (4 : Int32)) := (Fw6.other W9 (Or.inl ne_o_a))
  have Fc13 : Fld Z h9 o oz0 "values" "[I" (.ref a) := ((F_values_o.other W6 (Or.inr (slot_ne (Or.inl (own_w hw 21 rfl)) (Or.inl (own_w hw 31 rfl)) (by decide) (t := (.array .int)) (t' := .int) (by decide) (by decide)))).other W9 (Or.inl ne_o_a))
  obtain ⟨fs, hr, hrun, hended, hW, hsame⟩ := X9.leave (v := none) (fun _ => rfl)
  refine ⟨_, _, pre0 _ (pre10 _ ?_), hrun, hended, _, _, rfl, ?_, ⟨_, rfl⟩, hW, hsame.mono (by decide) (by decide)⟩
  · show oS p e below T9 m 46 #[rv o, iv x1] [] _
    exact X9.returnOut hx Bd.returns (hb hby d7_46) hr
  · show QA3 Z o x1 w0 w1 w2 a k1 h0 n0 _ T9.heap _
    rw [e9]
    exact ⟨rfl, N9, KP11, Fc12, Fc13, Va9⟩
theorem own_pd2 : parseMethodDescriptor "([II)[I" = some ⟨[(.array .int), .int], some (.array .int)⟩ := by decide +kernel
theorem d7_12 : decode prog_30_method_2_code 12 = .ok (.aload_n 0, 1) := by decide +kernel
theorem d7_13 : decode prog_30_method_2_code 13 = .ok (.aload_n 0, 1) := by decide +kernel
theorem d7_14 : decode prog_30_method_2_code 14 = .ok (.getfield 7, 3) := by decide +kernel
theorem d7_17 : decode prog_30_method_2_code 17 = .ok (.iconst 2, 1) := by decide +kernel
theorem d7_18 : decode prog_30_method_2_code 18 = .ok (.aload_n 0, 1) := by decide +kernel
theorem d7_19 : decode prog_30_method_2_code 19 = .ok (.getfield 13, 3) := by decide +kernel
theorem d7_22 : decode prog_30_method_2_code 22 = .ok (.imul, 1) := by decide +kernel
theorem d7_23 : decode prog_30_method_2_code 23 = .ok (.invokestatic 17, 3) := by decide +kernel
theorem d7_26 : decode prog_30_method_2_code 26 = .ok (.putfield 7, 3) := by decide +kernel
theorem efA4 (m : MethodId) (o : Addr) (x1 : Int32) : entryFrame m #[(.ref o), (.int x1)] 2 = mkF m 0 #[rv o, iv x1] [] := by first | (simp [entryFrame, mkF, argsToLocals, Value.category]; done) | rfl
def QA4 (Z : State) (o : Addr) (x1 : Int32) (w0 : Int32) (w1 : Int32) (w2 : Int32) (w3 : Int32) (a : Addr) (k1 : ClassId) (h0 : Heap) (n0 : Nat) (v : Option Value) (h : Heap) (L : List Loc) : Prop := ∃ (b : Addr) (k : ClassId), v = none ∧ Fr n0 L ∧ Keep h0 h [o] ∧ h0.size ≤ b ∧ n0 ≤ b ∧ Fld Z h o oz0 "size" "I" (.int (5 : Int32)) ∧ Fld Z h o oz0 "values" "[I" (.ref b) ∧ Arv Z h b k .int (8 : Int32) [(.int w0), (.int w1), (.int w2), (.int w3), (.int x1), (.int (0 : Int32)), (.int (0 : Int32)), (.int (0 : Int32))] (.int (0 : Int32))
set_option maxRecDepth 65536 in
set_option maxHeartbeats 40000000 in
theorem rmA4 (l : Launch) (Z : State) (a0 : Array Value) (hw : ∀ d ∈ tables_1, d.before a0 Z = true) (ws : List Jvm.Cond) (o : Addr) (x1 : Int32) (w0 : Int32) (w1 : Int32) (w2 : Int32) (w3 : Int32) (a : Addr) (k1 : ClassId) (h0 : Heap) (n0 : Nat) (Z0 : n0 ≤ h0.size) (E_o : Exa Z h0 o oz0) (g_o : n0 ≤ o) (ne_o_a : o ≠ a) (F_size_o : Fld Z h0 o oz0 "size" "I" (.int (4 : Int32))) (F_values_o : Fld Z h0 o oz0 "values" "[I" (.ref a)) (V_a : Arv Z h0 a k1 .int (4 : Int32) [(.int w0), (.int w1), (.int w2), (.int w3)] (.int (0 : Int32))) :
    MetFree l (⟨oz0, "add", "(I)V"⟩ : MethodName) (head1 (Jvm.Cond.code (⟨oz0, "add", "(I)V"⟩ : MethodName) prog_30_method_2_code 2 none :: ws) ({ frames := 2, cells := 1, slots := 8, locals := 33 } : Room)) (fun a U => a = #[(.ref o), (.int x1)] ∧ Z.Warmed39 U.vm ∧ U.heap = h0) (fun _ _ _ _ _ => True) (fun _ U oc U' => ∃ v L, oc = .returned v ∧ QA4 Z o x1 w0 w1 w2 w3 a k1 h0 n0 v U'.heap L ∧ FrameEnd U oc U' L ({ frames := 2, cells := 1, slots := 8, locals := 33 } : Room).cells ({ frames := 2, cells := 1, slots := 8, locals := 33 } : Room).slots) := by
  refine MetFree.of_bodySF (plainFor_of_name own_pn1) hisR ?_
  intro p e s m args below meth c s₁ Bd hml0 hP hK
  obtain ⟨rfl, hZ, hh⟩ := hP
  have hx := Bd.exec
  have hby := Bd.bytes
  have hml : c.maxLocals = 2 := hml0
  have hown : s.vm.findClass oz0 = some m.cls := findClass_of_methodNamed Bd.named
  have hnm := (name_of_methodNamed Bd.named Bd.method).1
  have X0 : Stand p l e ({ frames := 2, cells := 1, slots := 8, locals := 33 } : Room) s m #[(.ref o), (.int x1)] below meth c s₁ [] 0 0 := Stand.of_body Bd
  have e0 : s₁.heap = h0 := by rw [← hh, Bd.state]; rfl
  have N0 := Fr.nil n0
  have pre0 : ∀ t, Steps p.tables e below (s₁.setTop (mkF m 0 #[rv o, iv x1] [])) t → Steps p.tables e below (s₁.setTop (entryFrame m #[(.ref o), (.int x1)] 2)) t := fun t k => castTop (efA4 m o x1) k
  obtain ⟨T1, X1, e1, st1⟩ := getF X0 hx hZ hown (host := "") (Or.inl (own_w hw 30 rfl)) Via.refl e0 F_size_o (g := (mkF m 1 #[rv o, iv x1] [(.ref o)])) rfl rfl (hb hby d7_1)
  obtain ⟨T2, X2, e2, st2⟩ := getF X1 hx hZ hown (host := "") (Or.inl (own_w hw 20 rfl)) Via.refl e1 F_values_o (g := (mkF m 5 #[rv o, iv x1] [(.ref o), (.int (4 : Int32))])) rfl rfl (hb hby d7_5)
  obtain ⟨cl3, Ar3, qk3, Sz3, Ng3, Hs3, Gt3⟩ := id V_a
  obtain ⟨T4, X4, e4, st4⟩ := getF X2 hx hZ hown (host := "") (Or.inl (own_w hw 20 rfl)) Via.refl e2 F_values_o (g := (mkF m 14 #[rv o, iv x1] [(.ref o), (.ref o)])) rfl rfl (hb hby d7_14)
  obtain ⟨T5, X5, e5, st5⟩ := getF X4 hx hZ hown (host := "") (Or.inl (own_w hw 30 rfl)) Via.refl e4 F_size_o (g := (mkF m 19 #[rv o, iv x1] [(.ref o), (.int (2 : Int32)), (.ref a), (.ref o)])) rfl rfl (hb hby d7_19)
  obtain ⟨_, _, ⟨T6, Lw6, kw6, nw6⟩, -, X6, ⟨Lc6, hQ6, l6, y6, z6⟩, st6⟩ := Jvm.LawKit.callS X5 hx (y := (⟨"java/util/Arrays", "copyOf", "([II)[I"⟩ : MethodName)) hown (mvT hZ (own_w hw 37 rfl)) (mvT hZ (own_w hw 38 rfl)) (mvT hZ (own_w hw 39 rfl)) (mvT hZ (own_w hw 40 rfl)) (by decide) (backOf (W := 1) (rm8 l Z a0 hw [] a w0 w1 w2 w3 k1 h0 n0 Z0 V_a) hZ (own_w hw 40 rfl) (own_w hw 39 rfl) (by decide) (by decide)) (g := (mkF m 23 #[rv o, iv x1] [(.int (8 : Int32)), (.ref a), (.ref o)])) rfl (by rw [hml]; rfl) (argsL := [(.ref a), (.int (8 : Int32))]) (rest := [(.ref o)]) (lenOf own_pd2 rfl) rfl (by show 2 * 0 + _ ≤ _; exact Nat.le_of_eq rfl) (hb hby d7_23) (fun _ _ => ⟨rfl, e5, (by decide : 0 + 1 ≤ _), (by decide : 0 + 8 ≤ _)⟩)
  dsimp only [Pt.U, Pt.locs, Pt.cells, Pt.slots] at X6 l6 y6 z6 st6 hQ6
  subst l6 y6 z6
  obtain ⟨b6, k6, rfl, Nq6, K6, pf6_0, pf6_1, pf6_2⟩ := hQ6
  have N6 := Fr.app N0 Nq6
  have ne_o_b6 : o ≠ b6 := Nat.ne_of_lt (Nat.lt_of_lt_of_le E_o.lt pf6_0)
  have ne_a_b6 : a ≠ b6 := Nat.ne_of_lt (Nat.lt_of_lt_of_le V_a.lt pf6_0)
  have Ec7 : Exa Z T6.heap o oz0 := (E_o.keep K6)
  have Fc8 : Fld Z T6.heap o oz0 "values" "[I" (.ref a) := (F_values_o.keep K6 nin0)
  obtain ⟨T9, h9, X9, e9, W9, st9⟩ := putF X6 hx hZ hown (host := "") (Or.inl (own_w hw 20 rfl)) Via.refl rfl Fc8 Ec7 (Or.inl (own_w hw 21 rfl)) (own_w hw 11 rfl) (ty := (.array .int)) (by decide) rfl rfl (g := (mkF m 26 #[rv o, iv x1] [(.ref b6), (.ref o)])) rfl rfl (hb hby d7_26)
  have Fw9 : Fld Z h9 o oz0 "values" "[I" (.ref b6) := Fc8.same W9
  have N9 := Fr.snoc X9 N6 g_o
  obtain ⟨T10, X10, e10, st10⟩ := getF X9 hx hZ hown (host := "") (Or.inl (own_w hw 20 rfl)) Via.refl e9 Fw9 (g := (mkF m 30 #[rv o, iv x1] [(.ref o)])) rfl rfl (hb hby d7_30)
  have Fc11 : Fld Z h9 o oz0 "size" "I" (.int (4 : Int32)) := ((F_size_o.keep K6 nin0).other W9 (Or.inr (slot_ne (Or.inl (own_w hw 31 rfl)) (Or.inl (own_w hw 21 rfl)) (by decide) (t := .int) (t' := (.array .int)) (by decide) (by decide))))
  obtain ⟨T12, X12, e12, st12⟩ := getF X10 hx hZ hown (host := "") (Or.inl (own_w hw 30 rfl)) Via.refl e10 Fc11 (g := (mkF m 35 #[rv o, iv x1] [(.ref o), (.ref o), (.ref b6)])) rfl rfl (hb hby d7_35)
  have Ec13 : Exa Z h9 o oz0 := (Ec7.wr W9)
  obtain ⟨T14, h14, X14, e14, W14, st14⟩ := putF X12 hx hZ hown (host := "") (Or.inl (own_w hw 30 rfl)) Via.refl e12 Fc11 Ec13 (Or.inl (own_w hw 31 rfl)) (own_w hw 11 rfl) (ty := .int) (by decide) rfl rfl (g := (mkF m 41 #[rv o, iv x1] [(.int (5 : Int32)), (.ref o), (.int (4 : Int32)), (.ref b6)])) rfl rfl (hb hby d7_41)
  have Fw14 : Fld Z h14 o oz0 "size" "I" (.int (5 : Int32)) := Fc11.same W14
  have N14 := Fr.snoc X14 N9 g_o
  have Vc15 : Arv Z h14 b6 k6 .int (8 : Int32) [(.int w0), (.int w1), (.int w2), (.int w3), (.int (0 : Int32)), (.int (0 : Int32)), (.int (0 : Int32)), (.int (0 : Int32))] (.int (0 : Int32)) := ((pf6_2.other W9 (Ne.symm ne_o_b6)).other W14 (Ne.symm ne_o_b6))
  obtain ⟨cl16, Ar16, qk16, Sz16, Ng16, Hs16, Gt16⟩ := id Vc15
  have hin16 : ¬ ((4 : Int32) < 0 ∨ cl16.slots.size ≤ ((4 : Int32)).toNatClampNeg) := inb_of Sz16 ⟨by decide, by decide⟩
  obtain ⟨T17, h17, X17, e17, W17, st17⟩ := stI X14 hx hZ e14 Ar16 (j := (4 : Int32)) hin16 (g := (mkF m 45 #[rv o, iv x1] [(.int x1), (.int (4 : Int32)), (.ref b6)])) rfl rfl (hb hby d7_45)
  have Va17 : Arv Z h17 b6 k6 .int (8 : Int32) [(.int w0), (.int w1), (.int w2), (.int w3), (.int x1), (.int (0 : Int32)), (.int (0 : Int32)), (.int (0 : Int32))] (.int (0 : Int32)) := Arv.set Ar16 qk16 Sz16 Ng16 Hs16 Gt16 rfl W17 4 rfl (Nat.le_of_ble_eq_true rfl)
  have N17 := Fr.snoc X17 N14 pf6_1
  have pre18 : ∀ tz, oS p e below T17 m 46 #[rv o, iv x1] [] tz → oS p e below s₁ m 0 #[rv o, iv x1] [] tz := fun tz kt => by
    show oS p e below s₁ m 0 #[rv o, iv x1] [] _
    refine XS.aloadN X0.here hx rfl (hb hby d7_0) rfl rfl ?_
    show oS p e below s₁ m 1 #[rv o, iv x1] [(.ref o)] _
    refine st1 _ ?_
    refine XS.aloadN X1.here hx rfl (hb hby d7_4) rfl rfl ?_
    show oS p e below T1 m 5 #[rv o, iv x1] [(.ref o), (.int (4 : Int32))] _
    refine st2 _ ?_
    refine X2.arraylength hx (by rw [e2]; exact Ar3.1) (State.isArrayOf_alike hZ.alike Ar3.2.1) (g := (mkF m 8 #[rv o, iv x1] [(.ref a), (.int (4 : Int32))])) rfl rfl (hb hby d7_8) _ ?_
    rw [len_of Sz3 Ng3]
    show oS p e below T2 m 9 #[rv o, iv x1] [(.int (4 : Int32)), (.int (4 : Int32))] _
    refine XS.icmpNo X2.here hx rfl (hb hby d7_9) rfl (teq (by decide : ((4 : Int32) = (4 : Int32)))).2 ?_
    refine XS.aloadN X2.here hx rfl (hb hby d7_12) rfl rfl ?_
    refine XS.aloadN X2.here hx rfl (hb hby d7_13) rfl rfl ?_
    show oS p e below T2 m 14 #[rv o, iv x1] [(.ref o), (.ref o)] _
    refine st4 _ ?_
    refine XS.iconst X4.here hx rfl (hb hby d7_17) ?_
    refine XS.aloadN X4.here hx rfl (hb hby d7_18) rfl rfl ?_
    show oS p e below T4 m 19 #[rv o, iv x1] [(.ref o), (.int (2 : Int32)), (.ref a), (.ref o)] _
    refine st5 _ ?_
    refine XS.imul X5.here hx rfl (hb hby d7_22) rfl ?_
    show oS p e below T5 m 23 #[rv o, iv x1] [(.int (8 : Int32)), (.ref a), (.ref o)] _
    refine st6 _ ?_
    show oS p e below T6 m 26 #[rv o, iv x1] [(.ref b6), (.ref o)] _
    refine st9 _ ?_
    refine XS.aloadN X9.here hx rfl (hb hby d7_29) rfl rfl ?_
    show oS p e below T9 m 30 #[rv o, iv x1] [(.ref o)] _
    refine st10 _ ?_
    refine XS.aloadN X10.here hx rfl (hb hby d7_33) rfl rfl ?_
    refine XS.dup X10.here hx rfl (hb hby d7_34) rfl rfl ?_
    show oS p e below T10 m 35 #[rv o, iv x1] [(.ref o), (.ref o), (.ref b6)] _
    refine st12 _ ?_
    refine XS.dupX1 X12.here hx rfl (hb hby d7_38) rfl rfl rfl ?_
    refine XS.iconst X12.here hx rfl (hb hby d7_39) ?_
    refine XS.iadd X12.here hx rfl (hb hby d7_40) rfl ?_
    show oS p e below T12 m 41 #[rv o, iv x1] [(.int (5 : Int32)), (.ref o), (.int (4 : Int32)), (.ref b6)] _
    refine st14 _ ?_
    refine XS.iloadN X14.here hx rfl (hb hby d7_44) rfl ?_
    show oS p e below T14 m 45 #[rv o, iv x1] [(.int x1), (.int (4 : Int32)), (.ref b6)] _
    refine st17 _ ?_
    exact kt
  have KP19 : Keep h0 h17 [o] := (((((Keep.refl h0 [o]).trans K6 all0).wr W9 (Or.inl (List.mem_of_getElem? (i := 0) rfl))).wr W14 (Or.inl (List.mem_of_getElem? (i := 0) rfl))).wr W17 (Or.inr (Nat.le_trans (Keep.refl h0 [o]).1 pf6_0)))
  have Fc20 : Fld Z h17 o oz0 "size" "I" (.int (5 : Int32)) := (Fw14.other W17 (Or.inl ne_o_b6))
  have Fc21 : Fld Z h17 o oz0 "values" "[I" (.ref b6) := ((Fw9.other W14 (Or.inr (slot_ne (Or.inl (own_w hw 21 rfl)) (Or.inl (own_w hw 31 rfl)) (by decide) (t := (.array .int)) (t' := .int) (by decide) (by decide)))).other W17 (Or.inl ne_o_b6))
  obtain ⟨fs, hr, hrun, hended, hW, hsame⟩ := X17.leave (v := none) (fun _ => rfl)
  refine ⟨_, _, pre0 _ (pre18 _ ?_), hrun, hended, _, _, rfl, ?_, ⟨_, rfl⟩, hW, hsame.mono (by decide) (by decide)⟩
  · show oS p e below T17 m 46 #[rv o, iv x1] [] _
    exact X17.returnOut hx Bd.returns (hb hby d7_46) hr
  · show QA4 Z o x1 w0 w1 w2 w3 a k1 h0 n0 _ T17.heap _
    rw [e17]
    exact ⟨b6, k6, rfl, N17, KP19, (Nat.le_trans (Keep.refl h0 [o]).1 pf6_0), pf6_1, Fc20, Fc21, Va17⟩
theorem efA5 (m : MethodId) (o : Addr) (x1 : Int32) : entryFrame m #[(.ref o), (.int x1)] 2 = mkF m 0 #[rv o, iv x1] [] := by first | (simp [entryFrame, mkF, argsToLocals, Value.category]; done) | rfl
def QA5 (Z : State) (o : Addr) (x1 : Int32) (w0 : Int32) (w1 : Int32) (w2 : Int32) (w3 : Int32) (w4 : Int32) (a : Addr) (k1 : ClassId) (h0 : Heap) (n0 : Nat) (v : Option Value) (h : Heap) (L : List Loc) : Prop := v = none ∧ Fr n0 L ∧ Keep h0 h [o, a] ∧ Fld Z h o oz0 "size" "I" (.int (6 : Int32)) ∧ Fld Z h o oz0 "values" "[I" (.ref a) ∧ Arv Z h a k1 .int (8 : Int32) [(.int w0), (.int w1), (.int w2), (.int w3), (.int w4), (.int x1), (.int (0 : Int32)), (.int (0 : Int32))] (.int (0 : Int32))
set_option maxRecDepth 65536 in
set_option maxHeartbeats 40000000 in
theorem rmA5 (l : Launch) (Z : State) (a0 : Array Value) (hw : ∀ d ∈ tables_1, d.before a0 Z = true) (ws : List Jvm.Cond) (o : Addr) (x1 : Int32) (w0 : Int32) (w1 : Int32) (w2 : Int32) (w3 : Int32) (w4 : Int32) (a : Addr) (k1 : ClassId) (h0 : Heap) (n0 : Nat) (Z0 : n0 ≤ h0.size) (E_o : Exa Z h0 o oz0) (g_o : n0 ≤ o) (g_a : n0 ≤ a) (ne_o_a : o ≠ a) (F_size_o : Fld Z h0 o oz0 "size" "I" (.int (5 : Int32))) (F_values_o : Fld Z h0 o oz0 "values" "[I" (.ref a)) (V_a : Arv Z h0 a k1 .int (8 : Int32) [(.int w0), (.int w1), (.int w2), (.int w3), (.int w4), (.int (0 : Int32)), (.int (0 : Int32)), (.int (0 : Int32))] (.int (0 : Int32))) :
    MetFree l (⟨oz0, "add", "(I)V"⟩ : MethodName) (head1 (Jvm.Cond.code (⟨oz0, "add", "(I)V"⟩ : MethodName) prog_30_method_2_code 2 none :: ws) ({ frames := 0, cells := 0, slots := 0, locals := 0 } : Room)) (fun a U => a = #[(.ref o), (.int x1)] ∧ Z.Warmed39 U.vm ∧ U.heap = h0) (fun _ _ _ _ _ => True) (fun _ U oc U' => ∃ v L, oc = .returned v ∧ QA5 Z o x1 w0 w1 w2 w3 w4 a k1 h0 n0 v U'.heap L ∧ FrameEnd U oc U' L ({ frames := 0, cells := 0, slots := 0, locals := 0 } : Room).cells ({ frames := 0, cells := 0, slots := 0, locals := 0 } : Room).slots) := by
  refine MetFree.of_bodySF (plainFor_of_name own_pn1) hisR ?_
  intro p e s m args below meth c s₁ Bd hml0 hP hK
  obtain ⟨rfl, hZ, hh⟩ := hP
  have hx := Bd.exec
  have hby := Bd.bytes
  have hml : c.maxLocals = 2 := hml0
  have hown : s.vm.findClass oz0 = some m.cls := findClass_of_methodNamed Bd.named
  have hnm := (name_of_methodNamed Bd.named Bd.method).1
  have X0 : Stand p l e ({ frames := 0, cells := 0, slots := 0, locals := 0 } : Room) s m #[(.ref o), (.int x1)] below meth c s₁ [] 0 0 := Stand.of_body Bd
  have e0 : s₁.heap = h0 := by rw [← hh, Bd.state]; rfl
  have N0 := Fr.nil n0
  have pre0 : ∀ t, Steps p.tables e below (s₁.setTop (mkF m 0 #[rv o, iv x1] [])) t → Steps p.tables e below (s₁.setTop (entryFrame m #[(.ref o), (.int x1)] 2)) t := fun t k => castTop (efA5 m o x1) k
  obtain ⟨T1, X1, e1, st1⟩ := getF X0 hx hZ hown (host := "") (Or.inl (own_w hw 30 rfl)) Via.refl e0 F_size_o (g := (mkF m 1 #[rv o, iv x1] [(.ref o)])) rfl rfl (hb hby d7_1)
  obtain ⟨T2, X2, e2, st2⟩ := getF X1 hx hZ hown (host := "") (Or.inl (own_w hw 20 rfl)) Via.refl e1 F_values_o (g := (mkF m 5 #[rv o, iv x1] [(.ref o), (.int (5 : Int32))])) rfl rfl (hb hby d7_5)
  obtain ⟨cl3, Ar3, qk3, Sz3, Ng3, Hs3, Gt3⟩ := id V_a
  obtain ⟨T4, X4, e4, st4⟩ := getF X2 hx hZ hown (host := "") (Or.inl (own_w hw 20 rfl)) Via.refl e2 F_values_o (g := (mkF m 30 #[rv o, iv x1] [(.ref o)])) rfl rfl (hb hby d7_30)
  obtain ⟨T5, X5, e5, st5⟩ := getF X4 hx hZ hown (host := "") (Or.inl (own_w hw 30 rfl)) Via.refl e4 F_size_o (g := (mkF m 35 #[rv o, iv x1] [(.ref o), (.ref o), (.ref a)])) rfl rfl (hb hby d7_35)
  obtain ⟨T6, h6, X6, e6, W6, st6⟩ := putF X5 hx hZ hown (host := "") (Or.inl (own_w hw 30 rfl)) Via.refl e5 F_size_o E_o (Or.inl (own_w hw 31 rfl)) (own_w hw 11 rfl) (ty := .int) (by decide) rfl rfl (g := (mkF m 41 #[rv o, iv x1] [(.int (6 : Int32)), (.ref o), (.int (5 : Int32)), (.ref a)])) rfl rfl (hb hby d7_41)
  have Fw6 : Fld Z h6 o oz0 "size" "I" (.int (6 : Int32)) := F_size_o.same W6
  have N6 := Fr.snoc X6 N0 g_o
  have Vc7 : Arv Z h6 a k1 .int (8 : Int32) [(.int w0), (.int w1), (.int w2), (.int w3), (.int w4), (.int (0 : Int32)), (.int (0 : Int32)), (.int (0 : Int32))] (.int (0 : Int32)) := (V_a.other W6 (Ne.symm ne_o_a))
  obtain ⟨cl8, Ar8, qk8, Sz8, Ng8, Hs8, Gt8⟩ := id Vc7
  have hin8 : ¬ ((5 : Int32) < 0 ∨ cl8.slots.size ≤ ((5 : Int32)).toNatClampNeg) := inb_of Sz8 ⟨by decide, by decide⟩
  obtain ⟨T9, h9, X9, e9, W9, st9⟩ := stI X6 hx hZ e6 Ar8 (j := (5 : Int32)) hin8 (g := (mkF m 45 #[rv o, iv x1] [(.int x1), (.int (5 : Int32)), (.ref a)])) rfl rfl (hb hby d7_45)
  have Va9 : Arv Z h9 a k1 .int (8 : Int32) [(.int w0), (.int w1), (.int w2), (.int w3), (.int w4), (.int x1), (.int (0 : Int32)), (.int (0 : Int32))] (.int (0 : Int32)) := Arv.set Ar8 qk8 Sz8 Ng8 Hs8 Gt8 rfl W9 5 rfl (Nat.le_of_ble_eq_true rfl)
  have N9 := Fr.snoc X9 N6 g_a
  have pre10 : ∀ tz, oS p e below T9 m 46 #[rv o, iv x1] [] tz → oS p e below s₁ m 0 #[rv o, iv x1] [] tz := fun tz kt => by
    show oS p e below s₁ m 0 #[rv o, iv x1] [] _
    refine XS.aloadN X0.here hx rfl (hb hby d7_0) rfl rfl ?_
    show oS p e below s₁ m 1 #[rv o, iv x1] [(.ref o)] _
    refine st1 _ ?_
    refine XS.aloadN X1.here hx rfl (hb hby d7_4) rfl rfl ?_
    show oS p e below T1 m 5 #[rv o, iv x1] [(.ref o), (.int (5 : Int32))] _
    refine st2 _ ?_
    refine X2.arraylength hx (by rw [e2]; exact Ar3.1) (State.isArrayOf_alike hZ.alike Ar3.2.1) (g := (mkF m 8 #[rv o, iv x1] [(.ref a), (.int (5 : Int32))])) rfl rfl (hb hby d7_8) _ ?_
    rw [len_of Sz3 Ng3]
    show oS p e below T2 m 9 #[rv o, iv x1] [(.int (8 : Int32)), (.int (5 : Int32))] _
    refine XS.icmpYes X2.here hx rfl (pc0 := 9) (pc' := 29) rfl (hb hby d7_9) rfl (feq (by decide : ¬ ((5 : Int32) = (8 : Int32)))).2 (by decide) (by decide) ?_
    refine XS.aloadN X2.here hx rfl (hb hby d7_29) rfl rfl ?_
    show oS p e below T2 m 30 #[rv o, iv x1] [(.ref o)] _
    refine st4 _ ?_
    refine XS.aloadN X4.here hx rfl (hb hby d7_33) rfl rfl ?_
    refine XS.dup X4.here hx rfl (hb hby d7_34) rfl rfl ?_
    show oS p e below T4 m 35 #[rv o, iv x1] [(.ref o), (.ref o), (.ref a)] _
    refine st5 _ ?_
    refine XS.dupX1 X5.here hx rfl (hb hby d7_38) rfl rfl rfl ?_
    refine XS.iconst X5.here hx rfl (hb hby d7_39) ?_
    refine XS.iadd X5.here hx rfl (hb hby d7_40) rfl ?_
    show oS p e below T5 m 41 #[rv o, iv x1] [(.int (6 : Int32)), (.ref o), (.int (5 : Int32)), (.ref a)] _
    refine st6 _ ?_
    refine XS.iloadN X6.here hx rfl (hb hby d7_44) rfl ?_
    show oS p e below T6 m 45 #[rv o, iv x1] [(.int x1), (.int (5 : Int32)), (.ref a)] _
    refine st9 _ ?_
    exact kt
  have KP11 : Keep h0 h9 [o, a] := (((Keep.refl h0 [o, a]).wr W6 (Or.inl (List.mem_of_getElem? (i := 0) rfl))).wr W9 (Or.inl (List.mem_of_getElem? (i := 1) rfl)))
  have Fc12 : Fld Z h9 o oz0 "size" "I" (.int (6 : Int32)) := (Fw6.other W9 (Or.inl ne_o_a))
  have Fc13 : Fld Z h9 o oz0 "values" "[I" (.ref a) := ((F_values_o.other W6 (Or.inr (slot_ne (Or.inl (own_w hw 21 rfl)) (Or.inl (own_w hw 31 rfl)) (by decide) (t := (.array .int)) (t' := .int) (by decide) (by decide)))).other W9 (Or.inl ne_o_a))
  obtain ⟨fs, hr, hrun, hended, hW, hsame⟩ := X9.leave (v := none) (fun _ => rfl)
  refine ⟨_, _, pre0 _ (pre10 _ ?_), hrun, hended, _, _, rfl, ?_, ⟨_, rfl⟩, hW, hsame.mono (by decide) (by decide)⟩
  · show oS p e below T9 m 46 #[rv o, iv x1] [] _
    exact X9.returnOut hx Bd.returns (hb hby d7_46) hr
  · show QA5 Z o x1 w0 w1 w2 w3 w4 a k1 h0 n0 _ T9.heap _
    rw [e9]
    exact ⟨rfl, N9, KP11, Fc12, Fc13, Va9⟩
theorem efA6 (m : MethodId) (o : Addr) (x1 : Int32) : entryFrame m #[(.ref o), (.int x1)] 2 = mkF m 0 #[rv o, iv x1] [] := by first | (simp [entryFrame, mkF, argsToLocals, Value.category]; done) | rfl
def QA6 (Z : State) (o : Addr) (x1 : Int32) (w0 : Int32) (w1 : Int32) (w2 : Int32) (w3 : Int32) (w4 : Int32) (w5 : Int32) (a : Addr) (k1 : ClassId) (h0 : Heap) (n0 : Nat) (v : Option Value) (h : Heap) (L : List Loc) : Prop := v = none ∧ Fr n0 L ∧ Keep h0 h [o, a] ∧ Fld Z h o oz0 "size" "I" (.int (7 : Int32)) ∧ Fld Z h o oz0 "values" "[I" (.ref a) ∧ Arv Z h a k1 .int (8 : Int32) [(.int w0), (.int w1), (.int w2), (.int w3), (.int w4), (.int w5), (.int x1), (.int (0 : Int32))] (.int (0 : Int32))
set_option maxRecDepth 65536 in
set_option maxHeartbeats 40000000 in
theorem rmA6 (l : Launch) (Z : State) (a0 : Array Value) (hw : ∀ d ∈ tables_1, d.before a0 Z = true) (ws : List Jvm.Cond) (o : Addr) (x1 : Int32) (w0 : Int32) (w1 : Int32) (w2 : Int32) (w3 : Int32) (w4 : Int32) (w5 : Int32) (a : Addr) (k1 : ClassId) (h0 : Heap) (n0 : Nat) (Z0 : n0 ≤ h0.size) (E_o : Exa Z h0 o oz0) (g_o : n0 ≤ o) (g_a : n0 ≤ a) (ne_o_a : o ≠ a) (F_size_o : Fld Z h0 o oz0 "size" "I" (.int (6 : Int32))) (F_values_o : Fld Z h0 o oz0 "values" "[I" (.ref a)) (V_a : Arv Z h0 a k1 .int (8 : Int32) [(.int w0), (.int w1), (.int w2), (.int w3), (.int w4), (.int w5), (.int (0 : Int32)), (.int (0 : Int32))] (.int (0 : Int32))) :
    MetFree l (⟨oz0, "add", "(I)V"⟩ : MethodName) (head1 (Jvm.Cond.code (⟨oz0, "add", "(I)V"⟩ : MethodName) prog_30_method_2_code 2 none :: ws) ({ frames := 0, cells := 0, slots := 0, locals := 0 } : Room)) (fun a U => a = #[(.ref o), (.int x1)] ∧ Z.Warmed39 U.vm ∧ U.heap = h0) (fun _ _ _ _ _ => True) (fun _ U oc U' => ∃ v L, oc = .returned v ∧ QA6 Z o x1 w0 w1 w2 w3 w4 w5 a k1 h0 n0 v U'.heap L ∧ FrameEnd U oc U' L ({ frames := 0, cells := 0, slots := 0, locals := 0 } : Room).cells ({ frames := 0, cells := 0, slots := 0, locals := 0 } : Room).slots) := by
  refine MetFree.of_bodySF (plainFor_of_name own_pn1) hisR ?_
  intro p e s m args below meth c s₁ Bd hml0 hP hK
  obtain ⟨rfl, hZ, hh⟩ := hP
  have hx := Bd.exec
  have hby := Bd.bytes
  have hml : c.maxLocals = 2 := hml0
  have hown : s.vm.findClass oz0 = some m.cls := findClass_of_methodNamed Bd.named
  have hnm := (name_of_methodNamed Bd.named Bd.method).1
  have X0 : Stand p l e ({ frames := 0, cells := 0, slots := 0, locals := 0 } : Room) s m #[(.ref o), (.int x1)] below meth c s₁ [] 0 0 := Stand.of_body Bd
  have e0 : s₁.heap = h0 := by rw [← hh, Bd.state]; rfl
  have N0 := Fr.nil n0
  have pre0 : ∀ t, Steps p.tables e below (s₁.setTop (mkF m 0 #[rv o, iv x1] [])) t → Steps p.tables e below (s₁.setTop (entryFrame m #[(.ref o), (.int x1)] 2)) t := fun t k => castTop (efA6 m o x1) k
  obtain ⟨T1, X1, e1, st1⟩ := getF X0 hx hZ hown (host := "") (Or.inl (own_w hw 30 rfl)) Via.refl e0 F_size_o (g := (mkF m 1 #[rv o, iv x1] [(.ref o)])) rfl rfl (hb hby d7_1)
  obtain ⟨T2, X2, e2, st2⟩ := getF X1 hx hZ hown (host := "") (Or.inl (own_w hw 20 rfl)) Via.refl e1 F_values_o (g := (mkF m 5 #[rv o, iv x1] [(.ref o), (.int (6 : Int32))])) rfl rfl (hb hby d7_5)
  obtain ⟨cl3, Ar3, qk3, Sz3, Ng3, Hs3, Gt3⟩ := id V_a
  obtain ⟨T4, X4, e4, st4⟩ := getF X2 hx hZ hown (host := "") (Or.inl (own_w hw 20 rfl)) Via.refl e2 F_values_o (g := (mkF m 30 #[rv o, iv x1] [(.ref o)])) rfl rfl (hb hby d7_30)
  obtain ⟨T5, X5, e5, st5⟩ := getF X4 hx hZ hown (host := "") (Or.inl (own_w hw 30 rfl)) Via.refl e4 F_size_o (g := (mkF m 35 #[rv o, iv x1] [(.ref o), (.ref o), (.ref a)])) rfl rfl (hb hby d7_35)
  obtain ⟨T6, h6, X6, e6, W6, st6⟩ := putF X5 hx hZ hown (host := "") (Or.inl (own_w hw 30 rfl)) Via.refl e5 F_size_o E_o (Or.inl (own_w hw 31 rfl)) (own_w hw 11 rfl) (ty := .int) (by decide) rfl rfl (g := (mkF m 41 #[rv o, iv x1] [(.int (7 : Int32)), (.ref o), (.int (6 : Int32)), (.ref a)])) rfl rfl (hb hby d7_41)
  have Fw6 : Fld Z h6 o oz0 "size" "I" (.int (7 : Int32)) := F_size_o.same W6
  have N6 := Fr.snoc X6 N0 g_o
  have Vc7 : Arv Z h6 a k1 .int (8 : Int32) [(.int w0), (.int w1), (.int w2), (.int w3), (.int w4), (.int w5), (.int (0 : Int32)), (.int (0 : Int32))] (.int (0 : Int32)) := (V_a.other W6 (Ne.symm ne_o_a))
  obtain ⟨cl8, Ar8, qk8, Sz8, Ng8, Hs8, Gt8⟩ := id Vc7
  have hin8 : ¬ ((6 : Int32) < 0 ∨ cl8.slots.size ≤ ((6 : Int32)).toNatClampNeg) := inb_of Sz8 ⟨by decide, by decide⟩
  obtain ⟨T9, h9, X9, e9, W9, st9⟩ := stI X6 hx hZ e6 Ar8 (j := (6 : Int32)) hin8 (g := (mkF m 45 #[rv o, iv x1] [(.int x1), (.int (6 : Int32)), (.ref a)])) rfl rfl (hb hby d7_45)
  have Va9 : Arv Z h9 a k1 .int (8 : Int32) [(.int w0), (.int w1), (.int w2), (.int w3), (.int w4), (.int w5), (.int x1), (.int (0 : Int32))] (.int (0 : Int32)) := Arv.set Ar8 qk8 Sz8 Ng8 Hs8 Gt8 rfl W9 6 rfl (Nat.le_of_ble_eq_true rfl)
  have N9 := Fr.snoc X9 N6 g_a
  have pre10 : ∀ tz, oS p e below T9 m 46 #[rv o, iv x1] [] tz → oS p e below s₁ m 0 #[rv o, iv x1] [] tz := fun tz kt => by
    show oS p e below s₁ m 0 #[rv o, iv x1] [] _
    refine XS.aloadN X0.here hx rfl (hb hby d7_0) rfl rfl ?_
    show oS p e below s₁ m 1 #[rv o, iv x1] [(.ref o)] _
    refine st1 _ ?_
    refine XS.aloadN X1.here hx rfl (hb hby d7_4) rfl rfl ?_
    show oS p e below T1 m 5 #[rv o, iv x1] [(.ref o), (.int (6 : Int32))] _
    refine st2 _ ?_
    refine X2.arraylength hx (by rw [e2]; exact Ar3.1) (State.isArrayOf_alike hZ.alike Ar3.2.1) (g := (mkF m 8 #[rv o, iv x1] [(.ref a), (.int (6 : Int32))])) rfl rfl (hb hby d7_8) _ ?_
    rw [len_of Sz3 Ng3]
    show oS p e below T2 m 9 #[rv o, iv x1] [(.int (8 : Int32)), (.int (6 : Int32))] _
    refine XS.icmpYes X2.here hx rfl (pc0 := 9) (pc' := 29) rfl (hb hby d7_9) rfl (feq (by decide : ¬ ((6 : Int32) = (8 : Int32)))).2 (by decide) (by decide) ?_
    refine XS.aloadN X2.here hx rfl (hb hby d7_29) rfl rfl ?_
    show oS p e below T2 m 30 #[rv o, iv x1] [(.ref o)] _
    refine st4 _ ?_
    refine XS.aloadN X4.here hx rfl (hb hby d7_33) rfl rfl ?_
    refine XS.dup X4.here hx rfl (hb hby d7_34) rfl rfl ?_
    show oS p e below T4 m 35 #[rv o, iv x1] [(.ref o), (.ref o), (.ref a)] _
    refine st5 _ ?_
    refine XS.dupX1 X5.here hx rfl (hb hby d7_38) rfl rfl rfl ?_
    refine XS.iconst X5.here hx rfl (hb hby d7_39) ?_
    refine XS.iadd X5.here hx rfl (hb hby d7_40) rfl ?_
    show oS p e below T5 m 41 #[rv o, iv x1] [(.int (7 : Int32)), (.ref o), (.int (6 : Int32)), (.ref a)] _
    refine st6 _ ?_
    refine XS.iloadN X6.here hx rfl (hb hby d7_44) rfl ?_
    show oS p e below T6 m 45 #[rv o, iv x1] [(.int x1), (.int (6 : Int32)), (.ref a)] _
    refine st9 _ ?_
    exact kt
  have KP11 : Keep h0 h9 [o, a] := (((Keep.refl h0 [o, a]).wr W6 (Or.inl (List.mem_of_getElem? (i := 0) rfl))).wr W9 (Or.inl (List.mem_of_getElem? (i := 1) rfl)))
  have Fc12 : Fld Z h9 o oz0 "size" "I" (.int (7 : Int32)) := (Fw6.other W9 (Or.inl ne_o_a))
  have Fc13 : Fld Z h9 o oz0 "values" "[I" (.ref a) := ((F_values_o.other W6 (Or.inr (slot_ne (Or.inl (own_w hw 21 rfl)) (Or.inl (own_w hw 31 rfl)) (by decide) (t := (.array .int)) (t' := .int) (by decide) (by decide)))).other W9 (Or.inl ne_o_a))
  obtain ⟨fs, hr, hrun, hended, hW, hsame⟩ := X9.leave (v := none) (fun _ => rfl)
  refine ⟨_, _, pre0 _ (pre10 _ ?_), hrun, hended, _, _, rfl, ?_, ⟨_, rfl⟩, hW, hsame.mono (by decide) (by decide)⟩
  · show oS p e below T9 m 46 #[rv o, iv x1] [] _
    exact X9.returnOut hx Bd.returns (hb hby d7_46) hr
  · show QA6 Z o x1 w0 w1 w2 w3 w4 w5 a k1 h0 n0 _ T9.heap _
    rw [e9]
    exact ⟨rfl, N9, KP11, Fc12, Fc13, Va9⟩
theorem d6_0 : decode prog_30_method_9_code 0 = .ok (.iconst 0, 1) := by decide +kernel
theorem d6_1 : decode prog_30_method_9_code 1 = .ok (.istore_n 2, 1) := by decide +kernel
theorem d6_2 : decode prog_30_method_9_code 2 = .ok (.aload_n 0, 1) := by decide +kernel
theorem d6_3 : decode prog_30_method_9_code 3 = .ok (.getfield 13, 3) := by decide +kernel
theorem d6_6 : decode prog_30_method_9_code 6 = .ok (.istore_n 3, 1) := by decide +kernel
theorem d6_7 : decode prog_30_method_9_code 7 = .ok (.iload_n 2, 1) := by decide +kernel
theorem d6_8 : decode prog_30_method_9_code 8 = .ok (.iload_n 3, 1) := by decide +kernel
theorem d6_9 : decode prog_30_method_9_code 9 = .ok (.if_icmp .ge 35, 3) := by decide +kernel
theorem d6_44 : decode prog_30_method_9_code 44 = .ok (.iload_n 2, 1) := by decide +kernel
theorem d6_45 : decode prog_30_method_9_code 45 = .ok (.ireturn, 1) := by decide +kernel
theorem efC0 (m : MethodId) (o : Addr) (x1 : Int32) : entryFrame m #[(.ref o), (.int x1)] 5 = mkF m 0 #[rv o, iv x1, .unset, .unset, .unset] [] := by first | (simp [entryFrame, mkF, argsToLocals, Value.category]; done) | rfl
def QC0 (Z : State) (o : Addr) (x1 : Int32) (a : Addr) (k1 : ClassId) (h0 : Heap) (n0 : Nat) (v : Option Value) (h : Heap) (L : List Loc) : Prop := v = some (.int (0 : Int32)) ∧ Fr n0 L ∧ h = h0
set_option maxRecDepth 65536 in
set_option maxHeartbeats 40000000 in
theorem rmC0 (l : Launch) (Z : State) (a0 : Array Value) (hw : ∀ d ∈ tables_1, d.before a0 Z = true) (ws : List Jvm.Cond) (o : Addr) (x1 : Int32) (a : Addr) (k1 : ClassId) (h0 : Heap) (n0 : Nat) (Z0 : n0 ≤ h0.size) (E_o : Exa Z h0 o oz0) (F_size_o : Fld Z h0 o oz0 "size" "I" (.int (0 : Int32))) (F_values_o : Fld Z h0 o oz0 "values" "[I" (.ref a)) (V_a : Arv Z h0 a k1 .int (4 : Int32) [(.int (0 : Int32)), (.int (0 : Int32)), (.int (0 : Int32)), (.int (0 : Int32))] (.int (0 : Int32))) :
    MetFree l (⟨oz0, "countAtMost", "(I)I"⟩ : MethodName) (head1 (Jvm.Cond.code (⟨oz0, "countAtMost", "(I)I"⟩ : MethodName) prog_30_method_9_code 5 (some .int) :: ws) ({ frames := 0, cells := 0, slots := 0, locals := 0 } : Room)) (fun a U => a = #[(.ref o), (.int x1)] ∧ Z.Warmed39 U.vm ∧ U.heap = h0) (fun _ _ _ _ _ => True) (fun _ U oc U' => ∃ v L, oc = .returned v ∧ QC0 Z o x1 a k1 h0 n0 v U'.heap L ∧ FrameEnd U oc U' L ({ frames := 0, cells := 0, slots := 0, locals := 0 } : Room).cells ({ frames := 0, cells := 0, slots := 0, locals := 0 } : Room).slots) := by
  refine MetFree.of_bodySF (plainFor_of_name own_pn1) hisR ?_
  intro p e s m args below meth c s₁ Bd hml0 hP hK
  obtain ⟨rfl, hZ, hh⟩ := hP
  have hx := Bd.exec
  have hby := Bd.bytes
  have hml : c.maxLocals = 5 := hml0
  have hown : s.vm.findClass oz0 = some m.cls := findClass_of_methodNamed Bd.named
  have hnm := (name_of_methodNamed Bd.named Bd.method).1
  have X0 : Stand p l e ({ frames := 0, cells := 0, slots := 0, locals := 0 } : Room) s m #[(.ref o), (.int x1)] below meth c s₁ [] 0 0 := Stand.of_body Bd
  have e0 : s₁.heap = h0 := by rw [← hh, Bd.state]; rfl
  have N0 := Fr.nil n0
  have pre0 : ∀ t, Steps p.tables e below (s₁.setTop (mkF m 0 #[rv o, iv x1, .unset, .unset, .unset] [])) t → Steps p.tables e below (s₁.setTop (entryFrame m #[(.ref o), (.int x1)] 5)) t := fun t k => castTop (efC0 m o x1) k
  obtain ⟨T1, X1, e1, st1⟩ := getF X0 hx hZ hown (host := "") (Or.inl (own_w hw 30 rfl)) Via.refl e0 F_size_o (g := (mkF m 3 #[rv o, iv x1, iv (0 : Int32), .unset, .unset] [(.ref o)])) rfl rfl (hb hby d6_3)
  have pre2 : ∀ tz, oS p e below T1 m 45 #[rv o, iv x1, iv (0 : Int32), iv (0 : Int32), .unset] [(.int (0 : Int32))] tz → oS p e below s₁ m 0 #[rv o, iv x1, .unset, .unset, .unset] [] tz := fun tz kt => by
    show oS p e below s₁ m 0 #[rv o, iv x1, .unset, .unset, .unset] [] _
    refine XS.iconst X0.here hx rfl (hb hby d6_0) ?_
    refine XS.istoreN X0.here hx rfl (hb hby d6_1) rfl (l' := #[rv o, iv x1, iv (0 : Int32), .unset, .unset]) rfl ?_
    refine XS.aloadN X0.here hx rfl (hb hby d6_2) rfl rfl ?_
    show oS p e below s₁ m 3 #[rv o, iv x1, iv (0 : Int32), .unset, .unset] [(.ref o)] _
    refine st1 _ ?_
    refine XS.istoreN X1.here hx rfl (hb hby d6_6) rfl (l' := #[rv o, iv x1, iv (0 : Int32), iv (0 : Int32), .unset]) rfl ?_
    refine XS.iloadN X1.here hx rfl (hb hby d6_7) rfl ?_
    refine XS.iloadN X1.here hx rfl (hb hby d6_8) rfl ?_
    show oS p e below T1 m 9 #[rv o, iv x1, iv (0 : Int32), iv (0 : Int32), .unset] [(.int (0 : Int32)), (.int (0 : Int32))] _
    refine XS.icmpYes X1.here hx rfl (pc0 := 9) (pc' := 44) rfl (hb hby d6_9) rfl (flt (by decide : ¬ ((0 : Int32) < (0 : Int32)))).2.1 (by decide) (by decide) ?_
    refine XS.iloadN X1.here hx rfl (hb hby d6_44) rfl ?_
    exact kt
  obtain ⟨fs, hr, hrun, hended, hW, hsame⟩ := X1.leave (v := some (.int (0 : Int32))) (fun h => by rw [Bd.returns] at h; cases h)
  refine ⟨_, _, pre0 _ (pre2 _ ?_), hrun, hended, _, _, rfl, ?_, ⟨_, rfl⟩, hW, hsame.mono (by decide) (by decide)⟩
  · show oS p e below T1 m 45 #[rv o, iv x1, iv (0 : Int32), iv (0 : Int32), .unset] [(.int (0 : Int32))] _
    exact retOut X1 hx Bd.returns rfl (Or.inl ⟨rfl, Or.inl rfl, _, rfl⟩) (hb hby d6_45) hr
  · show QC0 Z o x1 a k1 h0 n0 _ T1.heap _
    rw [e1]
    exact ⟨rfl, N0, rfl⟩
theorem d6_12 : decode prog_30_method_9_code 12 = .ok (.iload_n 2, 1) := by decide +kernel
theorem d6_13 : decode prog_30_method_9_code 13 = .ok (.iload_n 3, 1) := by decide +kernel
theorem d6_14 : decode prog_30_method_9_code 14 = .ok (.iadd, 1) := by decide +kernel
theorem d6_15 : decode prog_30_method_9_code 15 = .ok (.iconst 1, 1) := by decide +kernel
theorem d6_16 : decode prog_30_method_9_code 16 = .ok (.iushr, 1) := by decide +kernel
theorem d6_17 : decode prog_30_method_9_code 17 = .ok (.istore 4, 2) := by decide +kernel
theorem d6_19 : decode prog_30_method_9_code 19 = .ok (.aload_n 0, 1) := by decide +kernel
theorem d6_20 : decode prog_30_method_9_code 20 = .ok (.getfield 7, 3) := by decide +kernel
theorem d6_23 : decode prog_30_method_9_code 23 = .ok (.iload 4, 2) := by decide +kernel
theorem d6_25 : decode prog_30_method_9_code 25 = .ok (.iaload, 1) := by decide +kernel
theorem d6_26 : decode prog_30_method_9_code 26 = .ok (.iload_n 1, 1) := by decide +kernel
theorem d6_27 : decode prog_30_method_9_code 27 = .ok (.if_icmp .gt 11, 3) := by decide +kernel
theorem d6_30 : decode prog_30_method_9_code 30 = .ok (.iload 4, 2) := by decide +kernel
theorem d6_32 : decode prog_30_method_9_code 32 = .ok (.iconst 1, 1) := by decide +kernel
theorem d6_33 : decode prog_30_method_9_code 33 = .ok (.iadd, 1) := by decide +kernel
theorem d6_34 : decode prog_30_method_9_code 34 = .ok (.istore_n 2, 1) := by decide +kernel
theorem d6_35 : decode prog_30_method_9_code 35 = .ok (.goto 6, 3) := by decide +kernel
theorem d6_38 : decode prog_30_method_9_code 38 = .ok (.iload 4, 2) := by decide +kernel
theorem d6_40 : decode prog_30_method_9_code 40 = .ok (.istore_n 3, 1) := by decide +kernel
theorem d6_41 : decode prog_30_method_9_code 41 = .ok (.goto (-34), 3) := by decide +kernel
theorem efC1 (m : MethodId) (o : Addr) (x1 : Int32) : entryFrame m #[(.ref o), (.int x1)] 5 = mkF m 0 #[rv o, iv x1, .unset, .unset, .unset] [] := by first | (simp [entryFrame, mkF, argsToLocals, Value.category]; done) | rfl
def QC1 (Z : State) (o : Addr) (x1 : Int32) (w0 : Int32) (a : Addr) (k1 : ClassId) (h0 : Heap) (n0 : Nat) (v : Option Value) (h : Heap) (L : List Loc) : Prop := v = some (.int (if x1 < w0 then (0 : Int32) else (1 : Int32))) ∧ Fr n0 L ∧ h = h0
set_option maxRecDepth 65536 in
set_option maxHeartbeats 40000000 in
theorem rmC1 (l : Launch) (Z : State) (a0 : Array Value) (hw : ∀ d ∈ tables_1, d.before a0 Z = true) (ws : List Jvm.Cond) (o : Addr) (x1 : Int32) (w0 : Int32) (a : Addr) (k1 : ClassId) (h0 : Heap) (n0 : Nat) (Z0 : n0 ≤ h0.size) (E_o : Exa Z h0 o oz0) (F_size_o : Fld Z h0 o oz0 "size" "I" (.int (1 : Int32))) (F_values_o : Fld Z h0 o oz0 "values" "[I" (.ref a)) (V_a : Arv Z h0 a k1 .int (4 : Int32) [(.int w0), (.int (0 : Int32)), (.int (0 : Int32)), (.int (0 : Int32))] (.int (0 : Int32))) :
    MetFree l (⟨oz0, "countAtMost", "(I)I"⟩ : MethodName) (head1 (Jvm.Cond.code (⟨oz0, "countAtMost", "(I)I"⟩ : MethodName) prog_30_method_9_code 5 (some .int) :: ws) ({ frames := 0, cells := 0, slots := 0, locals := 0 } : Room)) (fun a U => a = #[(.ref o), (.int x1)] ∧ Z.Warmed39 U.vm ∧ U.heap = h0) (fun _ _ _ _ _ => True) (fun _ U oc U' => ∃ v L, oc = .returned v ∧ QC1 Z o x1 w0 a k1 h0 n0 v U'.heap L ∧ FrameEnd U oc U' L ({ frames := 0, cells := 0, slots := 0, locals := 0 } : Room).cells ({ frames := 0, cells := 0, slots := 0, locals := 0 } : Room).slots) := by
  refine MetFree.of_bodySF (plainFor_of_name own_pn1) hisR ?_
  intro p e s m args below meth c s₁ Bd hml0 hP hK
  obtain ⟨rfl, hZ, hh⟩ := hP
  have hx := Bd.exec
  have hby := Bd.bytes
  have hml : c.maxLocals = 5 := hml0
  have hown : s.vm.findClass oz0 = some m.cls := findClass_of_methodNamed Bd.named
  have hnm := (name_of_methodNamed Bd.named Bd.method).1
  have X0 : Stand p l e ({ frames := 0, cells := 0, slots := 0, locals := 0 } : Room) s m #[(.ref o), (.int x1)] below meth c s₁ [] 0 0 := Stand.of_body Bd
  have e0 : s₁.heap = h0 := by rw [← hh, Bd.state]; rfl
  have N0 := Fr.nil n0
  have pre0 : ∀ t, Steps p.tables e below (s₁.setTop (mkF m 0 #[rv o, iv x1, .unset, .unset, .unset] [])) t → Steps p.tables e below (s₁.setTop (entryFrame m #[(.ref o), (.int x1)] 5)) t := fun t k => castTop (efC1 m o x1) k
  obtain ⟨T1, X1, e1, st1⟩ := getF X0 hx hZ hown (host := "") (Or.inl (own_w hw 30 rfl)) Via.refl e0 F_size_o (g := (mkF m 3 #[rv o, iv x1, iv (0 : Int32), .unset, .unset] [(.ref o)])) rfl rfl (hb hby d6_3)
  obtain ⟨T2, X2, e2, st2⟩ := getF X1 hx hZ hown (host := "") (Or.inl (own_w hw 20 rfl)) Via.refl e1 F_values_o (g := (mkF m 20 #[rv o, iv x1, iv (0 : Int32), iv (1 : Int32), iv (0 : Int32)] [(.ref o)])) rfl rfl (hb hby d6_20)
  obtain ⟨cl3, Ar3, qk3, Sz3, Ng3, Hs3, Gt3⟩ := id V_a
  have hin3 : ¬ ((0 : Int32) < 0 ∨ cl3.slots.size ≤ ((0 : Int32)).toNatClampNeg) := inb_of Sz3 ⟨by decide, by decide⟩
  have hat3 : cl3.slots[((0 : Int32)).toNatClampNeg]? = some (.int w0) := Hs3.at hin3 rfl
  have pre4 : ∀ tz, oS p e below T2 m 27 #[rv o, iv x1, iv (0 : Int32), iv (1 : Int32), iv (0 : Int32)] [(.int x1), (.int w0)] tz → oS p e below s₁ m 0 #[rv o, iv x1, .unset, .unset, .unset] [] tz := fun tz kt => by
    show oS p e below s₁ m 0 #[rv o, iv x1, .unset, .unset, .unset] [] _
    refine XS.iconst X0.here hx rfl (hb hby d6_0) ?_
    refine XS.istoreN X0.here hx rfl (hb hby d6_1) rfl (l' := #[rv o, iv x1, iv (0 : Int32), .unset, .unset]) rfl ?_
    refine XS.aloadN X0.here hx rfl (hb hby d6_2) rfl rfl ?_
    show oS p e below s₁ m 3 #[rv o, iv x1, iv (0 : Int32), .unset, .unset] [(.ref o)] _
    refine st1 _ ?_
    refine XS.istoreN X1.here hx rfl (hb hby d6_6) rfl (l' := #[rv o, iv x1, iv (0 : Int32), iv (1 : Int32), .unset]) rfl ?_
    refine XS.iloadN X1.here hx rfl (hb hby d6_7) rfl ?_
    refine XS.iloadN X1.here hx rfl (hb hby d6_8) rfl ?_
    show oS p e below T1 m 9 #[rv o, iv x1, iv (0 : Int32), iv (1 : Int32), .unset] [(.int (1 : Int32)), (.int (0 : Int32))] _
    refine XS.icmpNo X1.here hx rfl (hb hby d6_9) rfl (tlt (by decide : ((0 : Int32) < (1 : Int32)))).2.1 ?_
    refine XS.iloadN X1.here hx rfl (hb hby d6_12) rfl ?_
    refine XS.iloadN X1.here hx rfl (hb hby d6_13) rfl ?_
    refine XS.iadd X1.here hx rfl (hb hby d6_14) rfl ?_
    show oS p e below T1 m 15 #[rv o, iv x1, iv (0 : Int32), iv (1 : Int32), .unset] [(.int (1 : Int32))] _
    refine XS.iconst X1.here hx rfl (hb hby d6_15) ?_
    refine XS.iushr X1.here hx rfl (hb hby d6_16) rfl ?_
    show oS p e below T1 m 17 #[rv o, iv x1, iv (0 : Int32), iv (1 : Int32), .unset] [(.int (0 : Int32))] _
    refine XS.istore X1.here hx rfl (hb hby d6_17) rfl (l' := #[rv o, iv x1, iv (0 : Int32), iv (1 : Int32), iv (0 : Int32)]) rfl ?_
    refine XS.aloadN X1.here hx rfl (hb hby d6_19) rfl rfl ?_
    show oS p e below T1 m 20 #[rv o, iv x1, iv (0 : Int32), iv (1 : Int32), iv (0 : Int32)] [(.ref o)] _
    refine st2 _ ?_
    refine XS.iload X2.here hx rfl (hb hby d6_23) rfl ?_
    refine X2.iaload hx (j := (0 : Int32)) (v := (.int w0)) (by rw [e2]; exact Ar3.1) (State.isArrayOf_alike hZ.alike Ar3.2.1) Ar3.2.2 hin3 hat3 (g := (mkF m 25 #[rv o, iv x1, iv (0 : Int32), iv (1 : Int32), iv (0 : Int32)] [(.int (0 : Int32)), (.ref a)])) rfl rfl (hb hby d6_25) _ ?_
    refine XS.iloadN X2.here hx rfl (hb hby d6_26) rfl ?_
    exact kt
  by_cases hc27 : x1 < w0
  · have pre5 : ∀ tz, oS p e below T2 m 45 #[rv o, iv x1, iv (0 : Int32), iv (0 : Int32), iv (0 : Int32)] [(.int (0 : Int32))] tz → oS p e below T2 m 27 #[rv o, iv x1, iv (0 : Int32), iv (1 : Int32), iv (0 : Int32)] [(.int x1), (.int w0)] tz := fun tz kt => by
      show oS p e below T2 m 27 #[rv o, iv x1, iv (0 : Int32), iv (1 : Int32), iv (0 : Int32)] [(.int x1), (.int w0)] _
      refine XS.icmpYes X2.here hx rfl (pc0 := 27) (pc' := 38) rfl (hb hby d6_27) rfl (tlt hc27).2.2.1 (by decide) (by decide) ?_
      refine XS.iload X2.here hx rfl (hb hby d6_38) rfl ?_
      refine XS.istoreN X2.here hx rfl (hb hby d6_40) rfl (l' := #[rv o, iv x1, iv (0 : Int32), iv (0 : Int32), iv (0 : Int32)]) rfl ?_
      refine XS.goto X2.here hx rfl (pc0 := 41) (pc' := 7) rfl (hb hby d6_41) (by decide) (by decide) ?_
      show oS p e below T2 m 7 #[rv o, iv x1, iv (0 : Int32), iv (0 : Int32), iv (0 : Int32)] [] _
      refine XS.iloadN X2.here hx rfl (hb hby d6_7) rfl ?_
      refine XS.iloadN X2.here hx rfl (hb hby d6_8) rfl ?_
      refine XS.icmpYes X2.here hx rfl (pc0 := 9) (pc' := 44) rfl (hb hby d6_9) rfl (flt (by decide : ¬ ((0 : Int32) < (0 : Int32)))).2.1 (by decide) (by decide) ?_
      refine XS.iloadN X2.here hx rfl (hb hby d6_44) rfl ?_
      exact kt
    obtain ⟨fs, hr, hrun, hended, hW, hsame⟩ := X2.leave (v := some (.int (0 : Int32))) (fun h => by rw [Bd.returns] at h; cases h)
    refine ⟨_, _, pre0 _ (pre4 _ (pre5 _ ?_)), hrun, hended, _, _, rfl, ?_, ⟨_, rfl⟩, hW, hsame.mono (by decide) (by decide)⟩
    · show oS p e below T2 m 45 #[rv o, iv x1, iv (0 : Int32), iv (0 : Int32), iv (0 : Int32)] [(.int (0 : Int32))] _
      exact retOut X2 hx Bd.returns rfl (Or.inl ⟨rfl, Or.inl rfl, _, rfl⟩) (hb hby d6_45) hr
    · show QC1 Z o x1 w0 a k1 h0 n0 _ T2.heap _
      rw [e2]
      exact ⟨(by first | rfl | simp only [if_pos hc27]), N0, rfl⟩
  · have pre6 : ∀ tz, oS p e below T2 m 45 #[rv o, iv x1, iv (1 : Int32), iv (1 : Int32), iv (0 : Int32)] [(.int (1 : Int32))] tz → oS p e below T2 m 27 #[rv o, iv x1, iv (0 : Int32), iv (1 : Int32), iv (0 : Int32)] [(.int x1), (.int w0)] tz := fun tz kt => by
      show oS p e below T2 m 27 #[rv o, iv x1, iv (0 : Int32), iv (1 : Int32), iv (0 : Int32)] [(.int x1), (.int w0)] _
      refine XS.icmpNo X2.here hx rfl (hb hby d6_27) rfl (flt hc27).2.2.1 ?_
      refine XS.iload X2.here hx rfl (hb hby d6_30) rfl ?_
      refine XS.iconst X2.here hx rfl (hb hby d6_32) ?_
      refine XS.iadd X2.here hx rfl (hb hby d6_33) rfl ?_
      show oS p e below T2 m 34 #[rv o, iv x1, iv (0 : Int32), iv (1 : Int32), iv (0 : Int32)] [(.int (1 : Int32))] _
      refine XS.istoreN X2.here hx rfl (hb hby d6_34) rfl (l' := #[rv o, iv x1, iv (1 : Int32), iv (1 : Int32), iv (0 : Int32)]) rfl ?_
      refine XS.goto X2.here hx rfl (pc0 := 35) (pc' := 41) rfl (hb hby d6_35) (by decide) (by decide) ?_
      refine XS.goto X2.here hx rfl (pc0 := 41) (pc' := 7) rfl (hb hby d6_41) (by decide) (by decide) ?_
      refine XS.iloadN X2.here hx rfl (hb hby d6_7) rfl ?_
      show oS p e below T2 m 8 #[rv o, iv x1, iv (1 : Int32), iv (1 : Int32), iv (0 : Int32)] [(.int (1 : Int32))] _
      refine XS.iloadN X2.here hx rfl (hb hby d6_8) rfl ?_
      refine XS.icmpYes X2.here hx rfl (pc0 := 9) (pc' := 44) rfl (hb hby d6_9) rfl (flt (by decide : ¬ ((1 : Int32) < (1 : Int32)))).2.1 (by decide) (by decide) ?_
      refine XS.iloadN X2.here hx rfl (hb hby d6_44) rfl ?_
      exact kt
    obtain ⟨fs, hr, hrun, hended, hW, hsame⟩ := X2.leave (v := some (.int (1 : Int32))) (fun h => by rw [Bd.returns] at h; cases h)
    refine ⟨_, _, pre0 _ (pre4 _ (pre6 _ ?_)), hrun, hended, _, _, rfl, ?_, ⟨_, rfl⟩, hW, hsame.mono (by decide) (by decide)⟩
    · show oS p e below T2 m 45 #[rv o, iv x1, iv (1 : Int32), iv (1 : Int32), iv (0 : Int32)] [(.int (1 : Int32))] _
      exact retOut X2 hx Bd.returns rfl (Or.inl ⟨rfl, Or.inl rfl, _, rfl⟩) (hb hby d6_45) hr
    · show QC1 Z o x1 w0 a k1 h0 n0 _ T2.heap _
      rw [e2]
      exact ⟨(by first | rfl | simp only [if_neg hc27]), N0, rfl⟩
theorem efC2 (m : MethodId) (o : Addr) (x1 : Int32) : entryFrame m #[(.ref o), (.int x1)] 5 = mkF m 0 #[rv o, iv x1, .unset, .unset, .unset] [] := by first | (simp [entryFrame, mkF, argsToLocals, Value.category]; done) | rfl
def QC2 (Z : State) (o : Addr) (x1 : Int32) (w0 : Int32) (w1 : Int32) (a : Addr) (k1 : ClassId) (h0 : Heap) (n0 : Nat) (v : Option Value) (h : Heap) (L : List Loc) : Prop := v = some (.int (if x1 < w1 then (if x1 < w0 then (0 : Int32) else (1 : Int32)) else (2 : Int32))) ∧ Fr n0 L ∧ h = h0
set_option maxRecDepth 65536 in
set_option maxHeartbeats 40000000 in
theorem rmC2 (l : Launch) (Z : State) (a0 : Array Value) (hw : ∀ d ∈ tables_1, d.before a0 Z = true) (ws : List Jvm.Cond) (o : Addr) (x1 : Int32) (w0 : Int32) (w1 : Int32) (a : Addr) (k1 : ClassId) (h0 : Heap) (n0 : Nat) (Z0 : n0 ≤ h0.size) (E_o : Exa Z h0 o oz0) (F_size_o : Fld Z h0 o oz0 "size" "I" (.int (2 : Int32))) (F_values_o : Fld Z h0 o oz0 "values" "[I" (.ref a)) (V_a : Arv Z h0 a k1 .int (4 : Int32) [(.int w0), (.int w1), (.int (0 : Int32)), (.int (0 : Int32))] (.int (0 : Int32))) :
    MetFree l (⟨oz0, "countAtMost", "(I)I"⟩ : MethodName) (head1 (Jvm.Cond.code (⟨oz0, "countAtMost", "(I)I"⟩ : MethodName) prog_30_method_9_code 5 (some .int) :: ws) ({ frames := 0, cells := 0, slots := 0, locals := 0 } : Room)) (fun a U => a = #[(.ref o), (.int x1)] ∧ Z.Warmed39 U.vm ∧ U.heap = h0) (fun _ _ _ _ _ => True) (fun _ U oc U' => ∃ v L, oc = .returned v ∧ QC2 Z o x1 w0 w1 a k1 h0 n0 v U'.heap L ∧ FrameEnd U oc U' L ({ frames := 0, cells := 0, slots := 0, locals := 0 } : Room).cells ({ frames := 0, cells := 0, slots := 0, locals := 0 } : Room).slots) := by
  refine MetFree.of_bodySF (plainFor_of_name own_pn1) hisR ?_
  intro p e s m args below meth c s₁ Bd hml0 hP hK
  obtain ⟨rfl, hZ, hh⟩ := hP
  have hx := Bd.exec
  have hby := Bd.bytes
  have hml : c.maxLocals = 5 := hml0
  have hown : s.vm.findClass oz0 = some m.cls := findClass_of_methodNamed Bd.named
  have hnm := (name_of_methodNamed Bd.named Bd.method).1
  have X0 : Stand p l e ({ frames := 0, cells := 0, slots := 0, locals := 0 } : Room) s m #[(.ref o), (.int x1)] below meth c s₁ [] 0 0 := Stand.of_body Bd
  have e0 : s₁.heap = h0 := by rw [← hh, Bd.state]; rfl
  have N0 := Fr.nil n0
  have pre0 : ∀ t, Steps p.tables e below (s₁.setTop (mkF m 0 #[rv o, iv x1, .unset, .unset, .unset] [])) t → Steps p.tables e below (s₁.setTop (entryFrame m #[(.ref o), (.int x1)] 5)) t := fun t k => castTop (efC2 m o x1) k
  obtain ⟨T1, X1, e1, st1⟩ := getF X0 hx hZ hown (host := "") (Or.inl (own_w hw 30 rfl)) Via.refl e0 F_size_o (g := (mkF m 3 #[rv o, iv x1, iv (0 : Int32), .unset, .unset] [(.ref o)])) rfl rfl (hb hby d6_3)
  obtain ⟨T2, X2, e2, st2⟩ := getF X1 hx hZ hown (host := "") (Or.inl (own_w hw 20 rfl)) Via.refl e1 F_values_o (g := (mkF m 20 #[rv o, iv x1, iv (0 : Int32), iv (2 : Int32), iv (1 : Int32)] [(.ref o)])) rfl rfl (hb hby d6_20)
  obtain ⟨cl3, Ar3, qk3, Sz3, Ng3, Hs3, Gt3⟩ := id V_a
  have hin3 : ¬ ((1 : Int32) < 0 ∨ cl3.slots.size ≤ ((1 : Int32)).toNatClampNeg) := inb_of Sz3 ⟨by decide, by decide⟩
  have hat3 : cl3.slots[((1 : Int32)).toNatClampNeg]? = some (.int w1) := Hs3.at hin3 rfl
  have pre4 : ∀ tz, oS p e below T2 m 27 #[rv o, iv x1, iv (0 : Int32), iv (2 : Int32), iv (1 : Int32)] [(.int x1), (.int w1)] tz → oS p e below s₁ m 0 #[rv o, iv x1, .unset, .unset, .unset] [] tz := fun tz kt => by
    show oS p e below s₁ m 0 #[rv o, iv x1, .unset, .unset, .unset] [] _
    refine XS.iconst X0.here hx rfl (hb hby d6_0) ?_
    refine XS.istoreN X0.here hx rfl (hb hby d6_1) rfl (l' := #[rv o, iv x1, iv (0 : Int32), .unset, .unset]) rfl ?_
    refine XS.aloadN X0.here hx rfl (hb hby d6_2) rfl rfl ?_
    show oS p e below s₁ m 3 #[rv o, iv x1, iv (0 : Int32), .unset, .unset] [(.ref o)] _
    refine st1 _ ?_
    refine XS.istoreN X1.here hx rfl (hb hby d6_6) rfl (l' := #[rv o, iv x1, iv (0 : Int32), iv (2 : Int32), .unset]) rfl ?_
    refine XS.iloadN X1.here hx rfl (hb hby d6_7) rfl ?_
    refine XS.iloadN X1.here hx rfl (hb hby d6_8) rfl ?_
    show oS p e below T1 m 9 #[rv o, iv x1, iv (0 : Int32), iv (2 : Int32), .unset] [(.int (2 : Int32)), (.int (0 : Int32))] _
    refine XS.icmpNo X1.here hx rfl (hb hby d6_9) rfl (tlt (by decide : ((0 : Int32) < (2 : Int32)))).2.1 ?_
    refine XS.iloadN X1.here hx rfl (hb hby d6_12) rfl ?_
    refine XS.iloadN X1.here hx rfl (hb hby d6_13) rfl ?_
    refine XS.iadd X1.here hx rfl (hb hby d6_14) rfl ?_
    show oS p e below T1 m 15 #[rv o, iv x1, iv (0 : Int32), iv (2 : Int32), .unset] [(.int (2 : Int32))] _
    refine XS.iconst X1.here hx rfl (hb hby d6_15) ?_
    refine XS.iushr X1.here hx rfl (hb hby d6_16) rfl ?_
    show oS p e below T1 m 17 #[rv o, iv x1, iv (0 : Int32), iv (2 : Int32), .unset] [(.int (1 : Int32))] _
    refine XS.istore X1.here hx rfl (hb hby d6_17) rfl (l' := #[rv o, iv x1, iv (0 : Int32), iv (2 : Int32), iv (1 : Int32)]) rfl ?_
    refine XS.aloadN X1.here hx rfl (hb hby d6_19) rfl rfl ?_
    show oS p e below T1 m 20 #[rv o, iv x1, iv (0 : Int32), iv (2 : Int32), iv (1 : Int32)] [(.ref o)] _
    refine st2 _ ?_
    refine XS.iload X2.here hx rfl (hb hby d6_23) rfl ?_
    refine X2.iaload hx (j := (1 : Int32)) (v := (.int w1)) (by rw [e2]; exact Ar3.1) (State.isArrayOf_alike hZ.alike Ar3.2.1) Ar3.2.2 hin3 hat3 (g := (mkF m 25 #[rv o, iv x1, iv (0 : Int32), iv (2 : Int32), iv (1 : Int32)] [(.int (1 : Int32)), (.ref a)])) rfl rfl (hb hby d6_25) _ ?_
    refine XS.iloadN X2.here hx rfl (hb hby d6_26) rfl ?_
    exact kt
  by_cases hc27 : x1 < w1
  · obtain ⟨T5, X5, e5, st5⟩ := getF X2 hx hZ hown (host := "") (Or.inl (own_w hw 20 rfl)) Via.refl e2 F_values_o (g := (mkF m 20 #[rv o, iv x1, iv (0 : Int32), iv (1 : Int32), iv (0 : Int32)] [(.ref o)])) rfl rfl (hb hby d6_20)
    obtain ⟨cl6, Ar6, qk6, Sz6, Ng6, Hs6, Gt6⟩ := id V_a
    have hin6 : ¬ ((0 : Int32) < 0 ∨ cl6.slots.size ≤ ((0 : Int32)).toNatClampNeg) := inb_of Sz6 ⟨by decide, by decide⟩
    have hat6 : cl6.slots[((0 : Int32)).toNatClampNeg]? = some (.int w0) := Hs6.at hin6 rfl
    have pre7 : ∀ tz, oS p e below T5 m 27 #[rv o, iv x1, iv (0 : Int32), iv (1 : Int32), iv (0 : Int32)] [(.int x1), (.int w0)] tz → oS p e below T2 m 27 #[rv o, iv x1, iv (0 : Int32), iv (2 : Int32), iv (1 : Int32)] [(.int x1), (.int w1)] tz := fun tz kt => by
      show oS p e below T2 m 27 #[rv o, iv x1, iv (0 : Int32), iv (2 : Int32), iv (1 : Int32)] [(.int x1), (.int w1)] _
      refine XS.icmpYes X2.here hx rfl (pc0 := 27) (pc' := 38) rfl (hb hby d6_27) rfl (tlt hc27).2.2.1 (by decide) (by decide) ?_
      refine XS.iload X2.here hx rfl (hb hby d6_38) rfl ?_
      refine XS.istoreN X2.here hx rfl (hb hby d6_40) rfl (l' := #[rv o, iv x1, iv (0 : Int32), iv (1 : Int32), iv (1 : Int32)]) rfl ?_
      refine XS.goto X2.here hx rfl (pc0 := 41) (pc' := 7) rfl (hb hby d6_41) (by decide) (by decide) ?_
      show oS p e below T2 m 7 #[rv o, iv x1, iv (0 : Int32), iv (1 : Int32), iv (1 : Int32)] [] _
      refine XS.iloadN X2.here hx rfl (hb hby d6_7) rfl ?_
      refine XS.iloadN X2.here hx rfl (hb hby d6_8) rfl ?_
      refine XS.icmpNo X2.here hx rfl (hb hby d6_9) rfl (tlt (by decide : ((0 : Int32) < (1 : Int32)))).2.1 ?_
      refine XS.iloadN X2.here hx rfl (hb hby d6_12) rfl ?_
      show oS p e below T2 m 13 #[rv o, iv x1, iv (0 : Int32), iv (1 : Int32), iv (1 : Int32)] [(.int (0 : Int32))] _
      refine XS.iloadN X2.here hx rfl (hb hby d6_13) rfl ?_
      refine XS.iadd X2.here hx rfl (hb hby d6_14) rfl ?_
      show oS p e below T2 m 15 #[rv o, iv x1, iv (0 : Int32), iv (1 : Int32), iv (1 : Int32)] [(.int (1 : Int32))] _
      refine XS.iconst X2.here hx rfl (hb hby d6_15) ?_
      refine XS.iushr X2.here hx rfl (hb hby d6_16) rfl ?_
      show oS p e below T2 m 17 #[rv o, iv x1, iv (0 : Int32), iv (1 : Int32), iv (1 : Int32)] [(.int (0 : Int32))] _
      refine XS.istore X2.here hx rfl (hb hby d6_17) rfl (l' := #[rv o, iv x1, iv (0 : Int32), iv (1 : Int32), iv (0 : Int32)]) rfl ?_
      refine XS.aloadN X2.here hx rfl (hb hby d6_19) rfl rfl ?_
      show oS p e below T2 m 20 #[rv o, iv x1, iv (0 : Int32), iv (1 : Int32), iv (0 : Int32)] [(.ref o)] _
      refine st5 _ ?_
      refine XS.iload X5.here hx rfl (hb hby d6_23) rfl ?_
      refine X5.iaload hx (j := (0 : Int32)) (v := (.int w0)) (by rw [e5]; exact Ar6.1) (State.isArrayOf_alike hZ.alike Ar6.2.1) Ar6.2.2 hin6 hat6 (g := (mkF m 25 #[rv o, iv x1, iv (0 : Int32), iv (1 : Int32), iv (0 : Int32)] [(.int (0 : Int32)), (.ref a)])) rfl rfl (hb hby d6_25) _ ?_
      refine XS.iloadN X5.here hx rfl (hb hby d6_26) rfl ?_
      exact kt
    by_cases hc27_2 : x1 < w0
    · have pre8 : ∀ tz, oS p e below T5 m 45 #[rv o, iv x1, iv (0 : Int32), iv (0 : Int32), iv (0 : Int32)] [(.int (0 : Int32))] tz → oS p e below T5 m 27 #[rv o, iv x1, iv (0 : Int32), iv (1 : Int32), iv (0 : Int32)] [(.int x1), (.int w0)] tz := fun tz kt => by
        show oS p e below T5 m 27 #[rv o, iv x1, iv (0 : Int32), iv (1 : Int32), iv (0 : Int32)] [(.int x1), (.int w0)] _
        refine XS.icmpYes X5.here hx rfl (pc0 := 27) (pc' := 38) rfl (hb hby d6_27) rfl (tlt hc27_2).2.2.1 (by decide) (by decide) ?_
        refine XS.iload X5.here hx rfl (hb hby d6_38) rfl ?_
        refine XS.istoreN X5.here hx rfl (hb hby d6_40) rfl (l' := #[rv o, iv x1, iv (0 : Int32), iv (0 : Int32), iv (0 : Int32)]) rfl ?_
        refine XS.goto X5.here hx rfl (pc0 := 41) (pc' := 7) rfl (hb hby d6_41) (by decide) (by decide) ?_
        show oS p e below T5 m 7 #[rv o, iv x1, iv (0 : Int32), iv (0 : Int32), iv (0 : Int32)] [] _
        refine XS.iloadN X5.here hx rfl (hb hby d6_7) rfl ?_
        refine XS.iloadN X5.here hx rfl (hb hby d6_8) rfl ?_
        refine XS.icmpYes X5.here hx rfl (pc0 := 9) (pc' := 44) rfl (hb hby d6_9) rfl (flt (by decide : ¬ ((0 : Int32) < (0 : Int32)))).2.1 (by decide) (by decide) ?_
        refine XS.iloadN X5.here hx rfl (hb hby d6_44) rfl ?_
        exact kt
      obtain ⟨fs, hr, hrun, hended, hW, hsame⟩ := X5.leave (v := some (.int (0 : Int32))) (fun h => by rw [Bd.returns] at h; cases h)
      refine ⟨_, _, pre0 _ (pre4 _ (pre7 _ (pre8 _ ?_))), hrun, hended, _, _, rfl, ?_, ⟨_, rfl⟩, hW, hsame.mono (by decide) (by decide)⟩
      · show oS p e below T5 m 45 #[rv o, iv x1, iv (0 : Int32), iv (0 : Int32), iv (0 : Int32)] [(.int (0 : Int32))] _
        exact retOut X5 hx Bd.returns rfl (Or.inl ⟨rfl, Or.inl rfl, _, rfl⟩) (hb hby d6_45) hr
      · show QC2 Z o x1 w0 w1 a k1 h0 n0 _ T5.heap _
        rw [e5]
        exact ⟨(by first | rfl | simp only [if_pos hc27, if_pos hc27_2]), N0, rfl⟩
    · have pre9 : ∀ tz, oS p e below T5 m 45 #[rv o, iv x1, iv (1 : Int32), iv (1 : Int32), iv (0 : Int32)] [(.int (1 : Int32))] tz → oS p e below T5 m 27 #[rv o, iv x1, iv (0 : Int32), iv (1 : Int32), iv (0 : Int32)] [(.int x1), (.int w0)] tz := fun tz kt => by
        show oS p e below T5 m 27 #[rv o, iv x1, iv (0 : Int32), iv (1 : Int32), iv (0 : Int32)] [(.int x1), (.int w0)] _
        refine XS.icmpNo X5.here hx rfl (hb hby d6_27) rfl (flt hc27_2).2.2.1 ?_
        refine XS.iload X5.here hx rfl (hb hby d6_30) rfl ?_
        refine XS.iconst X5.here hx rfl (hb hby d6_32) ?_
        refine XS.iadd X5.here hx rfl (hb hby d6_33) rfl ?_
        show oS p e below T5 m 34 #[rv o, iv x1, iv (0 : Int32), iv (1 : Int32), iv (0 : Int32)] [(.int (1 : Int32))] _
        refine XS.istoreN X5.here hx rfl (hb hby d6_34) rfl (l' := #[rv o, iv x1, iv (1 : Int32), iv (1 : Int32), iv (0 : Int32)]) rfl ?_
        refine XS.goto X5.here hx rfl (pc0 := 35) (pc' := 41) rfl (hb hby d6_35) (by decide) (by decide) ?_
        refine XS.goto X5.here hx rfl (pc0 := 41) (pc' := 7) rfl (hb hby d6_41) (by decide) (by decide) ?_
        refine XS.iloadN X5.here hx rfl (hb hby d6_7) rfl ?_
        show oS p e below T5 m 8 #[rv o, iv x1, iv (1 : Int32), iv (1 : Int32), iv (0 : Int32)] [(.int (1 : Int32))] _
        refine XS.iloadN X5.here hx rfl (hb hby d6_8) rfl ?_
        refine XS.icmpYes X5.here hx rfl (pc0 := 9) (pc' := 44) rfl (hb hby d6_9) rfl (flt (by decide : ¬ ((1 : Int32) < (1 : Int32)))).2.1 (by decide) (by decide) ?_
        refine XS.iloadN X5.here hx rfl (hb hby d6_44) rfl ?_
        exact kt
      obtain ⟨fs, hr, hrun, hended, hW, hsame⟩ := X5.leave (v := some (.int (1 : Int32))) (fun h => by rw [Bd.returns] at h; cases h)
      refine ⟨_, _, pre0 _ (pre4 _ (pre7 _ (pre9 _ ?_))), hrun, hended, _, _, rfl, ?_, ⟨_, rfl⟩, hW, hsame.mono (by decide) (by decide)⟩
      · show oS p e below T5 m 45 #[rv o, iv x1, iv (1 : Int32), iv (1 : Int32), iv (0 : Int32)] [(.int (1 : Int32))] _
        exact retOut X5 hx Bd.returns rfl (Or.inl ⟨rfl, Or.inl rfl, _, rfl⟩) (hb hby d6_45) hr
      · show QC2 Z o x1 w0 w1 a k1 h0 n0 _ T5.heap _
        rw [e5]
        exact ⟨(by first | rfl | simp only [if_pos hc27, if_neg hc27_2]), N0, rfl⟩
  · have pre10 : ∀ tz, oS p e below T2 m 45 #[rv o, iv x1, iv (2 : Int32), iv (2 : Int32), iv (1 : Int32)] [(.int (2 : Int32))] tz → oS p e below T2 m 27 #[rv o, iv x1, iv (0 : Int32), iv (2 : Int32), iv (1 : Int32)] [(.int x1), (.int w1)] tz := fun tz kt => by
      show oS p e below T2 m 27 #[rv o, iv x1, iv (0 : Int32), iv (2 : Int32), iv (1 : Int32)] [(.int x1), (.int w1)] _
      refine XS.icmpNo X2.here hx rfl (hb hby d6_27) rfl (flt hc27).2.2.1 ?_
      refine XS.iload X2.here hx rfl (hb hby d6_30) rfl ?_
      refine XS.iconst X2.here hx rfl (hb hby d6_32) ?_
      refine XS.iadd X2.here hx rfl (hb hby d6_33) rfl ?_
      show oS p e below T2 m 34 #[rv o, iv x1, iv (0 : Int32), iv (2 : Int32), iv (1 : Int32)] [(.int (2 : Int32))] _
      refine XS.istoreN X2.here hx rfl (hb hby d6_34) rfl (l' := #[rv o, iv x1, iv (2 : Int32), iv (2 : Int32), iv (1 : Int32)]) rfl ?_
      refine XS.goto X2.here hx rfl (pc0 := 35) (pc' := 41) rfl (hb hby d6_35) (by decide) (by decide) ?_
      refine XS.goto X2.here hx rfl (pc0 := 41) (pc' := 7) rfl (hb hby d6_41) (by decide) (by decide) ?_
      refine XS.iloadN X2.here hx rfl (hb hby d6_7) rfl ?_
      show oS p e below T2 m 8 #[rv o, iv x1, iv (2 : Int32), iv (2 : Int32), iv (1 : Int32)] [(.int (2 : Int32))] _
      refine XS.iloadN X2.here hx rfl (hb hby d6_8) rfl ?_
      refine XS.icmpYes X2.here hx rfl (pc0 := 9) (pc' := 44) rfl (hb hby d6_9) rfl (flt (by decide : ¬ ((2 : Int32) < (2 : Int32)))).2.1 (by decide) (by decide) ?_
      refine XS.iloadN X2.here hx rfl (hb hby d6_44) rfl ?_
      exact kt
    obtain ⟨fs, hr, hrun, hended, hW, hsame⟩ := X2.leave (v := some (.int (2 : Int32))) (fun h => by rw [Bd.returns] at h; cases h)
    refine ⟨_, _, pre0 _ (pre4 _ (pre10 _ ?_)), hrun, hended, _, _, rfl, ?_, ⟨_, rfl⟩, hW, hsame.mono (by decide) (by decide)⟩
    · show oS p e below T2 m 45 #[rv o, iv x1, iv (2 : Int32), iv (2 : Int32), iv (1 : Int32)] [(.int (2 : Int32))] _
      exact retOut X2 hx Bd.returns rfl (Or.inl ⟨rfl, Or.inl rfl, _, rfl⟩) (hb hby d6_45) hr
    · show QC2 Z o x1 w0 w1 a k1 h0 n0 _ T2.heap _
      rw [e2]
      exact ⟨(by first | rfl | simp only [if_neg hc27]), N0, rfl⟩
theorem efC3 (m : MethodId) (o : Addr) (x1 : Int32) : entryFrame m #[(.ref o), (.int x1)] 5 = mkF m 0 #[rv o, iv x1, .unset, .unset, .unset] [] := by first | (simp [entryFrame, mkF, argsToLocals, Value.category]; done) | rfl
def QC3 (Z : State) (o : Addr) (x1 : Int32) (w0 : Int32) (w1 : Int32) (w2 : Int32) (a : Addr) (k1 : ClassId) (h0 : Heap) (n0 : Nat) (v : Option Value) (h : Heap) (L : List Loc) : Prop := v = some (.int (if x1 < w1 then (if x1 < w0 then (0 : Int32) else (1 : Int32)) else (if x1 < w2 then (2 : Int32) else (3 : Int32)))) ∧ Fr n0 L ∧ h = h0
set_option maxRecDepth 65536 in
set_option maxHeartbeats 40000000 in
theorem rmC3 (l : Launch) (Z : State) (a0 : Array Value) (hw : ∀ d ∈ tables_1, d.before a0 Z = true) (ws : List Jvm.Cond) (o : Addr) (x1 : Int32) (w0 : Int32) (w1 : Int32) (w2 : Int32) (a : Addr) (k1 : ClassId) (h0 : Heap) (n0 : Nat) (Z0 : n0 ≤ h0.size) (E_o : Exa Z h0 o oz0) (F_size_o : Fld Z h0 o oz0 "size" "I" (.int (3 : Int32))) (F_values_o : Fld Z h0 o oz0 "values" "[I" (.ref a)) (V_a : Arv Z h0 a k1 .int (4 : Int32) [(.int w0), (.int w1), (.int w2), (.int (0 : Int32))] (.int (0 : Int32))) :
    MetFree l (⟨oz0, "countAtMost", "(I)I"⟩ : MethodName) (head1 (Jvm.Cond.code (⟨oz0, "countAtMost", "(I)I"⟩ : MethodName) prog_30_method_9_code 5 (some .int) :: ws) ({ frames := 0, cells := 0, slots := 0, locals := 0 } : Room)) (fun a U => a = #[(.ref o), (.int x1)] ∧ Z.Warmed39 U.vm ∧ U.heap = h0) (fun _ _ _ _ _ => True) (fun _ U oc U' => ∃ v L, oc = .returned v ∧ QC3 Z o x1 w0 w1 w2 a k1 h0 n0 v U'.heap L ∧ FrameEnd U oc U' L ({ frames := 0, cells := 0, slots := 0, locals := 0 } : Room).cells ({ frames := 0, cells := 0, slots := 0, locals := 0 } : Room).slots) := by
  refine MetFree.of_bodySF (plainFor_of_name own_pn1) hisR ?_
  intro p e s m args below meth c s₁ Bd hml0 hP hK
  obtain ⟨rfl, hZ, hh⟩ := hP
  have hx := Bd.exec
  have hby := Bd.bytes
  have hml : c.maxLocals = 5 := hml0
  have hown : s.vm.findClass oz0 = some m.cls := findClass_of_methodNamed Bd.named
  have hnm := (name_of_methodNamed Bd.named Bd.method).1
  have X0 : Stand p l e ({ frames := 0, cells := 0, slots := 0, locals := 0 } : Room) s m #[(.ref o), (.int x1)] below meth c s₁ [] 0 0 := Stand.of_body Bd
  have e0 : s₁.heap = h0 := by rw [← hh, Bd.state]; rfl
  have N0 := Fr.nil n0
  have pre0 : ∀ t, Steps p.tables e below (s₁.setTop (mkF m 0 #[rv o, iv x1, .unset, .unset, .unset] [])) t → Steps p.tables e below (s₁.setTop (entryFrame m #[(.ref o), (.int x1)] 5)) t := fun t k => castTop (efC3 m o x1) k
  obtain ⟨T1, X1, e1, st1⟩ := getF X0 hx hZ hown (host := "") (Or.inl (own_w hw 30 rfl)) Via.refl e0 F_size_o (g := (mkF m 3 #[rv o, iv x1, iv (0 : Int32), .unset, .unset] [(.ref o)])) rfl rfl (hb hby d6_3)
  obtain ⟨T2, X2, e2, st2⟩ := getF X1 hx hZ hown (host := "") (Or.inl (own_w hw 20 rfl)) Via.refl e1 F_values_o (g := (mkF m 20 #[rv o, iv x1, iv (0 : Int32), iv (3 : Int32), iv (1 : Int32)] [(.ref o)])) rfl rfl (hb hby d6_20)
  obtain ⟨cl3, Ar3, qk3, Sz3, Ng3, Hs3, Gt3⟩ := id V_a
  have hin3 : ¬ ((1 : Int32) < 0 ∨ cl3.slots.size ≤ ((1 : Int32)).toNatClampNeg) := inb_of Sz3 ⟨by decide, by decide⟩
  have hat3 : cl3.slots[((1 : Int32)).toNatClampNeg]? = some (.int w1) := Hs3.at hin3 rfl
  have pre4 : ∀ tz, oS p e below T2 m 27 #[rv o, iv x1, iv (0 : Int32), iv (3 : Int32), iv (1 : Int32)] [(.int x1), (.int w1)] tz → oS p e below s₁ m 0 #[rv o, iv x1, .unset, .unset, .unset] [] tz := fun tz kt => by
    show oS p e below s₁ m 0 #[rv o, iv x1, .unset, .unset, .unset] [] _
    refine XS.iconst X0.here hx rfl (hb hby d6_0) ?_
    refine XS.istoreN X0.here hx rfl (hb hby d6_1) rfl (l' := #[rv o, iv x1, iv (0 : Int32), .unset, .unset]) rfl ?_
    refine XS.aloadN X0.here hx rfl (hb hby d6_2) rfl rfl ?_
    show oS p e below s₁ m 3 #[rv o, iv x1, iv (0 : Int32), .unset, .unset] [(.ref o)] _
    refine st1 _ ?_
    refine XS.istoreN X1.here hx rfl (hb hby d6_6) rfl (l' := #[rv o, iv x1, iv (0 : Int32), iv (3 : Int32), .unset]) rfl ?_
    refine XS.iloadN X1.here hx rfl (hb hby d6_7) rfl ?_
    refine XS.iloadN X1.here hx rfl (hb hby d6_8) rfl ?_
    show oS p e below T1 m 9 #[rv o, iv x1, iv (0 : Int32), iv (3 : Int32), .unset] [(.int (3 : Int32)), (.int (0 : Int32))] _
    refine XS.icmpNo X1.here hx rfl (hb hby d6_9) rfl (tlt (by decide : ((0 : Int32) < (3 : Int32)))).2.1 ?_
    refine XS.iloadN X1.here hx rfl (hb hby d6_12) rfl ?_
    refine XS.iloadN X1.here hx rfl (hb hby d6_13) rfl ?_
    refine XS.iadd X1.here hx rfl (hb hby d6_14) rfl ?_
    show oS p e below T1 m 15 #[rv o, iv x1, iv (0 : Int32), iv (3 : Int32), .unset] [(.int (3 : Int32))] _
    refine XS.iconst X1.here hx rfl (hb hby d6_15) ?_
    refine XS.iushr X1.here hx rfl (hb hby d6_16) rfl ?_
    show oS p e below T1 m 17 #[rv o, iv x1, iv (0 : Int32), iv (3 : Int32), .unset] [(.int (1 : Int32))] _
    refine XS.istore X1.here hx rfl (hb hby d6_17) rfl (l' := #[rv o, iv x1, iv (0 : Int32), iv (3 : Int32), iv (1 : Int32)]) rfl ?_
    refine XS.aloadN X1.here hx rfl (hb hby d6_19) rfl rfl ?_
    show oS p e below T1 m 20 #[rv o, iv x1, iv (0 : Int32), iv (3 : Int32), iv (1 : Int32)] [(.ref o)] _
    refine st2 _ ?_
    refine XS.iload X2.here hx rfl (hb hby d6_23) rfl ?_
    refine X2.iaload hx (j := (1 : Int32)) (v := (.int w1)) (by rw [e2]; exact Ar3.1) (State.isArrayOf_alike hZ.alike Ar3.2.1) Ar3.2.2 hin3 hat3 (g := (mkF m 25 #[rv o, iv x1, iv (0 : Int32), iv (3 : Int32), iv (1 : Int32)] [(.int (1 : Int32)), (.ref a)])) rfl rfl (hb hby d6_25) _ ?_
    refine XS.iloadN X2.here hx rfl (hb hby d6_26) rfl ?_
    exact kt
  by_cases hc27 : x1 < w1
  · obtain ⟨T5, X5, e5, st5⟩ := getF X2 hx hZ hown (host := "") (Or.inl (own_w hw 20 rfl)) Via.refl e2 F_values_o (g := (mkF m 20 #[rv o, iv x1, iv (0 : Int32), iv (1 : Int32), iv (0 : Int32)] [(.ref o)])) rfl rfl (hb hby d6_20)
    obtain ⟨cl6, Ar6, qk6, Sz6, Ng6, Hs6, Gt6⟩ := id V_a
    have hin6 : ¬ ((0 : Int32) < 0 ∨ cl6.slots.size ≤ ((0 : Int32)).toNatClampNeg) := inb_of Sz6 ⟨by decide, by decide⟩
    have hat6 : cl6.slots[((0 : Int32)).toNatClampNeg]? = some (.int w0) := Hs6.at hin6 rfl
    have pre7 : ∀ tz, oS p e below T5 m 27 #[rv o, iv x1, iv (0 : Int32), iv (1 : Int32), iv (0 : Int32)] [(.int x1), (.int w0)] tz → oS p e below T2 m 27 #[rv o, iv x1, iv (0 : Int32), iv (3 : Int32), iv (1 : Int32)] [(.int x1), (.int w1)] tz := fun tz kt => by
      show oS p e below T2 m 27 #[rv o, iv x1, iv (0 : Int32), iv (3 : Int32), iv (1 : Int32)] [(.int x1), (.int w1)] _
      refine XS.icmpYes X2.here hx rfl (pc0 := 27) (pc' := 38) rfl (hb hby d6_27) rfl (tlt hc27).2.2.1 (by decide) (by decide) ?_
      refine XS.iload X2.here hx rfl (hb hby d6_38) rfl ?_
      refine XS.istoreN X2.here hx rfl (hb hby d6_40) rfl (l' := #[rv o, iv x1, iv (0 : Int32), iv (1 : Int32), iv (1 : Int32)]) rfl ?_
      refine XS.goto X2.here hx rfl (pc0 := 41) (pc' := 7) rfl (hb hby d6_41) (by decide) (by decide) ?_
      show oS p e below T2 m 7 #[rv o, iv x1, iv (0 : Int32), iv (1 : Int32), iv (1 : Int32)] [] _
      refine XS.iloadN X2.here hx rfl (hb hby d6_7) rfl ?_
      refine XS.iloadN X2.here hx rfl (hb hby d6_8) rfl ?_
      refine XS.icmpNo X2.here hx rfl (hb hby d6_9) rfl (tlt (by decide : ((0 : Int32) < (1 : Int32)))).2.1 ?_
      refine XS.iloadN X2.here hx rfl (hb hby d6_12) rfl ?_
      show oS p e below T2 m 13 #[rv o, iv x1, iv (0 : Int32), iv (1 : Int32), iv (1 : Int32)] [(.int (0 : Int32))] _
      refine XS.iloadN X2.here hx rfl (hb hby d6_13) rfl ?_
      refine XS.iadd X2.here hx rfl (hb hby d6_14) rfl ?_
      show oS p e below T2 m 15 #[rv o, iv x1, iv (0 : Int32), iv (1 : Int32), iv (1 : Int32)] [(.int (1 : Int32))] _
      refine XS.iconst X2.here hx rfl (hb hby d6_15) ?_
      refine XS.iushr X2.here hx rfl (hb hby d6_16) rfl ?_
      show oS p e below T2 m 17 #[rv o, iv x1, iv (0 : Int32), iv (1 : Int32), iv (1 : Int32)] [(.int (0 : Int32))] _
      refine XS.istore X2.here hx rfl (hb hby d6_17) rfl (l' := #[rv o, iv x1, iv (0 : Int32), iv (1 : Int32), iv (0 : Int32)]) rfl ?_
      refine XS.aloadN X2.here hx rfl (hb hby d6_19) rfl rfl ?_
      show oS p e below T2 m 20 #[rv o, iv x1, iv (0 : Int32), iv (1 : Int32), iv (0 : Int32)] [(.ref o)] _
      refine st5 _ ?_
      refine XS.iload X5.here hx rfl (hb hby d6_23) rfl ?_
      refine X5.iaload hx (j := (0 : Int32)) (v := (.int w0)) (by rw [e5]; exact Ar6.1) (State.isArrayOf_alike hZ.alike Ar6.2.1) Ar6.2.2 hin6 hat6 (g := (mkF m 25 #[rv o, iv x1, iv (0 : Int32), iv (1 : Int32), iv (0 : Int32)] [(.int (0 : Int32)), (.ref a)])) rfl rfl (hb hby d6_25) _ ?_
      refine XS.iloadN X5.here hx rfl (hb hby d6_26) rfl ?_
      exact kt
    by_cases hc27_2 : x1 < w0
    · have pre8 : ∀ tz, oS p e below T5 m 45 #[rv o, iv x1, iv (0 : Int32), iv (0 : Int32), iv (0 : Int32)] [(.int (0 : Int32))] tz → oS p e below T5 m 27 #[rv o, iv x1, iv (0 : Int32), iv (1 : Int32), iv (0 : Int32)] [(.int x1), (.int w0)] tz := fun tz kt => by
        show oS p e below T5 m 27 #[rv o, iv x1, iv (0 : Int32), iv (1 : Int32), iv (0 : Int32)] [(.int x1), (.int w0)] _
        refine XS.icmpYes X5.here hx rfl (pc0 := 27) (pc' := 38) rfl (hb hby d6_27) rfl (tlt hc27_2).2.2.1 (by decide) (by decide) ?_
        refine XS.iload X5.here hx rfl (hb hby d6_38) rfl ?_
        refine XS.istoreN X5.here hx rfl (hb hby d6_40) rfl (l' := #[rv o, iv x1, iv (0 : Int32), iv (0 : Int32), iv (0 : Int32)]) rfl ?_
        refine XS.goto X5.here hx rfl (pc0 := 41) (pc' := 7) rfl (hb hby d6_41) (by decide) (by decide) ?_
        show oS p e below T5 m 7 #[rv o, iv x1, iv (0 : Int32), iv (0 : Int32), iv (0 : Int32)] [] _
        refine XS.iloadN X5.here hx rfl (hb hby d6_7) rfl ?_
        refine XS.iloadN X5.here hx rfl (hb hby d6_8) rfl ?_
        refine XS.icmpYes X5.here hx rfl (pc0 := 9) (pc' := 44) rfl (hb hby d6_9) rfl (flt (by decide : ¬ ((0 : Int32) < (0 : Int32)))).2.1 (by decide) (by decide) ?_
        refine XS.iloadN X5.here hx rfl (hb hby d6_44) rfl ?_
        exact kt
      obtain ⟨fs, hr, hrun, hended, hW, hsame⟩ := X5.leave (v := some (.int (0 : Int32))) (fun h => by rw [Bd.returns] at h; cases h)
      refine ⟨_, _, pre0 _ (pre4 _ (pre7 _ (pre8 _ ?_))), hrun, hended, _, _, rfl, ?_, ⟨_, rfl⟩, hW, hsame.mono (by decide) (by decide)⟩
      · show oS p e below T5 m 45 #[rv o, iv x1, iv (0 : Int32), iv (0 : Int32), iv (0 : Int32)] [(.int (0 : Int32))] _
        exact retOut X5 hx Bd.returns rfl (Or.inl ⟨rfl, Or.inl rfl, _, rfl⟩) (hb hby d6_45) hr
      · show QC3 Z o x1 w0 w1 w2 a k1 h0 n0 _ T5.heap _
        rw [e5]
        exact ⟨(by first | rfl | simp only [if_pos hc27, if_pos hc27_2]), N0, rfl⟩
    · have pre9 : ∀ tz, oS p e below T5 m 45 #[rv o, iv x1, iv (1 : Int32), iv (1 : Int32), iv (0 : Int32)] [(.int (1 : Int32))] tz → oS p e below T5 m 27 #[rv o, iv x1, iv (0 : Int32), iv (1 : Int32), iv (0 : Int32)] [(.int x1), (.int w0)] tz := fun tz kt => by
        show oS p e below T5 m 27 #[rv o, iv x1, iv (0 : Int32), iv (1 : Int32), iv (0 : Int32)] [(.int x1), (.int w0)] _
        refine XS.icmpNo X5.here hx rfl (hb hby d6_27) rfl (flt hc27_2).2.2.1 ?_
        refine XS.iload X5.here hx rfl (hb hby d6_30) rfl ?_
        refine XS.iconst X5.here hx rfl (hb hby d6_32) ?_
        refine XS.iadd X5.here hx rfl (hb hby d6_33) rfl ?_
        show oS p e below T5 m 34 #[rv o, iv x1, iv (0 : Int32), iv (1 : Int32), iv (0 : Int32)] [(.int (1 : Int32))] _
        refine XS.istoreN X5.here hx rfl (hb hby d6_34) rfl (l' := #[rv o, iv x1, iv (1 : Int32), iv (1 : Int32), iv (0 : Int32)]) rfl ?_
        refine XS.goto X5.here hx rfl (pc0 := 35) (pc' := 41) rfl (hb hby d6_35) (by decide) (by decide) ?_
        refine XS.goto X5.here hx rfl (pc0 := 41) (pc' := 7) rfl (hb hby d6_41) (by decide) (by decide) ?_
        refine XS.iloadN X5.here hx rfl (hb hby d6_7) rfl ?_
        show oS p e below T5 m 8 #[rv o, iv x1, iv (1 : Int32), iv (1 : Int32), iv (0 : Int32)] [(.int (1 : Int32))] _
        refine XS.iloadN X5.here hx rfl (hb hby d6_8) rfl ?_
        refine XS.icmpYes X5.here hx rfl (pc0 := 9) (pc' := 44) rfl (hb hby d6_9) rfl (flt (by decide : ¬ ((1 : Int32) < (1 : Int32)))).2.1 (by decide) (by decide) ?_
        refine XS.iloadN X5.here hx rfl (hb hby d6_44) rfl ?_
        exact kt
      obtain ⟨fs, hr, hrun, hended, hW, hsame⟩ := X5.leave (v := some (.int (1 : Int32))) (fun h => by rw [Bd.returns] at h; cases h)
      refine ⟨_, _, pre0 _ (pre4 _ (pre7 _ (pre9 _ ?_))), hrun, hended, _, _, rfl, ?_, ⟨_, rfl⟩, hW, hsame.mono (by decide) (by decide)⟩
      · show oS p e below T5 m 45 #[rv o, iv x1, iv (1 : Int32), iv (1 : Int32), iv (0 : Int32)] [(.int (1 : Int32))] _
        exact retOut X5 hx Bd.returns rfl (Or.inl ⟨rfl, Or.inl rfl, _, rfl⟩) (hb hby d6_45) hr
      · show QC3 Z o x1 w0 w1 w2 a k1 h0 n0 _ T5.heap _
        rw [e5]
        exact ⟨(by first | rfl | simp only [if_pos hc27, if_neg hc27_2]), N0, rfl⟩
  · obtain ⟨T10, X10, e10, st10⟩ := getF X2 hx hZ hown (host := "") (Or.inl (own_w hw 20 rfl)) Via.refl e2 F_values_o (g := (mkF m 20 #[rv o, iv x1, iv (2 : Int32), iv (3 : Int32), iv (2 : Int32)] [(.ref o)])) rfl rfl (hb hby d6_20)
    obtain ⟨cl11, Ar11, qk11, Sz11, Ng11, Hs11, Gt11⟩ := id V_a
    have hin11 : ¬ ((2 : Int32) < 0 ∨ cl11.slots.size ≤ ((2 : Int32)).toNatClampNeg) := inb_of Sz11 ⟨by decide, by decide⟩
    have hat11 : cl11.slots[((2 : Int32)).toNatClampNeg]? = some (.int w2) := Hs11.at hin11 rfl
    have pre12 : ∀ tz, oS p e below T10 m 27 #[rv o, iv x1, iv (2 : Int32), iv (3 : Int32), iv (2 : Int32)] [(.int x1), (.int w2)] tz → oS p e below T2 m 27 #[rv o, iv x1, iv (0 : Int32), iv (3 : Int32), iv (1 : Int32)] [(.int x1), (.int w1)] tz := fun tz kt => by
      show oS p e below T2 m 27 #[rv o, iv x1, iv (0 : Int32), iv (3 : Int32), iv (1 : Int32)] [(.int x1), (.int w1)] _
      refine XS.icmpNo X2.here hx rfl (hb hby d6_27) rfl (flt hc27).2.2.1 ?_
      refine XS.iload X2.here hx rfl (hb hby d6_30) rfl ?_
      refine XS.iconst X2.here hx rfl (hb hby d6_32) ?_
      refine XS.iadd X2.here hx rfl (hb hby d6_33) rfl ?_
      show oS p e below T2 m 34 #[rv o, iv x1, iv (0 : Int32), iv (3 : Int32), iv (1 : Int32)] [(.int (2 : Int32))] _
      refine XS.istoreN X2.here hx rfl (hb hby d6_34) rfl (l' := #[rv o, iv x1, iv (2 : Int32), iv (3 : Int32), iv (1 : Int32)]) rfl ?_
      refine XS.goto X2.here hx rfl (pc0 := 35) (pc' := 41) rfl (hb hby d6_35) (by decide) (by decide) ?_
      refine XS.goto X2.here hx rfl (pc0 := 41) (pc' := 7) rfl (hb hby d6_41) (by decide) (by decide) ?_
      refine XS.iloadN X2.here hx rfl (hb hby d6_7) rfl ?_
      show oS p e below T2 m 8 #[rv o, iv x1, iv (2 : Int32), iv (3 : Int32), iv (1 : Int32)] [(.int (2 : Int32))] _
      refine XS.iloadN X2.here hx rfl (hb hby d6_8) rfl ?_
      refine XS.icmpNo X2.here hx rfl (hb hby d6_9) rfl (tlt (by decide : ((2 : Int32) < (3 : Int32)))).2.1 ?_
      refine XS.iloadN X2.here hx rfl (hb hby d6_12) rfl ?_
      refine XS.iloadN X2.here hx rfl (hb hby d6_13) rfl ?_
      show oS p e below T2 m 14 #[rv o, iv x1, iv (2 : Int32), iv (3 : Int32), iv (1 : Int32)] [(.int (3 : Int32)), (.int (2 : Int32))] _
      refine XS.iadd X2.here hx rfl (hb hby d6_14) rfl ?_
      show oS p e below T2 m 15 #[rv o, iv x1, iv (2 : Int32), iv (3 : Int32), iv (1 : Int32)] [(.int (5 : Int32))] _
      refine XS.iconst X2.here hx rfl (hb hby d6_15) ?_
      refine XS.iushr X2.here hx rfl (hb hby d6_16) rfl ?_
      show oS p e below T2 m 17 #[rv o, iv x1, iv (2 : Int32), iv (3 : Int32), iv (1 : Int32)] [(.int (2 : Int32))] _
      refine XS.istore X2.here hx rfl (hb hby d6_17) rfl (l' := #[rv o, iv x1, iv (2 : Int32), iv (3 : Int32), iv (2 : Int32)]) rfl ?_
      refine XS.aloadN X2.here hx rfl (hb hby d6_19) rfl rfl ?_
      show oS p e below T2 m 20 #[rv o, iv x1, iv (2 : Int32), iv (3 : Int32), iv (2 : Int32)] [(.ref o)] _
      refine st10 _ ?_
      refine XS.iload X10.here hx rfl (hb hby d6_23) rfl ?_
      refine X10.iaload hx (j := (2 : Int32)) (v := (.int w2)) (by rw [e10]; exact Ar11.1) (State.isArrayOf_alike hZ.alike Ar11.2.1) Ar11.2.2 hin11 hat11 (g := (mkF m 25 #[rv o, iv x1, iv (2 : Int32), iv (3 : Int32), iv (2 : Int32)] [(.int (2 : Int32)), (.ref a)])) rfl rfl (hb hby d6_25) _ ?_
      refine XS.iloadN X10.here hx rfl (hb hby d6_26) rfl ?_
      exact kt
    by_cases hc27_2 : x1 < w2
    · have pre13 : ∀ tz, oS p e below T10 m 45 #[rv o, iv x1, iv (2 : Int32), iv (2 : Int32), iv (2 : Int32)] [(.int (2 : Int32))] tz → oS p e below T10 m 27 #[rv o, iv x1, iv (2 : Int32), iv (3 : Int32), iv (2 : Int32)] [(.int x1), (.int w2)] tz := fun tz kt => by
        show oS p e below T10 m 27 #[rv o, iv x1, iv (2 : Int32), iv (3 : Int32), iv (2 : Int32)] [(.int x1), (.int w2)] _
        refine XS.icmpYes X10.here hx rfl (pc0 := 27) (pc' := 38) rfl (hb hby d6_27) rfl (tlt hc27_2).2.2.1 (by decide) (by decide) ?_
        refine XS.iload X10.here hx rfl (hb hby d6_38) rfl ?_
        refine XS.istoreN X10.here hx rfl (hb hby d6_40) rfl (l' := #[rv o, iv x1, iv (2 : Int32), iv (2 : Int32), iv (2 : Int32)]) rfl ?_
        refine XS.goto X10.here hx rfl (pc0 := 41) (pc' := 7) rfl (hb hby d6_41) (by decide) (by decide) ?_
        show oS p e below T10 m 7 #[rv o, iv x1, iv (2 : Int32), iv (2 : Int32), iv (2 : Int32)] [] _
        refine XS.iloadN X10.here hx rfl (hb hby d6_7) rfl ?_
        refine XS.iloadN X10.here hx rfl (hb hby d6_8) rfl ?_
        refine XS.icmpYes X10.here hx rfl (pc0 := 9) (pc' := 44) rfl (hb hby d6_9) rfl (flt (by decide : ¬ ((2 : Int32) < (2 : Int32)))).2.1 (by decide) (by decide) ?_
        refine XS.iloadN X10.here hx rfl (hb hby d6_44) rfl ?_
        exact kt
      obtain ⟨fs, hr, hrun, hended, hW, hsame⟩ := X10.leave (v := some (.int (2 : Int32))) (fun h => by rw [Bd.returns] at h; cases h)
      refine ⟨_, _, pre0 _ (pre4 _ (pre12 _ (pre13 _ ?_))), hrun, hended, _, _, rfl, ?_, ⟨_, rfl⟩, hW, hsame.mono (by decide) (by decide)⟩
      · show oS p e below T10 m 45 #[rv o, iv x1, iv (2 : Int32), iv (2 : Int32), iv (2 : Int32)] [(.int (2 : Int32))] _
        exact retOut X10 hx Bd.returns rfl (Or.inl ⟨rfl, Or.inl rfl, _, rfl⟩) (hb hby d6_45) hr
      · show QC3 Z o x1 w0 w1 w2 a k1 h0 n0 _ T10.heap _
        rw [e10]
        exact ⟨(by first | rfl | simp only [if_neg hc27, if_pos hc27_2]), N0, rfl⟩
    · have pre14 : ∀ tz, oS p e below T10 m 45 #[rv o, iv x1, iv (3 : Int32), iv (3 : Int32), iv (2 : Int32)] [(.int (3 : Int32))] tz → oS p e below T10 m 27 #[rv o, iv x1, iv (2 : Int32), iv (3 : Int32), iv (2 : Int32)] [(.int x1), (.int w2)] tz := fun tz kt => by
        show oS p e below T10 m 27 #[rv o, iv x1, iv (2 : Int32), iv (3 : Int32), iv (2 : Int32)] [(.int x1), (.int w2)] _
        refine XS.icmpNo X10.here hx rfl (hb hby d6_27) rfl (flt hc27_2).2.2.1 ?_
        refine XS.iload X10.here hx rfl (hb hby d6_30) rfl ?_
        refine XS.iconst X10.here hx rfl (hb hby d6_32) ?_
        refine XS.iadd X10.here hx rfl (hb hby d6_33) rfl ?_
        show oS p e below T10 m 34 #[rv o, iv x1, iv (2 : Int32), iv (3 : Int32), iv (2 : Int32)] [(.int (3 : Int32))] _
        refine XS.istoreN X10.here hx rfl (hb hby d6_34) rfl (l' := #[rv o, iv x1, iv (3 : Int32), iv (3 : Int32), iv (2 : Int32)]) rfl ?_
        refine XS.goto X10.here hx rfl (pc0 := 35) (pc' := 41) rfl (hb hby d6_35) (by decide) (by decide) ?_
        refine XS.goto X10.here hx rfl (pc0 := 41) (pc' := 7) rfl (hb hby d6_41) (by decide) (by decide) ?_
        refine XS.iloadN X10.here hx rfl (hb hby d6_7) rfl ?_
        show oS p e below T10 m 8 #[rv o, iv x1, iv (3 : Int32), iv (3 : Int32), iv (2 : Int32)] [(.int (3 : Int32))] _
        refine XS.iloadN X10.here hx rfl (hb hby d6_8) rfl ?_
        refine XS.icmpYes X10.here hx rfl (pc0 := 9) (pc' := 44) rfl (hb hby d6_9) rfl (flt (by decide : ¬ ((3 : Int32) < (3 : Int32)))).2.1 (by decide) (by decide) ?_
        refine XS.iloadN X10.here hx rfl (hb hby d6_44) rfl ?_
        exact kt
      obtain ⟨fs, hr, hrun, hended, hW, hsame⟩ := X10.leave (v := some (.int (3 : Int32))) (fun h => by rw [Bd.returns] at h; cases h)
      refine ⟨_, _, pre0 _ (pre4 _ (pre12 _ (pre14 _ ?_))), hrun, hended, _, _, rfl, ?_, ⟨_, rfl⟩, hW, hsame.mono (by decide) (by decide)⟩
      · show oS p e below T10 m 45 #[rv o, iv x1, iv (3 : Int32), iv (3 : Int32), iv (2 : Int32)] [(.int (3 : Int32))] _
        exact retOut X10 hx Bd.returns rfl (Or.inl ⟨rfl, Or.inl rfl, _, rfl⟩) (hb hby d6_45) hr
      · show QC3 Z o x1 w0 w1 w2 a k1 h0 n0 _ T10.heap _
        rw [e10]
        exact ⟨(by first | rfl | simp only [if_neg hc27, if_neg hc27_2]), N0, rfl⟩
theorem efC4 (m : MethodId) (o : Addr) (x1 : Int32) : entryFrame m #[(.ref o), (.int x1)] 5 = mkF m 0 #[rv o, iv x1, .unset, .unset, .unset] [] := by first | (simp [entryFrame, mkF, argsToLocals, Value.category]; done) | rfl
def QC4 (Z : State) (o : Addr) (x1 : Int32) (w0 : Int32) (w1 : Int32) (w2 : Int32) (w3 : Int32) (a : Addr) (k1 : ClassId) (h0 : Heap) (n0 : Nat) (v : Option Value) (h : Heap) (L : List Loc) : Prop := v = some (.int (if x1 < w2 then (if x1 < w1 then (if x1 < w0 then (0 : Int32) else (1 : Int32)) else (2 : Int32)) else (if x1 < w3 then (3 : Int32) else (4 : Int32)))) ∧ Fr n0 L ∧ h = h0
set_option maxRecDepth 65536 in
set_option maxHeartbeats 40000000 in
theorem rmC4 (l : Launch) (Z : State) (a0 : Array Value) (hw : ∀ d ∈ tables_1, d.before a0 Z = true) (ws : List Jvm.Cond) (o : Addr) (x1 : Int32) (w0 : Int32) (w1 : Int32) (w2 : Int32) (w3 : Int32) (a : Addr) (k1 : ClassId) (h0 : Heap) (n0 : Nat) (Z0 : n0 ≤ h0.size) (E_o : Exa Z h0 o oz0) (F_size_o : Fld Z h0 o oz0 "size" "I" (.int (4 : Int32))) (F_values_o : Fld Z h0 o oz0 "values" "[I" (.ref a)) (V_a : Arv Z h0 a k1 .int (4 : Int32) [(.int w0), (.int w1), (.int w2), (.int w3)] (.int (0 : Int32))) :
    MetFree l (⟨oz0, "countAtMost", "(I)I"⟩ : MethodName) (head1 (Jvm.Cond.code (⟨oz0, "countAtMost", "(I)I"⟩ : MethodName) prog_30_method_9_code 5 (some .int) :: ws) ({ frames := 0, cells := 0, slots := 0, locals := 0 } : Room)) (fun a U => a = #[(.ref o), (.int x1)] ∧ Z.Warmed39 U.vm ∧ U.heap = h0) (fun _ _ _ _ _ => True) (fun _ U oc U' => ∃ v L, oc = .returned v ∧ QC4 Z o x1 w0 w1 w2 w3 a k1 h0 n0 v U'.heap L ∧ FrameEnd U oc U' L ({ frames := 0, cells := 0, slots := 0, locals := 0 } : Room).cells ({ frames := 0, cells := 0, slots := 0, locals := 0 } : Room).slots) := by
  refine MetFree.of_bodySF (plainFor_of_name own_pn1) hisR ?_
  intro p e s m args below meth c s₁ Bd hml0 hP hK
  obtain ⟨rfl, hZ, hh⟩ := hP
  have hx := Bd.exec
  have hby := Bd.bytes
  have hml : c.maxLocals = 5 := hml0
  have hown : s.vm.findClass oz0 = some m.cls := findClass_of_methodNamed Bd.named
  have hnm := (name_of_methodNamed Bd.named Bd.method).1
  have X0 : Stand p l e ({ frames := 0, cells := 0, slots := 0, locals := 0 } : Room) s m #[(.ref o), (.int x1)] below meth c s₁ [] 0 0 := Stand.of_body Bd
  have e0 : s₁.heap = h0 := by rw [← hh, Bd.state]; rfl
  have N0 := Fr.nil n0
  have pre0 : ∀ t, Steps p.tables e below (s₁.setTop (mkF m 0 #[rv o, iv x1, .unset, .unset, .unset] [])) t → Steps p.tables e below (s₁.setTop (entryFrame m #[(.ref o), (.int x1)] 5)) t := fun t k => castTop (efC4 m o x1) k
  obtain ⟨T1, X1, e1, st1⟩ := getF X0 hx hZ hown (host := "") (Or.inl (own_w hw 30 rfl)) Via.refl e0 F_size_o (g := (mkF m 3 #[rv o, iv x1, iv (0 : Int32), .unset, .unset] [(.ref o)])) rfl rfl (hb hby d6_3)
  obtain ⟨T2, X2, e2, st2⟩ := getF X1 hx hZ hown (host := "") (Or.inl (own_w hw 20 rfl)) Via.refl e1 F_values_o (g := (mkF m 20 #[rv o, iv x1, iv (0 : Int32), iv (4 : Int32), iv (2 : Int32)] [(.ref o)])) rfl rfl (hb hby d6_20)
  obtain ⟨cl3, Ar3, qk3, Sz3, Ng3, Hs3, Gt3⟩ := id V_a
  have hin3 : ¬ ((2 : Int32) < 0 ∨ cl3.slots.size ≤ ((2 : Int32)).toNatClampNeg) := inb_of Sz3 ⟨by decide, by decide⟩
  have hat3 : cl3.slots[((2 : Int32)).toNatClampNeg]? = some (.int w2) := Hs3.at hin3 rfl
  have pre4 : ∀ tz, oS p e below T2 m 27 #[rv o, iv x1, iv (0 : Int32), iv (4 : Int32), iv (2 : Int32)] [(.int x1), (.int w2)] tz → oS p e below s₁ m 0 #[rv o, iv x1, .unset, .unset, .unset] [] tz := fun tz kt => by
    show oS p e below s₁ m 0 #[rv o, iv x1, .unset, .unset, .unset] [] _
    refine XS.iconst X0.here hx rfl (hb hby d6_0) ?_
    refine XS.istoreN X0.here hx rfl (hb hby d6_1) rfl (l' := #[rv o, iv x1, iv (0 : Int32), .unset, .unset]) rfl ?_
    refine XS.aloadN X0.here hx rfl (hb hby d6_2) rfl rfl ?_
    show oS p e below s₁ m 3 #[rv o, iv x1, iv (0 : Int32), .unset, .unset] [(.ref o)] _
    refine st1 _ ?_
    refine XS.istoreN X1.here hx rfl (hb hby d6_6) rfl (l' := #[rv o, iv x1, iv (0 : Int32), iv (4 : Int32), .unset]) rfl ?_
    refine XS.iloadN X1.here hx rfl (hb hby d6_7) rfl ?_
    refine XS.iloadN X1.here hx rfl (hb hby d6_8) rfl ?_
    show oS p e below T1 m 9 #[rv o, iv x1, iv (0 : Int32), iv (4 : Int32), .unset] [(.int (4 : Int32)), (.int (0 : Int32))] _
    refine XS.icmpNo X1.here hx rfl (hb hby d6_9) rfl (tlt (by decide : ((0 : Int32) < (4 : Int32)))).2.1 ?_
    refine XS.iloadN X1.here hx rfl (hb hby d6_12) rfl ?_
    refine XS.iloadN X1.here hx rfl (hb hby d6_13) rfl ?_
    refine XS.iadd X1.here hx rfl (hb hby d6_14) rfl ?_
    show oS p e below T1 m 15 #[rv o, iv x1, iv (0 : Int32), iv (4 : Int32), .unset] [(.int (4 : Int32))] _
    refine XS.iconst X1.here hx rfl (hb hby d6_15) ?_
    refine XS.iushr X1.here hx rfl (hb hby d6_16) rfl ?_
    show oS p e below T1 m 17 #[rv o, iv x1, iv (0 : Int32), iv (4 : Int32), .unset] [(.int (2 : Int32))] _
    refine XS.istore X1.here hx rfl (hb hby d6_17) rfl (l' := #[rv o, iv x1, iv (0 : Int32), iv (4 : Int32), iv (2 : Int32)]) rfl ?_
    refine XS.aloadN X1.here hx rfl (hb hby d6_19) rfl rfl ?_
    show oS p e below T1 m 20 #[rv o, iv x1, iv (0 : Int32), iv (4 : Int32), iv (2 : Int32)] [(.ref o)] _
    refine st2 _ ?_
    refine XS.iload X2.here hx rfl (hb hby d6_23) rfl ?_
    refine X2.iaload hx (j := (2 : Int32)) (v := (.int w2)) (by rw [e2]; exact Ar3.1) (State.isArrayOf_alike hZ.alike Ar3.2.1) Ar3.2.2 hin3 hat3 (g := (mkF m 25 #[rv o, iv x1, iv (0 : Int32), iv (4 : Int32), iv (2 : Int32)] [(.int (2 : Int32)), (.ref a)])) rfl rfl (hb hby d6_25) _ ?_
    refine XS.iloadN X2.here hx rfl (hb hby d6_26) rfl ?_
    exact kt
  by_cases hc27 : x1 < w2
  · obtain ⟨T5, X5, e5, st5⟩ := getF X2 hx hZ hown (host := "") (Or.inl (own_w hw 20 rfl)) Via.refl e2 F_values_o (g := (mkF m 20 #[rv o, iv x1, iv (0 : Int32), iv (2 : Int32), iv (1 : Int32)] [(.ref o)])) rfl rfl (hb hby d6_20)
    obtain ⟨cl6, Ar6, qk6, Sz6, Ng6, Hs6, Gt6⟩ := id V_a
    have hin6 : ¬ ((1 : Int32) < 0 ∨ cl6.slots.size ≤ ((1 : Int32)).toNatClampNeg) := inb_of Sz6 ⟨by decide, by decide⟩
    have hat6 : cl6.slots[((1 : Int32)).toNatClampNeg]? = some (.int w1) := Hs6.at hin6 rfl
    have pre7 : ∀ tz, oS p e below T5 m 27 #[rv o, iv x1, iv (0 : Int32), iv (2 : Int32), iv (1 : Int32)] [(.int x1), (.int w1)] tz → oS p e below T2 m 27 #[rv o, iv x1, iv (0 : Int32), iv (4 : Int32), iv (2 : Int32)] [(.int x1), (.int w2)] tz := fun tz kt => by
      show oS p e below T2 m 27 #[rv o, iv x1, iv (0 : Int32), iv (4 : Int32), iv (2 : Int32)] [(.int x1), (.int w2)] _
      refine XS.icmpYes X2.here hx rfl (pc0 := 27) (pc' := 38) rfl (hb hby d6_27) rfl (tlt hc27).2.2.1 (by decide) (by decide) ?_
      refine XS.iload X2.here hx rfl (hb hby d6_38) rfl ?_
      refine XS.istoreN X2.here hx rfl (hb hby d6_40) rfl (l' := #[rv o, iv x1, iv (0 : Int32), iv (2 : Int32), iv (2 : Int32)]) rfl ?_
      refine XS.goto X2.here hx rfl (pc0 := 41) (pc' := 7) rfl (hb hby d6_41) (by decide) (by decide) ?_
      show oS p e below T2 m 7 #[rv o, iv x1, iv (0 : Int32), iv (2 : Int32), iv (2 : Int32)] [] _
      refine XS.iloadN X2.here hx rfl (hb hby d6_7) rfl ?_
      refine XS.iloadN X2.here hx rfl (hb hby d6_8) rfl ?_
      refine XS.icmpNo X2.here hx rfl (hb hby d6_9) rfl (tlt (by decide : ((0 : Int32) < (2 : Int32)))).2.1 ?_
      refine XS.iloadN X2.here hx rfl (hb hby d6_12) rfl ?_
      show oS p e below T2 m 13 #[rv o, iv x1, iv (0 : Int32), iv (2 : Int32), iv (2 : Int32)] [(.int (0 : Int32))] _
      refine XS.iloadN X2.here hx rfl (hb hby d6_13) rfl ?_
      refine XS.iadd X2.here hx rfl (hb hby d6_14) rfl ?_
      show oS p e below T2 m 15 #[rv o, iv x1, iv (0 : Int32), iv (2 : Int32), iv (2 : Int32)] [(.int (2 : Int32))] _
      refine XS.iconst X2.here hx rfl (hb hby d6_15) ?_
      refine XS.iushr X2.here hx rfl (hb hby d6_16) rfl ?_
      show oS p e below T2 m 17 #[rv o, iv x1, iv (0 : Int32), iv (2 : Int32), iv (2 : Int32)] [(.int (1 : Int32))] _
      refine XS.istore X2.here hx rfl (hb hby d6_17) rfl (l' := #[rv o, iv x1, iv (0 : Int32), iv (2 : Int32), iv (1 : Int32)]) rfl ?_
      refine XS.aloadN X2.here hx rfl (hb hby d6_19) rfl rfl ?_
      show oS p e below T2 m 20 #[rv o, iv x1, iv (0 : Int32), iv (2 : Int32), iv (1 : Int32)] [(.ref o)] _
      refine st5 _ ?_
      refine XS.iload X5.here hx rfl (hb hby d6_23) rfl ?_
      refine X5.iaload hx (j := (1 : Int32)) (v := (.int w1)) (by rw [e5]; exact Ar6.1) (State.isArrayOf_alike hZ.alike Ar6.2.1) Ar6.2.2 hin6 hat6 (g := (mkF m 25 #[rv o, iv x1, iv (0 : Int32), iv (2 : Int32), iv (1 : Int32)] [(.int (1 : Int32)), (.ref a)])) rfl rfl (hb hby d6_25) _ ?_
      refine XS.iloadN X5.here hx rfl (hb hby d6_26) rfl ?_
      exact kt
    by_cases hc27_2 : x1 < w1
    · obtain ⟨T8, X8, e8, st8⟩ := getF X5 hx hZ hown (host := "") (Or.inl (own_w hw 20 rfl)) Via.refl e5 F_values_o (g := (mkF m 20 #[rv o, iv x1, iv (0 : Int32), iv (1 : Int32), iv (0 : Int32)] [(.ref o)])) rfl rfl (hb hby d6_20)
      obtain ⟨cl9, Ar9, qk9, Sz9, Ng9, Hs9, Gt9⟩ := id V_a
      have hin9 : ¬ ((0 : Int32) < 0 ∨ cl9.slots.size ≤ ((0 : Int32)).toNatClampNeg) := inb_of Sz9 ⟨by decide, by decide⟩
      have hat9 : cl9.slots[((0 : Int32)).toNatClampNeg]? = some (.int w0) := Hs9.at hin9 rfl
      have pre10 : ∀ tz, oS p e below T8 m 27 #[rv o, iv x1, iv (0 : Int32), iv (1 : Int32), iv (0 : Int32)] [(.int x1), (.int w0)] tz → oS p e below T5 m 27 #[rv o, iv x1, iv (0 : Int32), iv (2 : Int32), iv (1 : Int32)] [(.int x1), (.int w1)] tz := fun tz kt => by
        show oS p e below T5 m 27 #[rv o, iv x1, iv (0 : Int32), iv (2 : Int32), iv (1 : Int32)] [(.int x1), (.int w1)] _
        refine XS.icmpYes X5.here hx rfl (pc0 := 27) (pc' := 38) rfl (hb hby d6_27) rfl (tlt hc27_2).2.2.1 (by decide) (by decide) ?_
        refine XS.iload X5.here hx rfl (hb hby d6_38) rfl ?_
        refine XS.istoreN X5.here hx rfl (hb hby d6_40) rfl (l' := #[rv o, iv x1, iv (0 : Int32), iv (1 : Int32), iv (1 : Int32)]) rfl ?_
        refine XS.goto X5.here hx rfl (pc0 := 41) (pc' := 7) rfl (hb hby d6_41) (by decide) (by decide) ?_
        show oS p e below T5 m 7 #[rv o, iv x1, iv (0 : Int32), iv (1 : Int32), iv (1 : Int32)] [] _
        refine XS.iloadN X5.here hx rfl (hb hby d6_7) rfl ?_
        refine XS.iloadN X5.here hx rfl (hb hby d6_8) rfl ?_
        refine XS.icmpNo X5.here hx rfl (hb hby d6_9) rfl (tlt (by decide : ((0 : Int32) < (1 : Int32)))).2.1 ?_
        refine XS.iloadN X5.here hx rfl (hb hby d6_12) rfl ?_
        show oS p e below T5 m 13 #[rv o, iv x1, iv (0 : Int32), iv (1 : Int32), iv (1 : Int32)] [(.int (0 : Int32))] _
        refine XS.iloadN X5.here hx rfl (hb hby d6_13) rfl ?_
        refine XS.iadd X5.here hx rfl (hb hby d6_14) rfl ?_
        show oS p e below T5 m 15 #[rv o, iv x1, iv (0 : Int32), iv (1 : Int32), iv (1 : Int32)] [(.int (1 : Int32))] _
        refine XS.iconst X5.here hx rfl (hb hby d6_15) ?_
        refine XS.iushr X5.here hx rfl (hb hby d6_16) rfl ?_
        show oS p e below T5 m 17 #[rv o, iv x1, iv (0 : Int32), iv (1 : Int32), iv (1 : Int32)] [(.int (0 : Int32))] _
        refine XS.istore X5.here hx rfl (hb hby d6_17) rfl (l' := #[rv o, iv x1, iv (0 : Int32), iv (1 : Int32), iv (0 : Int32)]) rfl ?_
        refine XS.aloadN X5.here hx rfl (hb hby d6_19) rfl rfl ?_
        show oS p e below T5 m 20 #[rv o, iv x1, iv (0 : Int32), iv (1 : Int32), iv (0 : Int32)] [(.ref o)] _
        refine st8 _ ?_
        refine XS.iload X8.here hx rfl (hb hby d6_23) rfl ?_
        refine X8.iaload hx (j := (0 : Int32)) (v := (.int w0)) (by rw [e8]; exact Ar9.1) (State.isArrayOf_alike hZ.alike Ar9.2.1) Ar9.2.2 hin9 hat9 (g := (mkF m 25 #[rv o, iv x1, iv (0 : Int32), iv (1 : Int32), iv (0 : Int32)] [(.int (0 : Int32)), (.ref a)])) rfl rfl (hb hby d6_25) _ ?_
        refine XS.iloadN X8.here hx rfl (hb hby d6_26) rfl ?_
        exact kt
      by_cases hc27_3 : x1 < w0
      · have pre11 : ∀ tz, oS p e below T8 m 45 #[rv o, iv x1, iv (0 : Int32), iv (0 : Int32), iv (0 : Int32)] [(.int (0 : Int32))] tz → oS p e below T8 m 27 #[rv o, iv x1, iv (0 : Int32), iv (1 : Int32), iv (0 : Int32)] [(.int x1), (.int w0)] tz := fun tz kt => by
          show oS p e below T8 m 27 #[rv o, iv x1, iv (0 : Int32), iv (1 : Int32), iv (0 : Int32)] [(.int x1), (.int w0)] _
          refine XS.icmpYes X8.here hx rfl (pc0 := 27) (pc' := 38) rfl (hb hby d6_27) rfl (tlt hc27_3).2.2.1 (by decide) (by decide) ?_
          refine XS.iload X8.here hx rfl (hb hby d6_38) rfl ?_
          refine XS.istoreN X8.here hx rfl (hb hby d6_40) rfl (l' := #[rv o, iv x1, iv (0 : Int32), iv (0 : Int32), iv (0 : Int32)]) rfl ?_
          refine XS.goto X8.here hx rfl (pc0 := 41) (pc' := 7) rfl (hb hby d6_41) (by decide) (by decide) ?_
          show oS p e below T8 m 7 #[rv o, iv x1, iv (0 : Int32), iv (0 : Int32), iv (0 : Int32)] [] _
          refine XS.iloadN X8.here hx rfl (hb hby d6_7) rfl ?_
          refine XS.iloadN X8.here hx rfl (hb hby d6_8) rfl ?_
          refine XS.icmpYes X8.here hx rfl (pc0 := 9) (pc' := 44) rfl (hb hby d6_9) rfl (flt (by decide : ¬ ((0 : Int32) < (0 : Int32)))).2.1 (by decide) (by decide) ?_
          refine XS.iloadN X8.here hx rfl (hb hby d6_44) rfl ?_
          exact kt
        obtain ⟨fs, hr, hrun, hended, hW, hsame⟩ := X8.leave (v := some (.int (0 : Int32))) (fun h => by rw [Bd.returns] at h; cases h)
        refine ⟨_, _, pre0 _ (pre4 _ (pre7 _ (pre10 _ (pre11 _ ?_)))), hrun, hended, _, _, rfl, ?_, ⟨_, rfl⟩, hW, hsame.mono (by decide) (by decide)⟩
        · show oS p e below T8 m 45 #[rv o, iv x1, iv (0 : Int32), iv (0 : Int32), iv (0 : Int32)] [(.int (0 : Int32))] _
          exact retOut X8 hx Bd.returns rfl (Or.inl ⟨rfl, Or.inl rfl, _, rfl⟩) (hb hby d6_45) hr
        · show QC4 Z o x1 w0 w1 w2 w3 a k1 h0 n0 _ T8.heap _
          rw [e8]
          exact ⟨(by first | rfl | simp only [if_pos hc27, if_pos hc27_2, if_pos hc27_3]), N0, rfl⟩
      · have pre12 : ∀ tz, oS p e below T8 m 45 #[rv o, iv x1, iv (1 : Int32), iv (1 : Int32), iv (0 : Int32)] [(.int (1 : Int32))] tz → oS p e below T8 m 27 #[rv o, iv x1, iv (0 : Int32), iv (1 : Int32), iv (0 : Int32)] [(.int x1), (.int w0)] tz := fun tz kt => by
          show oS p e below T8 m 27 #[rv o, iv x1, iv (0 : Int32), iv (1 : Int32), iv (0 : Int32)] [(.int x1), (.int w0)] _
          refine XS.icmpNo X8.here hx rfl (hb hby d6_27) rfl (flt hc27_3).2.2.1 ?_
          refine XS.iload X8.here hx rfl (hb hby d6_30) rfl ?_
          refine XS.iconst X8.here hx rfl (hb hby d6_32) ?_
          refine XS.iadd X8.here hx rfl (hb hby d6_33) rfl ?_
          show oS p e below T8 m 34 #[rv o, iv x1, iv (0 : Int32), iv (1 : Int32), iv (0 : Int32)] [(.int (1 : Int32))] _
          refine XS.istoreN X8.here hx rfl (hb hby d6_34) rfl (l' := #[rv o, iv x1, iv (1 : Int32), iv (1 : Int32), iv (0 : Int32)]) rfl ?_
          refine XS.goto X8.here hx rfl (pc0 := 35) (pc' := 41) rfl (hb hby d6_35) (by decide) (by decide) ?_
          refine XS.goto X8.here hx rfl (pc0 := 41) (pc' := 7) rfl (hb hby d6_41) (by decide) (by decide) ?_
          refine XS.iloadN X8.here hx rfl (hb hby d6_7) rfl ?_
          show oS p e below T8 m 8 #[rv o, iv x1, iv (1 : Int32), iv (1 : Int32), iv (0 : Int32)] [(.int (1 : Int32))] _
          refine XS.iloadN X8.here hx rfl (hb hby d6_8) rfl ?_
          refine XS.icmpYes X8.here hx rfl (pc0 := 9) (pc' := 44) rfl (hb hby d6_9) rfl (flt (by decide : ¬ ((1 : Int32) < (1 : Int32)))).2.1 (by decide) (by decide) ?_
          refine XS.iloadN X8.here hx rfl (hb hby d6_44) rfl ?_
          exact kt
        obtain ⟨fs, hr, hrun, hended, hW, hsame⟩ := X8.leave (v := some (.int (1 : Int32))) (fun h => by rw [Bd.returns] at h; cases h)
        refine ⟨_, _, pre0 _ (pre4 _ (pre7 _ (pre10 _ (pre12 _ ?_)))), hrun, hended, _, _, rfl, ?_, ⟨_, rfl⟩, hW, hsame.mono (by decide) (by decide)⟩
        · show oS p e below T8 m 45 #[rv o, iv x1, iv (1 : Int32), iv (1 : Int32), iv (0 : Int32)] [(.int (1 : Int32))] _
          exact retOut X8 hx Bd.returns rfl (Or.inl ⟨rfl, Or.inl rfl, _, rfl⟩) (hb hby d6_45) hr
        · show QC4 Z o x1 w0 w1 w2 w3 a k1 h0 n0 _ T8.heap _
          rw [e8]
          exact ⟨(by first | rfl | simp only [if_pos hc27, if_pos hc27_2, if_neg hc27_3]), N0, rfl⟩
    · have pre13 : ∀ tz, oS p e below T5 m 45 #[rv o, iv x1, iv (2 : Int32), iv (2 : Int32), iv (1 : Int32)] [(.int (2 : Int32))] tz → oS p e below T5 m 27 #[rv o, iv x1, iv (0 : Int32), iv (2 : Int32), iv (1 : Int32)] [(.int x1), (.int w1)] tz := fun tz kt => by
        show oS p e below T5 m 27 #[rv o, iv x1, iv (0 : Int32), iv (2 : Int32), iv (1 : Int32)] [(.int x1), (.int w1)] _
        refine XS.icmpNo X5.here hx rfl (hb hby d6_27) rfl (flt hc27_2).2.2.1 ?_
        refine XS.iload X5.here hx rfl (hb hby d6_30) rfl ?_
        refine XS.iconst X5.here hx rfl (hb hby d6_32) ?_
        refine XS.iadd X5.here hx rfl (hb hby d6_33) rfl ?_
        show oS p e below T5 m 34 #[rv o, iv x1, iv (0 : Int32), iv (2 : Int32), iv (1 : Int32)] [(.int (2 : Int32))] _
        refine XS.istoreN X5.here hx rfl (hb hby d6_34) rfl (l' := #[rv o, iv x1, iv (2 : Int32), iv (2 : Int32), iv (1 : Int32)]) rfl ?_
        refine XS.goto X5.here hx rfl (pc0 := 35) (pc' := 41) rfl (hb hby d6_35) (by decide) (by decide) ?_
        refine XS.goto X5.here hx rfl (pc0 := 41) (pc' := 7) rfl (hb hby d6_41) (by decide) (by decide) ?_
        refine XS.iloadN X5.here hx rfl (hb hby d6_7) rfl ?_
        show oS p e below T5 m 8 #[rv o, iv x1, iv (2 : Int32), iv (2 : Int32), iv (1 : Int32)] [(.int (2 : Int32))] _
        refine XS.iloadN X5.here hx rfl (hb hby d6_8) rfl ?_
        refine XS.icmpYes X5.here hx rfl (pc0 := 9) (pc' := 44) rfl (hb hby d6_9) rfl (flt (by decide : ¬ ((2 : Int32) < (2 : Int32)))).2.1 (by decide) (by decide) ?_
        refine XS.iloadN X5.here hx rfl (hb hby d6_44) rfl ?_
        exact kt
      obtain ⟨fs, hr, hrun, hended, hW, hsame⟩ := X5.leave (v := some (.int (2 : Int32))) (fun h => by rw [Bd.returns] at h; cases h)
      refine ⟨_, _, pre0 _ (pre4 _ (pre7 _ (pre13 _ ?_))), hrun, hended, _, _, rfl, ?_, ⟨_, rfl⟩, hW, hsame.mono (by decide) (by decide)⟩
      · show oS p e below T5 m 45 #[rv o, iv x1, iv (2 : Int32), iv (2 : Int32), iv (1 : Int32)] [(.int (2 : Int32))] _
        exact retOut X5 hx Bd.returns rfl (Or.inl ⟨rfl, Or.inl rfl, _, rfl⟩) (hb hby d6_45) hr
      · show QC4 Z o x1 w0 w1 w2 w3 a k1 h0 n0 _ T5.heap _
        rw [e5]
        exact ⟨(by first | rfl | simp only [if_pos hc27, if_neg hc27_2]), N0, rfl⟩
  · obtain ⟨T14, X14, e14, st14⟩ := getF X2 hx hZ hown (host := "") (Or.inl (own_w hw 20 rfl)) Via.refl e2 F_values_o (g := (mkF m 20 #[rv o, iv x1, iv (3 : Int32), iv (4 : Int32), iv (3 : Int32)] [(.ref o)])) rfl rfl (hb hby d6_20)
    obtain ⟨cl15, Ar15, qk15, Sz15, Ng15, Hs15, Gt15⟩ := id V_a
    have hin15 : ¬ ((3 : Int32) < 0 ∨ cl15.slots.size ≤ ((3 : Int32)).toNatClampNeg) := inb_of Sz15 ⟨by decide, by decide⟩
    have hat15 : cl15.slots[((3 : Int32)).toNatClampNeg]? = some (.int w3) := Hs15.at hin15 rfl
    have pre16 : ∀ tz, oS p e below T14 m 27 #[rv o, iv x1, iv (3 : Int32), iv (4 : Int32), iv (3 : Int32)] [(.int x1), (.int w3)] tz → oS p e below T2 m 27 #[rv o, iv x1, iv (0 : Int32), iv (4 : Int32), iv (2 : Int32)] [(.int x1), (.int w2)] tz := fun tz kt => by
      show oS p e below T2 m 27 #[rv o, iv x1, iv (0 : Int32), iv (4 : Int32), iv (2 : Int32)] [(.int x1), (.int w2)] _
      refine XS.icmpNo X2.here hx rfl (hb hby d6_27) rfl (flt hc27).2.2.1 ?_
      refine XS.iload X2.here hx rfl (hb hby d6_30) rfl ?_
      refine XS.iconst X2.here hx rfl (hb hby d6_32) ?_
      refine XS.iadd X2.here hx rfl (hb hby d6_33) rfl ?_
      show oS p e below T2 m 34 #[rv o, iv x1, iv (0 : Int32), iv (4 : Int32), iv (2 : Int32)] [(.int (3 : Int32))] _
      refine XS.istoreN X2.here hx rfl (hb hby d6_34) rfl (l' := #[rv o, iv x1, iv (3 : Int32), iv (4 : Int32), iv (2 : Int32)]) rfl ?_
      refine XS.goto X2.here hx rfl (pc0 := 35) (pc' := 41) rfl (hb hby d6_35) (by decide) (by decide) ?_
      refine XS.goto X2.here hx rfl (pc0 := 41) (pc' := 7) rfl (hb hby d6_41) (by decide) (by decide) ?_
      refine XS.iloadN X2.here hx rfl (hb hby d6_7) rfl ?_
      show oS p e below T2 m 8 #[rv o, iv x1, iv (3 : Int32), iv (4 : Int32), iv (2 : Int32)] [(.int (3 : Int32))] _
      refine XS.iloadN X2.here hx rfl (hb hby d6_8) rfl ?_
      refine XS.icmpNo X2.here hx rfl (hb hby d6_9) rfl (tlt (by decide : ((3 : Int32) < (4 : Int32)))).2.1 ?_
      refine XS.iloadN X2.here hx rfl (hb hby d6_12) rfl ?_
      refine XS.iloadN X2.here hx rfl (hb hby d6_13) rfl ?_
      show oS p e below T2 m 14 #[rv o, iv x1, iv (3 : Int32), iv (4 : Int32), iv (2 : Int32)] [(.int (4 : Int32)), (.int (3 : Int32))] _
      refine XS.iadd X2.here hx rfl (hb hby d6_14) rfl ?_
      show oS p e below T2 m 15 #[rv o, iv x1, iv (3 : Int32), iv (4 : Int32), iv (2 : Int32)] [(.int (7 : Int32))] _
      refine XS.iconst X2.here hx rfl (hb hby d6_15) ?_
      refine XS.iushr X2.here hx rfl (hb hby d6_16) rfl ?_
      show oS p e below T2 m 17 #[rv o, iv x1, iv (3 : Int32), iv (4 : Int32), iv (2 : Int32)] [(.int (3 : Int32))] _
      refine XS.istore X2.here hx rfl (hb hby d6_17) rfl (l' := #[rv o, iv x1, iv (3 : Int32), iv (4 : Int32), iv (3 : Int32)]) rfl ?_
      refine XS.aloadN X2.here hx rfl (hb hby d6_19) rfl rfl ?_
      show oS p e below T2 m 20 #[rv o, iv x1, iv (3 : Int32), iv (4 : Int32), iv (3 : Int32)] [(.ref o)] _
      refine st14 _ ?_
      refine XS.iload X14.here hx rfl (hb hby d6_23) rfl ?_
      refine X14.iaload hx (j := (3 : Int32)) (v := (.int w3)) (by rw [e14]; exact Ar15.1) (State.isArrayOf_alike hZ.alike Ar15.2.1) Ar15.2.2 hin15 hat15 (g := (mkF m 25 #[rv o, iv x1, iv (3 : Int32), iv (4 : Int32), iv (3 : Int32)] [(.int (3 : Int32)), (.ref a)])) rfl rfl (hb hby d6_25) _ ?_
      refine XS.iloadN X14.here hx rfl (hb hby d6_26) rfl ?_
      exact kt
    by_cases hc27_2 : x1 < w3
    · have pre17 : ∀ tz, oS p e below T14 m 45 #[rv o, iv x1, iv (3 : Int32), iv (3 : Int32), iv (3 : Int32)] [(.int (3 : Int32))] tz → oS p e below T14 m 27 #[rv o, iv x1, iv (3 : Int32), iv (4 : Int32), iv (3 : Int32)] [(.int x1), (.int w3)] tz := fun tz kt => by
        show oS p e below T14 m 27 #[rv o, iv x1, iv (3 : Int32), iv (4 : Int32), iv (3 : Int32)] [(.int x1), (.int w3)] _
        refine XS.icmpYes X14.here hx rfl (pc0 := 27) (pc' := 38) rfl (hb hby d6_27) rfl (tlt hc27_2).2.2.1 (by decide) (by decide) ?_
        refine XS.iload X14.here hx rfl (hb hby d6_38) rfl ?_
        refine XS.istoreN X14.here hx rfl (hb hby d6_40) rfl (l' := #[rv o, iv x1, iv (3 : Int32), iv (3 : Int32), iv (3 : Int32)]) rfl ?_
        refine XS.goto X14.here hx rfl (pc0 := 41) (pc' := 7) rfl (hb hby d6_41) (by decide) (by decide) ?_
        show oS p e below T14 m 7 #[rv o, iv x1, iv (3 : Int32), iv (3 : Int32), iv (3 : Int32)] [] _
        refine XS.iloadN X14.here hx rfl (hb hby d6_7) rfl ?_
        refine XS.iloadN X14.here hx rfl (hb hby d6_8) rfl ?_
        refine XS.icmpYes X14.here hx rfl (pc0 := 9) (pc' := 44) rfl (hb hby d6_9) rfl (flt (by decide : ¬ ((3 : Int32) < (3 : Int32)))).2.1 (by decide) (by decide) ?_
        refine XS.iloadN X14.here hx rfl (hb hby d6_44) rfl ?_
        exact kt
      obtain ⟨fs, hr, hrun, hended, hW, hsame⟩ := X14.leave (v := some (.int (3 : Int32))) (fun h => by rw [Bd.returns] at h; cases h)
      refine ⟨_, _, pre0 _ (pre4 _ (pre16 _ (pre17 _ ?_))), hrun, hended, _, _, rfl, ?_, ⟨_, rfl⟩, hW, hsame.mono (by decide) (by decide)⟩
      · show oS p e below T14 m 45 #[rv o, iv x1, iv (3 : Int32), iv (3 : Int32), iv (3 : Int32)] [(.int (3 : Int32))] _
        exact retOut X14 hx Bd.returns rfl (Or.inl ⟨rfl, Or.inl rfl, _, rfl⟩) (hb hby d6_45) hr
      · show QC4 Z o x1 w0 w1 w2 w3 a k1 h0 n0 _ T14.heap _
        rw [e14]
        exact ⟨(by first | rfl | simp only [if_neg hc27, if_pos hc27_2]), N0, rfl⟩
    · have pre18 : ∀ tz, oS p e below T14 m 45 #[rv o, iv x1, iv (4 : Int32), iv (4 : Int32), iv (3 : Int32)] [(.int (4 : Int32))] tz → oS p e below T14 m 27 #[rv o, iv x1, iv (3 : Int32), iv (4 : Int32), iv (3 : Int32)] [(.int x1), (.int w3)] tz := fun tz kt => by
        show oS p e below T14 m 27 #[rv o, iv x1, iv (3 : Int32), iv (4 : Int32), iv (3 : Int32)] [(.int x1), (.int w3)] _
        refine XS.icmpNo X14.here hx rfl (hb hby d6_27) rfl (flt hc27_2).2.2.1 ?_
        refine XS.iload X14.here hx rfl (hb hby d6_30) rfl ?_
        refine XS.iconst X14.here hx rfl (hb hby d6_32) ?_
        refine XS.iadd X14.here hx rfl (hb hby d6_33) rfl ?_
        show oS p e below T14 m 34 #[rv o, iv x1, iv (3 : Int32), iv (4 : Int32), iv (3 : Int32)] [(.int (4 : Int32))] _
        refine XS.istoreN X14.here hx rfl (hb hby d6_34) rfl (l' := #[rv o, iv x1, iv (4 : Int32), iv (4 : Int32), iv (3 : Int32)]) rfl ?_
        refine XS.goto X14.here hx rfl (pc0 := 35) (pc' := 41) rfl (hb hby d6_35) (by decide) (by decide) ?_
        refine XS.goto X14.here hx rfl (pc0 := 41) (pc' := 7) rfl (hb hby d6_41) (by decide) (by decide) ?_
        refine XS.iloadN X14.here hx rfl (hb hby d6_7) rfl ?_
        show oS p e below T14 m 8 #[rv o, iv x1, iv (4 : Int32), iv (4 : Int32), iv (3 : Int32)] [(.int (4 : Int32))] _
        refine XS.iloadN X14.here hx rfl (hb hby d6_8) rfl ?_
        refine XS.icmpYes X14.here hx rfl (pc0 := 9) (pc' := 44) rfl (hb hby d6_9) rfl (flt (by decide : ¬ ((4 : Int32) < (4 : Int32)))).2.1 (by decide) (by decide) ?_
        refine XS.iloadN X14.here hx rfl (hb hby d6_44) rfl ?_
        exact kt
      obtain ⟨fs, hr, hrun, hended, hW, hsame⟩ := X14.leave (v := some (.int (4 : Int32))) (fun h => by rw [Bd.returns] at h; cases h)
      refine ⟨_, _, pre0 _ (pre4 _ (pre16 _ (pre18 _ ?_))), hrun, hended, _, _, rfl, ?_, ⟨_, rfl⟩, hW, hsame.mono (by decide) (by decide)⟩
      · show oS p e below T14 m 45 #[rv o, iv x1, iv (4 : Int32), iv (4 : Int32), iv (3 : Int32)] [(.int (4 : Int32))] _
        exact retOut X14 hx Bd.returns rfl (Or.inl ⟨rfl, Or.inl rfl, _, rfl⟩) (hb hby d6_45) hr
      · show QC4 Z o x1 w0 w1 w2 w3 a k1 h0 n0 _ T14.heap _
        rw [e14]
        exact ⟨(by first | rfl | simp only [if_neg hc27, if_neg hc27_2]), N0, rfl⟩
theorem efC5 (m : MethodId) (o : Addr) (x1 : Int32) : entryFrame m #[(.ref o), (.int x1)] 5 = mkF m 0 #[rv o, iv x1, .unset, .unset, .unset] [] := by first | (simp [entryFrame, mkF, argsToLocals, Value.category]; done) | rfl
def QC5 (Z : State) (o : Addr) (x1 : Int32) (w0 : Int32) (w1 : Int32) (w2 : Int32) (w3 : Int32) (w4 : Int32) (a : Addr) (k1 : ClassId) (h0 : Heap) (n0 : Nat) (v : Option Value) (h : Heap) (L : List Loc) : Prop := v = some (.int (if x1 < w2 then (if x1 < w1 then (if x1 < w0 then (0 : Int32) else (1 : Int32)) else (2 : Int32)) else (if x1 < w4 then (if x1 < w3 then (3 : Int32) else (4 : Int32)) else (5 : Int32)))) ∧ Fr n0 L ∧ h = h0
set_option maxRecDepth 65536 in
set_option maxHeartbeats 40000000 in
theorem rmC5 (l : Launch) (Z : State) (a0 : Array Value) (hw : ∀ d ∈ tables_1, d.before a0 Z = true) (ws : List Jvm.Cond) (o : Addr) (x1 : Int32) (w0 : Int32) (w1 : Int32) (w2 : Int32) (w3 : Int32) (w4 : Int32) (a : Addr) (k1 : ClassId) (h0 : Heap) (n0 : Nat) (Z0 : n0 ≤ h0.size) (E_o : Exa Z h0 o oz0) (F_size_o : Fld Z h0 o oz0 "size" "I" (.int (5 : Int32))) (F_values_o : Fld Z h0 o oz0 "values" "[I" (.ref a)) (V_a : Arv Z h0 a k1 .int (8 : Int32) [(.int w0), (.int w1), (.int w2), (.int w3), (.int w4), (.int (0 : Int32)), (.int (0 : Int32)), (.int (0 : Int32))] (.int (0 : Int32))) :
    MetFree l (⟨oz0, "countAtMost", "(I)I"⟩ : MethodName) (head1 (Jvm.Cond.code (⟨oz0, "countAtMost", "(I)I"⟩ : MethodName) prog_30_method_9_code 5 (some .int) :: ws) ({ frames := 0, cells := 0, slots := 0, locals := 0 } : Room)) (fun a U => a = #[(.ref o), (.int x1)] ∧ Z.Warmed39 U.vm ∧ U.heap = h0) (fun _ _ _ _ _ => True) (fun _ U oc U' => ∃ v L, oc = .returned v ∧ QC5 Z o x1 w0 w1 w2 w3 w4 a k1 h0 n0 v U'.heap L ∧ FrameEnd U oc U' L ({ frames := 0, cells := 0, slots := 0, locals := 0 } : Room).cells ({ frames := 0, cells := 0, slots := 0, locals := 0 } : Room).slots) := by
  refine MetFree.of_bodySF (plainFor_of_name own_pn1) hisR ?_
  intro p e s m args below meth c s₁ Bd hml0 hP hK
  obtain ⟨rfl, hZ, hh⟩ := hP
  have hx := Bd.exec
  have hby := Bd.bytes
  have hml : c.maxLocals = 5 := hml0
  have hown : s.vm.findClass oz0 = some m.cls := findClass_of_methodNamed Bd.named
  have hnm := (name_of_methodNamed Bd.named Bd.method).1
  have X0 : Stand p l e ({ frames := 0, cells := 0, slots := 0, locals := 0 } : Room) s m #[(.ref o), (.int x1)] below meth c s₁ [] 0 0 := Stand.of_body Bd
  have e0 : s₁.heap = h0 := by rw [← hh, Bd.state]; rfl
  have N0 := Fr.nil n0
  have pre0 : ∀ t, Steps p.tables e below (s₁.setTop (mkF m 0 #[rv o, iv x1, .unset, .unset, .unset] [])) t → Steps p.tables e below (s₁.setTop (entryFrame m #[(.ref o), (.int x1)] 5)) t := fun t k => castTop (efC5 m o x1) k
  obtain ⟨T1, X1, e1, st1⟩ := getF X0 hx hZ hown (host := "") (Or.inl (own_w hw 30 rfl)) Via.refl e0 F_size_o (g := (mkF m 3 #[rv o, iv x1, iv (0 : Int32), .unset, .unset] [(.ref o)])) rfl rfl (hb hby d6_3)
  obtain ⟨T2, X2, e2, st2⟩ := getF X1 hx hZ hown (host := "") (Or.inl (own_w hw 20 rfl)) Via.refl e1 F_values_o (g := (mkF m 20 #[rv o, iv x1, iv (0 : Int32), iv (5 : Int32), iv (2 : Int32)] [(.ref o)])) rfl rfl (hb hby d6_20)
  obtain ⟨cl3, Ar3, qk3, Sz3, Ng3, Hs3, Gt3⟩ := id V_a
  have hin3 : ¬ ((2 : Int32) < 0 ∨ cl3.slots.size ≤ ((2 : Int32)).toNatClampNeg) := inb_of Sz3 ⟨by decide, by decide⟩
  have hat3 : cl3.slots[((2 : Int32)).toNatClampNeg]? = some (.int w2) := Hs3.at hin3 rfl
  have pre4 : ∀ tz, oS p e below T2 m 27 #[rv o, iv x1, iv (0 : Int32), iv (5 : Int32), iv (2 : Int32)] [(.int x1), (.int w2)] tz → oS p e below s₁ m 0 #[rv o, iv x1, .unset, .unset, .unset] [] tz := fun tz kt => by
    show oS p e below s₁ m 0 #[rv o, iv x1, .unset, .unset, .unset] [] _
    refine XS.iconst X0.here hx rfl (hb hby d6_0) ?_
    refine XS.istoreN X0.here hx rfl (hb hby d6_1) rfl (l' := #[rv o, iv x1, iv (0 : Int32), .unset, .unset]) rfl ?_
    refine XS.aloadN X0.here hx rfl (hb hby d6_2) rfl rfl ?_
    show oS p e below s₁ m 3 #[rv o, iv x1, iv (0 : Int32), .unset, .unset] [(.ref o)] _
    refine st1 _ ?_
    refine XS.istoreN X1.here hx rfl (hb hby d6_6) rfl (l' := #[rv o, iv x1, iv (0 : Int32), iv (5 : Int32), .unset]) rfl ?_
    refine XS.iloadN X1.here hx rfl (hb hby d6_7) rfl ?_
    refine XS.iloadN X1.here hx rfl (hb hby d6_8) rfl ?_
    show oS p e below T1 m 9 #[rv o, iv x1, iv (0 : Int32), iv (5 : Int32), .unset] [(.int (5 : Int32)), (.int (0 : Int32))] _
    refine XS.icmpNo X1.here hx rfl (hb hby d6_9) rfl (tlt (by decide : ((0 : Int32) < (5 : Int32)))).2.1 ?_
    refine XS.iloadN X1.here hx rfl (hb hby d6_12) rfl ?_
    refine XS.iloadN X1.here hx rfl (hb hby d6_13) rfl ?_
    refine XS.iadd X1.here hx rfl (hb hby d6_14) rfl ?_
    show oS p e below T1 m 15 #[rv o, iv x1, iv (0 : Int32), iv (5 : Int32), .unset] [(.int (5 : Int32))] _
    refine XS.iconst X1.here hx rfl (hb hby d6_15) ?_
    refine XS.iushr X1.here hx rfl (hb hby d6_16) rfl ?_
    show oS p e below T1 m 17 #[rv o, iv x1, iv (0 : Int32), iv (5 : Int32), .unset] [(.int (2 : Int32))] _
    refine XS.istore X1.here hx rfl (hb hby d6_17) rfl (l' := #[rv o, iv x1, iv (0 : Int32), iv (5 : Int32), iv (2 : Int32)]) rfl ?_
    refine XS.aloadN X1.here hx rfl (hb hby d6_19) rfl rfl ?_
    show oS p e below T1 m 20 #[rv o, iv x1, iv (0 : Int32), iv (5 : Int32), iv (2 : Int32)] [(.ref o)] _
    refine st2 _ ?_
    refine XS.iload X2.here hx rfl (hb hby d6_23) rfl ?_
    refine X2.iaload hx (j := (2 : Int32)) (v := (.int w2)) (by rw [e2]; exact Ar3.1) (State.isArrayOf_alike hZ.alike Ar3.2.1) Ar3.2.2 hin3 hat3 (g := (mkF m 25 #[rv o, iv x1, iv (0 : Int32), iv (5 : Int32), iv (2 : Int32)] [(.int (2 : Int32)), (.ref a)])) rfl rfl (hb hby d6_25) _ ?_
    refine XS.iloadN X2.here hx rfl (hb hby d6_26) rfl ?_
    exact kt
  by_cases hc27 : x1 < w2
  · obtain ⟨T5, X5, e5, st5⟩ := getF X2 hx hZ hown (host := "") (Or.inl (own_w hw 20 rfl)) Via.refl e2 F_values_o (g := (mkF m 20 #[rv o, iv x1, iv (0 : Int32), iv (2 : Int32), iv (1 : Int32)] [(.ref o)])) rfl rfl (hb hby d6_20)
    obtain ⟨cl6, Ar6, qk6, Sz6, Ng6, Hs6, Gt6⟩ := id V_a
    have hin6 : ¬ ((1 : Int32) < 0 ∨ cl6.slots.size ≤ ((1 : Int32)).toNatClampNeg) := inb_of Sz6 ⟨by decide, by decide⟩
    have hat6 : cl6.slots[((1 : Int32)).toNatClampNeg]? = some (.int w1) := Hs6.at hin6 rfl
    have pre7 : ∀ tz, oS p e below T5 m 27 #[rv o, iv x1, iv (0 : Int32), iv (2 : Int32), iv (1 : Int32)] [(.int x1), (.int w1)] tz → oS p e below T2 m 27 #[rv o, iv x1, iv (0 : Int32), iv (5 : Int32), iv (2 : Int32)] [(.int x1), (.int w2)] tz := fun tz kt => by
      show oS p e below T2 m 27 #[rv o, iv x1, iv (0 : Int32), iv (5 : Int32), iv (2 : Int32)] [(.int x1), (.int w2)] _
      refine XS.icmpYes X2.here hx rfl (pc0 := 27) (pc' := 38) rfl (hb hby d6_27) rfl (tlt hc27).2.2.1 (by decide) (by decide) ?_
      refine XS.iload X2.here hx rfl (hb hby d6_38) rfl ?_
      refine XS.istoreN X2.here hx rfl (hb hby d6_40) rfl (l' := #[rv o, iv x1, iv (0 : Int32), iv (2 : Int32), iv (2 : Int32)]) rfl ?_
      refine XS.goto X2.here hx rfl (pc0 := 41) (pc' := 7) rfl (hb hby d6_41) (by decide) (by decide) ?_
      show oS p e below T2 m 7 #[rv o, iv x1, iv (0 : Int32), iv (2 : Int32), iv (2 : Int32)] [] _
      refine XS.iloadN X2.here hx rfl (hb hby d6_7) rfl ?_
      refine XS.iloadN X2.here hx rfl (hb hby d6_8) rfl ?_
      refine XS.icmpNo X2.here hx rfl (hb hby d6_9) rfl (tlt (by decide : ((0 : Int32) < (2 : Int32)))).2.1 ?_
      refine XS.iloadN X2.here hx rfl (hb hby d6_12) rfl ?_
      show oS p e below T2 m 13 #[rv o, iv x1, iv (0 : Int32), iv (2 : Int32), iv (2 : Int32)] [(.int (0 : Int32))] _
      refine XS.iloadN X2.here hx rfl (hb hby d6_13) rfl ?_
      refine XS.iadd X2.here hx rfl (hb hby d6_14) rfl ?_
      show oS p e below T2 m 15 #[rv o, iv x1, iv (0 : Int32), iv (2 : Int32), iv (2 : Int32)] [(.int (2 : Int32))] _
      refine XS.iconst X2.here hx rfl (hb hby d6_15) ?_
      refine XS.iushr X2.here hx rfl (hb hby d6_16) rfl ?_
      show oS p e below T2 m 17 #[rv o, iv x1, iv (0 : Int32), iv (2 : Int32), iv (2 : Int32)] [(.int (1 : Int32))] _
      refine XS.istore X2.here hx rfl (hb hby d6_17) rfl (l' := #[rv o, iv x1, iv (0 : Int32), iv (2 : Int32), iv (1 : Int32)]) rfl ?_
      refine XS.aloadN X2.here hx rfl (hb hby d6_19) rfl rfl ?_
      show oS p e below T2 m 20 #[rv o, iv x1, iv (0 : Int32), iv (2 : Int32), iv (1 : Int32)] [(.ref o)] _
      refine st5 _ ?_
      refine XS.iload X5.here hx rfl (hb hby d6_23) rfl ?_
      refine X5.iaload hx (j := (1 : Int32)) (v := (.int w1)) (by rw [e5]; exact Ar6.1) (State.isArrayOf_alike hZ.alike Ar6.2.1) Ar6.2.2 hin6 hat6 (g := (mkF m 25 #[rv o, iv x1, iv (0 : Int32), iv (2 : Int32), iv (1 : Int32)] [(.int (1 : Int32)), (.ref a)])) rfl rfl (hb hby d6_25) _ ?_
      refine XS.iloadN X5.here hx rfl (hb hby d6_26) rfl ?_
      exact kt
    by_cases hc27_2 : x1 < w1
    · obtain ⟨T8, X8, e8, st8⟩ := getF X5 hx hZ hown (host := "") (Or.inl (own_w hw 20 rfl)) Via.refl e5 F_values_o (g := (mkF m 20 #[rv o, iv x1, iv (0 : Int32), iv (1 : Int32), iv (0 : Int32)] [(.ref o)])) rfl rfl (hb hby d6_20)
      obtain ⟨cl9, Ar9, qk9, Sz9, Ng9, Hs9, Gt9⟩ := id V_a
      have hin9 : ¬ ((0 : Int32) < 0 ∨ cl9.slots.size ≤ ((0 : Int32)).toNatClampNeg) := inb_of Sz9 ⟨by decide, by decide⟩
      have hat9 : cl9.slots[((0 : Int32)).toNatClampNeg]? = some (.int w0) := Hs9.at hin9 rfl
      have pre10 : ∀ tz, oS p e below T8 m 27 #[rv o, iv x1, iv (0 : Int32), iv (1 : Int32), iv (0 : Int32)] [(.int x1), (.int w0)] tz → oS p e below T5 m 27 #[rv o, iv x1, iv (0 : Int32), iv (2 : Int32), iv (1 : Int32)] [(.int x1), (.int w1)] tz := fun tz kt => by
        show oS p e below T5 m 27 #[rv o, iv x1, iv (0 : Int32), iv (2 : Int32), iv (1 : Int32)] [(.int x1), (.int w1)] _
        refine XS.icmpYes X5.here hx rfl (pc0 := 27) (pc' := 38) rfl (hb hby d6_27) rfl (tlt hc27_2).2.2.1 (by decide) (by decide) ?_
        refine XS.iload X5.here hx rfl (hb hby d6_38) rfl ?_
        refine XS.istoreN X5.here hx rfl (hb hby d6_40) rfl (l' := #[rv o, iv x1, iv (0 : Int32), iv (1 : Int32), iv (1 : Int32)]) rfl ?_
        refine XS.goto X5.here hx rfl (pc0 := 41) (pc' := 7) rfl (hb hby d6_41) (by decide) (by decide) ?_
        show oS p e below T5 m 7 #[rv o, iv x1, iv (0 : Int32), iv (1 : Int32), iv (1 : Int32)] [] _
        refine XS.iloadN X5.here hx rfl (hb hby d6_7) rfl ?_
        refine XS.iloadN X5.here hx rfl (hb hby d6_8) rfl ?_
        refine XS.icmpNo X5.here hx rfl (hb hby d6_9) rfl (tlt (by decide : ((0 : Int32) < (1 : Int32)))).2.1 ?_
        refine XS.iloadN X5.here hx rfl (hb hby d6_12) rfl ?_
        show oS p e below T5 m 13 #[rv o, iv x1, iv (0 : Int32), iv (1 : Int32), iv (1 : Int32)] [(.int (0 : Int32))] _
        refine XS.iloadN X5.here hx rfl (hb hby d6_13) rfl ?_
        refine XS.iadd X5.here hx rfl (hb hby d6_14) rfl ?_
        show oS p e below T5 m 15 #[rv o, iv x1, iv (0 : Int32), iv (1 : Int32), iv (1 : Int32)] [(.int (1 : Int32))] _
        refine XS.iconst X5.here hx rfl (hb hby d6_15) ?_
        refine XS.iushr X5.here hx rfl (hb hby d6_16) rfl ?_
        show oS p e below T5 m 17 #[rv o, iv x1, iv (0 : Int32), iv (1 : Int32), iv (1 : Int32)] [(.int (0 : Int32))] _
        refine XS.istore X5.here hx rfl (hb hby d6_17) rfl (l' := #[rv o, iv x1, iv (0 : Int32), iv (1 : Int32), iv (0 : Int32)]) rfl ?_
        refine XS.aloadN X5.here hx rfl (hb hby d6_19) rfl rfl ?_
        show oS p e below T5 m 20 #[rv o, iv x1, iv (0 : Int32), iv (1 : Int32), iv (0 : Int32)] [(.ref o)] _
        refine st8 _ ?_
        refine XS.iload X8.here hx rfl (hb hby d6_23) rfl ?_
        refine X8.iaload hx (j := (0 : Int32)) (v := (.int w0)) (by rw [e8]; exact Ar9.1) (State.isArrayOf_alike hZ.alike Ar9.2.1) Ar9.2.2 hin9 hat9 (g := (mkF m 25 #[rv o, iv x1, iv (0 : Int32), iv (1 : Int32), iv (0 : Int32)] [(.int (0 : Int32)), (.ref a)])) rfl rfl (hb hby d6_25) _ ?_
        refine XS.iloadN X8.here hx rfl (hb hby d6_26) rfl ?_
        exact kt
      by_cases hc27_3 : x1 < w0
      · have pre11 : ∀ tz, oS p e below T8 m 45 #[rv o, iv x1, iv (0 : Int32), iv (0 : Int32), iv (0 : Int32)] [(.int (0 : Int32))] tz → oS p e below T8 m 27 #[rv o, iv x1, iv (0 : Int32), iv (1 : Int32), iv (0 : Int32)] [(.int x1), (.int w0)] tz := fun tz kt => by
          show oS p e below T8 m 27 #[rv o, iv x1, iv (0 : Int32), iv (1 : Int32), iv (0 : Int32)] [(.int x1), (.int w0)] _
          refine XS.icmpYes X8.here hx rfl (pc0 := 27) (pc' := 38) rfl (hb hby d6_27) rfl (tlt hc27_3).2.2.1 (by decide) (by decide) ?_
          refine XS.iload X8.here hx rfl (hb hby d6_38) rfl ?_
          refine XS.istoreN X8.here hx rfl (hb hby d6_40) rfl (l' := #[rv o, iv x1, iv (0 : Int32), iv (0 : Int32), iv (0 : Int32)]) rfl ?_
          refine XS.goto X8.here hx rfl (pc0 := 41) (pc' := 7) rfl (hb hby d6_41) (by decide) (by decide) ?_
          show oS p e below T8 m 7 #[rv o, iv x1, iv (0 : Int32), iv (0 : Int32), iv (0 : Int32)] [] _
          refine XS.iloadN X8.here hx rfl (hb hby d6_7) rfl ?_
          refine XS.iloadN X8.here hx rfl (hb hby d6_8) rfl ?_
          refine XS.icmpYes X8.here hx rfl (pc0 := 9) (pc' := 44) rfl (hb hby d6_9) rfl (flt (by decide : ¬ ((0 : Int32) < (0 : Int32)))).2.1 (by decide) (by decide) ?_
          refine XS.iloadN X8.here hx rfl (hb hby d6_44) rfl ?_
          exact kt
        obtain ⟨fs, hr, hrun, hended, hW, hsame⟩ := X8.leave (v := some (.int (0 : Int32))) (fun h => by rw [Bd.returns] at h; cases h)
        refine ⟨_, _, pre0 _ (pre4 _ (pre7 _ (pre10 _ (pre11 _ ?_)))), hrun, hended, _, _, rfl, ?_, ⟨_, rfl⟩, hW, hsame.mono (by decide) (by decide)⟩
        · show oS p e below T8 m 45 #[rv o, iv x1, iv (0 : Int32), iv (0 : Int32), iv (0 : Int32)] [(.int (0 : Int32))] _
          exact retOut X8 hx Bd.returns rfl (Or.inl ⟨rfl, Or.inl rfl, _, rfl⟩) (hb hby d6_45) hr
        · show QC5 Z o x1 w0 w1 w2 w3 w4 a k1 h0 n0 _ T8.heap _
          rw [e8]
          exact ⟨(by first | rfl | simp only [if_pos hc27, if_pos hc27_2, if_pos hc27_3]), N0, rfl⟩
      · have pre12 : ∀ tz, oS p e below T8 m 45 #[rv o, iv x1, iv (1 : Int32), iv (1 : Int32), iv (0 : Int32)] [(.int (1 : Int32))] tz → oS p e below T8 m 27 #[rv o, iv x1, iv (0 : Int32), iv (1 : Int32), iv (0 : Int32)] [(.int x1), (.int w0)] tz := fun tz kt => by
          show oS p e below T8 m 27 #[rv o, iv x1, iv (0 : Int32), iv (1 : Int32), iv (0 : Int32)] [(.int x1), (.int w0)] _
          refine XS.icmpNo X8.here hx rfl (hb hby d6_27) rfl (flt hc27_3).2.2.1 ?_
          refine XS.iload X8.here hx rfl (hb hby d6_30) rfl ?_
          refine XS.iconst X8.here hx rfl (hb hby d6_32) ?_
          refine XS.iadd X8.here hx rfl (hb hby d6_33) rfl ?_
          show oS p e below T8 m 34 #[rv o, iv x1, iv (0 : Int32), iv (1 : Int32), iv (0 : Int32)] [(.int (1 : Int32))] _
          refine XS.istoreN X8.here hx rfl (hb hby d6_34) rfl (l' := #[rv o, iv x1, iv (1 : Int32), iv (1 : Int32), iv (0 : Int32)]) rfl ?_
          refine XS.goto X8.here hx rfl (pc0 := 35) (pc' := 41) rfl (hb hby d6_35) (by decide) (by decide) ?_
          refine XS.goto X8.here hx rfl (pc0 := 41) (pc' := 7) rfl (hb hby d6_41) (by decide) (by decide) ?_
          refine XS.iloadN X8.here hx rfl (hb hby d6_7) rfl ?_
          show oS p e below T8 m 8 #[rv o, iv x1, iv (1 : Int32), iv (1 : Int32), iv (0 : Int32)] [(.int (1 : Int32))] _
          refine XS.iloadN X8.here hx rfl (hb hby d6_8) rfl ?_
          refine XS.icmpYes X8.here hx rfl (pc0 := 9) (pc' := 44) rfl (hb hby d6_9) rfl (flt (by decide : ¬ ((1 : Int32) < (1 : Int32)))).2.1 (by decide) (by decide) ?_
          refine XS.iloadN X8.here hx rfl (hb hby d6_44) rfl ?_
          exact kt
        obtain ⟨fs, hr, hrun, hended, hW, hsame⟩ := X8.leave (v := some (.int (1 : Int32))) (fun h => by rw [Bd.returns] at h; cases h)
        refine ⟨_, _, pre0 _ (pre4 _ (pre7 _ (pre10 _ (pre12 _ ?_)))), hrun, hended, _, _, rfl, ?_, ⟨_, rfl⟩, hW, hsame.mono (by decide) (by decide)⟩
        · show oS p e below T8 m 45 #[rv o, iv x1, iv (1 : Int32), iv (1 : Int32), iv (0 : Int32)] [(.int (1 : Int32))] _
          exact retOut X8 hx Bd.returns rfl (Or.inl ⟨rfl, Or.inl rfl, _, rfl⟩) (hb hby d6_45) hr
        · show QC5 Z o x1 w0 w1 w2 w3 w4 a k1 h0 n0 _ T8.heap _
          rw [e8]
          exact ⟨(by first | rfl | simp only [if_pos hc27, if_pos hc27_2, if_neg hc27_3]), N0, rfl⟩
    · have pre13 : ∀ tz, oS p e below T5 m 45 #[rv o, iv x1, iv (2 : Int32), iv (2 : Int32), iv (1 : Int32)] [(.int (2 : Int32))] tz → oS p e below T5 m 27 #[rv o, iv x1, iv (0 : Int32), iv (2 : Int32), iv (1 : Int32)] [(.int x1), (.int w1)] tz := fun tz kt => by
        show oS p e below T5 m 27 #[rv o, iv x1, iv (0 : Int32), iv (2 : Int32), iv (1 : Int32)] [(.int x1), (.int w1)] _
        refine XS.icmpNo X5.here hx rfl (hb hby d6_27) rfl (flt hc27_2).2.2.1 ?_
        refine XS.iload X5.here hx rfl (hb hby d6_30) rfl ?_
        refine XS.iconst X5.here hx rfl (hb hby d6_32) ?_
        refine XS.iadd X5.here hx rfl (hb hby d6_33) rfl ?_
        show oS p e below T5 m 34 #[rv o, iv x1, iv (0 : Int32), iv (2 : Int32), iv (1 : Int32)] [(.int (2 : Int32))] _
        refine XS.istoreN X5.here hx rfl (hb hby d6_34) rfl (l' := #[rv o, iv x1, iv (2 : Int32), iv (2 : Int32), iv (1 : Int32)]) rfl ?_
        refine XS.goto X5.here hx rfl (pc0 := 35) (pc' := 41) rfl (hb hby d6_35) (by decide) (by decide) ?_
        refine XS.goto X5.here hx rfl (pc0 := 41) (pc' := 7) rfl (hb hby d6_41) (by decide) (by decide) ?_
        refine XS.iloadN X5.here hx rfl (hb hby d6_7) rfl ?_
        show oS p e below T5 m 8 #[rv o, iv x1, iv (2 : Int32), iv (2 : Int32), iv (1 : Int32)] [(.int (2 : Int32))] _
        refine XS.iloadN X5.here hx rfl (hb hby d6_8) rfl ?_
        refine XS.icmpYes X5.here hx rfl (pc0 := 9) (pc' := 44) rfl (hb hby d6_9) rfl (flt (by decide : ¬ ((2 : Int32) < (2 : Int32)))).2.1 (by decide) (by decide) ?_
        refine XS.iloadN X5.here hx rfl (hb hby d6_44) rfl ?_
        exact kt
      obtain ⟨fs, hr, hrun, hended, hW, hsame⟩ := X5.leave (v := some (.int (2 : Int32))) (fun h => by rw [Bd.returns] at h; cases h)
      refine ⟨_, _, pre0 _ (pre4 _ (pre7 _ (pre13 _ ?_))), hrun, hended, _, _, rfl, ?_, ⟨_, rfl⟩, hW, hsame.mono (by decide) (by decide)⟩
      · show oS p e below T5 m 45 #[rv o, iv x1, iv (2 : Int32), iv (2 : Int32), iv (1 : Int32)] [(.int (2 : Int32))] _
        exact retOut X5 hx Bd.returns rfl (Or.inl ⟨rfl, Or.inl rfl, _, rfl⟩) (hb hby d6_45) hr
      · show QC5 Z o x1 w0 w1 w2 w3 w4 a k1 h0 n0 _ T5.heap _
        rw [e5]
        exact ⟨(by first | rfl | simp only [if_pos hc27, if_neg hc27_2]), N0, rfl⟩
  · obtain ⟨T14, X14, e14, st14⟩ := getF X2 hx hZ hown (host := "") (Or.inl (own_w hw 20 rfl)) Via.refl e2 F_values_o (g := (mkF m 20 #[rv o, iv x1, iv (3 : Int32), iv (5 : Int32), iv (4 : Int32)] [(.ref o)])) rfl rfl (hb hby d6_20)
    obtain ⟨cl15, Ar15, qk15, Sz15, Ng15, Hs15, Gt15⟩ := id V_a
    have hin15 : ¬ ((4 : Int32) < 0 ∨ cl15.slots.size ≤ ((4 : Int32)).toNatClampNeg) := inb_of Sz15 ⟨by decide, by decide⟩
    have hat15 : cl15.slots[((4 : Int32)).toNatClampNeg]? = some (.int w4) := Hs15.at hin15 rfl
    have pre16 : ∀ tz, oS p e below T14 m 27 #[rv o, iv x1, iv (3 : Int32), iv (5 : Int32), iv (4 : Int32)] [(.int x1), (.int w4)] tz → oS p e below T2 m 27 #[rv o, iv x1, iv (0 : Int32), iv (5 : Int32), iv (2 : Int32)] [(.int x1), (.int w2)] tz := fun tz kt => by
      show oS p e below T2 m 27 #[rv o, iv x1, iv (0 : Int32), iv (5 : Int32), iv (2 : Int32)] [(.int x1), (.int w2)] _
      refine XS.icmpNo X2.here hx rfl (hb hby d6_27) rfl (flt hc27).2.2.1 ?_
      refine XS.iload X2.here hx rfl (hb hby d6_30) rfl ?_
      refine XS.iconst X2.here hx rfl (hb hby d6_32) ?_
      refine XS.iadd X2.here hx rfl (hb hby d6_33) rfl ?_
      show oS p e below T2 m 34 #[rv o, iv x1, iv (0 : Int32), iv (5 : Int32), iv (2 : Int32)] [(.int (3 : Int32))] _
      refine XS.istoreN X2.here hx rfl (hb hby d6_34) rfl (l' := #[rv o, iv x1, iv (3 : Int32), iv (5 : Int32), iv (2 : Int32)]) rfl ?_
      refine XS.goto X2.here hx rfl (pc0 := 35) (pc' := 41) rfl (hb hby d6_35) (by decide) (by decide) ?_
      refine XS.goto X2.here hx rfl (pc0 := 41) (pc' := 7) rfl (hb hby d6_41) (by decide) (by decide) ?_
      refine XS.iloadN X2.here hx rfl (hb hby d6_7) rfl ?_
      show oS p e below T2 m 8 #[rv o, iv x1, iv (3 : Int32), iv (5 : Int32), iv (2 : Int32)] [(.int (3 : Int32))] _
      refine XS.iloadN X2.here hx rfl (hb hby d6_8) rfl ?_
      refine XS.icmpNo X2.here hx rfl (hb hby d6_9) rfl (tlt (by decide : ((3 : Int32) < (5 : Int32)))).2.1 ?_
      refine XS.iloadN X2.here hx rfl (hb hby d6_12) rfl ?_
      refine XS.iloadN X2.here hx rfl (hb hby d6_13) rfl ?_
      show oS p e below T2 m 14 #[rv o, iv x1, iv (3 : Int32), iv (5 : Int32), iv (2 : Int32)] [(.int (5 : Int32)), (.int (3 : Int32))] _
      refine XS.iadd X2.here hx rfl (hb hby d6_14) rfl ?_
      show oS p e below T2 m 15 #[rv o, iv x1, iv (3 : Int32), iv (5 : Int32), iv (2 : Int32)] [(.int (8 : Int32))] _
      refine XS.iconst X2.here hx rfl (hb hby d6_15) ?_
      refine XS.iushr X2.here hx rfl (hb hby d6_16) rfl ?_
      show oS p e below T2 m 17 #[rv o, iv x1, iv (3 : Int32), iv (5 : Int32), iv (2 : Int32)] [(.int (4 : Int32))] _
      refine XS.istore X2.here hx rfl (hb hby d6_17) rfl (l' := #[rv o, iv x1, iv (3 : Int32), iv (5 : Int32), iv (4 : Int32)]) rfl ?_
      refine XS.aloadN X2.here hx rfl (hb hby d6_19) rfl rfl ?_
      show oS p e below T2 m 20 #[rv o, iv x1, iv (3 : Int32), iv (5 : Int32), iv (4 : Int32)] [(.ref o)] _
      refine st14 _ ?_
      refine XS.iload X14.here hx rfl (hb hby d6_23) rfl ?_
      refine X14.iaload hx (j := (4 : Int32)) (v := (.int w4)) (by rw [e14]; exact Ar15.1) (State.isArrayOf_alike hZ.alike Ar15.2.1) Ar15.2.2 hin15 hat15 (g := (mkF m 25 #[rv o, iv x1, iv (3 : Int32), iv (5 : Int32), iv (4 : Int32)] [(.int (4 : Int32)), (.ref a)])) rfl rfl (hb hby d6_25) _ ?_
      refine XS.iloadN X14.here hx rfl (hb hby d6_26) rfl ?_
      exact kt
    by_cases hc27_2 : x1 < w4
    · obtain ⟨T17, X17, e17, st17⟩ := getF X14 hx hZ hown (host := "") (Or.inl (own_w hw 20 rfl)) Via.refl e14 F_values_o (g := (mkF m 20 #[rv o, iv x1, iv (3 : Int32), iv (4 : Int32), iv (3 : Int32)] [(.ref o)])) rfl rfl (hb hby d6_20)
      obtain ⟨cl18, Ar18, qk18, Sz18, Ng18, Hs18, Gt18⟩ := id V_a
      have hin18 : ¬ ((3 : Int32) < 0 ∨ cl18.slots.size ≤ ((3 : Int32)).toNatClampNeg) := inb_of Sz18 ⟨by decide, by decide⟩
      have hat18 : cl18.slots[((3 : Int32)).toNatClampNeg]? = some (.int w3) := Hs18.at hin18 rfl
      have pre19 : ∀ tz, oS p e below T17 m 27 #[rv o, iv x1, iv (3 : Int32), iv (4 : Int32), iv (3 : Int32)] [(.int x1), (.int w3)] tz → oS p e below T14 m 27 #[rv o, iv x1, iv (3 : Int32), iv (5 : Int32), iv (4 : Int32)] [(.int x1), (.int w4)] tz := fun tz kt => by
        show oS p e below T14 m 27 #[rv o, iv x1, iv (3 : Int32), iv (5 : Int32), iv (4 : Int32)] [(.int x1), (.int w4)] _
        refine XS.icmpYes X14.here hx rfl (pc0 := 27) (pc' := 38) rfl (hb hby d6_27) rfl (tlt hc27_2).2.2.1 (by decide) (by decide) ?_
        refine XS.iload X14.here hx rfl (hb hby d6_38) rfl ?_
        refine XS.istoreN X14.here hx rfl (hb hby d6_40) rfl (l' := #[rv o, iv x1, iv (3 : Int32), iv (4 : Int32), iv (4 : Int32)]) rfl ?_
        refine XS.goto X14.here hx rfl (pc0 := 41) (pc' := 7) rfl (hb hby d6_41) (by decide) (by decide) ?_
        show oS p e below T14 m 7 #[rv o, iv x1, iv (3 : Int32), iv (4 : Int32), iv (4 : Int32)] [] _
        refine XS.iloadN X14.here hx rfl (hb hby d6_7) rfl ?_
        refine XS.iloadN X14.here hx rfl (hb hby d6_8) rfl ?_
        refine XS.icmpNo X14.here hx rfl (hb hby d6_9) rfl (tlt (by decide : ((3 : Int32) < (4 : Int32)))).2.1 ?_
        refine XS.iloadN X14.here hx rfl (hb hby d6_12) rfl ?_
        show oS p e below T14 m 13 #[rv o, iv x1, iv (3 : Int32), iv (4 : Int32), iv (4 : Int32)] [(.int (3 : Int32))] _
        refine XS.iloadN X14.here hx rfl (hb hby d6_13) rfl ?_
        refine XS.iadd X14.here hx rfl (hb hby d6_14) rfl ?_
        show oS p e below T14 m 15 #[rv o, iv x1, iv (3 : Int32), iv (4 : Int32), iv (4 : Int32)] [(.int (7 : Int32))] _
        refine XS.iconst X14.here hx rfl (hb hby d6_15) ?_
        refine XS.iushr X14.here hx rfl (hb hby d6_16) rfl ?_
        show oS p e below T14 m 17 #[rv o, iv x1, iv (3 : Int32), iv (4 : Int32), iv (4 : Int32)] [(.int (3 : Int32))] _
        refine XS.istore X14.here hx rfl (hb hby d6_17) rfl (l' := #[rv o, iv x1, iv (3 : Int32), iv (4 : Int32), iv (3 : Int32)]) rfl ?_
        refine XS.aloadN X14.here hx rfl (hb hby d6_19) rfl rfl ?_
        show oS p e below T14 m 20 #[rv o, iv x1, iv (3 : Int32), iv (4 : Int32), iv (3 : Int32)] [(.ref o)] _
        refine st17 _ ?_
        refine XS.iload X17.here hx rfl (hb hby d6_23) rfl ?_
        refine X17.iaload hx (j := (3 : Int32)) (v := (.int w3)) (by rw [e17]; exact Ar18.1) (State.isArrayOf_alike hZ.alike Ar18.2.1) Ar18.2.2 hin18 hat18 (g := (mkF m 25 #[rv o, iv x1, iv (3 : Int32), iv (4 : Int32), iv (3 : Int32)] [(.int (3 : Int32)), (.ref a)])) rfl rfl (hb hby d6_25) _ ?_
        refine XS.iloadN X17.here hx rfl (hb hby d6_26) rfl ?_
        exact kt
      by_cases hc27_3 : x1 < w3
      · have pre20 : ∀ tz, oS p e below T17 m 45 #[rv o, iv x1, iv (3 : Int32), iv (3 : Int32), iv (3 : Int32)] [(.int (3 : Int32))] tz → oS p e below T17 m 27 #[rv o, iv x1, iv (3 : Int32), iv (4 : Int32), iv (3 : Int32)] [(.int x1), (.int w3)] tz := fun tz kt => by
          show oS p e below T17 m 27 #[rv o, iv x1, iv (3 : Int32), iv (4 : Int32), iv (3 : Int32)] [(.int x1), (.int w3)] _
          refine XS.icmpYes X17.here hx rfl (pc0 := 27) (pc' := 38) rfl (hb hby d6_27) rfl (tlt hc27_3).2.2.1 (by decide) (by decide) ?_
          refine XS.iload X17.here hx rfl (hb hby d6_38) rfl ?_
          refine XS.istoreN X17.here hx rfl (hb hby d6_40) rfl (l' := #[rv o, iv x1, iv (3 : Int32), iv (3 : Int32), iv (3 : Int32)]) rfl ?_
          refine XS.goto X17.here hx rfl (pc0 := 41) (pc' := 7) rfl (hb hby d6_41) (by decide) (by decide) ?_
          show oS p e below T17 m 7 #[rv o, iv x1, iv (3 : Int32), iv (3 : Int32), iv (3 : Int32)] [] _
          refine XS.iloadN X17.here hx rfl (hb hby d6_7) rfl ?_
          refine XS.iloadN X17.here hx rfl (hb hby d6_8) rfl ?_
          refine XS.icmpYes X17.here hx rfl (pc0 := 9) (pc' := 44) rfl (hb hby d6_9) rfl (flt (by decide : ¬ ((3 : Int32) < (3 : Int32)))).2.1 (by decide) (by decide) ?_
          refine XS.iloadN X17.here hx rfl (hb hby d6_44) rfl ?_
          exact kt
        obtain ⟨fs, hr, hrun, hended, hW, hsame⟩ := X17.leave (v := some (.int (3 : Int32))) (fun h => by rw [Bd.returns] at h; cases h)
        refine ⟨_, _, pre0 _ (pre4 _ (pre16 _ (pre19 _ (pre20 _ ?_)))), hrun, hended, _, _, rfl, ?_, ⟨_, rfl⟩, hW, hsame.mono (by decide) (by decide)⟩
        · show oS p e below T17 m 45 #[rv o, iv x1, iv (3 : Int32), iv (3 : Int32), iv (3 : Int32)] [(.int (3 : Int32))] _
          exact retOut X17 hx Bd.returns rfl (Or.inl ⟨rfl, Or.inl rfl, _, rfl⟩) (hb hby d6_45) hr
        · show QC5 Z o x1 w0 w1 w2 w3 w4 a k1 h0 n0 _ T17.heap _
          rw [e17]
          exact ⟨(by first | rfl | simp only [if_neg hc27, if_pos hc27_2, if_pos hc27_3]), N0, rfl⟩
      · have pre21 : ∀ tz, oS p e below T17 m 45 #[rv o, iv x1, iv (4 : Int32), iv (4 : Int32), iv (3 : Int32)] [(.int (4 : Int32))] tz → oS p e below T17 m 27 #[rv o, iv x1, iv (3 : Int32), iv (4 : Int32), iv (3 : Int32)] [(.int x1), (.int w3)] tz := fun tz kt => by
          show oS p e below T17 m 27 #[rv o, iv x1, iv (3 : Int32), iv (4 : Int32), iv (3 : Int32)] [(.int x1), (.int w3)] _
          refine XS.icmpNo X17.here hx rfl (hb hby d6_27) rfl (flt hc27_3).2.2.1 ?_
          refine XS.iload X17.here hx rfl (hb hby d6_30) rfl ?_
          refine XS.iconst X17.here hx rfl (hb hby d6_32) ?_
          refine XS.iadd X17.here hx rfl (hb hby d6_33) rfl ?_
          show oS p e below T17 m 34 #[rv o, iv x1, iv (3 : Int32), iv (4 : Int32), iv (3 : Int32)] [(.int (4 : Int32))] _
          refine XS.istoreN X17.here hx rfl (hb hby d6_34) rfl (l' := #[rv o, iv x1, iv (4 : Int32), iv (4 : Int32), iv (3 : Int32)]) rfl ?_
          refine XS.goto X17.here hx rfl (pc0 := 35) (pc' := 41) rfl (hb hby d6_35) (by decide) (by decide) ?_
          refine XS.goto X17.here hx rfl (pc0 := 41) (pc' := 7) rfl (hb hby d6_41) (by decide) (by decide) ?_
          refine XS.iloadN X17.here hx rfl (hb hby d6_7) rfl ?_
          show oS p e below T17 m 8 #[rv o, iv x1, iv (4 : Int32), iv (4 : Int32), iv (3 : Int32)] [(.int (4 : Int32))] _
          refine XS.iloadN X17.here hx rfl (hb hby d6_8) rfl ?_
          refine XS.icmpYes X17.here hx rfl (pc0 := 9) (pc' := 44) rfl (hb hby d6_9) rfl (flt (by decide : ¬ ((4 : Int32) < (4 : Int32)))).2.1 (by decide) (by decide) ?_
          refine XS.iloadN X17.here hx rfl (hb hby d6_44) rfl ?_
          exact kt
        obtain ⟨fs, hr, hrun, hended, hW, hsame⟩ := X17.leave (v := some (.int (4 : Int32))) (fun h => by rw [Bd.returns] at h; cases h)
        refine ⟨_, _, pre0 _ (pre4 _ (pre16 _ (pre19 _ (pre21 _ ?_)))), hrun, hended, _, _, rfl, ?_, ⟨_, rfl⟩, hW, hsame.mono (by decide) (by decide)⟩
        · show oS p e below T17 m 45 #[rv o, iv x1, iv (4 : Int32), iv (4 : Int32), iv (3 : Int32)] [(.int (4 : Int32))] _
          exact retOut X17 hx Bd.returns rfl (Or.inl ⟨rfl, Or.inl rfl, _, rfl⟩) (hb hby d6_45) hr
        · show QC5 Z o x1 w0 w1 w2 w3 w4 a k1 h0 n0 _ T17.heap _
          rw [e17]
          exact ⟨(by first | rfl | simp only [if_neg hc27, if_pos hc27_2, if_neg hc27_3]), N0, rfl⟩
    · have pre22 : ∀ tz, oS p e below T14 m 45 #[rv o, iv x1, iv (5 : Int32), iv (5 : Int32), iv (4 : Int32)] [(.int (5 : Int32))] tz → oS p e below T14 m 27 #[rv o, iv x1, iv (3 : Int32), iv (5 : Int32), iv (4 : Int32)] [(.int x1), (.int w4)] tz := fun tz kt => by
        show oS p e below T14 m 27 #[rv o, iv x1, iv (3 : Int32), iv (5 : Int32), iv (4 : Int32)] [(.int x1), (.int w4)] _
        refine XS.icmpNo X14.here hx rfl (hb hby d6_27) rfl (flt hc27_2).2.2.1 ?_
        refine XS.iload X14.here hx rfl (hb hby d6_30) rfl ?_
        refine XS.iconst X14.here hx rfl (hb hby d6_32) ?_
        refine XS.iadd X14.here hx rfl (hb hby d6_33) rfl ?_
        show oS p e below T14 m 34 #[rv o, iv x1, iv (3 : Int32), iv (5 : Int32), iv (4 : Int32)] [(.int (5 : Int32))] _
        refine XS.istoreN X14.here hx rfl (hb hby d6_34) rfl (l' := #[rv o, iv x1, iv (5 : Int32), iv (5 : Int32), iv (4 : Int32)]) rfl ?_
        refine XS.goto X14.here hx rfl (pc0 := 35) (pc' := 41) rfl (hb hby d6_35) (by decide) (by decide) ?_
        refine XS.goto X14.here hx rfl (pc0 := 41) (pc' := 7) rfl (hb hby d6_41) (by decide) (by decide) ?_
        refine XS.iloadN X14.here hx rfl (hb hby d6_7) rfl ?_
        show oS p e below T14 m 8 #[rv o, iv x1, iv (5 : Int32), iv (5 : Int32), iv (4 : Int32)] [(.int (5 : Int32))] _
        refine XS.iloadN X14.here hx rfl (hb hby d6_8) rfl ?_
        refine XS.icmpYes X14.here hx rfl (pc0 := 9) (pc' := 44) rfl (hb hby d6_9) rfl (flt (by decide : ¬ ((5 : Int32) < (5 : Int32)))).2.1 (by decide) (by decide) ?_
        refine XS.iloadN X14.here hx rfl (hb hby d6_44) rfl ?_
        exact kt
      obtain ⟨fs, hr, hrun, hended, hW, hsame⟩ := X14.leave (v := some (.int (5 : Int32))) (fun h => by rw [Bd.returns] at h; cases h)
      refine ⟨_, _, pre0 _ (pre4 _ (pre16 _ (pre22 _ ?_))), hrun, hended, _, _, rfl, ?_, ⟨_, rfl⟩, hW, hsame.mono (by decide) (by decide)⟩
      · show oS p e below T14 m 45 #[rv o, iv x1, iv (5 : Int32), iv (5 : Int32), iv (4 : Int32)] [(.int (5 : Int32))] _
        exact retOut X14 hx Bd.returns rfl (Or.inl ⟨rfl, Or.inl rfl, _, rfl⟩) (hb hby d6_45) hr
      · show QC5 Z o x1 w0 w1 w2 w3 w4 a k1 h0 n0 _ T14.heap _
        rw [e14]
        exact ⟨(by first | rfl | simp only [if_neg hc27, if_neg hc27_2]), N0, rfl⟩
theorem efC6 (m : MethodId) (o : Addr) (x1 : Int32) : entryFrame m #[(.ref o), (.int x1)] 5 = mkF m 0 #[rv o, iv x1, .unset, .unset, .unset] [] := by first | (simp [entryFrame, mkF, argsToLocals, Value.category]; done) | rfl
def QC6 (Z : State) (o : Addr) (x1 : Int32) (w0 : Int32) (w1 : Int32) (w2 : Int32) (w3 : Int32) (w4 : Int32) (w5 : Int32) (a : Addr) (k1 : ClassId) (h0 : Heap) (n0 : Nat) (v : Option Value) (h : Heap) (L : List Loc) : Prop := v = some (.int (if x1 < w3 then (if x1 < w1 then (if x1 < w0 then (0 : Int32) else (1 : Int32)) else (if x1 < w2 then (2 : Int32) else (3 : Int32))) else (if x1 < w5 then (if x1 < w4 then (4 : Int32) else (5 : Int32)) else (6 : Int32)))) ∧ Fr n0 L ∧ h = h0
set_option maxRecDepth 65536 in
set_option maxHeartbeats 40000000 in
theorem rmC6 (l : Launch) (Z : State) (a0 : Array Value) (hw : ∀ d ∈ tables_1, d.before a0 Z = true) (ws : List Jvm.Cond) (o : Addr) (x1 : Int32) (w0 : Int32) (w1 : Int32) (w2 : Int32) (w3 : Int32) (w4 : Int32) (w5 : Int32) (a : Addr) (k1 : ClassId) (h0 : Heap) (n0 : Nat) (Z0 : n0 ≤ h0.size) (E_o : Exa Z h0 o oz0) (F_size_o : Fld Z h0 o oz0 "size" "I" (.int (6 : Int32))) (F_values_o : Fld Z h0 o oz0 "values" "[I" (.ref a)) (V_a : Arv Z h0 a k1 .int (8 : Int32) [(.int w0), (.int w1), (.int w2), (.int w3), (.int w4), (.int w5), (.int (0 : Int32)), (.int (0 : Int32))] (.int (0 : Int32))) :
    MetFree l (⟨oz0, "countAtMost", "(I)I"⟩ : MethodName) (head1 (Jvm.Cond.code (⟨oz0, "countAtMost", "(I)I"⟩ : MethodName) prog_30_method_9_code 5 (some .int) :: ws) ({ frames := 0, cells := 0, slots := 0, locals := 0 } : Room)) (fun a U => a = #[(.ref o), (.int x1)] ∧ Z.Warmed39 U.vm ∧ U.heap = h0) (fun _ _ _ _ _ => True) (fun _ U oc U' => ∃ v L, oc = .returned v ∧ QC6 Z o x1 w0 w1 w2 w3 w4 w5 a k1 h0 n0 v U'.heap L ∧ FrameEnd U oc U' L ({ frames := 0, cells := 0, slots := 0, locals := 0 } : Room).cells ({ frames := 0, cells := 0, slots := 0, locals := 0 } : Room).slots) := by
  refine MetFree.of_bodySF (plainFor_of_name own_pn1) hisR ?_
  intro p e s m args below meth c s₁ Bd hml0 hP hK
  obtain ⟨rfl, hZ, hh⟩ := hP
  have hx := Bd.exec
  have hby := Bd.bytes
  have hml : c.maxLocals = 5 := hml0
  have hown : s.vm.findClass oz0 = some m.cls := findClass_of_methodNamed Bd.named
  have hnm := (name_of_methodNamed Bd.named Bd.method).1
  have X0 : Stand p l e ({ frames := 0, cells := 0, slots := 0, locals := 0 } : Room) s m #[(.ref o), (.int x1)] below meth c s₁ [] 0 0 := Stand.of_body Bd
  have e0 : s₁.heap = h0 := by rw [← hh, Bd.state]; rfl
  have N0 := Fr.nil n0
  have pre0 : ∀ t, Steps p.tables e below (s₁.setTop (mkF m 0 #[rv o, iv x1, .unset, .unset, .unset] [])) t → Steps p.tables e below (s₁.setTop (entryFrame m #[(.ref o), (.int x1)] 5)) t := fun t k => castTop (efC6 m o x1) k
  obtain ⟨T1, X1, e1, st1⟩ := getF X0 hx hZ hown (host := "") (Or.inl (own_w hw 30 rfl)) Via.refl e0 F_size_o (g := (mkF m 3 #[rv o, iv x1, iv (0 : Int32), .unset, .unset] [(.ref o)])) rfl rfl (hb hby d6_3)
  obtain ⟨T2, X2, e2, st2⟩ := getF X1 hx hZ hown (host := "") (Or.inl (own_w hw 20 rfl)) Via.refl e1 F_values_o (g := (mkF m 20 #[rv o, iv x1, iv (0 : Int32), iv (6 : Int32), iv (3 : Int32)] [(.ref o)])) rfl rfl (hb hby d6_20)
  obtain ⟨cl3, Ar3, qk3, Sz3, Ng3, Hs3, Gt3⟩ := id V_a
  have hin3 : ¬ ((3 : Int32) < 0 ∨ cl3.slots.size ≤ ((3 : Int32)).toNatClampNeg) := inb_of Sz3 ⟨by decide, by decide⟩
  have hat3 : cl3.slots[((3 : Int32)).toNatClampNeg]? = some (.int w3) := Hs3.at hin3 rfl
  have pre4 : ∀ tz, oS p e below T2 m 27 #[rv o, iv x1, iv (0 : Int32), iv (6 : Int32), iv (3 : Int32)] [(.int x1), (.int w3)] tz → oS p e below s₁ m 0 #[rv o, iv x1, .unset, .unset, .unset] [] tz := fun tz kt => by
    show oS p e below s₁ m 0 #[rv o, iv x1, .unset, .unset, .unset] [] _
    refine XS.iconst X0.here hx rfl (hb hby d6_0) ?_
    refine XS.istoreN X0.here hx rfl (hb hby d6_1) rfl (l' := #[rv o, iv x1, iv (0 : Int32), .unset, .unset]) rfl ?_
    refine XS.aloadN X0.here hx rfl (hb hby d6_2) rfl rfl ?_
    show oS p e below s₁ m 3 #[rv o, iv x1, iv (0 : Int32), .unset, .unset] [(.ref o)] _
    refine st1 _ ?_
    refine XS.istoreN X1.here hx rfl (hb hby d6_6) rfl (l' := #[rv o, iv x1, iv (0 : Int32), iv (6 : Int32), .unset]) rfl ?_
    refine XS.iloadN X1.here hx rfl (hb hby d6_7) rfl ?_
    refine XS.iloadN X1.here hx rfl (hb hby d6_8) rfl ?_
    show oS p e below T1 m 9 #[rv o, iv x1, iv (0 : Int32), iv (6 : Int32), .unset] [(.int (6 : Int32)), (.int (0 : Int32))] _
    refine XS.icmpNo X1.here hx rfl (hb hby d6_9) rfl (tlt (by decide : ((0 : Int32) < (6 : Int32)))).2.1 ?_
    refine XS.iloadN X1.here hx rfl (hb hby d6_12) rfl ?_
    refine XS.iloadN X1.here hx rfl (hb hby d6_13) rfl ?_
    refine XS.iadd X1.here hx rfl (hb hby d6_14) rfl ?_
    show oS p e below T1 m 15 #[rv o, iv x1, iv (0 : Int32), iv (6 : Int32), .unset] [(.int (6 : Int32))] _
    refine XS.iconst X1.here hx rfl (hb hby d6_15) ?_
    refine XS.iushr X1.here hx rfl (hb hby d6_16) rfl ?_
    show oS p e below T1 m 17 #[rv o, iv x1, iv (0 : Int32), iv (6 : Int32), .unset] [(.int (3 : Int32))] _
    refine XS.istore X1.here hx rfl (hb hby d6_17) rfl (l' := #[rv o, iv x1, iv (0 : Int32), iv (6 : Int32), iv (3 : Int32)]) rfl ?_
    refine XS.aloadN X1.here hx rfl (hb hby d6_19) rfl rfl ?_
    show oS p e below T1 m 20 #[rv o, iv x1, iv (0 : Int32), iv (6 : Int32), iv (3 : Int32)] [(.ref o)] _
    refine st2 _ ?_
    refine XS.iload X2.here hx rfl (hb hby d6_23) rfl ?_
    refine X2.iaload hx (j := (3 : Int32)) (v := (.int w3)) (by rw [e2]; exact Ar3.1) (State.isArrayOf_alike hZ.alike Ar3.2.1) Ar3.2.2 hin3 hat3 (g := (mkF m 25 #[rv o, iv x1, iv (0 : Int32), iv (6 : Int32), iv (3 : Int32)] [(.int (3 : Int32)), (.ref a)])) rfl rfl (hb hby d6_25) _ ?_
    refine XS.iloadN X2.here hx rfl (hb hby d6_26) rfl ?_
    exact kt
  by_cases hc27 : x1 < w3
  · obtain ⟨T5, X5, e5, st5⟩ := getF X2 hx hZ hown (host := "") (Or.inl (own_w hw 20 rfl)) Via.refl e2 F_values_o (g := (mkF m 20 #[rv o, iv x1, iv (0 : Int32), iv (3 : Int32), iv (1 : Int32)] [(.ref o)])) rfl rfl (hb hby d6_20)
    obtain ⟨cl6, Ar6, qk6, Sz6, Ng6, Hs6, Gt6⟩ := id V_a
    have hin6 : ¬ ((1 : Int32) < 0 ∨ cl6.slots.size ≤ ((1 : Int32)).toNatClampNeg) := inb_of Sz6 ⟨by decide, by decide⟩
    have hat6 : cl6.slots[((1 : Int32)).toNatClampNeg]? = some (.int w1) := Hs6.at hin6 rfl
    have pre7 : ∀ tz, oS p e below T5 m 27 #[rv o, iv x1, iv (0 : Int32), iv (3 : Int32), iv (1 : Int32)] [(.int x1), (.int w1)] tz → oS p e below T2 m 27 #[rv o, iv x1, iv (0 : Int32), iv (6 : Int32), iv (3 : Int32)] [(.int x1), (.int w3)] tz := fun tz kt => by
      show oS p e below T2 m 27 #[rv o, iv x1, iv (0 : Int32), iv (6 : Int32), iv (3 : Int32)] [(.int x1), (.int w3)] _
      refine XS.icmpYes X2.here hx rfl (pc0 := 27) (pc' := 38) rfl (hb hby d6_27) rfl (tlt hc27).2.2.1 (by decide) (by decide) ?_
      refine XS.iload X2.here hx rfl (hb hby d6_38) rfl ?_
      refine XS.istoreN X2.here hx rfl (hb hby d6_40) rfl (l' := #[rv o, iv x1, iv (0 : Int32), iv (3 : Int32), iv (3 : Int32)]) rfl ?_
      refine XS.goto X2.here hx rfl (pc0 := 41) (pc' := 7) rfl (hb hby d6_41) (by decide) (by decide) ?_
      show oS p e below T2 m 7 #[rv o, iv x1, iv (0 : Int32), iv (3 : Int32), iv (3 : Int32)] [] _
      refine XS.iloadN X2.here hx rfl (hb hby d6_7) rfl ?_
      refine XS.iloadN X2.here hx rfl (hb hby d6_8) rfl ?_
      refine XS.icmpNo X2.here hx rfl (hb hby d6_9) rfl (tlt (by decide : ((0 : Int32) < (3 : Int32)))).2.1 ?_
      refine XS.iloadN X2.here hx rfl (hb hby d6_12) rfl ?_
      show oS p e below T2 m 13 #[rv o, iv x1, iv (0 : Int32), iv (3 : Int32), iv (3 : Int32)] [(.int (0 : Int32))] _
      refine XS.iloadN X2.here hx rfl (hb hby d6_13) rfl ?_
      refine XS.iadd X2.here hx rfl (hb hby d6_14) rfl ?_
      show oS p e below T2 m 15 #[rv o, iv x1, iv (0 : Int32), iv (3 : Int32), iv (3 : Int32)] [(.int (3 : Int32))] _
      refine XS.iconst X2.here hx rfl (hb hby d6_15) ?_
      refine XS.iushr X2.here hx rfl (hb hby d6_16) rfl ?_
      show oS p e below T2 m 17 #[rv o, iv x1, iv (0 : Int32), iv (3 : Int32), iv (3 : Int32)] [(.int (1 : Int32))] _
      refine XS.istore X2.here hx rfl (hb hby d6_17) rfl (l' := #[rv o, iv x1, iv (0 : Int32), iv (3 : Int32), iv (1 : Int32)]) rfl ?_
      refine XS.aloadN X2.here hx rfl (hb hby d6_19) rfl rfl ?_
      show oS p e below T2 m 20 #[rv o, iv x1, iv (0 : Int32), iv (3 : Int32), iv (1 : Int32)] [(.ref o)] _
      refine st5 _ ?_
      refine XS.iload X5.here hx rfl (hb hby d6_23) rfl ?_
      refine X5.iaload hx (j := (1 : Int32)) (v := (.int w1)) (by rw [e5]; exact Ar6.1) (State.isArrayOf_alike hZ.alike Ar6.2.1) Ar6.2.2 hin6 hat6 (g := (mkF m 25 #[rv o, iv x1, iv (0 : Int32), iv (3 : Int32), iv (1 : Int32)] [(.int (1 : Int32)), (.ref a)])) rfl rfl (hb hby d6_25) _ ?_
      refine XS.iloadN X5.here hx rfl (hb hby d6_26) rfl ?_
      exact kt
    by_cases hc27_2 : x1 < w1
    · obtain ⟨T8, X8, e8, st8⟩ := getF X5 hx hZ hown (host := "") (Or.inl (own_w hw 20 rfl)) Via.refl e5 F_values_o (g := (mkF m 20 #[rv o, iv x1, iv (0 : Int32), iv (1 : Int32), iv (0 : Int32)] [(.ref o)])) rfl rfl (hb hby d6_20)
      obtain ⟨cl9, Ar9, qk9, Sz9, Ng9, Hs9, Gt9⟩ := id V_a
      have hin9 : ¬ ((0 : Int32) < 0 ∨ cl9.slots.size ≤ ((0 : Int32)).toNatClampNeg) := inb_of Sz9 ⟨by decide, by decide⟩
      have hat9 : cl9.slots[((0 : Int32)).toNatClampNeg]? = some (.int w0) := Hs9.at hin9 rfl
      have pre10 : ∀ tz, oS p e below T8 m 27 #[rv o, iv x1, iv (0 : Int32), iv (1 : Int32), iv (0 : Int32)] [(.int x1), (.int w0)] tz → oS p e below T5 m 27 #[rv o, iv x1, iv (0 : Int32), iv (3 : Int32), iv (1 : Int32)] [(.int x1), (.int w1)] tz := fun tz kt => by
        show oS p e below T5 m 27 #[rv o, iv x1, iv (0 : Int32), iv (3 : Int32), iv (1 : Int32)] [(.int x1), (.int w1)] _
        refine XS.icmpYes X5.here hx rfl (pc0 := 27) (pc' := 38) rfl (hb hby d6_27) rfl (tlt hc27_2).2.2.1 (by decide) (by decide) ?_
        refine XS.iload X5.here hx rfl (hb hby d6_38) rfl ?_
        refine XS.istoreN X5.here hx rfl (hb hby d6_40) rfl (l' := #[rv o, iv x1, iv (0 : Int32), iv (1 : Int32), iv (1 : Int32)]) rfl ?_
        refine XS.goto X5.here hx rfl (pc0 := 41) (pc' := 7) rfl (hb hby d6_41) (by decide) (by decide) ?_
        show oS p e below T5 m 7 #[rv o, iv x1, iv (0 : Int32), iv (1 : Int32), iv (1 : Int32)] [] _
        refine XS.iloadN X5.here hx rfl (hb hby d6_7) rfl ?_
        refine XS.iloadN X5.here hx rfl (hb hby d6_8) rfl ?_
        refine XS.icmpNo X5.here hx rfl (hb hby d6_9) rfl (tlt (by decide : ((0 : Int32) < (1 : Int32)))).2.1 ?_
        refine XS.iloadN X5.here hx rfl (hb hby d6_12) rfl ?_
        show oS p e below T5 m 13 #[rv o, iv x1, iv (0 : Int32), iv (1 : Int32), iv (1 : Int32)] [(.int (0 : Int32))] _
        refine XS.iloadN X5.here hx rfl (hb hby d6_13) rfl ?_
        refine XS.iadd X5.here hx rfl (hb hby d6_14) rfl ?_
        show oS p e below T5 m 15 #[rv o, iv x1, iv (0 : Int32), iv (1 : Int32), iv (1 : Int32)] [(.int (1 : Int32))] _
        refine XS.iconst X5.here hx rfl (hb hby d6_15) ?_
        refine XS.iushr X5.here hx rfl (hb hby d6_16) rfl ?_
        show oS p e below T5 m 17 #[rv o, iv x1, iv (0 : Int32), iv (1 : Int32), iv (1 : Int32)] [(.int (0 : Int32))] _
        refine XS.istore X5.here hx rfl (hb hby d6_17) rfl (l' := #[rv o, iv x1, iv (0 : Int32), iv (1 : Int32), iv (0 : Int32)]) rfl ?_
        refine XS.aloadN X5.here hx rfl (hb hby d6_19) rfl rfl ?_
        show oS p e below T5 m 20 #[rv o, iv x1, iv (0 : Int32), iv (1 : Int32), iv (0 : Int32)] [(.ref o)] _
        refine st8 _ ?_
        refine XS.iload X8.here hx rfl (hb hby d6_23) rfl ?_
        refine X8.iaload hx (j := (0 : Int32)) (v := (.int w0)) (by rw [e8]; exact Ar9.1) (State.isArrayOf_alike hZ.alike Ar9.2.1) Ar9.2.2 hin9 hat9 (g := (mkF m 25 #[rv o, iv x1, iv (0 : Int32), iv (1 : Int32), iv (0 : Int32)] [(.int (0 : Int32)), (.ref a)])) rfl rfl (hb hby d6_25) _ ?_
        refine XS.iloadN X8.here hx rfl (hb hby d6_26) rfl ?_
        exact kt
      by_cases hc27_3 : x1 < w0
      · have pre11 : ∀ tz, oS p e below T8 m 45 #[rv o, iv x1, iv (0 : Int32), iv (0 : Int32), iv (0 : Int32)] [(.int (0 : Int32))] tz → oS p e below T8 m 27 #[rv o, iv x1, iv (0 : Int32), iv (1 : Int32), iv (0 : Int32)] [(.int x1), (.int w0)] tz := fun tz kt => by
          show oS p e below T8 m 27 #[rv o, iv x1, iv (0 : Int32), iv (1 : Int32), iv (0 : Int32)] [(.int x1), (.int w0)] _
          refine XS.icmpYes X8.here hx rfl (pc0 := 27) (pc' := 38) rfl (hb hby d6_27) rfl (tlt hc27_3).2.2.1 (by decide) (by decide) ?_
          refine XS.iload X8.here hx rfl (hb hby d6_38) rfl ?_
          refine XS.istoreN X8.here hx rfl (hb hby d6_40) rfl (l' := #[rv o, iv x1, iv (0 : Int32), iv (0 : Int32), iv (0 : Int32)]) rfl ?_
          refine XS.goto X8.here hx rfl (pc0 := 41) (pc' := 7) rfl (hb hby d6_41) (by decide) (by decide) ?_
          show oS p e below T8 m 7 #[rv o, iv x1, iv (0 : Int32), iv (0 : Int32), iv (0 : Int32)] [] _
          refine XS.iloadN X8.here hx rfl (hb hby d6_7) rfl ?_
          refine XS.iloadN X8.here hx rfl (hb hby d6_8) rfl ?_
          refine XS.icmpYes X8.here hx rfl (pc0 := 9) (pc' := 44) rfl (hb hby d6_9) rfl (flt (by decide : ¬ ((0 : Int32) < (0 : Int32)))).2.1 (by decide) (by decide) ?_
          refine XS.iloadN X8.here hx rfl (hb hby d6_44) rfl ?_
          exact kt
        obtain ⟨fs, hr, hrun, hended, hW, hsame⟩ := X8.leave (v := some (.int (0 : Int32))) (fun h => by rw [Bd.returns] at h; cases h)
        refine ⟨_, _, pre0 _ (pre4 _ (pre7 _ (pre10 _ (pre11 _ ?_)))), hrun, hended, _, _, rfl, ?_, ⟨_, rfl⟩, hW, hsame.mono (by decide) (by decide)⟩
        · show oS p e below T8 m 45 #[rv o, iv x1, iv (0 : Int32), iv (0 : Int32), iv (0 : Int32)] [(.int (0 : Int32))] _
          exact retOut X8 hx Bd.returns rfl (Or.inl ⟨rfl, Or.inl rfl, _, rfl⟩) (hb hby d6_45) hr
        · show QC6 Z o x1 w0 w1 w2 w3 w4 w5 a k1 h0 n0 _ T8.heap _
          rw [e8]
          exact ⟨(by first | rfl | simp only [if_pos hc27, if_pos hc27_2, if_pos hc27_3]), N0, rfl⟩
      · have pre12 : ∀ tz, oS p e below T8 m 45 #[rv o, iv x1, iv (1 : Int32), iv (1 : Int32), iv (0 : Int32)] [(.int (1 : Int32))] tz → oS p e below T8 m 27 #[rv o, iv x1, iv (0 : Int32), iv (1 : Int32), iv (0 : Int32)] [(.int x1), (.int w0)] tz := fun tz kt => by
          show oS p e below T8 m 27 #[rv o, iv x1, iv (0 : Int32), iv (1 : Int32), iv (0 : Int32)] [(.int x1), (.int w0)] _
          refine XS.icmpNo X8.here hx rfl (hb hby d6_27) rfl (flt hc27_3).2.2.1 ?_
          refine XS.iload X8.here hx rfl (hb hby d6_30) rfl ?_
          refine XS.iconst X8.here hx rfl (hb hby d6_32) ?_
          refine XS.iadd X8.here hx rfl (hb hby d6_33) rfl ?_
          show oS p e below T8 m 34 #[rv o, iv x1, iv (0 : Int32), iv (1 : Int32), iv (0 : Int32)] [(.int (1 : Int32))] _
          refine XS.istoreN X8.here hx rfl (hb hby d6_34) rfl (l' := #[rv o, iv x1, iv (1 : Int32), iv (1 : Int32), iv (0 : Int32)]) rfl ?_
          refine XS.goto X8.here hx rfl (pc0 := 35) (pc' := 41) rfl (hb hby d6_35) (by decide) (by decide) ?_
          refine XS.goto X8.here hx rfl (pc0 := 41) (pc' := 7) rfl (hb hby d6_41) (by decide) (by decide) ?_
          refine XS.iloadN X8.here hx rfl (hb hby d6_7) rfl ?_
          show oS p e below T8 m 8 #[rv o, iv x1, iv (1 : Int32), iv (1 : Int32), iv (0 : Int32)] [(.int (1 : Int32))] _
          refine XS.iloadN X8.here hx rfl (hb hby d6_8) rfl ?_
          refine XS.icmpYes X8.here hx rfl (pc0 := 9) (pc' := 44) rfl (hb hby d6_9) rfl (flt (by decide : ¬ ((1 : Int32) < (1 : Int32)))).2.1 (by decide) (by decide) ?_
          refine XS.iloadN X8.here hx rfl (hb hby d6_44) rfl ?_
          exact kt
        obtain ⟨fs, hr, hrun, hended, hW, hsame⟩ := X8.leave (v := some (.int (1 : Int32))) (fun h => by rw [Bd.returns] at h; cases h)
        refine ⟨_, _, pre0 _ (pre4 _ (pre7 _ (pre10 _ (pre12 _ ?_)))), hrun, hended, _, _, rfl, ?_, ⟨_, rfl⟩, hW, hsame.mono (by decide) (by decide)⟩
        · show oS p e below T8 m 45 #[rv o, iv x1, iv (1 : Int32), iv (1 : Int32), iv (0 : Int32)] [(.int (1 : Int32))] _
          exact retOut X8 hx Bd.returns rfl (Or.inl ⟨rfl, Or.inl rfl, _, rfl⟩) (hb hby d6_45) hr
        · show QC6 Z o x1 w0 w1 w2 w3 w4 w5 a k1 h0 n0 _ T8.heap _
          rw [e8]
          exact ⟨(by first | rfl | simp only [if_pos hc27, if_pos hc27_2, if_neg hc27_3]), N0, rfl⟩
    · obtain ⟨T13, X13, e13, st13⟩ := getF X5 hx hZ hown (host := "") (Or.inl (own_w hw 20 rfl)) Via.refl e5 F_values_o (g := (mkF m 20 #[rv o, iv x1, iv (2 : Int32), iv (3 : Int32), iv (2 : Int32)] [(.ref o)])) rfl rfl (hb hby d6_20)
      obtain ⟨cl14, Ar14, qk14, Sz14, Ng14, Hs14, Gt14⟩ := id V_a
      have hin14 : ¬ ((2 : Int32) < 0 ∨ cl14.slots.size ≤ ((2 : Int32)).toNatClampNeg) := inb_of Sz14 ⟨by decide, by decide⟩
      have hat14 : cl14.slots[((2 : Int32)).toNatClampNeg]? = some (.int w2) := Hs14.at hin14 rfl
      have pre15 : ∀ tz, oS p e below T13 m 27 #[rv o, iv x1, iv (2 : Int32), iv (3 : Int32), iv (2 : Int32)] [(.int x1), (.int w2)] tz → oS p e below T5 m 27 #[rv o, iv x1, iv (0 : Int32), iv (3 : Int32), iv (1 : Int32)] [(.int x1), (.int w1)] tz := fun tz kt => by
        show oS p e below T5 m 27 #[rv o, iv x1, iv (0 : Int32), iv (3 : Int32), iv (1 : Int32)] [(.int x1), (.int w1)] _
        refine XS.icmpNo X5.here hx rfl (hb hby d6_27) rfl (flt hc27_2).2.2.1 ?_
        refine XS.iload X5.here hx rfl (hb hby d6_30) rfl ?_
        refine XS.iconst X5.here hx rfl (hb hby d6_32) ?_
        refine XS.iadd X5.here hx rfl (hb hby d6_33) rfl ?_
        show oS p e below T5 m 34 #[rv o, iv x1, iv (0 : Int32), iv (3 : Int32), iv (1 : Int32)] [(.int (2 : Int32))] _
        refine XS.istoreN X5.here hx rfl (hb hby d6_34) rfl (l' := #[rv o, iv x1, iv (2 : Int32), iv (3 : Int32), iv (1 : Int32)]) rfl ?_
        refine XS.goto X5.here hx rfl (pc0 := 35) (pc' := 41) rfl (hb hby d6_35) (by decide) (by decide) ?_
        refine XS.goto X5.here hx rfl (pc0 := 41) (pc' := 7) rfl (hb hby d6_41) (by decide) (by decide) ?_
        refine XS.iloadN X5.here hx rfl (hb hby d6_7) rfl ?_
        show oS p e below T5 m 8 #[rv o, iv x1, iv (2 : Int32), iv (3 : Int32), iv (1 : Int32)] [(.int (2 : Int32))] _
        refine XS.iloadN X5.here hx rfl (hb hby d6_8) rfl ?_
        refine XS.icmpNo X5.here hx rfl (hb hby d6_9) rfl (tlt (by decide : ((2 : Int32) < (3 : Int32)))).2.1 ?_
        refine XS.iloadN X5.here hx rfl (hb hby d6_12) rfl ?_
        refine XS.iloadN X5.here hx rfl (hb hby d6_13) rfl ?_
        show oS p e below T5 m 14 #[rv o, iv x1, iv (2 : Int32), iv (3 : Int32), iv (1 : Int32)] [(.int (3 : Int32)), (.int (2 : Int32))] _
        refine XS.iadd X5.here hx rfl (hb hby d6_14) rfl ?_
        show oS p e below T5 m 15 #[rv o, iv x1, iv (2 : Int32), iv (3 : Int32), iv (1 : Int32)] [(.int (5 : Int32))] _
        refine XS.iconst X5.here hx rfl (hb hby d6_15) ?_
        refine XS.iushr X5.here hx rfl (hb hby d6_16) rfl ?_
        show oS p e below T5 m 17 #[rv o, iv x1, iv (2 : Int32), iv (3 : Int32), iv (1 : Int32)] [(.int (2 : Int32))] _
        refine XS.istore X5.here hx rfl (hb hby d6_17) rfl (l' := #[rv o, iv x1, iv (2 : Int32), iv (3 : Int32), iv (2 : Int32)]) rfl ?_
        refine XS.aloadN X5.here hx rfl (hb hby d6_19) rfl rfl ?_
        show oS p e below T5 m 20 #[rv o, iv x1, iv (2 : Int32), iv (3 : Int32), iv (2 : Int32)] [(.ref o)] _
        refine st13 _ ?_
        refine XS.iload X13.here hx rfl (hb hby d6_23) rfl ?_
        refine X13.iaload hx (j := (2 : Int32)) (v := (.int w2)) (by rw [e13]; exact Ar14.1) (State.isArrayOf_alike hZ.alike Ar14.2.1) Ar14.2.2 hin14 hat14 (g := (mkF m 25 #[rv o, iv x1, iv (2 : Int32), iv (3 : Int32), iv (2 : Int32)] [(.int (2 : Int32)), (.ref a)])) rfl rfl (hb hby d6_25) _ ?_
        refine XS.iloadN X13.here hx rfl (hb hby d6_26) rfl ?_
        exact kt
      by_cases hc27_3 : x1 < w2
      · have pre16 : ∀ tz, oS p e below T13 m 45 #[rv o, iv x1, iv (2 : Int32), iv (2 : Int32), iv (2 : Int32)] [(.int (2 : Int32))] tz → oS p e below T13 m 27 #[rv o, iv x1, iv (2 : Int32), iv (3 : Int32), iv (2 : Int32)] [(.int x1), (.int w2)] tz := fun tz kt => by
          show oS p e below T13 m 27 #[rv o, iv x1, iv (2 : Int32), iv (3 : Int32), iv (2 : Int32)] [(.int x1), (.int w2)] _
          refine XS.icmpYes X13.here hx rfl (pc0 := 27) (pc' := 38) rfl (hb hby d6_27) rfl (tlt hc27_3).2.2.1 (by decide) (by decide) ?_
          refine XS.iload X13.here hx rfl (hb hby d6_38) rfl ?_
          refine XS.istoreN X13.here hx rfl (hb hby d6_40) rfl (l' := #[rv o, iv x1, iv (2 : Int32), iv (2 : Int32), iv (2 : Int32)]) rfl ?_
          refine XS.goto X13.here hx rfl (pc0 := 41) (pc' := 7) rfl (hb hby d6_41) (by decide) (by decide) ?_
          show oS p e below T13 m 7 #[rv o, iv x1, iv (2 : Int32), iv (2 : Int32), iv (2 : Int32)] [] _
          refine XS.iloadN X13.here hx rfl (hb hby d6_7) rfl ?_
          refine XS.iloadN X13.here hx rfl (hb hby d6_8) rfl ?_
          refine XS.icmpYes X13.here hx rfl (pc0 := 9) (pc' := 44) rfl (hb hby d6_9) rfl (flt (by decide : ¬ ((2 : Int32) < (2 : Int32)))).2.1 (by decide) (by decide) ?_
          refine XS.iloadN X13.here hx rfl (hb hby d6_44) rfl ?_
          exact kt
        obtain ⟨fs, hr, hrun, hended, hW, hsame⟩ := X13.leave (v := some (.int (2 : Int32))) (fun h => by rw [Bd.returns] at h; cases h)
        refine ⟨_, _, pre0 _ (pre4 _ (pre7 _ (pre15 _ (pre16 _ ?_)))), hrun, hended, _, _, rfl, ?_, ⟨_, rfl⟩, hW, hsame.mono (by decide) (by decide)⟩
        · show oS p e below T13 m 45 #[rv o, iv x1, iv (2 : Int32), iv (2 : Int32), iv (2 : Int32)] [(.int (2 : Int32))] _
          exact retOut X13 hx Bd.returns rfl (Or.inl ⟨rfl, Or.inl rfl, _, rfl⟩) (hb hby d6_45) hr
        · show QC6 Z o x1 w0 w1 w2 w3 w4 w5 a k1 h0 n0 _ T13.heap _
          rw [e13]
          exact ⟨(by first | rfl | simp only [if_pos hc27, if_neg hc27_2, if_pos hc27_3]), N0, rfl⟩
      · have pre17 : ∀ tz, oS p e below T13 m 45 #[rv o, iv x1, iv (3 : Int32), iv (3 : Int32), iv (2 : Int32)] [(.int (3 : Int32))] tz → oS p e below T13 m 27 #[rv o, iv x1, iv (2 : Int32), iv (3 : Int32), iv (2 : Int32)] [(.int x1), (.int w2)] tz := fun tz kt => by
          show oS p e below T13 m 27 #[rv o, iv x1, iv (2 : Int32), iv (3 : Int32), iv (2 : Int32)] [(.int x1), (.int w2)] _
          refine XS.icmpNo X13.here hx rfl (hb hby d6_27) rfl (flt hc27_3).2.2.1 ?_
          refine XS.iload X13.here hx rfl (hb hby d6_30) rfl ?_
          refine XS.iconst X13.here hx rfl (hb hby d6_32) ?_
          refine XS.iadd X13.here hx rfl (hb hby d6_33) rfl ?_
          show oS p e below T13 m 34 #[rv o, iv x1, iv (2 : Int32), iv (3 : Int32), iv (2 : Int32)] [(.int (3 : Int32))] _
          refine XS.istoreN X13.here hx rfl (hb hby d6_34) rfl (l' := #[rv o, iv x1, iv (3 : Int32), iv (3 : Int32), iv (2 : Int32)]) rfl ?_
          refine XS.goto X13.here hx rfl (pc0 := 35) (pc' := 41) rfl (hb hby d6_35) (by decide) (by decide) ?_
          refine XS.goto X13.here hx rfl (pc0 := 41) (pc' := 7) rfl (hb hby d6_41) (by decide) (by decide) ?_
          refine XS.iloadN X13.here hx rfl (hb hby d6_7) rfl ?_
          show oS p e below T13 m 8 #[rv o, iv x1, iv (3 : Int32), iv (3 : Int32), iv (2 : Int32)] [(.int (3 : Int32))] _
          refine XS.iloadN X13.here hx rfl (hb hby d6_8) rfl ?_
          refine XS.icmpYes X13.here hx rfl (pc0 := 9) (pc' := 44) rfl (hb hby d6_9) rfl (flt (by decide : ¬ ((3 : Int32) < (3 : Int32)))).2.1 (by decide) (by decide) ?_
          refine XS.iloadN X13.here hx rfl (hb hby d6_44) rfl ?_
          exact kt
        obtain ⟨fs, hr, hrun, hended, hW, hsame⟩ := X13.leave (v := some (.int (3 : Int32))) (fun h => by rw [Bd.returns] at h; cases h)
        refine ⟨_, _, pre0 _ (pre4 _ (pre7 _ (pre15 _ (pre17 _ ?_)))), hrun, hended, _, _, rfl, ?_, ⟨_, rfl⟩, hW, hsame.mono (by decide) (by decide)⟩
        · show oS p e below T13 m 45 #[rv o, iv x1, iv (3 : Int32), iv (3 : Int32), iv (2 : Int32)] [(.int (3 : Int32))] _
          exact retOut X13 hx Bd.returns rfl (Or.inl ⟨rfl, Or.inl rfl, _, rfl⟩) (hb hby d6_45) hr
        · show QC6 Z o x1 w0 w1 w2 w3 w4 w5 a k1 h0 n0 _ T13.heap _
          rw [e13]
          exact ⟨(by first | rfl | simp only [if_pos hc27, if_neg hc27_2, if_neg hc27_3]), N0, rfl⟩
  · obtain ⟨T18, X18, e18, st18⟩ := getF X2 hx hZ hown (host := "") (Or.inl (own_w hw 20 rfl)) Via.refl e2 F_values_o (g := (mkF m 20 #[rv o, iv x1, iv (4 : Int32), iv (6 : Int32), iv (5 : Int32)] [(.ref o)])) rfl rfl (hb hby d6_20)
    obtain ⟨cl19, Ar19, qk19, Sz19, Ng19, Hs19, Gt19⟩ := id V_a
    have hin19 : ¬ ((5 : Int32) < 0 ∨ cl19.slots.size ≤ ((5 : Int32)).toNatClampNeg) := inb_of Sz19 ⟨by decide, by decide⟩
    have hat19 : cl19.slots[((5 : Int32)).toNatClampNeg]? = some (.int w5) := Hs19.at hin19 rfl
    have pre20 : ∀ tz, oS p e below T18 m 27 #[rv o, iv x1, iv (4 : Int32), iv (6 : Int32), iv (5 : Int32)] [(.int x1), (.int w5)] tz → oS p e below T2 m 27 #[rv o, iv x1, iv (0 : Int32), iv (6 : Int32), iv (3 : Int32)] [(.int x1), (.int w3)] tz := fun tz kt => by
      show oS p e below T2 m 27 #[rv o, iv x1, iv (0 : Int32), iv (6 : Int32), iv (3 : Int32)] [(.int x1), (.int w3)] _
      refine XS.icmpNo X2.here hx rfl (hb hby d6_27) rfl (flt hc27).2.2.1 ?_
      refine XS.iload X2.here hx rfl (hb hby d6_30) rfl ?_
      refine XS.iconst X2.here hx rfl (hb hby d6_32) ?_
      refine XS.iadd X2.here hx rfl (hb hby d6_33) rfl ?_
      show oS p e below T2 m 34 #[rv o, iv x1, iv (0 : Int32), iv (6 : Int32), iv (3 : Int32)] [(.int (4 : Int32))] _
      refine XS.istoreN X2.here hx rfl (hb hby d6_34) rfl (l' := #[rv o, iv x1, iv (4 : Int32), iv (6 : Int32), iv (3 : Int32)]) rfl ?_
      refine XS.goto X2.here hx rfl (pc0 := 35) (pc' := 41) rfl (hb hby d6_35) (by decide) (by decide) ?_
      refine XS.goto X2.here hx rfl (pc0 := 41) (pc' := 7) rfl (hb hby d6_41) (by decide) (by decide) ?_
      refine XS.iloadN X2.here hx rfl (hb hby d6_7) rfl ?_
      show oS p e below T2 m 8 #[rv o, iv x1, iv (4 : Int32), iv (6 : Int32), iv (3 : Int32)] [(.int (4 : Int32))] _
      refine XS.iloadN X2.here hx rfl (hb hby d6_8) rfl ?_
      refine XS.icmpNo X2.here hx rfl (hb hby d6_9) rfl (tlt (by decide : ((4 : Int32) < (6 : Int32)))).2.1 ?_
      refine XS.iloadN X2.here hx rfl (hb hby d6_12) rfl ?_
      refine XS.iloadN X2.here hx rfl (hb hby d6_13) rfl ?_
      show oS p e below T2 m 14 #[rv o, iv x1, iv (4 : Int32), iv (6 : Int32), iv (3 : Int32)] [(.int (6 : Int32)), (.int (4 : Int32))] _
      refine XS.iadd X2.here hx rfl (hb hby d6_14) rfl ?_
      show oS p e below T2 m 15 #[rv o, iv x1, iv (4 : Int32), iv (6 : Int32), iv (3 : Int32)] [(.int (10 : Int32))] _
      refine XS.iconst X2.here hx rfl (hb hby d6_15) ?_
      refine XS.iushr X2.here hx rfl (hb hby d6_16) rfl ?_
      show oS p e below T2 m 17 #[rv o, iv x1, iv (4 : Int32), iv (6 : Int32), iv (3 : Int32)] [(.int (5 : Int32))] _
      refine XS.istore X2.here hx rfl (hb hby d6_17) rfl (l' := #[rv o, iv x1, iv (4 : Int32), iv (6 : Int32), iv (5 : Int32)]) rfl ?_
      refine XS.aloadN X2.here hx rfl (hb hby d6_19) rfl rfl ?_
      show oS p e below T2 m 20 #[rv o, iv x1, iv (4 : Int32), iv (6 : Int32), iv (5 : Int32)] [(.ref o)] _
      refine st18 _ ?_
      refine XS.iload X18.here hx rfl (hb hby d6_23) rfl ?_
      refine X18.iaload hx (j := (5 : Int32)) (v := (.int w5)) (by rw [e18]; exact Ar19.1) (State.isArrayOf_alike hZ.alike Ar19.2.1) Ar19.2.2 hin19 hat19 (g := (mkF m 25 #[rv o, iv x1, iv (4 : Int32), iv (6 : Int32), iv (5 : Int32)] [(.int (5 : Int32)), (.ref a)])) rfl rfl (hb hby d6_25) _ ?_
      refine XS.iloadN X18.here hx rfl (hb hby d6_26) rfl ?_
      exact kt
    by_cases hc27_2 : x1 < w5
    · obtain ⟨T21, X21, e21, st21⟩ := getF X18 hx hZ hown (host := "") (Or.inl (own_w hw 20 rfl)) Via.refl e18 F_values_o (g := (mkF m 20 #[rv o, iv x1, iv (4 : Int32), iv (5 : Int32), iv (4 : Int32)] [(.ref o)])) rfl rfl (hb hby d6_20)
      obtain ⟨cl22, Ar22, qk22, Sz22, Ng22, Hs22, Gt22⟩ := id V_a
      have hin22 : ¬ ((4 : Int32) < 0 ∨ cl22.slots.size ≤ ((4 : Int32)).toNatClampNeg) := inb_of Sz22 ⟨by decide, by decide⟩
      have hat22 : cl22.slots[((4 : Int32)).toNatClampNeg]? = some (.int w4) := Hs22.at hin22 rfl
      have pre23 : ∀ tz, oS p e below T21 m 27 #[rv o, iv x1, iv (4 : Int32), iv (5 : Int32), iv (4 : Int32)] [(.int x1), (.int w4)] tz → oS p e below T18 m 27 #[rv o, iv x1, iv (4 : Int32), iv (6 : Int32), iv (5 : Int32)] [(.int x1), (.int w5)] tz := fun tz kt => by
        show oS p e below T18 m 27 #[rv o, iv x1, iv (4 : Int32), iv (6 : Int32), iv (5 : Int32)] [(.int x1), (.int w5)] _
        refine XS.icmpYes X18.here hx rfl (pc0 := 27) (pc' := 38) rfl (hb hby d6_27) rfl (tlt hc27_2).2.2.1 (by decide) (by decide) ?_
        refine XS.iload X18.here hx rfl (hb hby d6_38) rfl ?_
        refine XS.istoreN X18.here hx rfl (hb hby d6_40) rfl (l' := #[rv o, iv x1, iv (4 : Int32), iv (5 : Int32), iv (5 : Int32)]) rfl ?_
        refine XS.goto X18.here hx rfl (pc0 := 41) (pc' := 7) rfl (hb hby d6_41) (by decide) (by decide) ?_
        show oS p e below T18 m 7 #[rv o, iv x1, iv (4 : Int32), iv (5 : Int32), iv (5 : Int32)] [] _
        refine XS.iloadN X18.here hx rfl (hb hby d6_7) rfl ?_
        refine XS.iloadN X18.here hx rfl (hb hby d6_8) rfl ?_
        refine XS.icmpNo X18.here hx rfl (hb hby d6_9) rfl (tlt (by decide : ((4 : Int32) < (5 : Int32)))).2.1 ?_
        refine XS.iloadN X18.here hx rfl (hb hby d6_12) rfl ?_
        show oS p e below T18 m 13 #[rv o, iv x1, iv (4 : Int32), iv (5 : Int32), iv (5 : Int32)] [(.int (4 : Int32))] _
        refine XS.iloadN X18.here hx rfl (hb hby d6_13) rfl ?_
        refine XS.iadd X18.here hx rfl (hb hby d6_14) rfl ?_
        show oS p e below T18 m 15 #[rv o, iv x1, iv (4 : Int32), iv (5 : Int32), iv (5 : Int32)] [(.int (9 : Int32))] _
        refine XS.iconst X18.here hx rfl (hb hby d6_15) ?_
        refine XS.iushr X18.here hx rfl (hb hby d6_16) rfl ?_
        show oS p e below T18 m 17 #[rv o, iv x1, iv (4 : Int32), iv (5 : Int32), iv (5 : Int32)] [(.int (4 : Int32))] _
        refine XS.istore X18.here hx rfl (hb hby d6_17) rfl (l' := #[rv o, iv x1, iv (4 : Int32), iv (5 : Int32), iv (4 : Int32)]) rfl ?_
        refine XS.aloadN X18.here hx rfl (hb hby d6_19) rfl rfl ?_
        show oS p e below T18 m 20 #[rv o, iv x1, iv (4 : Int32), iv (5 : Int32), iv (4 : Int32)] [(.ref o)] _
        refine st21 _ ?_
        refine XS.iload X21.here hx rfl (hb hby d6_23) rfl ?_
        refine X21.iaload hx (j := (4 : Int32)) (v := (.int w4)) (by rw [e21]; exact Ar22.1) (State.isArrayOf_alike hZ.alike Ar22.2.1) Ar22.2.2 hin22 hat22 (g := (mkF m 25 #[rv o, iv x1, iv (4 : Int32), iv (5 : Int32), iv (4 : Int32)] [(.int (4 : Int32)), (.ref a)])) rfl rfl (hb hby d6_25) _ ?_
        refine XS.iloadN X21.here hx rfl (hb hby d6_26) rfl ?_
        exact kt
      by_cases hc27_3 : x1 < w4
      · have pre24 : ∀ tz, oS p e below T21 m 45 #[rv o, iv x1, iv (4 : Int32), iv (4 : Int32), iv (4 : Int32)] [(.int (4 : Int32))] tz → oS p e below T21 m 27 #[rv o, iv x1, iv (4 : Int32), iv (5 : Int32), iv (4 : Int32)] [(.int x1), (.int w4)] tz := fun tz kt => by
          show oS p e below T21 m 27 #[rv o, iv x1, iv (4 : Int32), iv (5 : Int32), iv (4 : Int32)] [(.int x1), (.int w4)] _
          refine XS.icmpYes X21.here hx rfl (pc0 := 27) (pc' := 38) rfl (hb hby d6_27) rfl (tlt hc27_3).2.2.1 (by decide) (by decide) ?_
          refine XS.iload X21.here hx rfl (hb hby d6_38) rfl ?_
          refine XS.istoreN X21.here hx rfl (hb hby d6_40) rfl (l' := #[rv o, iv x1, iv (4 : Int32), iv (4 : Int32), iv (4 : Int32)]) rfl ?_
          refine XS.goto X21.here hx rfl (pc0 := 41) (pc' := 7) rfl (hb hby d6_41) (by decide) (by decide) ?_
          show oS p e below T21 m 7 #[rv o, iv x1, iv (4 : Int32), iv (4 : Int32), iv (4 : Int32)] [] _
          refine XS.iloadN X21.here hx rfl (hb hby d6_7) rfl ?_
          refine XS.iloadN X21.here hx rfl (hb hby d6_8) rfl ?_
          refine XS.icmpYes X21.here hx rfl (pc0 := 9) (pc' := 44) rfl (hb hby d6_9) rfl (flt (by decide : ¬ ((4 : Int32) < (4 : Int32)))).2.1 (by decide) (by decide) ?_
          refine XS.iloadN X21.here hx rfl (hb hby d6_44) rfl ?_
          exact kt
        obtain ⟨fs, hr, hrun, hended, hW, hsame⟩ := X21.leave (v := some (.int (4 : Int32))) (fun h => by rw [Bd.returns] at h; cases h)
        refine ⟨_, _, pre0 _ (pre4 _ (pre20 _ (pre23 _ (pre24 _ ?_)))), hrun, hended, _, _, rfl, ?_, ⟨_, rfl⟩, hW, hsame.mono (by decide) (by decide)⟩
        · show oS p e below T21 m 45 #[rv o, iv x1, iv (4 : Int32), iv (4 : Int32), iv (4 : Int32)] [(.int (4 : Int32))] _
          exact retOut X21 hx Bd.returns rfl (Or.inl ⟨rfl, Or.inl rfl, _, rfl⟩) (hb hby d6_45) hr
        · show QC6 Z o x1 w0 w1 w2 w3 w4 w5 a k1 h0 n0 _ T21.heap _
          rw [e21]
          exact ⟨(by first | rfl | simp only [if_neg hc27, if_pos hc27_2, if_pos hc27_3]), N0, rfl⟩
      · have pre25 : ∀ tz, oS p e below T21 m 45 #[rv o, iv x1, iv (5 : Int32), iv (5 : Int32), iv (4 : Int32)] [(.int (5 : Int32))] tz → oS p e below T21 m 27 #[rv o, iv x1, iv (4 : Int32), iv (5 : Int32), iv (4 : Int32)] [(.int x1), (.int w4)] tz := fun tz kt => by
          show oS p e below T21 m 27 #[rv o, iv x1, iv (4 : Int32), iv (5 : Int32), iv (4 : Int32)] [(.int x1), (.int w4)] _
          refine XS.icmpNo X21.here hx rfl (hb hby d6_27) rfl (flt hc27_3).2.2.1 ?_
          refine XS.iload X21.here hx rfl (hb hby d6_30) rfl ?_
          refine XS.iconst X21.here hx rfl (hb hby d6_32) ?_
          refine XS.iadd X21.here hx rfl (hb hby d6_33) rfl ?_
          show oS p e below T21 m 34 #[rv o, iv x1, iv (4 : Int32), iv (5 : Int32), iv (4 : Int32)] [(.int (5 : Int32))] _
          refine XS.istoreN X21.here hx rfl (hb hby d6_34) rfl (l' := #[rv o, iv x1, iv (5 : Int32), iv (5 : Int32), iv (4 : Int32)]) rfl ?_
          refine XS.goto X21.here hx rfl (pc0 := 35) (pc' := 41) rfl (hb hby d6_35) (by decide) (by decide) ?_
          refine XS.goto X21.here hx rfl (pc0 := 41) (pc' := 7) rfl (hb hby d6_41) (by decide) (by decide) ?_
          refine XS.iloadN X21.here hx rfl (hb hby d6_7) rfl ?_
          show oS p e below T21 m 8 #[rv o, iv x1, iv (5 : Int32), iv (5 : Int32), iv (4 : Int32)] [(.int (5 : Int32))] _
          refine XS.iloadN X21.here hx rfl (hb hby d6_8) rfl ?_
          refine XS.icmpYes X21.here hx rfl (pc0 := 9) (pc' := 44) rfl (hb hby d6_9) rfl (flt (by decide : ¬ ((5 : Int32) < (5 : Int32)))).2.1 (by decide) (by decide) ?_
          refine XS.iloadN X21.here hx rfl (hb hby d6_44) rfl ?_
          exact kt
        obtain ⟨fs, hr, hrun, hended, hW, hsame⟩ := X21.leave (v := some (.int (5 : Int32))) (fun h => by rw [Bd.returns] at h; cases h)
        refine ⟨_, _, pre0 _ (pre4 _ (pre20 _ (pre23 _ (pre25 _ ?_)))), hrun, hended, _, _, rfl, ?_, ⟨_, rfl⟩, hW, hsame.mono (by decide) (by decide)⟩
        · show oS p e below T21 m 45 #[rv o, iv x1, iv (5 : Int32), iv (5 : Int32), iv (4 : Int32)] [(.int (5 : Int32))] _
          exact retOut X21 hx Bd.returns rfl (Or.inl ⟨rfl, Or.inl rfl, _, rfl⟩) (hb hby d6_45) hr
        · show QC6 Z o x1 w0 w1 w2 w3 w4 w5 a k1 h0 n0 _ T21.heap _
          rw [e21]
          exact ⟨(by first | rfl | simp only [if_neg hc27, if_pos hc27_2, if_neg hc27_3]), N0, rfl⟩
    · have pre26 : ∀ tz, oS p e below T18 m 45 #[rv o, iv x1, iv (6 : Int32), iv (6 : Int32), iv (5 : Int32)] [(.int (6 : Int32))] tz → oS p e below T18 m 27 #[rv o, iv x1, iv (4 : Int32), iv (6 : Int32), iv (5 : Int32)] [(.int x1), (.int w5)] tz := fun tz kt => by
        show oS p e below T18 m 27 #[rv o, iv x1, iv (4 : Int32), iv (6 : Int32), iv (5 : Int32)] [(.int x1), (.int w5)] _
        refine XS.icmpNo X18.here hx rfl (hb hby d6_27) rfl (flt hc27_2).2.2.1 ?_
        refine XS.iload X18.here hx rfl (hb hby d6_30) rfl ?_
        refine XS.iconst X18.here hx rfl (hb hby d6_32) ?_
        refine XS.iadd X18.here hx rfl (hb hby d6_33) rfl ?_
        show oS p e below T18 m 34 #[rv o, iv x1, iv (4 : Int32), iv (6 : Int32), iv (5 : Int32)] [(.int (6 : Int32))] _
        refine XS.istoreN X18.here hx rfl (hb hby d6_34) rfl (l' := #[rv o, iv x1, iv (6 : Int32), iv (6 : Int32), iv (5 : Int32)]) rfl ?_
        refine XS.goto X18.here hx rfl (pc0 := 35) (pc' := 41) rfl (hb hby d6_35) (by decide) (by decide) ?_
        refine XS.goto X18.here hx rfl (pc0 := 41) (pc' := 7) rfl (hb hby d6_41) (by decide) (by decide) ?_
        refine XS.iloadN X18.here hx rfl (hb hby d6_7) rfl ?_
        show oS p e below T18 m 8 #[rv o, iv x1, iv (6 : Int32), iv (6 : Int32), iv (5 : Int32)] [(.int (6 : Int32))] _
        refine XS.iloadN X18.here hx rfl (hb hby d6_8) rfl ?_
        refine XS.icmpYes X18.here hx rfl (pc0 := 9) (pc' := 44) rfl (hb hby d6_9) rfl (flt (by decide : ¬ ((6 : Int32) < (6 : Int32)))).2.1 (by decide) (by decide) ?_
        refine XS.iloadN X18.here hx rfl (hb hby d6_44) rfl ?_
        exact kt
      obtain ⟨fs, hr, hrun, hended, hW, hsame⟩ := X18.leave (v := some (.int (6 : Int32))) (fun h => by rw [Bd.returns] at h; cases h)
      refine ⟨_, _, pre0 _ (pre4 _ (pre20 _ (pre26 _ ?_))), hrun, hended, _, _, rfl, ?_, ⟨_, rfl⟩, hW, hsame.mono (by decide) (by decide)⟩
      · show oS p e below T18 m 45 #[rv o, iv x1, iv (6 : Int32), iv (6 : Int32), iv (5 : Int32)] [(.int (6 : Int32))] _
        exact retOut X18 hx Bd.returns rfl (Or.inl ⟨rfl, Or.inl rfl, _, rfl⟩) (hb hby d6_45) hr
      · show QC6 Z o x1 w0 w1 w2 w3 w4 w5 a k1 h0 n0 _ T18.heap _
        rw [e18]
        exact ⟨(by first | rfl | simp only [if_neg hc27, if_neg hc27_2]), N0, rfl⟩
theorem efC7 (m : MethodId) (o : Addr) (x1 : Int32) : entryFrame m #[(.ref o), (.int x1)] 5 = mkF m 0 #[rv o, iv x1, .unset, .unset, .unset] [] := by first | (simp [entryFrame, mkF, argsToLocals, Value.category]; done) | rfl
def QC7 (Z : State) (o : Addr) (x1 : Int32) (w0 : Int32) (w1 : Int32) (w2 : Int32) (w3 : Int32) (w4 : Int32) (w5 : Int32) (w6 : Int32) (a : Addr) (k1 : ClassId) (h0 : Heap) (n0 : Nat) (v : Option Value) (h : Heap) (L : List Loc) : Prop := v = some (.int (if x1 < w3 then (if x1 < w1 then (if x1 < w0 then (0 : Int32) else (1 : Int32)) else (if x1 < w2 then (2 : Int32) else (3 : Int32))) else (if x1 < w5 then (if x1 < w4 then (4 : Int32) else (5 : Int32)) else (if x1 < w6 then (6 : Int32) else (7 : Int32))))) ∧ Fr n0 L ∧ h = h0
set_option maxRecDepth 65536 in
set_option maxHeartbeats 40000000 in
theorem rmC7 (l : Launch) (Z : State) (a0 : Array Value) (hw : ∀ d ∈ tables_1, d.before a0 Z = true) (ws : List Jvm.Cond) (o : Addr) (x1 : Int32) (w0 : Int32) (w1 : Int32) (w2 : Int32) (w3 : Int32) (w4 : Int32) (w5 : Int32) (w6 : Int32) (a : Addr) (k1 : ClassId) (h0 : Heap) (n0 : Nat) (Z0 : n0 ≤ h0.size) (E_o : Exa Z h0 o oz0) (F_size_o : Fld Z h0 o oz0 "size" "I" (.int (7 : Int32))) (F_values_o : Fld Z h0 o oz0 "values" "[I" (.ref a)) (V_a : Arv Z h0 a k1 .int (8 : Int32) [(.int w0), (.int w1), (.int w2), (.int w3), (.int w4), (.int w5), (.int w6), (.int (0 : Int32))] (.int (0 : Int32))) :
    MetFree l (⟨oz0, "countAtMost", "(I)I"⟩ : MethodName) (head1 (Jvm.Cond.code (⟨oz0, "countAtMost", "(I)I"⟩ : MethodName) prog_30_method_9_code 5 (some .int) :: ws) ({ frames := 0, cells := 0, slots := 0, locals := 0 } : Room)) (fun a U => a = #[(.ref o), (.int x1)] ∧ Z.Warmed39 U.vm ∧ U.heap = h0) (fun _ _ _ _ _ => True) (fun _ U oc U' => ∃ v L, oc = .returned v ∧ QC7 Z o x1 w0 w1 w2 w3 w4 w5 w6 a k1 h0 n0 v U'.heap L ∧ FrameEnd U oc U' L ({ frames := 0, cells := 0, slots := 0, locals := 0 } : Room).cells ({ frames := 0, cells := 0, slots := 0, locals := 0 } : Room).slots) := by
  refine MetFree.of_bodySF (plainFor_of_name own_pn1) hisR ?_
  intro p e s m args below meth c s₁ Bd hml0 hP hK
  obtain ⟨rfl, hZ, hh⟩ := hP
  have hx := Bd.exec
  have hby := Bd.bytes
  have hml : c.maxLocals = 5 := hml0
  have hown : s.vm.findClass oz0 = some m.cls := findClass_of_methodNamed Bd.named
  have hnm := (name_of_methodNamed Bd.named Bd.method).1
  have X0 : Stand p l e ({ frames := 0, cells := 0, slots := 0, locals := 0 } : Room) s m #[(.ref o), (.int x1)] below meth c s₁ [] 0 0 := Stand.of_body Bd
  have e0 : s₁.heap = h0 := by rw [← hh, Bd.state]; rfl
  have N0 := Fr.nil n0
  have pre0 : ∀ t, Steps p.tables e below (s₁.setTop (mkF m 0 #[rv o, iv x1, .unset, .unset, .unset] [])) t → Steps p.tables e below (s₁.setTop (entryFrame m #[(.ref o), (.int x1)] 5)) t := fun t k => castTop (efC7 m o x1) k
  obtain ⟨T1, X1, e1, st1⟩ := getF X0 hx hZ hown (host := "") (Or.inl (own_w hw 30 rfl)) Via.refl e0 F_size_o (g := (mkF m 3 #[rv o, iv x1, iv (0 : Int32), .unset, .unset] [(.ref o)])) rfl rfl (hb hby d6_3)
  obtain ⟨T2, X2, e2, st2⟩ := getF X1 hx hZ hown (host := "") (Or.inl (own_w hw 20 rfl)) Via.refl e1 F_values_o (g := (mkF m 20 #[rv o, iv x1, iv (0 : Int32), iv (7 : Int32), iv (3 : Int32)] [(.ref o)])) rfl rfl (hb hby d6_20)
  obtain ⟨cl3, Ar3, qk3, Sz3, Ng3, Hs3, Gt3⟩ := id V_a
  have hin3 : ¬ ((3 : Int32) < 0 ∨ cl3.slots.size ≤ ((3 : Int32)).toNatClampNeg) := inb_of Sz3 ⟨by decide, by decide⟩
  have hat3 : cl3.slots[((3 : Int32)).toNatClampNeg]? = some (.int w3) := Hs3.at hin3 rfl
  have pre4 : ∀ tz, oS p e below T2 m 27 #[rv o, iv x1, iv (0 : Int32), iv (7 : Int32), iv (3 : Int32)] [(.int x1), (.int w3)] tz → oS p e below s₁ m 0 #[rv o, iv x1, .unset, .unset, .unset] [] tz := fun tz kt => by
    show oS p e below s₁ m 0 #[rv o, iv x1, .unset, .unset, .unset] [] _
    refine XS.iconst X0.here hx rfl (hb hby d6_0) ?_
    refine XS.istoreN X0.here hx rfl (hb hby d6_1) rfl (l' := #[rv o, iv x1, iv (0 : Int32), .unset, .unset]) rfl ?_
    refine XS.aloadN X0.here hx rfl (hb hby d6_2) rfl rfl ?_
    show oS p e below s₁ m 3 #[rv o, iv x1, iv (0 : Int32), .unset, .unset] [(.ref o)] _
    refine st1 _ ?_
    refine XS.istoreN X1.here hx rfl (hb hby d6_6) rfl (l' := #[rv o, iv x1, iv (0 : Int32), iv (7 : Int32), .unset]) rfl ?_
    refine XS.iloadN X1.here hx rfl (hb hby d6_7) rfl ?_
    refine XS.iloadN X1.here hx rfl (hb hby d6_8) rfl ?_
    show oS p e below T1 m 9 #[rv o, iv x1, iv (0 : Int32), iv (7 : Int32), .unset] [(.int (7 : Int32)), (.int (0 : Int32))] _
    refine XS.icmpNo X1.here hx rfl (hb hby d6_9) rfl (tlt (by decide : ((0 : Int32) < (7 : Int32)))).2.1 ?_
    refine XS.iloadN X1.here hx rfl (hb hby d6_12) rfl ?_
    refine XS.iloadN X1.here hx rfl (hb hby d6_13) rfl ?_
    refine XS.iadd X1.here hx rfl (hb hby d6_14) rfl ?_
    show oS p e below T1 m 15 #[rv o, iv x1, iv (0 : Int32), iv (7 : Int32), .unset] [(.int (7 : Int32))] _
    refine XS.iconst X1.here hx rfl (hb hby d6_15) ?_
    refine XS.iushr X1.here hx rfl (hb hby d6_16) rfl ?_
    show oS p e below T1 m 17 #[rv o, iv x1, iv (0 : Int32), iv (7 : Int32), .unset] [(.int (3 : Int32))] _
    refine XS.istore X1.here hx rfl (hb hby d6_17) rfl (l' := #[rv o, iv x1, iv (0 : Int32), iv (7 : Int32), iv (3 : Int32)]) rfl ?_
    refine XS.aloadN X1.here hx rfl (hb hby d6_19) rfl rfl ?_
    show oS p e below T1 m 20 #[rv o, iv x1, iv (0 : Int32), iv (7 : Int32), iv (3 : Int32)] [(.ref o)] _
    refine st2 _ ?_
    refine XS.iload X2.here hx rfl (hb hby d6_23) rfl ?_
    refine X2.iaload hx (j := (3 : Int32)) (v := (.int w3)) (by rw [e2]; exact Ar3.1) (State.isArrayOf_alike hZ.alike Ar3.2.1) Ar3.2.2 hin3 hat3 (g := (mkF m 25 #[rv o, iv x1, iv (0 : Int32), iv (7 : Int32), iv (3 : Int32)] [(.int (3 : Int32)), (.ref a)])) rfl rfl (hb hby d6_25) _ ?_
    refine XS.iloadN X2.here hx rfl (hb hby d6_26) rfl ?_
    exact kt
  by_cases hc27 : x1 < w3
  · obtain ⟨T5, X5, e5, st5⟩ := getF X2 hx hZ hown (host := "") (Or.inl (own_w hw 20 rfl)) Via.refl e2 F_values_o (g := (mkF m 20 #[rv o, iv x1, iv (0 : Int32), iv (3 : Int32), iv (1 : Int32)] [(.ref o)])) rfl rfl (hb hby d6_20)
    obtain ⟨cl6, Ar6, qk6, Sz6, Ng6, Hs6, Gt6⟩ := id V_a
    have hin6 : ¬ ((1 : Int32) < 0 ∨ cl6.slots.size ≤ ((1 : Int32)).toNatClampNeg) := inb_of Sz6 ⟨by decide, by decide⟩
    have hat6 : cl6.slots[((1 : Int32)).toNatClampNeg]? = some (.int w1) := Hs6.at hin6 rfl
    have pre7 : ∀ tz, oS p e below T5 m 27 #[rv o, iv x1, iv (0 : Int32), iv (3 : Int32), iv (1 : Int32)] [(.int x1), (.int w1)] tz → oS p e below T2 m 27 #[rv o, iv x1, iv (0 : Int32), iv (7 : Int32), iv (3 : Int32)] [(.int x1), (.int w3)] tz := fun tz kt => by
      show oS p e below T2 m 27 #[rv o, iv x1, iv (0 : Int32), iv (7 : Int32), iv (3 : Int32)] [(.int x1), (.int w3)] _
      refine XS.icmpYes X2.here hx rfl (pc0 := 27) (pc' := 38) rfl (hb hby d6_27) rfl (tlt hc27).2.2.1 (by decide) (by decide) ?_
      refine XS.iload X2.here hx rfl (hb hby d6_38) rfl ?_
      refine XS.istoreN X2.here hx rfl (hb hby d6_40) rfl (l' := #[rv o, iv x1, iv (0 : Int32), iv (3 : Int32), iv (3 : Int32)]) rfl ?_
      refine XS.goto X2.here hx rfl (pc0 := 41) (pc' := 7) rfl (hb hby d6_41) (by decide) (by decide) ?_
      show oS p e below T2 m 7 #[rv o, iv x1, iv (0 : Int32), iv (3 : Int32), iv (3 : Int32)] [] _
      refine XS.iloadN X2.here hx rfl (hb hby d6_7) rfl ?_
      refine XS.iloadN X2.here hx rfl (hb hby d6_8) rfl ?_
      refine XS.icmpNo X2.here hx rfl (hb hby d6_9) rfl (tlt (by decide : ((0 : Int32) < (3 : Int32)))).2.1 ?_
      refine XS.iloadN X2.here hx rfl (hb hby d6_12) rfl ?_
      show oS p e below T2 m 13 #[rv o, iv x1, iv (0 : Int32), iv (3 : Int32), iv (3 : Int32)] [(.int (0 : Int32))] _
      refine XS.iloadN X2.here hx rfl (hb hby d6_13) rfl ?_
      refine XS.iadd X2.here hx rfl (hb hby d6_14) rfl ?_
      show oS p e below T2 m 15 #[rv o, iv x1, iv (0 : Int32), iv (3 : Int32), iv (3 : Int32)] [(.int (3 : Int32))] _
      refine XS.iconst X2.here hx rfl (hb hby d6_15) ?_
      refine XS.iushr X2.here hx rfl (hb hby d6_16) rfl ?_
      show oS p e below T2 m 17 #[rv o, iv x1, iv (0 : Int32), iv (3 : Int32), iv (3 : Int32)] [(.int (1 : Int32))] _
      refine XS.istore X2.here hx rfl (hb hby d6_17) rfl (l' := #[rv o, iv x1, iv (0 : Int32), iv (3 : Int32), iv (1 : Int32)]) rfl ?_
      refine XS.aloadN X2.here hx rfl (hb hby d6_19) rfl rfl ?_
      show oS p e below T2 m 20 #[rv o, iv x1, iv (0 : Int32), iv (3 : Int32), iv (1 : Int32)] [(.ref o)] _
      refine st5 _ ?_
      refine XS.iload X5.here hx rfl (hb hby d6_23) rfl ?_
      refine X5.iaload hx (j := (1 : Int32)) (v := (.int w1)) (by rw [e5]; exact Ar6.1) (State.isArrayOf_alike hZ.alike Ar6.2.1) Ar6.2.2 hin6 hat6 (g := (mkF m 25 #[rv o, iv x1, iv (0 : Int32), iv (3 : Int32), iv (1 : Int32)] [(.int (1 : Int32)), (.ref a)])) rfl rfl (hb hby d6_25) _ ?_
      refine XS.iloadN X5.here hx rfl (hb hby d6_26) rfl ?_
      exact kt
    by_cases hc27_2 : x1 < w1
    · obtain ⟨T8, X8, e8, st8⟩ := getF X5 hx hZ hown (host := "") (Or.inl (own_w hw 20 rfl)) Via.refl e5 F_values_o (g := (mkF m 20 #[rv o, iv x1, iv (0 : Int32), iv (1 : Int32), iv (0 : Int32)] [(.ref o)])) rfl rfl (hb hby d6_20)
      obtain ⟨cl9, Ar9, qk9, Sz9, Ng9, Hs9, Gt9⟩ := id V_a
      have hin9 : ¬ ((0 : Int32) < 0 ∨ cl9.slots.size ≤ ((0 : Int32)).toNatClampNeg) := inb_of Sz9 ⟨by decide, by decide⟩
      have hat9 : cl9.slots[((0 : Int32)).toNatClampNeg]? = some (.int w0) := Hs9.at hin9 rfl
      have pre10 : ∀ tz, oS p e below T8 m 27 #[rv o, iv x1, iv (0 : Int32), iv (1 : Int32), iv (0 : Int32)] [(.int x1), (.int w0)] tz → oS p e below T5 m 27 #[rv o, iv x1, iv (0 : Int32), iv (3 : Int32), iv (1 : Int32)] [(.int x1), (.int w1)] tz := fun tz kt => by
        show oS p e below T5 m 27 #[rv o, iv x1, iv (0 : Int32), iv (3 : Int32), iv (1 : Int32)] [(.int x1), (.int w1)] _
        refine XS.icmpYes X5.here hx rfl (pc0 := 27) (pc' := 38) rfl (hb hby d6_27) rfl (tlt hc27_2).2.2.1 (by decide) (by decide) ?_
        refine XS.iload X5.here hx rfl (hb hby d6_38) rfl ?_
        refine XS.istoreN X5.here hx rfl (hb hby d6_40) rfl (l' := #[rv o, iv x1, iv (0 : Int32), iv (1 : Int32), iv (1 : Int32)]) rfl ?_
        refine XS.goto X5.here hx rfl (pc0 := 41) (pc' := 7) rfl (hb hby d6_41) (by decide) (by decide) ?_
        show oS p e below T5 m 7 #[rv o, iv x1, iv (0 : Int32), iv (1 : Int32), iv (1 : Int32)] [] _
        refine XS.iloadN X5.here hx rfl (hb hby d6_7) rfl ?_
        refine XS.iloadN X5.here hx rfl (hb hby d6_8) rfl ?_
        refine XS.icmpNo X5.here hx rfl (hb hby d6_9) rfl (tlt (by decide : ((0 : Int32) < (1 : Int32)))).2.1 ?_
        refine XS.iloadN X5.here hx rfl (hb hby d6_12) rfl ?_
        show oS p e below T5 m 13 #[rv o, iv x1, iv (0 : Int32), iv (1 : Int32), iv (1 : Int32)] [(.int (0 : Int32))] _
        refine XS.iloadN X5.here hx rfl (hb hby d6_13) rfl ?_
        refine XS.iadd X5.here hx rfl (hb hby d6_14) rfl ?_
        show oS p e below T5 m 15 #[rv o, iv x1, iv (0 : Int32), iv (1 : Int32), iv (1 : Int32)] [(.int (1 : Int32))] _
        refine XS.iconst X5.here hx rfl (hb hby d6_15) ?_
        refine XS.iushr X5.here hx rfl (hb hby d6_16) rfl ?_
        show oS p e below T5 m 17 #[rv o, iv x1, iv (0 : Int32), iv (1 : Int32), iv (1 : Int32)] [(.int (0 : Int32))] _
        refine XS.istore X5.here hx rfl (hb hby d6_17) rfl (l' := #[rv o, iv x1, iv (0 : Int32), iv (1 : Int32), iv (0 : Int32)]) rfl ?_
        refine XS.aloadN X5.here hx rfl (hb hby d6_19) rfl rfl ?_
        show oS p e below T5 m 20 #[rv o, iv x1, iv (0 : Int32), iv (1 : Int32), iv (0 : Int32)] [(.ref o)] _
        refine st8 _ ?_
        refine XS.iload X8.here hx rfl (hb hby d6_23) rfl ?_
        refine X8.iaload hx (j := (0 : Int32)) (v := (.int w0)) (by rw [e8]; exact Ar9.1) (State.isArrayOf_alike hZ.alike Ar9.2.1) Ar9.2.2 hin9 hat9 (g := (mkF m 25 #[rv o, iv x1, iv (0 : Int32), iv (1 : Int32), iv (0 : Int32)] [(.int (0 : Int32)), (.ref a)])) rfl rfl (hb hby d6_25) _ ?_
        refine XS.iloadN X8.here hx rfl (hb hby d6_26) rfl ?_
        exact kt
      by_cases hc27_3 : x1 < w0
      · have pre11 : ∀ tz, oS p e below T8 m 45 #[rv o, iv x1, iv (0 : Int32), iv (0 : Int32), iv (0 : Int32)] [(.int (0 : Int32))] tz → oS p e below T8 m 27 #[rv o, iv x1, iv (0 : Int32), iv (1 : Int32), iv (0 : Int32)] [(.int x1), (.int w0)] tz := fun tz kt => by
          show oS p e below T8 m 27 #[rv o, iv x1, iv (0 : Int32), iv (1 : Int32), iv (0 : Int32)] [(.int x1), (.int w0)] _
          refine XS.icmpYes X8.here hx rfl (pc0 := 27) (pc' := 38) rfl (hb hby d6_27) rfl (tlt hc27_3).2.2.1 (by decide) (by decide) ?_
          refine XS.iload X8.here hx rfl (hb hby d6_38) rfl ?_
          refine XS.istoreN X8.here hx rfl (hb hby d6_40) rfl (l' := #[rv o, iv x1, iv (0 : Int32), iv (0 : Int32), iv (0 : Int32)]) rfl ?_
          refine XS.goto X8.here hx rfl (pc0 := 41) (pc' := 7) rfl (hb hby d6_41) (by decide) (by decide) ?_
          show oS p e below T8 m 7 #[rv o, iv x1, iv (0 : Int32), iv (0 : Int32), iv (0 : Int32)] [] _
          refine XS.iloadN X8.here hx rfl (hb hby d6_7) rfl ?_
          refine XS.iloadN X8.here hx rfl (hb hby d6_8) rfl ?_
          refine XS.icmpYes X8.here hx rfl (pc0 := 9) (pc' := 44) rfl (hb hby d6_9) rfl (flt (by decide : ¬ ((0 : Int32) < (0 : Int32)))).2.1 (by decide) (by decide) ?_
          refine XS.iloadN X8.here hx rfl (hb hby d6_44) rfl ?_
          exact kt
        obtain ⟨fs, hr, hrun, hended, hW, hsame⟩ := X8.leave (v := some (.int (0 : Int32))) (fun h => by rw [Bd.returns] at h; cases h)
        refine ⟨_, _, pre0 _ (pre4 _ (pre7 _ (pre10 _ (pre11 _ ?_)))), hrun, hended, _, _, rfl, ?_, ⟨_, rfl⟩, hW, hsame.mono (by decide) (by decide)⟩
        · show oS p e below T8 m 45 #[rv o, iv x1, iv (0 : Int32), iv (0 : Int32), iv (0 : Int32)] [(.int (0 : Int32))] _
          exact retOut X8 hx Bd.returns rfl (Or.inl ⟨rfl, Or.inl rfl, _, rfl⟩) (hb hby d6_45) hr
        · show QC7 Z o x1 w0 w1 w2 w3 w4 w5 w6 a k1 h0 n0 _ T8.heap _
          rw [e8]
          exact ⟨(by first | rfl | simp only [if_pos hc27, if_pos hc27_2, if_pos hc27_3]), N0, rfl⟩
      · have pre12 : ∀ tz, oS p e below T8 m 45 #[rv o, iv x1, iv (1 : Int32), iv (1 : Int32), iv (0 : Int32)] [(.int (1 : Int32))] tz → oS p e below T8 m 27 #[rv o, iv x1, iv (0 : Int32), iv (1 : Int32), iv (0 : Int32)] [(.int x1), (.int w0)] tz := fun tz kt => by
          show oS p e below T8 m 27 #[rv o, iv x1, iv (0 : Int32), iv (1 : Int32), iv (0 : Int32)] [(.int x1), (.int w0)] _
          refine XS.icmpNo X8.here hx rfl (hb hby d6_27) rfl (flt hc27_3).2.2.1 ?_
          refine XS.iload X8.here hx rfl (hb hby d6_30) rfl ?_
          refine XS.iconst X8.here hx rfl (hb hby d6_32) ?_
          refine XS.iadd X8.here hx rfl (hb hby d6_33) rfl ?_
          show oS p e below T8 m 34 #[rv o, iv x1, iv (0 : Int32), iv (1 : Int32), iv (0 : Int32)] [(.int (1 : Int32))] _
          refine XS.istoreN X8.here hx rfl (hb hby d6_34) rfl (l' := #[rv o, iv x1, iv (1 : Int32), iv (1 : Int32), iv (0 : Int32)]) rfl ?_
          refine XS.goto X8.here hx rfl (pc0 := 35) (pc' := 41) rfl (hb hby d6_35) (by decide) (by decide) ?_
          refine XS.goto X8.here hx rfl (pc0 := 41) (pc' := 7) rfl (hb hby d6_41) (by decide) (by decide) ?_
          refine XS.iloadN X8.here hx rfl (hb hby d6_7) rfl ?_
          show oS p e below T8 m 8 #[rv o, iv x1, iv (1 : Int32), iv (1 : Int32), iv (0 : Int32)] [(.int (1 : Int32))] _
          refine XS.iloadN X8.here hx rfl (hb hby d6_8) rfl ?_
          refine XS.icmpYes X8.here hx rfl (pc0 := 9) (pc' := 44) rfl (hb hby d6_9) rfl (flt (by decide : ¬ ((1 : Int32) < (1 : Int32)))).2.1 (by decide) (by decide) ?_
          refine XS.iloadN X8.here hx rfl (hb hby d6_44) rfl ?_
          exact kt
        obtain ⟨fs, hr, hrun, hended, hW, hsame⟩ := X8.leave (v := some (.int (1 : Int32))) (fun h => by rw [Bd.returns] at h; cases h)
        refine ⟨_, _, pre0 _ (pre4 _ (pre7 _ (pre10 _ (pre12 _ ?_)))), hrun, hended, _, _, rfl, ?_, ⟨_, rfl⟩, hW, hsame.mono (by decide) (by decide)⟩
        · show oS p e below T8 m 45 #[rv o, iv x1, iv (1 : Int32), iv (1 : Int32), iv (0 : Int32)] [(.int (1 : Int32))] _
          exact retOut X8 hx Bd.returns rfl (Or.inl ⟨rfl, Or.inl rfl, _, rfl⟩) (hb hby d6_45) hr
        · show QC7 Z o x1 w0 w1 w2 w3 w4 w5 w6 a k1 h0 n0 _ T8.heap _
          rw [e8]
          exact ⟨(by first | rfl | simp only [if_pos hc27, if_pos hc27_2, if_neg hc27_3]), N0, rfl⟩
    · obtain ⟨T13, X13, e13, st13⟩ := getF X5 hx hZ hown (host := "") (Or.inl (own_w hw 20 rfl)) Via.refl e5 F_values_o (g := (mkF m 20 #[rv o, iv x1, iv (2 : Int32), iv (3 : Int32), iv (2 : Int32)] [(.ref o)])) rfl rfl (hb hby d6_20)
      obtain ⟨cl14, Ar14, qk14, Sz14, Ng14, Hs14, Gt14⟩ := id V_a
      have hin14 : ¬ ((2 : Int32) < 0 ∨ cl14.slots.size ≤ ((2 : Int32)).toNatClampNeg) := inb_of Sz14 ⟨by decide, by decide⟩
      have hat14 : cl14.slots[((2 : Int32)).toNatClampNeg]? = some (.int w2) := Hs14.at hin14 rfl
      have pre15 : ∀ tz, oS p e below T13 m 27 #[rv o, iv x1, iv (2 : Int32), iv (3 : Int32), iv (2 : Int32)] [(.int x1), (.int w2)] tz → oS p e below T5 m 27 #[rv o, iv x1, iv (0 : Int32), iv (3 : Int32), iv (1 : Int32)] [(.int x1), (.int w1)] tz := fun tz kt => by
        show oS p e below T5 m 27 #[rv o, iv x1, iv (0 : Int32), iv (3 : Int32), iv (1 : Int32)] [(.int x1), (.int w1)] _
        refine XS.icmpNo X5.here hx rfl (hb hby d6_27) rfl (flt hc27_2).2.2.1 ?_
        refine XS.iload X5.here hx rfl (hb hby d6_30) rfl ?_
        refine XS.iconst X5.here hx rfl (hb hby d6_32) ?_
        refine XS.iadd X5.here hx rfl (hb hby d6_33) rfl ?_
        show oS p e below T5 m 34 #[rv o, iv x1, iv (0 : Int32), iv (3 : Int32), iv (1 : Int32)] [(.int (2 : Int32))] _
        refine XS.istoreN X5.here hx rfl (hb hby d6_34) rfl (l' := #[rv o, iv x1, iv (2 : Int32), iv (3 : Int32), iv (1 : Int32)]) rfl ?_
        refine XS.goto X5.here hx rfl (pc0 := 35) (pc' := 41) rfl (hb hby d6_35) (by decide) (by decide) ?_
        refine XS.goto X5.here hx rfl (pc0 := 41) (pc' := 7) rfl (hb hby d6_41) (by decide) (by decide) ?_
        refine XS.iloadN X5.here hx rfl (hb hby d6_7) rfl ?_
        show oS p e below T5 m 8 #[rv o, iv x1, iv (2 : Int32), iv (3 : Int32), iv (1 : Int32)] [(.int (2 : Int32))] _
        refine XS.iloadN X5.here hx rfl (hb hby d6_8) rfl ?_
        refine XS.icmpNo X5.here hx rfl (hb hby d6_9) rfl (tlt (by decide : ((2 : Int32) < (3 : Int32)))).2.1 ?_
        refine XS.iloadN X5.here hx rfl (hb hby d6_12) rfl ?_
        refine XS.iloadN X5.here hx rfl (hb hby d6_13) rfl ?_
        show oS p e below T5 m 14 #[rv o, iv x1, iv (2 : Int32), iv (3 : Int32), iv (1 : Int32)] [(.int (3 : Int32)), (.int (2 : Int32))] _
        refine XS.iadd X5.here hx rfl (hb hby d6_14) rfl ?_
        show oS p e below T5 m 15 #[rv o, iv x1, iv (2 : Int32), iv (3 : Int32), iv (1 : Int32)] [(.int (5 : Int32))] _
        refine XS.iconst X5.here hx rfl (hb hby d6_15) ?_
        refine XS.iushr X5.here hx rfl (hb hby d6_16) rfl ?_
        show oS p e below T5 m 17 #[rv o, iv x1, iv (2 : Int32), iv (3 : Int32), iv (1 : Int32)] [(.int (2 : Int32))] _
        refine XS.istore X5.here hx rfl (hb hby d6_17) rfl (l' := #[rv o, iv x1, iv (2 : Int32), iv (3 : Int32), iv (2 : Int32)]) rfl ?_
        refine XS.aloadN X5.here hx rfl (hb hby d6_19) rfl rfl ?_
        show oS p e below T5 m 20 #[rv o, iv x1, iv (2 : Int32), iv (3 : Int32), iv (2 : Int32)] [(.ref o)] _
        refine st13 _ ?_
        refine XS.iload X13.here hx rfl (hb hby d6_23) rfl ?_
        refine X13.iaload hx (j := (2 : Int32)) (v := (.int w2)) (by rw [e13]; exact Ar14.1) (State.isArrayOf_alike hZ.alike Ar14.2.1) Ar14.2.2 hin14 hat14 (g := (mkF m 25 #[rv o, iv x1, iv (2 : Int32), iv (3 : Int32), iv (2 : Int32)] [(.int (2 : Int32)), (.ref a)])) rfl rfl (hb hby d6_25) _ ?_
        refine XS.iloadN X13.here hx rfl (hb hby d6_26) rfl ?_
        exact kt
      by_cases hc27_3 : x1 < w2
      · have pre16 : ∀ tz, oS p e below T13 m 45 #[rv o, iv x1, iv (2 : Int32), iv (2 : Int32), iv (2 : Int32)] [(.int (2 : Int32))] tz → oS p e below T13 m 27 #[rv o, iv x1, iv (2 : Int32), iv (3 : Int32), iv (2 : Int32)] [(.int x1), (.int w2)] tz := fun tz kt => by
          show oS p e below T13 m 27 #[rv o, iv x1, iv (2 : Int32), iv (3 : Int32), iv (2 : Int32)] [(.int x1), (.int w2)] _
          refine XS.icmpYes X13.here hx rfl (pc0 := 27) (pc' := 38) rfl (hb hby d6_27) rfl (tlt hc27_3).2.2.1 (by decide) (by decide) ?_
          refine XS.iload X13.here hx rfl (hb hby d6_38) rfl ?_
          refine XS.istoreN X13.here hx rfl (hb hby d6_40) rfl (l' := #[rv o, iv x1, iv (2 : Int32), iv (2 : Int32), iv (2 : Int32)]) rfl ?_
          refine XS.goto X13.here hx rfl (pc0 := 41) (pc' := 7) rfl (hb hby d6_41) (by decide) (by decide) ?_
          show oS p e below T13 m 7 #[rv o, iv x1, iv (2 : Int32), iv (2 : Int32), iv (2 : Int32)] [] _
          refine XS.iloadN X13.here hx rfl (hb hby d6_7) rfl ?_
          refine XS.iloadN X13.here hx rfl (hb hby d6_8) rfl ?_
          refine XS.icmpYes X13.here hx rfl (pc0 := 9) (pc' := 44) rfl (hb hby d6_9) rfl (flt (by decide : ¬ ((2 : Int32) < (2 : Int32)))).2.1 (by decide) (by decide) ?_
          refine XS.iloadN X13.here hx rfl (hb hby d6_44) rfl ?_
          exact kt
        obtain ⟨fs, hr, hrun, hended, hW, hsame⟩ := X13.leave (v := some (.int (2 : Int32))) (fun h => by rw [Bd.returns] at h; cases h)
        refine ⟨_, _, pre0 _ (pre4 _ (pre7 _ (pre15 _ (pre16 _ ?_)))), hrun, hended, _, _, rfl, ?_, ⟨_, rfl⟩, hW, hsame.mono (by decide) (by decide)⟩
        · show oS p e below T13 m 45 #[rv o, iv x1, iv (2 : Int32), iv (2 : Int32), iv (2 : Int32)] [(.int (2 : Int32))] _
          exact retOut X13 hx Bd.returns rfl (Or.inl ⟨rfl, Or.inl rfl, _, rfl⟩) (hb hby d6_45) hr
        · show QC7 Z o x1 w0 w1 w2 w3 w4 w5 w6 a k1 h0 n0 _ T13.heap _
          rw [e13]
          exact ⟨(by first | rfl | simp only [if_pos hc27, if_neg hc27_2, if_pos hc27_3]), N0, rfl⟩
      · have pre17 : ∀ tz, oS p e below T13 m 45 #[rv o, iv x1, iv (3 : Int32), iv (3 : Int32), iv (2 : Int32)] [(.int (3 : Int32))] tz → oS p e below T13 m 27 #[rv o, iv x1, iv (2 : Int32), iv (3 : Int32), iv (2 : Int32)] [(.int x1), (.int w2)] tz := fun tz kt => by
          show oS p e below T13 m 27 #[rv o, iv x1, iv (2 : Int32), iv (3 : Int32), iv (2 : Int32)] [(.int x1), (.int w2)] _
          refine XS.icmpNo X13.here hx rfl (hb hby d6_27) rfl (flt hc27_3).2.2.1 ?_
          refine XS.iload X13.here hx rfl (hb hby d6_30) rfl ?_
          refine XS.iconst X13.here hx rfl (hb hby d6_32) ?_
          refine XS.iadd X13.here hx rfl (hb hby d6_33) rfl ?_
          show oS p e below T13 m 34 #[rv o, iv x1, iv (2 : Int32), iv (3 : Int32), iv (2 : Int32)] [(.int (3 : Int32))] _
          refine XS.istoreN X13.here hx rfl (hb hby d6_34) rfl (l' := #[rv o, iv x1, iv (3 : Int32), iv (3 : Int32), iv (2 : Int32)]) rfl ?_
          refine XS.goto X13.here hx rfl (pc0 := 35) (pc' := 41) rfl (hb hby d6_35) (by decide) (by decide) ?_
          refine XS.goto X13.here hx rfl (pc0 := 41) (pc' := 7) rfl (hb hby d6_41) (by decide) (by decide) ?_
          refine XS.iloadN X13.here hx rfl (hb hby d6_7) rfl ?_
          show oS p e below T13 m 8 #[rv o, iv x1, iv (3 : Int32), iv (3 : Int32), iv (2 : Int32)] [(.int (3 : Int32))] _
          refine XS.iloadN X13.here hx rfl (hb hby d6_8) rfl ?_
          refine XS.icmpYes X13.here hx rfl (pc0 := 9) (pc' := 44) rfl (hb hby d6_9) rfl (flt (by decide : ¬ ((3 : Int32) < (3 : Int32)))).2.1 (by decide) (by decide) ?_
          refine XS.iloadN X13.here hx rfl (hb hby d6_44) rfl ?_
          exact kt
        obtain ⟨fs, hr, hrun, hended, hW, hsame⟩ := X13.leave (v := some (.int (3 : Int32))) (fun h => by rw [Bd.returns] at h; cases h)
        refine ⟨_, _, pre0 _ (pre4 _ (pre7 _ (pre15 _ (pre17 _ ?_)))), hrun, hended, _, _, rfl, ?_, ⟨_, rfl⟩, hW, hsame.mono (by decide) (by decide)⟩
        · show oS p e below T13 m 45 #[rv o, iv x1, iv (3 : Int32), iv (3 : Int32), iv (2 : Int32)] [(.int (3 : Int32))] _
          exact retOut X13 hx Bd.returns rfl (Or.inl ⟨rfl, Or.inl rfl, _, rfl⟩) (hb hby d6_45) hr
        · show QC7 Z o x1 w0 w1 w2 w3 w4 w5 w6 a k1 h0 n0 _ T13.heap _
          rw [e13]
          exact ⟨(by first | rfl | simp only [if_pos hc27, if_neg hc27_2, if_neg hc27_3]), N0, rfl⟩
  · obtain ⟨T18, X18, e18, st18⟩ := getF X2 hx hZ hown (host := "") (Or.inl (own_w hw 20 rfl)) Via.refl e2 F_values_o (g := (mkF m 20 #[rv o, iv x1, iv (4 : Int32), iv (7 : Int32), iv (5 : Int32)] [(.ref o)])) rfl rfl (hb hby d6_20)
    obtain ⟨cl19, Ar19, qk19, Sz19, Ng19, Hs19, Gt19⟩ := id V_a
    have hin19 : ¬ ((5 : Int32) < 0 ∨ cl19.slots.size ≤ ((5 : Int32)).toNatClampNeg) := inb_of Sz19 ⟨by decide, by decide⟩
    have hat19 : cl19.slots[((5 : Int32)).toNatClampNeg]? = some (.int w5) := Hs19.at hin19 rfl
    have pre20 : ∀ tz, oS p e below T18 m 27 #[rv o, iv x1, iv (4 : Int32), iv (7 : Int32), iv (5 : Int32)] [(.int x1), (.int w5)] tz → oS p e below T2 m 27 #[rv o, iv x1, iv (0 : Int32), iv (7 : Int32), iv (3 : Int32)] [(.int x1), (.int w3)] tz := fun tz kt => by
      show oS p e below T2 m 27 #[rv o, iv x1, iv (0 : Int32), iv (7 : Int32), iv (3 : Int32)] [(.int x1), (.int w3)] _
      refine XS.icmpNo X2.here hx rfl (hb hby d6_27) rfl (flt hc27).2.2.1 ?_
      refine XS.iload X2.here hx rfl (hb hby d6_30) rfl ?_
      refine XS.iconst X2.here hx rfl (hb hby d6_32) ?_
      refine XS.iadd X2.here hx rfl (hb hby d6_33) rfl ?_
      show oS p e below T2 m 34 #[rv o, iv x1, iv (0 : Int32), iv (7 : Int32), iv (3 : Int32)] [(.int (4 : Int32))] _
      refine XS.istoreN X2.here hx rfl (hb hby d6_34) rfl (l' := #[rv o, iv x1, iv (4 : Int32), iv (7 : Int32), iv (3 : Int32)]) rfl ?_
      refine XS.goto X2.here hx rfl (pc0 := 35) (pc' := 41) rfl (hb hby d6_35) (by decide) (by decide) ?_
      refine XS.goto X2.here hx rfl (pc0 := 41) (pc' := 7) rfl (hb hby d6_41) (by decide) (by decide) ?_
      refine XS.iloadN X2.here hx rfl (hb hby d6_7) rfl ?_
      show oS p e below T2 m 8 #[rv o, iv x1, iv (4 : Int32), iv (7 : Int32), iv (3 : Int32)] [(.int (4 : Int32))] _
      refine XS.iloadN X2.here hx rfl (hb hby d6_8) rfl ?_
      refine XS.icmpNo X2.here hx rfl (hb hby d6_9) rfl (tlt (by decide : ((4 : Int32) < (7 : Int32)))).2.1 ?_
      refine XS.iloadN X2.here hx rfl (hb hby d6_12) rfl ?_
      refine XS.iloadN X2.here hx rfl (hb hby d6_13) rfl ?_
      show oS p e below T2 m 14 #[rv o, iv x1, iv (4 : Int32), iv (7 : Int32), iv (3 : Int32)] [(.int (7 : Int32)), (.int (4 : Int32))] _
      refine XS.iadd X2.here hx rfl (hb hby d6_14) rfl ?_
      show oS p e below T2 m 15 #[rv o, iv x1, iv (4 : Int32), iv (7 : Int32), iv (3 : Int32)] [(.int (11 : Int32))] _
      refine XS.iconst X2.here hx rfl (hb hby d6_15) ?_
      refine XS.iushr X2.here hx rfl (hb hby d6_16) rfl ?_
      show oS p e below T2 m 17 #[rv o, iv x1, iv (4 : Int32), iv (7 : Int32), iv (3 : Int32)] [(.int (5 : Int32))] _
      refine XS.istore X2.here hx rfl (hb hby d6_17) rfl (l' := #[rv o, iv x1, iv (4 : Int32), iv (7 : Int32), iv (5 : Int32)]) rfl ?_
      refine XS.aloadN X2.here hx rfl (hb hby d6_19) rfl rfl ?_
      show oS p e below T2 m 20 #[rv o, iv x1, iv (4 : Int32), iv (7 : Int32), iv (5 : Int32)] [(.ref o)] _
      refine st18 _ ?_
      refine XS.iload X18.here hx rfl (hb hby d6_23) rfl ?_
      refine X18.iaload hx (j := (5 : Int32)) (v := (.int w5)) (by rw [e18]; exact Ar19.1) (State.isArrayOf_alike hZ.alike Ar19.2.1) Ar19.2.2 hin19 hat19 (g := (mkF m 25 #[rv o, iv x1, iv (4 : Int32), iv (7 : Int32), iv (5 : Int32)] [(.int (5 : Int32)), (.ref a)])) rfl rfl (hb hby d6_25) _ ?_
      refine XS.iloadN X18.here hx rfl (hb hby d6_26) rfl ?_
      exact kt
    by_cases hc27_2 : x1 < w5
    · obtain ⟨T21, X21, e21, st21⟩ := getF X18 hx hZ hown (host := "") (Or.inl (own_w hw 20 rfl)) Via.refl e18 F_values_o (g := (mkF m 20 #[rv o, iv x1, iv (4 : Int32), iv (5 : Int32), iv (4 : Int32)] [(.ref o)])) rfl rfl (hb hby d6_20)
      obtain ⟨cl22, Ar22, qk22, Sz22, Ng22, Hs22, Gt22⟩ := id V_a
      have hin22 : ¬ ((4 : Int32) < 0 ∨ cl22.slots.size ≤ ((4 : Int32)).toNatClampNeg) := inb_of Sz22 ⟨by decide, by decide⟩
      have hat22 : cl22.slots[((4 : Int32)).toNatClampNeg]? = some (.int w4) := Hs22.at hin22 rfl
      have pre23 : ∀ tz, oS p e below T21 m 27 #[rv o, iv x1, iv (4 : Int32), iv (5 : Int32), iv (4 : Int32)] [(.int x1), (.int w4)] tz → oS p e below T18 m 27 #[rv o, iv x1, iv (4 : Int32), iv (7 : Int32), iv (5 : Int32)] [(.int x1), (.int w5)] tz := fun tz kt => by
        show oS p e below T18 m 27 #[rv o, iv x1, iv (4 : Int32), iv (7 : Int32), iv (5 : Int32)] [(.int x1), (.int w5)] _
        refine XS.icmpYes X18.here hx rfl (pc0 := 27) (pc' := 38) rfl (hb hby d6_27) rfl (tlt hc27_2).2.2.1 (by decide) (by decide) ?_
        refine XS.iload X18.here hx rfl (hb hby d6_38) rfl ?_
        refine XS.istoreN X18.here hx rfl (hb hby d6_40) rfl (l' := #[rv o, iv x1, iv (4 : Int32), iv (5 : Int32), iv (5 : Int32)]) rfl ?_
        refine XS.goto X18.here hx rfl (pc0 := 41) (pc' := 7) rfl (hb hby d6_41) (by decide) (by decide) ?_
        show oS p e below T18 m 7 #[rv o, iv x1, iv (4 : Int32), iv (5 : Int32), iv (5 : Int32)] [] _
        refine XS.iloadN X18.here hx rfl (hb hby d6_7) rfl ?_
        refine XS.iloadN X18.here hx rfl (hb hby d6_8) rfl ?_
        refine XS.icmpNo X18.here hx rfl (hb hby d6_9) rfl (tlt (by decide : ((4 : Int32) < (5 : Int32)))).2.1 ?_
        refine XS.iloadN X18.here hx rfl (hb hby d6_12) rfl ?_
        show oS p e below T18 m 13 #[rv o, iv x1, iv (4 : Int32), iv (5 : Int32), iv (5 : Int32)] [(.int (4 : Int32))] _
        refine XS.iloadN X18.here hx rfl (hb hby d6_13) rfl ?_
        refine XS.iadd X18.here hx rfl (hb hby d6_14) rfl ?_
        show oS p e below T18 m 15 #[rv o, iv x1, iv (4 : Int32), iv (5 : Int32), iv (5 : Int32)] [(.int (9 : Int32))] _
        refine XS.iconst X18.here hx rfl (hb hby d6_15) ?_
        refine XS.iushr X18.here hx rfl (hb hby d6_16) rfl ?_
        show oS p e below T18 m 17 #[rv o, iv x1, iv (4 : Int32), iv (5 : Int32), iv (5 : Int32)] [(.int (4 : Int32))] _
        refine XS.istore X18.here hx rfl (hb hby d6_17) rfl (l' := #[rv o, iv x1, iv (4 : Int32), iv (5 : Int32), iv (4 : Int32)]) rfl ?_
        refine XS.aloadN X18.here hx rfl (hb hby d6_19) rfl rfl ?_
        show oS p e below T18 m 20 #[rv o, iv x1, iv (4 : Int32), iv (5 : Int32), iv (4 : Int32)] [(.ref o)] _
        refine st21 _ ?_
        refine XS.iload X21.here hx rfl (hb hby d6_23) rfl ?_
        refine X21.iaload hx (j := (4 : Int32)) (v := (.int w4)) (by rw [e21]; exact Ar22.1) (State.isArrayOf_alike hZ.alike Ar22.2.1) Ar22.2.2 hin22 hat22 (g := (mkF m 25 #[rv o, iv x1, iv (4 : Int32), iv (5 : Int32), iv (4 : Int32)] [(.int (4 : Int32)), (.ref a)])) rfl rfl (hb hby d6_25) _ ?_
        refine XS.iloadN X21.here hx rfl (hb hby d6_26) rfl ?_
        exact kt
      by_cases hc27_3 : x1 < w4
      · have pre24 : ∀ tz, oS p e below T21 m 45 #[rv o, iv x1, iv (4 : Int32), iv (4 : Int32), iv (4 : Int32)] [(.int (4 : Int32))] tz → oS p e below T21 m 27 #[rv o, iv x1, iv (4 : Int32), iv (5 : Int32), iv (4 : Int32)] [(.int x1), (.int w4)] tz := fun tz kt => by
          show oS p e below T21 m 27 #[rv o, iv x1, iv (4 : Int32), iv (5 : Int32), iv (4 : Int32)] [(.int x1), (.int w4)] _
          refine XS.icmpYes X21.here hx rfl (pc0 := 27) (pc' := 38) rfl (hb hby d6_27) rfl (tlt hc27_3).2.2.1 (by decide) (by decide) ?_
          refine XS.iload X21.here hx rfl (hb hby d6_38) rfl ?_
          refine XS.istoreN X21.here hx rfl (hb hby d6_40) rfl (l' := #[rv o, iv x1, iv (4 : Int32), iv (4 : Int32), iv (4 : Int32)]) rfl ?_
          refine XS.goto X21.here hx rfl (pc0 := 41) (pc' := 7) rfl (hb hby d6_41) (by decide) (by decide) ?_
          show oS p e below T21 m 7 #[rv o, iv x1, iv (4 : Int32), iv (4 : Int32), iv (4 : Int32)] [] _
          refine XS.iloadN X21.here hx rfl (hb hby d6_7) rfl ?_
          refine XS.iloadN X21.here hx rfl (hb hby d6_8) rfl ?_
          refine XS.icmpYes X21.here hx rfl (pc0 := 9) (pc' := 44) rfl (hb hby d6_9) rfl (flt (by decide : ¬ ((4 : Int32) < (4 : Int32)))).2.1 (by decide) (by decide) ?_
          refine XS.iloadN X21.here hx rfl (hb hby d6_44) rfl ?_
          exact kt
        obtain ⟨fs, hr, hrun, hended, hW, hsame⟩ := X21.leave (v := some (.int (4 : Int32))) (fun h => by rw [Bd.returns] at h; cases h)
        refine ⟨_, _, pre0 _ (pre4 _ (pre20 _ (pre23 _ (pre24 _ ?_)))), hrun, hended, _, _, rfl, ?_, ⟨_, rfl⟩, hW, hsame.mono (by decide) (by decide)⟩
        · show oS p e below T21 m 45 #[rv o, iv x1, iv (4 : Int32), iv (4 : Int32), iv (4 : Int32)] [(.int (4 : Int32))] _
          exact retOut X21 hx Bd.returns rfl (Or.inl ⟨rfl, Or.inl rfl, _, rfl⟩) (hb hby d6_45) hr
        · show QC7 Z o x1 w0 w1 w2 w3 w4 w5 w6 a k1 h0 n0 _ T21.heap _
          rw [e21]
          exact ⟨(by first | rfl | simp only [if_neg hc27, if_pos hc27_2, if_pos hc27_3]), N0, rfl⟩
      · have pre25 : ∀ tz, oS p e below T21 m 45 #[rv o, iv x1, iv (5 : Int32), iv (5 : Int32), iv (4 : Int32)] [(.int (5 : Int32))] tz → oS p e below T21 m 27 #[rv o, iv x1, iv (4 : Int32), iv (5 : Int32), iv (4 : Int32)] [(.int x1), (.int w4)] tz := fun tz kt => by
          show oS p e below T21 m 27 #[rv o, iv x1, iv (4 : Int32), iv (5 : Int32), iv (4 : Int32)] [(.int x1), (.int w4)] _
          refine XS.icmpNo X21.here hx rfl (hb hby d6_27) rfl (flt hc27_3).2.2.1 ?_
          refine XS.iload X21.here hx rfl (hb hby d6_30) rfl ?_
          refine XS.iconst X21.here hx rfl (hb hby d6_32) ?_
          refine XS.iadd X21.here hx rfl (hb hby d6_33) rfl ?_
          show oS p e below T21 m 34 #[rv o, iv x1, iv (4 : Int32), iv (5 : Int32), iv (4 : Int32)] [(.int (5 : Int32))] _
          refine XS.istoreN X21.here hx rfl (hb hby d6_34) rfl (l' := #[rv o, iv x1, iv (5 : Int32), iv (5 : Int32), iv (4 : Int32)]) rfl ?_
          refine XS.goto X21.here hx rfl (pc0 := 35) (pc' := 41) rfl (hb hby d6_35) (by decide) (by decide) ?_
          refine XS.goto X21.here hx rfl (pc0 := 41) (pc' := 7) rfl (hb hby d6_41) (by decide) (by decide) ?_
          refine XS.iloadN X21.here hx rfl (hb hby d6_7) rfl ?_
          show oS p e below T21 m 8 #[rv o, iv x1, iv (5 : Int32), iv (5 : Int32), iv (4 : Int32)] [(.int (5 : Int32))] _
          refine XS.iloadN X21.here hx rfl (hb hby d6_8) rfl ?_
          refine XS.icmpYes X21.here hx rfl (pc0 := 9) (pc' := 44) rfl (hb hby d6_9) rfl (flt (by decide : ¬ ((5 : Int32) < (5 : Int32)))).2.1 (by decide) (by decide) ?_
          refine XS.iloadN X21.here hx rfl (hb hby d6_44) rfl ?_
          exact kt
        obtain ⟨fs, hr, hrun, hended, hW, hsame⟩ := X21.leave (v := some (.int (5 : Int32))) (fun h => by rw [Bd.returns] at h; cases h)
        refine ⟨_, _, pre0 _ (pre4 _ (pre20 _ (pre23 _ (pre25 _ ?_)))), hrun, hended, _, _, rfl, ?_, ⟨_, rfl⟩, hW, hsame.mono (by decide) (by decide)⟩
        · show oS p e below T21 m 45 #[rv o, iv x1, iv (5 : Int32), iv (5 : Int32), iv (4 : Int32)] [(.int (5 : Int32))] _
          exact retOut X21 hx Bd.returns rfl (Or.inl ⟨rfl, Or.inl rfl, _, rfl⟩) (hb hby d6_45) hr
        · show QC7 Z o x1 w0 w1 w2 w3 w4 w5 w6 a k1 h0 n0 _ T21.heap _
          rw [e21]
          exact ⟨(by first | rfl | simp only [if_neg hc27, if_pos hc27_2, if_neg hc27_3]), N0, rfl⟩
    · obtain ⟨T26, X26, e26, st26⟩ := getF X18 hx hZ hown (host := "") (Or.inl (own_w hw 20 rfl)) Via.refl e18 F_values_o (g := (mkF m 20 #[rv o, iv x1, iv (6 : Int32), iv (7 : Int32), iv (6 : Int32)] [(.ref o)])) rfl rfl (hb hby d6_20)
      obtain ⟨cl27, Ar27, qk27, Sz27, Ng27, Hs27, Gt27⟩ := id V_a
      have hin27 : ¬ ((6 : Int32) < 0 ∨ cl27.slots.size ≤ ((6 : Int32)).toNatClampNeg) := inb_of Sz27 ⟨by decide, by decide⟩
      have hat27 : cl27.slots[((6 : Int32)).toNatClampNeg]? = some (.int w6) := Hs27.at hin27 rfl
      have pre28 : ∀ tz, oS p e below T26 m 27 #[rv o, iv x1, iv (6 : Int32), iv (7 : Int32), iv (6 : Int32)] [(.int x1), (.int w6)] tz → oS p e below T18 m 27 #[rv o, iv x1, iv (4 : Int32), iv (7 : Int32), iv (5 : Int32)] [(.int x1), (.int w5)] tz := fun tz kt => by
        show oS p e below T18 m 27 #[rv o, iv x1, iv (4 : Int32), iv (7 : Int32), iv (5 : Int32)] [(.int x1), (.int w5)] _
        refine XS.icmpNo X18.here hx rfl (hb hby d6_27) rfl (flt hc27_2).2.2.1 ?_
        refine XS.iload X18.here hx rfl (hb hby d6_30) rfl ?_
        refine XS.iconst X18.here hx rfl (hb hby d6_32) ?_
        refine XS.iadd X18.here hx rfl (hb hby d6_33) rfl ?_
        show oS p e below T18 m 34 #[rv o, iv x1, iv (4 : Int32), iv (7 : Int32), iv (5 : Int32)] [(.int (6 : Int32))] _
        refine XS.istoreN X18.here hx rfl (hb hby d6_34) rfl (l' := #[rv o, iv x1, iv (6 : Int32), iv (7 : Int32), iv (5 : Int32)]) rfl ?_
        refine XS.goto X18.here hx rfl (pc0 := 35) (pc' := 41) rfl (hb hby d6_35) (by decide) (by decide) ?_
        refine XS.goto X18.here hx rfl (pc0 := 41) (pc' := 7) rfl (hb hby d6_41) (by decide) (by decide) ?_
        refine XS.iloadN X18.here hx rfl (hb hby d6_7) rfl ?_
        show oS p e below T18 m 8 #[rv o, iv x1, iv (6 : Int32), iv (7 : Int32), iv (5 : Int32)] [(.int (6 : Int32))] _
        refine XS.iloadN X18.here hx rfl (hb hby d6_8) rfl ?_
        refine XS.icmpNo X18.here hx rfl (hb hby d6_9) rfl (tlt (by decide : ((6 : Int32) < (7 : Int32)))).2.1 ?_
        refine XS.iloadN X18.here hx rfl (hb hby d6_12) rfl ?_
        refine XS.iloadN X18.here hx rfl (hb hby d6_13) rfl ?_
        show oS p e below T18 m 14 #[rv o, iv x1, iv (6 : Int32), iv (7 : Int32), iv (5 : Int32)] [(.int (7 : Int32)), (.int (6 : Int32))] _
        refine XS.iadd X18.here hx rfl (hb hby d6_14) rfl ?_
        show oS p e below T18 m 15 #[rv o, iv x1, iv (6 : Int32), iv (7 : Int32), iv (5 : Int32)] [(.int (13 : Int32))] _
        refine XS.iconst X18.here hx rfl (hb hby d6_15) ?_
        refine XS.iushr X18.here hx rfl (hb hby d6_16) rfl ?_
        show oS p e below T18 m 17 #[rv o, iv x1, iv (6 : Int32), iv (7 : Int32), iv (5 : Int32)] [(.int (6 : Int32))] _
        refine XS.istore X18.here hx rfl (hb hby d6_17) rfl (l' := #[rv o, iv x1, iv (6 : Int32), iv (7 : Int32), iv (6 : Int32)]) rfl ?_
        refine XS.aloadN X18.here hx rfl (hb hby d6_19) rfl rfl ?_
        show oS p e below T18 m 20 #[rv o, iv x1, iv (6 : Int32), iv (7 : Int32), iv (6 : Int32)] [(.ref o)] _
        refine st26 _ ?_
        refine XS.iload X26.here hx rfl (hb hby d6_23) rfl ?_
        refine X26.iaload hx (j := (6 : Int32)) (v := (.int w6)) (by rw [e26]; exact Ar27.1) (State.isArrayOf_alike hZ.alike Ar27.2.1) Ar27.2.2 hin27 hat27 (g := (mkF m 25 #[rv o, iv x1, iv (6 : Int32), iv (7 : Int32), iv (6 : Int32)] [(.int (6 : Int32)), (.ref a)])) rfl rfl (hb hby d6_25) _ ?_
        refine XS.iloadN X26.here hx rfl (hb hby d6_26) rfl ?_
        exact kt
      by_cases hc27_3 : x1 < w6
      · have pre29 : ∀ tz, oS p e below T26 m 45 #[rv o, iv x1, iv (6 : Int32), iv (6 : Int32), iv (6 : Int32)] [(.int (6 : Int32))] tz → oS p e below T26 m 27 #[rv o, iv x1, iv (6 : Int32), iv (7 : Int32), iv (6 : Int32)] [(.int x1), (.int w6)] tz := fun tz kt => by
          show oS p e below T26 m 27 #[rv o, iv x1, iv (6 : Int32), iv (7 : Int32), iv (6 : Int32)] [(.int x1), (.int w6)] _
          refine XS.icmpYes X26.here hx rfl (pc0 := 27) (pc' := 38) rfl (hb hby d6_27) rfl (tlt hc27_3).2.2.1 (by decide) (by decide) ?_
          refine XS.iload X26.here hx rfl (hb hby d6_38) rfl ?_
          refine XS.istoreN X26.here hx rfl (hb hby d6_40) rfl (l' := #[rv o, iv x1, iv (6 : Int32), iv (6 : Int32), iv (6 : Int32)]) rfl ?_
          refine XS.goto X26.here hx rfl (pc0 := 41) (pc' := 7) rfl (hb hby d6_41) (by decide) (by decide) ?_
          show oS p e below T26 m 7 #[rv o, iv x1, iv (6 : Int32), iv (6 : Int32), iv (6 : Int32)] [] _
          refine XS.iloadN X26.here hx rfl (hb hby d6_7) rfl ?_
          refine XS.iloadN X26.here hx rfl (hb hby d6_8) rfl ?_
          refine XS.icmpYes X26.here hx rfl (pc0 := 9) (pc' := 44) rfl (hb hby d6_9) rfl (flt (by decide : ¬ ((6 : Int32) < (6 : Int32)))).2.1 (by decide) (by decide) ?_
          refine XS.iloadN X26.here hx rfl (hb hby d6_44) rfl ?_
          exact kt
        obtain ⟨fs, hr, hrun, hended, hW, hsame⟩ := X26.leave (v := some (.int (6 : Int32))) (fun h => by rw [Bd.returns] at h; cases h)
        refine ⟨_, _, pre0 _ (pre4 _ (pre20 _ (pre28 _ (pre29 _ ?_)))), hrun, hended, _, _, rfl, ?_, ⟨_, rfl⟩, hW, hsame.mono (by decide) (by decide)⟩
        · show oS p e below T26 m 45 #[rv o, iv x1, iv (6 : Int32), iv (6 : Int32), iv (6 : Int32)] [(.int (6 : Int32))] _
          exact retOut X26 hx Bd.returns rfl (Or.inl ⟨rfl, Or.inl rfl, _, rfl⟩) (hb hby d6_45) hr
        · show QC7 Z o x1 w0 w1 w2 w3 w4 w5 w6 a k1 h0 n0 _ T26.heap _
          rw [e26]
          exact ⟨(by first | rfl | simp only [if_neg hc27, if_neg hc27_2, if_pos hc27_3]), N0, rfl⟩
      · have pre30 : ∀ tz, oS p e below T26 m 45 #[rv o, iv x1, iv (7 : Int32), iv (7 : Int32), iv (6 : Int32)] [(.int (7 : Int32))] tz → oS p e below T26 m 27 #[rv o, iv x1, iv (6 : Int32), iv (7 : Int32), iv (6 : Int32)] [(.int x1), (.int w6)] tz := fun tz kt => by
          show oS p e below T26 m 27 #[rv o, iv x1, iv (6 : Int32), iv (7 : Int32), iv (6 : Int32)] [(.int x1), (.int w6)] _
          refine XS.icmpNo X26.here hx rfl (hb hby d6_27) rfl (flt hc27_3).2.2.1 ?_
          refine XS.iload X26.here hx rfl (hb hby d6_30) rfl ?_
          refine XS.iconst X26.here hx rfl (hb hby d6_32) ?_
          refine XS.iadd X26.here hx rfl (hb hby d6_33) rfl ?_
          show oS p e below T26 m 34 #[rv o, iv x1, iv (6 : Int32), iv (7 : Int32), iv (6 : Int32)] [(.int (7 : Int32))] _
          refine XS.istoreN X26.here hx rfl (hb hby d6_34) rfl (l' := #[rv o, iv x1, iv (7 : Int32), iv (7 : Int32), iv (6 : Int32)]) rfl ?_
          refine XS.goto X26.here hx rfl (pc0 := 35) (pc' := 41) rfl (hb hby d6_35) (by decide) (by decide) ?_
          refine XS.goto X26.here hx rfl (pc0 := 41) (pc' := 7) rfl (hb hby d6_41) (by decide) (by decide) ?_
          refine XS.iloadN X26.here hx rfl (hb hby d6_7) rfl ?_
          show oS p e below T26 m 8 #[rv o, iv x1, iv (7 : Int32), iv (7 : Int32), iv (6 : Int32)] [(.int (7 : Int32))] _
          refine XS.iloadN X26.here hx rfl (hb hby d6_8) rfl ?_
          refine XS.icmpYes X26.here hx rfl (pc0 := 9) (pc' := 44) rfl (hb hby d6_9) rfl (flt (by decide : ¬ ((7 : Int32) < (7 : Int32)))).2.1 (by decide) (by decide) ?_
          refine XS.iloadN X26.here hx rfl (hb hby d6_44) rfl ?_
          exact kt
        obtain ⟨fs, hr, hrun, hended, hW, hsame⟩ := X26.leave (v := some (.int (7 : Int32))) (fun h => by rw [Bd.returns] at h; cases h)
        refine ⟨_, _, pre0 _ (pre4 _ (pre20 _ (pre28 _ (pre30 _ ?_)))), hrun, hended, _, _, rfl, ?_, ⟨_, rfl⟩, hW, hsame.mono (by decide) (by decide)⟩
        · show oS p e below T26 m 45 #[rv o, iv x1, iv (7 : Int32), iv (7 : Int32), iv (6 : Int32)] [(.int (7 : Int32))] _
          exact retOut X26 hx Bd.returns rfl (Or.inl ⟨rfl, Or.inl rfl, _, rfl⟩) (hb hby d6_45) hr
        · show QC7 Z o x1 w0 w1 w2 w3 w4 w5 w6 a k1 h0 n0 _ T26.heap _
          rw [e26]
          exact ⟨(by first | rfl | simp only [if_neg hc27, if_neg hc27_2, if_neg hc27_3]), N0, rfl⟩
theorem own_cnt1 (x1 w0 : Int32)  : (if x1 < w0 then (0 : Int32) else (1 : Int32)) = (((((((if (if x1 < w0 then (0 : Int32) else (1 : Int32)) = (0 : Int32) then (0 : Int32) else (1 : Int32)) + (0 : Int32)) + (0 : Int32)) + (0 : Int32)) + (0 : Int32)) + (0 : Int32)) + (0 : Int32)) := by
  by_cases c0 : x1 < w0
  · simp only [c0, if_true, if_false]
    try decide
  · simp only [c0, if_true, if_false]
    try decide
theorem own_cnt2 (x1 w0 w1 : Int32) (h1 : ¬ w1 < w0) : (if x1 < w1 then (if x1 < w0 then (0 : Int32) else (1 : Int32)) else (2 : Int32)) = (((((((if (if x1 < w0 then (0 : Int32) else (1 : Int32)) = (0 : Int32) then (0 : Int32) else (1 : Int32)) + (if (if x1 < w1 then (0 : Int32) else (1 : Int32)) = (0 : Int32) then (0 : Int32) else (1 : Int32))) + (0 : Int32)) + (0 : Int32)) + (0 : Int32)) + (0 : Int32)) + (0 : Int32)) := by
  by_cases c0 : x1 < w0
  · have c1 := own_up c0 h1
    simp only [c0, c1, if_true, if_false]
    try decide
  · by_cases c1 : x1 < w1
    · simp only [c0, c1, if_true, if_false]
      try decide
    · simp only [c0, c1, if_true, if_false]
      try decide
theorem own_cnt3 (x1 w0 w1 w2 : Int32) (h1 : ¬ w1 < w0) (h2 : ¬ w2 < w1) : (if x1 < w1 then (if x1 < w0 then (0 : Int32) else (1 : Int32)) else (if x1 < w2 then (2 : Int32) else (3 : Int32))) = (((((((if (if x1 < w0 then (0 : Int32) else (1 : Int32)) = (0 : Int32) then (0 : Int32) else (1 : Int32)) + (if (if x1 < w1 then (0 : Int32) else (1 : Int32)) = (0 : Int32) then (0 : Int32) else (1 : Int32))) + (if (if x1 < w2 then (0 : Int32) else (1 : Int32)) = (0 : Int32) then (0 : Int32) else (1 : Int32))) + (0 : Int32)) + (0 : Int32)) + (0 : Int32)) + (0 : Int32)) := by
  by_cases c0 : x1 < w0
  · have c1 := own_up c0 h1
    have c2 := own_up c1 h2
    simp only [c0, c1, c2, if_true, if_false]
    try decide
  · by_cases c1 : x1 < w1
    · have c2 := own_up c1 h2
      simp only [c0, c1, c2, if_true, if_false]
      try decide
    · by_cases c2 : x1 < w2
      · simp only [c0, c1, c2, if_true, if_false]
        try decide
      · simp only [c0, c1, c2, if_true, if_false]
        try decide
theorem own_cnt4 (x1 w0 w1 w2 w3 : Int32) (h1 : ¬ w1 < w0) (h2 : ¬ w2 < w1) (h3 : ¬ w3 < w2) : (if x1 < w2 then (if x1 < w1 then (if x1 < w0 then (0 : Int32) else (1 : Int32)) else (2 : Int32)) else (if x1 < w3 then (3 : Int32) else (4 : Int32))) = (((((((if (if x1 < w0 then (0 : Int32) else (1 : Int32)) = (0 : Int32) then (0 : Int32) else (1 : Int32)) + (if (if x1 < w1 then (0 : Int32) else (1 : Int32)) = (0 : Int32) then (0 : Int32) else (1 : Int32))) + (if (if x1 < w2 then (0 : Int32) else (1 : Int32)) = (0 : Int32) then (0 : Int32) else (1 : Int32))) + (if (if x1 < w3 then (0 : Int32) else (1 : Int32)) = (0 : Int32) then (0 : Int32) else (1 : Int32))) + (0 : Int32)) + (0 : Int32)) + (0 : Int32)) := by
  by_cases c0 : x1 < w0
  · have c1 := own_up c0 h1
    have c2 := own_up c1 h2
    have c3 := own_up c2 h3
    simp only [c0, c1, c2, c3, if_true, if_false]
    try decide
  · by_cases c1 : x1 < w1
    · have c2 := own_up c1 h2
      have c3 := own_up c2 h3
      simp only [c0, c1, c2, c3, if_true, if_false]
      try decide
    · by_cases c2 : x1 < w2
      · have c3 := own_up c2 h3
        simp only [c0, c1, c2, c3, if_true, if_false]
        try decide
      · by_cases c3 : x1 < w3
        · simp only [c0, c1, c2, c3, if_true, if_false]
          try decide
        · simp only [c0, c1, c2, c3, if_true, if_false]
          try decide
theorem own_cnt5 (x1 w0 w1 w2 w3 w4 : Int32) (h1 : ¬ w1 < w0) (h2 : ¬ w2 < w1) (h3 : ¬ w3 < w2) (h4 : ¬ w4 < w3) : (if x1 < w2 then (if x1 < w1 then (if x1 < w0 then (0 : Int32) else (1 : Int32)) else (2 : Int32)) else (if x1 < w4 then (if x1 < w3 then (3 : Int32) else (4 : Int32)) else (5 : Int32))) = (((((((if (if x1 < w0 then (0 : Int32) else (1 : Int32)) = (0 : Int32) then (0 : Int32) else (1 : Int32)) + (if (if x1 < w1 then (0 : Int32) else (1 : Int32)) = (0 : Int32) then (0 : Int32) else (1 : Int32))) + (if (if x1 < w2 then (0 : Int32) else (1 : Int32)) = (0 : Int32) then (0 : Int32) else (1 : Int32))) + (if (if x1 < w3 then (0 : Int32) else (1 : Int32)) = (0 : Int32) then (0 : Int32) else (1 : Int32))) + (if (if x1 < w4 then (0 : Int32) else (1 : Int32)) = (0 : Int32) then (0 : Int32) else (1 : Int32))) + (0 : Int32)) + (0 : Int32)) := by
  by_cases c0 : x1 < w0
  · have c1 := own_up c0 h1
    have c2 := own_up c1 h2
    have c3 := own_up c2 h3
    have c4 := own_up c3 h4
    simp only [c0, c1, c2, c3, c4, if_true, if_false]
    try decide
  · by_cases c1 : x1 < w1
    · have c2 := own_up c1 h2
      have c3 := own_up c2 h3
      have c4 := own_up c3 h4
      simp only [c0, c1, c2, c3, c4, if_true, if_false]
      try decide
    · by_cases c2 : x1 < w2
      · have c3 := own_up c2 h3
        have c4 := own_up c3 h4
        simp only [c0, c1, c2, c3, c4, if_true, if_false]
        try decide
      · by_cases c3 : x1 < w3
        · have c4 := own_up c3 h4
          simp only [c0, c1, c2, c3, c4, if_true, if_false]
          try decide
        · by_cases c4 : x1 < w4
          · simp only [c0, c1, c2, c3, c4, if_true, if_false]
            try decide
          · simp only [c0, c1, c2, c3, c4, if_true, if_false]
            try decide
theorem own_cnt6 (x1 w0 w1 w2 w3 w4 w5 : Int32) (h1 : ¬ w1 < w0) (h2 : ¬ w2 < w1) (h3 : ¬ w3 < w2) (h4 : ¬ w4 < w3) (h5 : ¬ w5 < w4) : (if x1 < w3 then (if x1 < w1 then (if x1 < w0 then (0 : Int32) else (1 : Int32)) else (if x1 < w2 then (2 : Int32) else (3 : Int32))) else (if x1 < w5 then (if x1 < w4 then (4 : Int32) else (5 : Int32)) else (6 : Int32))) = (((((((if (if x1 < w0 then (0 : Int32) else (1 : Int32)) = (0 : Int32) then (0 : Int32) else (1 : Int32)) + (if (if x1 < w1 then (0 : Int32) else (1 : Int32)) = (0 : Int32) then (0 : Int32) else (1 : Int32))) + (if (if x1 < w2 then (0 : Int32) else (1 : Int32)) = (0 : Int32) then (0 : Int32) else (1 : Int32))) + (if (if x1 < w3 then (0 : Int32) else (1 : Int32)) = (0 : Int32) then (0 : Int32) else (1 : Int32))) + (if (if x1 < w4 then (0 : Int32) else (1 : Int32)) = (0 : Int32) then (0 : Int32) else (1 : Int32))) + (if (if x1 < w5 then (0 : Int32) else (1 : Int32)) = (0 : Int32) then (0 : Int32) else (1 : Int32))) + (0 : Int32)) := by
  by_cases c0 : x1 < w0
  · have c1 := own_up c0 h1
    have c2 := own_up c1 h2
    have c3 := own_up c2 h3
    have c4 := own_up c3 h4
    have c5 := own_up c4 h5
    simp only [c0, c1, c2, c3, c4, c5, if_true, if_false]
    try decide
  · by_cases c1 : x1 < w1
    · have c2 := own_up c1 h2
      have c3 := own_up c2 h3
      have c4 := own_up c3 h4
      have c5 := own_up c4 h5
      simp only [c0, c1, c2, c3, c4, c5, if_true, if_false]
      try decide
    · by_cases c2 : x1 < w2
      · have c3 := own_up c2 h3
        have c4 := own_up c3 h4
        have c5 := own_up c4 h5
        simp only [c0, c1, c2, c3, c4, c5, if_true, if_false]
        try decide
      · by_cases c3 : x1 < w3
        · have c4 := own_up c3 h4
          have c5 := own_up c4 h5
          simp only [c0, c1, c2, c3, c4, c5, if_true, if_false]
          try decide
        · by_cases c4 : x1 < w4
          · have c5 := own_up c4 h5
            simp only [c0, c1, c2, c3, c4, c5, if_true, if_false]
            try decide
          · by_cases c5 : x1 < w5
            · simp only [c0, c1, c2, c3, c4, c5, if_true, if_false]
              try decide
            · simp only [c0, c1, c2, c3, c4, c5, if_true, if_false]
              try decide
theorem own_cnt7 (x1 w0 w1 w2 w3 w4 w5 w6 : Int32) (h1 : ¬ w1 < w0) (h2 : ¬ w2 < w1) (h3 : ¬ w3 < w2) (h4 : ¬ w4 < w3) (h5 : ¬ w5 < w4) (h6 : ¬ w6 < w5) : (if x1 < w3 then (if x1 < w1 then (if x1 < w0 then (0 : Int32) else (1 : Int32)) else (if x1 < w2 then (2 : Int32) else (3 : Int32))) else (if x1 < w5 then (if x1 < w4 then (4 : Int32) else (5 : Int32)) else (if x1 < w6 then (6 : Int32) else (7 : Int32)))) = (((((((if (if x1 < w0 then (0 : Int32) else (1 : Int32)) = (0 : Int32) then (0 : Int32) else (1 : Int32)) + (if (if x1 < w1 then (0 : Int32) else (1 : Int32)) = (0 : Int32) then (0 : Int32) else (1 : Int32))) + (if (if x1 < w2 then (0 : Int32) else (1 : Int32)) = (0 : Int32) then (0 : Int32) else (1 : Int32))) + (if (if x1 < w3 then (0 : Int32) else (1 : Int32)) = (0 : Int32) then (0 : Int32) else (1 : Int32))) + (if (if x1 < w4 then (0 : Int32) else (1 : Int32)) = (0 : Int32) then (0 : Int32) else (1 : Int32))) + (if (if x1 < w5 then (0 : Int32) else (1 : Int32)) = (0 : Int32) then (0 : Int32) else (1 : Int32))) + (if (if x1 < w6 then (0 : Int32) else (1 : Int32)) = (0 : Int32) then (0 : Int32) else (1 : Int32))) := by
  by_cases c0 : x1 < w0
  · have c1 := own_up c0 h1
    have c2 := own_up c1 h2
    have c3 := own_up c2 h3
    have c4 := own_up c3 h4
    have c5 := own_up c4 h5
    have c6 := own_up c5 h6
    simp only [c0, c1, c2, c3, c4, c5, c6, if_true, if_false]
    try decide
  · by_cases c1 : x1 < w1
    · have c2 := own_up c1 h2
      have c3 := own_up c2 h3
      have c4 := own_up c3 h4
      have c5 := own_up c4 h5
      have c6 := own_up c5 h6
      simp only [c0, c1, c2, c3, c4, c5, c6, if_true, if_false]
      try decide
    · by_cases c2 : x1 < w2
      · have c3 := own_up c2 h3
        have c4 := own_up c3 h4
        have c5 := own_up c4 h5
        have c6 := own_up c5 h6
        simp only [c0, c1, c2, c3, c4, c5, c6, if_true, if_false]
        try decide
      · by_cases c3 : x1 < w3
        · have c4 := own_up c3 h4
          have c5 := own_up c4 h5
          have c6 := own_up c5 h6
          simp only [c0, c1, c2, c3, c4, c5, c6, if_true, if_false]
          try decide
        · by_cases c4 : x1 < w4
          · have c5 := own_up c4 h5
            have c6 := own_up c5 h6
            simp only [c0, c1, c2, c3, c4, c5, c6, if_true, if_false]
            try decide
          · by_cases c5 : x1 < w5
            · have c6 := own_up c5 h6
              simp only [c0, c1, c2, c3, c4, c5, c6, if_true, if_false]
              try decide
            · by_cases c6 : x1 < w6
              · simp only [c0, c1, c2, c3, c4, c5, c6, if_true, if_false]
                try decide
              · simp only [c0, c1, c2, c3, c4, c5, c6, if_true, if_false]
                try decide
theorem own_pd3 : parseMethodDescriptor "(IJ)I" = some ⟨[.int, .long], some .int⟩ := by decide +kernel
theorem own_pd4 : parseMethodDescriptor "()V" = some ⟨[], none⟩ := by decide +kernel
theorem own_pd5 : parseMethodDescriptor "(Z)I" = some ⟨[.boolean], some .int⟩ := by decide +kernel
theorem own_pd6 : parseMethodDescriptor "(I)I" = some ⟨[.int], some .int⟩ := by decide +kernel
theorem own_pd7 : parseMethodDescriptor "(I)V" = some ⟨[.int], none⟩ := by decide +kernel
theorem ef0 (m : MethodId) (x1 : Int32) (x2 : Int32) (x3 : Int32) (x4 : Int64) (x5 : Int64) (x6 : Int64) : entryFrame m #[(.int x1), (.int x2), (.int x3), (.long x4), (.long x5), (.long x6)] maxLocals = mkF m 0 #[iv x1, iv x2, iv x3, lv x4, .second, lv x5, .second, lv x6, .second, .unset, .unset, .unset, .unset, .unset, .unset, .unset, .unset, .unset, .unset] [] := by first | (simp [entryFrame, mkF, argsToLocals, Value.category, maxLocals]; done) | rfl
def Q0 (Z : State) (x1 : Int32) (x2 : Int32) (x3 : Int32) (x4 : Int64) (x5 : Int64) (x6 : Int64) (h0 : Heap) (n0 : Nat) (v : Option Value) (h : Heap) (L : List Loc) : Prop := v = some (.int (1 : Int32)) ∧ Fr n0 L
set_option maxRecDepth 65536 in
set_option maxHeartbeats 40000000 in
theorem rm0 (l : Launch) (Z : State) (a0 : Array Value) (hw : ∀ d ∈ tables_1, d.before a0 Z = true) (ws : List Jvm.Cond) (x1 : Int32) (x2 : Int32) (x3 : Int32) (x4 : Int64) (x5 : Int64) (x6 : Int64) (h0 : Heap) (n0 : Nat) (Z0 : n0 ≤ h0.size) :
    MetFree l x (head1 (Jvm.Cond.code x code maxLocals ret :: ws) room_1) (fun a U => a = #[(.int x1), (.int x2), (.int x3), (.long x4), (.long x5), (.long x6)] ∧ Z.Warmed39 U.vm ∧ U.heap = h0) (fun _ _ _ _ _ => True) (fun _ U oc U' => ∃ v L, oc = .returned v ∧ Q0 Z x1 x2 x3 x4 x5 x6 h0 n0 v U'.heap L ∧ FrameEnd U oc U' L room_1.cells room_1.slots) := by
  refine MetFree.of_bodySF (plainFor_of_name own_pn0) hisR ?_
  intro p e s m args below meth c s₁ Bd hml0 hP hK
  obtain ⟨rfl, hZ, hh⟩ := hP
  have hx := Bd.exec
  have hby := Bd.bytes
  have hml : c.maxLocals = 19 := hml0
  have hown : s.vm.findClass oz1 = some m.cls := findClass_of_methodNamed Bd.named
  have hnm := (name_of_methodNamed Bd.named Bd.method).1
  have X0 : Stand p l e room_1 s m #[(.int x1), (.int x2), (.int x3), (.long x4), (.long x5), (.long x6)] below meth c s₁ [] 0 0 := Stand.of_body Bd
  have e0 : s₁.heap = h0 := by rw [← hh, Bd.state]; rfl
  have N0 := Fr.nil n0
  have pre0 : ∀ t, Steps p.tables e below (s₁.setTop (mkF m 0 #[iv x1, iv x2, iv x3, lv x4, .second, lv x5, .second, lv x6, .second, .unset, .unset, .unset, .unset, .unset, .unset, .unset, .unset, .unset, .unset] [])) t → Steps p.tables e below (s₁.setTop (entryFrame m #[(.int x1), (.int x2), (.int x3), (.long x4), (.long x5), (.long x6)] maxLocals)) t := fun t k => castTop (ef0 m x1 x2 x3 x4 x5 x6) k
  obtain ⟨y4, hy4⟩ : ∃ z, z = (x1 &&& (7 : Int32)) := ⟨_, rfl⟩
  obtain ⟨_, _, ⟨T1, Lw1, kw1, nw1⟩, -, X1, ⟨Lc1, hQ1, l1, y1, z1⟩, st1⟩ := Jvm.LawKit.callS X0 hx (y := (⟨oz1, "next", "(IJ)I"⟩ : MethodName)) hown (mvT hZ (own_w hw 0 rfl)) (mvT hZ (own_w hw 1 rfl)) (mvT hZ (own_w hw 2 rfl)) (mvT hZ (own_w hw 3 rfl)) (by decide) (backOf (W := 0) (rm1 l Z a0 hw [] x3 x4 h0 n0 Z0 ) hZ (own_w hw 3 rfl) (own_w hw 2 rfl) (by decide) (by decide)) (g := (mkF m 12 #[iv x1, iv x2, iv x3, lv x4, .second, lv x5, .second, lv x6, .second, iv y4, iv x3, .unset, .unset, .unset, .unset, .unset, .unset, .unset, .unset] [(.long x4), (.int x3)])) rfl (by rw [hml]; rfl) (argsL := [(.int x3), (.long x4)]) (rest := []) (lenOf own_pd3 rfl) rfl (by show 2 * 0 + _ ≤ _; exact Nat.le_of_eq rfl) (hb hby at_12) (fun _ _ => ⟨rfl, e0, (by decide : 0 + 0 ≤ _), (by decide : 0 + 0 ≤ _)⟩)
  dsimp only [Pt.U, Pt.locs, Pt.cells, Pt.slots] at X1 l1 y1 z1 st1 hQ1
  subst l1 y1 z1
  obtain ⟨r1, rfl, Nq1, eh1, pf1_0⟩ := hQ1
  have N1 := Fr.app N0 Nq1
  obtain ⟨_, _, ⟨T2, Lw2, kw2, nw2⟩, -, X2, ⟨Lc2, hQ2, l2, y2, z2⟩, st2⟩ := Jvm.LawKit.callS X1 hx (y := (⟨oz1, "next", "(IJ)I"⟩ : MethodName)) hown (mvT hZ (own_w hw 0 rfl)) (mvT hZ (own_w hw 1 rfl)) (mvT hZ (own_w hw 2 rfl)) (mvT hZ (own_w hw 3 rfl)) (by decide) (backOf (W := 0) (rm1 l Z a0 hw [] r1 ((x4.toUInt64 >>> ((32 : Int32) &&& 0x3f).toInt64.toUInt64).toInt64) h0 n0 Z0 ) hZ (own_w hw 3 rfl) (own_w hw 2 rfl) (by decide) (by decide)) (g := (mkF m 23 #[iv x1, iv x2, iv x3, lv x4, .second, lv x5, .second, lv x6, .second, iv y4, iv x3, iv r1, .unset, .unset, .unset, .unset, .unset, .unset, .unset] [(.long ((x4.toUInt64 >>> ((32 : Int32) &&& 0x3f).toInt64.toUInt64).toInt64)), (.int r1)])) rfl (by rw [hml]; rfl) (argsL := [(.int r1), (.long ((x4.toUInt64 >>> ((32 : Int32) &&& 0x3f).toInt64.toUInt64).toInt64))]) (rest := []) (lenOf own_pd3 rfl) rfl (by show 2 * 0 + _ ≤ _; exact Nat.le_of_eq rfl) (hb hby at_23) (fun _ _ => ⟨rfl, eh1, (by decide : 0 + 0 ≤ _), (by decide : 0 + 0 ≤ _)⟩)
  dsimp only [Pt.U, Pt.locs, Pt.cells, Pt.slots] at X2 l2 y2 z2 st2 hQ2
  subst l2 y2 z2
  obtain ⟨r2, rfl, Nq2, eh2, pf2_0⟩ := hQ2
  have N2 := Fr.app N1 Nq2
  obtain ⟨_, _, ⟨T3, Lw3, kw3, nw3⟩, -, X3, ⟨Lc3, hQ3, l3, y3, z3⟩, st3⟩ := Jvm.LawKit.callS X2 hx (y := (⟨oz1, "next", "(IJ)I"⟩ : MethodName)) hown (mvT hZ (own_w hw 0 rfl)) (mvT hZ (own_w hw 1 rfl)) (mvT hZ (own_w hw 2 rfl)) (mvT hZ (own_w hw 3 rfl)) (by decide) (backOf (W := 0) (rm1 l Z a0 hw [] r2 x5 h0 n0 Z0 ) hZ (own_w hw 3 rfl) (own_w hw 2 rfl) (by decide) (by decide)) (g := (mkF m 32 #[iv x1, iv x2, iv x3, lv x4, .second, lv x5, .second, lv x6, .second, iv y4, iv x3, iv r1, iv r2, .unset, .unset, .unset, .unset, .unset, .unset] [(.long x5), (.int r2)])) rfl (by rw [hml]; rfl) (argsL := [(.int r2), (.long x5)]) (rest := []) (lenOf own_pd3 rfl) rfl (by show 2 * 0 + _ ≤ _; exact Nat.le_of_eq rfl) (hb hby at_32) (fun _ _ => ⟨rfl, eh2, (by decide : 0 + 0 ≤ _), (by decide : 0 + 0 ≤ _)⟩)
  dsimp only [Pt.U, Pt.locs, Pt.cells, Pt.slots] at X3 l3 y3 z3 st3 hQ3
  subst l3 y3 z3
  obtain ⟨r3, rfl, Nq3, eh3, pf3_0⟩ := hQ3
  have N3 := Fr.app N2 Nq3
  obtain ⟨_, _, ⟨T4, Lw4, kw4, nw4⟩, -, X4, ⟨Lc4, hQ4, l4, y4, z4⟩, st4⟩ := Jvm.LawKit.callS X3 hx (y := (⟨oz1, "next", "(IJ)I"⟩ : MethodName)) hown (mvT hZ (own_w hw 0 rfl)) (mvT hZ (own_w hw 1 rfl)) (mvT hZ (own_w hw 2 rfl)) (mvT hZ (own_w hw 3 rfl)) (by decide) (backOf (W := 0) (rm1 l Z a0 hw [] r3 ((x5.toUInt64 >>> ((32 : Int32) &&& 0x3f).toInt64.toUInt64).toInt64) h0 n0 Z0 ) hZ (own_w hw 3 rfl) (own_w hw 2 rfl) (by decide) (by decide)) (g := (mkF m 44 #[iv x1, iv x2, iv x3, lv x4, .second, lv x5, .second, lv x6, .second, iv y4, iv x3, iv r1, iv r2, iv r3, .unset, .unset, .unset, .unset, .unset] [(.long ((x5.toUInt64 >>> ((32 : Int32) &&& 0x3f).toInt64.toUInt64).toInt64)), (.int r3)])) rfl (by rw [hml]; rfl) (argsL := [(.int r3), (.long ((x5.toUInt64 >>> ((32 : Int32) &&& 0x3f).toInt64.toUInt64).toInt64))]) (rest := []) (lenOf own_pd3 rfl) rfl (by show 2 * 0 + _ ≤ _; exact Nat.le_of_eq rfl) (hb hby at_44) (fun _ _ => ⟨rfl, eh3, (by decide : 0 + 0 ≤ _), (by decide : 0 + 0 ≤ _)⟩)
  dsimp only [Pt.U, Pt.locs, Pt.cells, Pt.slots] at X4 l4 y4 z4 st4 hQ4
  subst l4 y4 z4
  obtain ⟨r4, rfl, Nq4, eh4, pf4_0⟩ := hQ4
  have N4 := Fr.app N3 Nq4
  obtain ⟨_, _, ⟨T5, Lw5, kw5, nw5⟩, -, X5, ⟨Lc5, hQ5, l5, y5, z5⟩, st5⟩ := Jvm.LawKit.callS X4 hx (y := (⟨oz1, "next", "(IJ)I"⟩ : MethodName)) hown (mvT hZ (own_w hw 0 rfl)) (mvT hZ (own_w hw 1 rfl)) (mvT hZ (own_w hw 2 rfl)) (mvT hZ (own_w hw 3 rfl)) (by decide) (backOf (W := 0) (rm1 l Z a0 hw [] r4 x6 h0 n0 Z0 ) hZ (own_w hw 3 rfl) (own_w hw 2 rfl) (by decide) (by decide)) (g := (mkF m 53 #[iv x1, iv x2, iv x3, lv x4, .second, lv x5, .second, lv x6, .second, iv y4, iv x3, iv r1, iv r2, iv r3, iv r4, .unset, .unset, .unset, .unset] [(.long x6), (.int r4)])) rfl (by rw [hml]; rfl) (argsL := [(.int r4), (.long x6)]) (rest := []) (lenOf own_pd3 rfl) rfl (by show 2 * 0 + _ ≤ _; exact Nat.le_of_eq rfl) (hb hby at_53) (fun _ _ => ⟨rfl, eh4, (by decide : 0 + 0 ≤ _), (by decide : 0 + 0 ≤ _)⟩)
  dsimp only [Pt.U, Pt.locs, Pt.cells, Pt.slots] at X5 l5 y5 z5 st5 hQ5
  subst l5 y5 z5
  obtain ⟨r5, rfl, Nq5, eh5, pf5_0⟩ := hQ5
  have N5 := Fr.app N4 Nq5
  obtain ⟨_, _, ⟨T6, Lw6, kw6, nw6⟩, -, X6, ⟨Lc6, hQ6, l6, y6, z6⟩, st6⟩ := Jvm.LawKit.callS X5 hx (y := (⟨oz1, "next", "(IJ)I"⟩ : MethodName)) hown (mvT hZ (own_w hw 0 rfl)) (mvT hZ (own_w hw 1 rfl)) (mvT hZ (own_w hw 2 rfl)) (mvT hZ (own_w hw 3 rfl)) (by decide) (backOf (W := 0) (rm1 l Z a0 hw [] r5 ((x6.toUInt64 >>> ((32 : Int32) &&& 0x3f).toInt64.toUInt64).toInt64) h0 n0 Z0 ) hZ (own_w hw 3 rfl) (own_w hw 2 rfl) (by decide) (by decide)) (g := (mkF m 65 #[iv x1, iv x2, iv x3, lv x4, .second, lv x5, .second, lv x6, .second, iv y4, iv x3, iv r1, iv r2, iv r3, iv r4, iv r5, .unset, .unset, .unset] [(.long ((x6.toUInt64 >>> ((32 : Int32) &&& 0x3f).toInt64.toUInt64).toInt64)), (.int r5)])) rfl (by rw [hml]; rfl) (argsL := [(.int r5), (.long ((x6.toUInt64 >>> ((32 : Int32) &&& 0x3f).toInt64.toUInt64).toInt64))]) (rest := []) (lenOf own_pd3 rfl) rfl (by show 2 * 0 + _ ≤ _; exact Nat.le_of_eq rfl) (hb hby at_65) (fun _ _ => ⟨rfl, eh5, (by decide : 0 + 0 ≤ _), (by decide : 0 + 0 ≤ _)⟩)
  dsimp only [Pt.U, Pt.locs, Pt.cells, Pt.slots] at X6 l6 y6 z6 st6 hQ6
  subst l6 y6 z6
  obtain ⟨r6, rfl, Nq6, eh6, pf6_0⟩ := hQ6
  have N6 := Fr.app N5 Nq6
  obtain ⟨T7, h7, X7, e7, E7, A7, D7, -, st7⟩ := newO X6 hx hZ hown (own_w hw 10 rfl) (own_w hw 11 rfl) (own_w hw 12 rfl) eh6 (g := (mkF m 70 #[iv x1, iv x2, iv x3, lv x4, .second, lv x5, .second, lv x6, .second, iv y4, iv x3, iv r1, iv r2, iv r3, iv r4, iv r5, iv r6, .unset, .unset] [])) rfl (hb hby at_70) (by decide) (by decide)
  obtain ⟨b7, g7⟩ : ∃ z, z = h0.size := ⟨_, rfl⟩
  rw [← g7] at A7 D7 st7
  have g_b7 : n0 ≤ b7 := Nat.le_trans Z0 (Nat.le_of_eq g7.symm)
  have F_values_b7 : Fld Z h7 b7 oz0 "values" "[I" .null := D7 (Or.inl (own_w hw 21 rfl)) (ty := (.array .int)) (by decide)
  have F_size_b7 : Fld Z h7 b7 oz0 "size" "I" (.int (0 : Int32)) := D7 (Or.inl (own_w hw 31 rfl)) (ty := .int) (by decide)
  have Zc9 : n0 ≤ h7.size := (Nat.le_trans Z0 E7.1)
  obtain ⟨_, _, ⟨T8, Lw8, kw8, nw8⟩, -, X8, ⟨Lc8, hQ8, l8, y8, z8⟩, st8⟩ := X7.specialBack hx (y := (⟨oz0, "<init>", "()V"⟩ : MethodName)) rfl hown (mvT hZ (own_w hw 13 rfl)) (mvT hZ (own_w hw 14 rfl)) (mvT hZ (own_w hw 15 rfl)) (by decide) (backOf (W := 1) (rm3 l Z a0 hw [] b7 .null h7 n0 Zc9 A7 g_b7 F_size_b7 F_values_b7) hZ (own_w hw 15 rfl) (own_w hw 12 rfl) (by decide) (by decide)) (g := (mkF m 74 #[iv x1, iv x2, iv x3, lv x4, .second, lv x5, .second, lv x6, .second, iv y4, iv x3, iv r1, iv r2, iv r3, iv r4, iv r5, iv r6, .unset, .unset] [(.ref b7), (.ref b7)])) rfl (by rw [hml]; rfl) (Steps.refl _) (a := b7) (argsL := []) (rest := [(.ref b7)]) (lenOf own_pd4 rfl) rfl (by show 2 * 0 + _ ≤ _; exact Nat.le_of_eq rfl) (hb hby at_74) (fun _ _ => ⟨rfl, e7, (by decide : 1 + 1 ≤ _), (by decide : 2 + 4 ≤ _)⟩)
  dsimp only [Pt.U, Pt.locs, Pt.cells, Pt.slots] at X8 l8 y8 z8 st8 hQ8
  subst l8 y8 z8
  obtain ⟨b8, k8, rfl, Nq8, K8, pf8_0, pf8_1, pf8_2, pf8_3, pf8_4⟩ := hQ8
  have N8 := Fr.app N6 Nq8
  have ne_b7_b8 : b7 ≠ b8 := Nat.ne_of_lt (Nat.lt_of_lt_of_le A7.lt pf8_0)
  have pre10 : ∀ tz, oS p e below T8 m 79 #[iv x1, iv x2, iv x3, lv x4, .second, lv x5, .second, lv x6, .second, iv y4, iv x3, iv r1, iv r2, iv r3, iv r4, iv r5, iv r6, rv b7, .unset] [] tz → oS p e below s₁ m 0 #[iv x1, iv x2, iv x3, lv x4, .second, lv x5, .second, lv x6, .second, .unset, .unset, .unset, .unset, .unset, .unset, .unset, .unset, .unset, .unset] [] tz := fun tz kt => by
    show oS p e below s₁ m 0 #[iv x1, iv x2, iv x3, lv x4, .second, lv x5, .second, lv x6, .second, .unset, .unset, .unset, .unset, .unset, .unset, .unset, .unset, .unset, .unset] [] _
    refine XS.iloadN X0.here hx rfl (hb hby at_0) rfl ?_
    refine XS.bipush X0.here hx rfl (hb hby at_1) ?_
    refine XS.iand X0.here hx rfl (hb hby at_3) rfl ?_
    refine XS.istore X0.here hx rfl (hb hby at_4) rfl (l' := #[iv x1, iv x2, iv x3, lv x4, .second, lv x5, .second, lv x6, .second, iv y4, .unset, .unset, .unset, .unset, .unset, .unset, .unset, .unset, .unset]) (by rw [hy4]; rfl) ?_
    show oS p e below s₁ m 6 #[iv x1, iv x2, iv x3, lv x4, .second, lv x5, .second, lv x6, .second, iv y4, .unset, .unset, .unset, .unset, .unset, .unset, .unset, .unset, .unset] [] _
    refine XS.iloadN X0.here hx rfl (hb hby at_6) rfl ?_
    refine XS.istore X0.here hx rfl (hb hby at_7) rfl (l' := #[iv x1, iv x2, iv x3, lv x4, .second, lv x5, .second, lv x6, .second, iv y4, iv x3, .unset, .unset, .unset, .unset, .unset, .unset, .unset, .unset]) rfl ?_
    refine XS.iload X0.here hx rfl (hb hby at_9) rfl ?_
    refine XS.lloadN X0.here hx rfl (hb hby at_11) rfl ?_
    show oS p e below s₁ m 12 #[iv x1, iv x2, iv x3, lv x4, .second, lv x5, .second, lv x6, .second, iv y4, iv x3, .unset, .unset, .unset, .unset, .unset, .unset, .unset, .unset] [(.long x4), (.int x3)] _
    refine st1 _ ?_
    refine XS.istore X1.here hx rfl (hb hby at_15) rfl (l' := #[iv x1, iv x2, iv x3, lv x4, .second, lv x5, .second, lv x6, .second, iv y4, iv x3, iv r1, .unset, .unset, .unset, .unset, .unset, .unset, .unset]) rfl ?_
    refine XS.iload X1.here hx rfl (hb hby at_17) rfl ?_
    refine XS.lloadN X1.here hx rfl (hb hby at_19) rfl ?_
    show oS p e below T1 m 20 #[iv x1, iv x2, iv x3, lv x4, .second, lv x5, .second, lv x6, .second, iv y4, iv x3, iv r1, .unset, .unset, .unset, .unset, .unset, .unset, .unset] [(.long x4), (.int r1)] _
    refine XS.bipush X1.here hx rfl (hb hby at_20) ?_
    refine XS.lushr X1.here hx rfl (hb hby at_22) rfl ?_
    show oS p e below T1 m 23 #[iv x1, iv x2, iv x3, lv x4, .second, lv x5, .second, lv x6, .second, iv y4, iv x3, iv r1, .unset, .unset, .unset, .unset, .unset, .unset, .unset] [(.long ((x4.toUInt64 >>> ((32 : Int32) &&& 0x3f).toInt64.toUInt64).toInt64)), (.int r1)] _
    refine st2 _ ?_
    refine XS.istore X2.here hx rfl (hb hby at_26) rfl (l' := #[iv x1, iv x2, iv x3, lv x4, .second, lv x5, .second, lv x6, .second, iv y4, iv x3, iv r1, iv r2, .unset, .unset, .unset, .unset, .unset, .unset]) rfl ?_
    refine XS.iload X2.here hx rfl (hb hby at_28) rfl ?_
    refine XS.lload X2.here hx rfl (hb hby at_30) rfl ?_
    show oS p e below T2 m 32 #[iv x1, iv x2, iv x3, lv x4, .second, lv x5, .second, lv x6, .second, iv y4, iv x3, iv r1, iv r2, .unset, .unset, .unset, .unset, .unset, .unset] [(.long x5), (.int r2)] _
    refine st3 _ ?_
    refine XS.istore X3.here hx rfl (hb hby at_35) rfl (l' := #[iv x1, iv x2, iv x3, lv x4, .second, lv x5, .second, lv x6, .second, iv y4, iv x3, iv r1, iv r2, iv r3, .unset, .unset, .unset, .unset, .unset]) rfl ?_
    refine XS.iload X3.here hx rfl (hb hby at_37) rfl ?_
    refine XS.lload X3.here hx rfl (hb hby at_39) rfl ?_
    show oS p e below T3 m 41 #[iv x1, iv x2, iv x3, lv x4, .second, lv x5, .second, lv x6, .second, iv y4, iv x3, iv r1, iv r2, iv r3, .unset, .unset, .unset, .unset, .unset] [(.long x5), (.int r3)] _
    refine XS.bipush X3.here hx rfl (hb hby at_41) ?_
    refine XS.lushr X3.here hx rfl (hb hby at_43) rfl ?_
    show oS p e below T3 m 44 #[iv x1, iv x2, iv x3, lv x4, .second, lv x5, .second, lv x6, .second, iv y4, iv x3, iv r1, iv r2, iv r3, .unset, .unset, .unset, .unset, .unset] [(.long ((x5.toUInt64 >>> ((32 : Int32) &&& 0x3f).toInt64.toUInt64).toInt64)), (.int r3)] _
    refine st4 _ ?_
    refine XS.istore X4.here hx rfl (hb hby at_47) rfl (l' := #[iv x1, iv x2, iv x3, lv x4, .second, lv x5, .second, lv x6, .second, iv y4, iv x3, iv r1, iv r2, iv r3, iv r4, .unset, .unset, .unset, .unset]) rfl ?_
    refine XS.iload X4.here hx rfl (hb hby at_49) rfl ?_
    refine XS.lload X4.here hx rfl (hb hby at_51) rfl ?_
    show oS p e below T4 m 53 #[iv x1, iv x2, iv x3, lv x4, .second, lv x5, .second, lv x6, .second, iv y4, iv x3, iv r1, iv r2, iv r3, iv r4, .unset, .unset, .unset, .unset] [(.long x6), (.int r4)] _
    refine st5 _ ?_
    refine XS.istore X5.here hx rfl (hb hby at_56) rfl (l' := #[iv x1, iv x2, iv x3, lv x4, .second, lv x5, .second, lv x6, .second, iv y4, iv x3, iv r1, iv r2, iv r3, iv r4, iv r5, .unset, .unset, .unset]) rfl ?_
    refine XS.iload X5.here hx rfl (hb hby at_58) rfl ?_
    refine XS.lload X5.here hx rfl (hb hby at_60) rfl ?_
    show oS p e below T5 m 62 #[iv x1, iv x2, iv x3, lv x4, .second, lv x5, .second, lv x6, .second, iv y4, iv x3, iv r1, iv r2, iv r3, iv r4, iv r5, .unset, .unset, .unset] [(.long x6), (.int r5)] _
    refine XS.bipush X5.here hx rfl (hb hby at_62) ?_
    refine XS.lushr X5.here hx rfl (hb hby at_64) rfl ?_
    show oS p e below T5 m 65 #[iv x1, iv x2, iv x3, lv x4, .second, lv x5, .second, lv x6, .second, iv y4, iv x3, iv r1, iv r2, iv r3, iv r4, iv r5, .unset, .unset, .unset] [(.long ((x6.toUInt64 >>> ((32 : Int32) &&& 0x3f).toInt64.toUInt64).toInt64)), (.int r5)] _
    refine st6 _ ?_
    refine XS.istore X6.here hx rfl (hb hby at_68) rfl (l' := #[iv x1, iv x2, iv x3, lv x4, .second, lv x5, .second, lv x6, .second, iv y4, iv x3, iv r1, iv r2, iv r3, iv r4, iv r5, iv r6, .unset, .unset]) rfl ?_
    show oS p e below T6 m 70 #[iv x1, iv x2, iv x3, lv x4, .second, lv x5, .second, lv x6, .second, iv y4, iv x3, iv r1, iv r2, iv r3, iv r4, iv r5, iv r6, .unset, .unset] [] _
    refine st7 _ ?_
    refine XS.dup X7.here hx rfl (hb hby at_73) rfl rfl ?_
    show oS p e below T7 m 74 #[iv x1, iv x2, iv x3, lv x4, .second, lv x5, .second, lv x6, .second, iv y4, iv x3, iv r1, iv r2, iv r3, iv r4, iv r5, iv r6, .unset, .unset] [(.ref b7), (.ref b7)] _
    refine st8.trans ?_
    refine XS.astore X8.here hx rfl (hb hby at_77) rfl rfl (l' := #[iv x1, iv x2, iv x3, lv x4, .second, lv x5, .second, lv x6, .second, iv y4, iv x3, iv r1, iv r2, iv r3, iv r4, iv r5, iv r6, rv b7, .unset]) rfl ?_
    exact kt
  have hn := own_n x1
  rw [← hy4] at hn
  rcases hn with hn | hn | hn | hn | hn | hn | hn | hn
  · subst hn
    have Zc12 : n0 ≤ T8.heap.size := (Nat.le_trans Zc9 K8.1)
    obtain ⟨_, _, ⟨T11, Lw11, kw11, nw11⟩, -, X11, ⟨Lc11, hQ11, l11, y11, z11⟩, st11⟩ := Jvm.LawKit.callS X8 hx (y := (⟨oz1, "one", "(Z)I"⟩ : MethodName)) hown (mvT hZ (own_w hw 22 rfl)) (mvT hZ (own_w hw 23 rfl)) (mvT hZ (own_w hw 2 rfl)) (mvT hZ (own_w hw 24 rfl)) (by decide) (backOf (W := 0) (rm5 l Z a0 hw [] (0 : Int32) T8.heap n0 Zc12 ) hZ (own_w hw 24 rfl) (own_w hw 2 rfl) (by decide) (by decide)) (g := (mkF m 186 #[iv x1, iv x2, iv x3, lv x4, .second, lv x5, .second, lv x6, .second, iv (0 : Int32), iv x3, iv r1, iv r2, iv r3, iv r4, iv r5, iv r6, rv b7, .unset] [(.int (0 : Int32))])) rfl (by rw [hml]; rfl) (argsL := [(.int (0 : Int32))]) (rest := []) (lenOf own_pd5 rfl) rfl (by show 2 * 0 + _ ≤ _; exact Nat.le_of_eq rfl) (hb hby at_186) (fun _ _ => ⟨rfl, rfl, (by decide : 2 + 0 ≤ _), (by decide : 6 + 0 ≤ _)⟩)
    dsimp only [Pt.U, Pt.locs, Pt.cells, Pt.slots] at X11 l11 y11 z11 st11 hQ11
    subst l11 y11 z11
    obtain ⟨rfl, Nq11, eh11⟩ := hQ11
    have N11 := Fr.app N8 Nq11
    obtain ⟨_, _, ⟨T13, Lw13, kw13, nw13⟩, -, X13, ⟨Lc13, hQ13, l13, y13, z13⟩, st13⟩ := Jvm.LawKit.callS X11 hx (y := (⟨oz1, "one", "(Z)I"⟩ : MethodName)) hown (mvT hZ (own_w hw 22 rfl)) (mvT hZ (own_w hw 23 rfl)) (mvT hZ (own_w hw 2 rfl)) (mvT hZ (own_w hw 24 rfl)) (by decide) (backOf (W := 1) (rm5 l Z a0 hw [] (0 : Int32) T8.heap n0 Zc12 ) hZ (own_w hw 24 rfl) (own_w hw 2 rfl) (by decide) (by decide)) (g := (mkF m 206 #[iv x1, iv x2, iv x3, lv x4, .second, lv x5, .second, lv x6, .second, iv (0 : Int32), iv x3, iv r1, iv r2, iv r3, iv r4, iv r5, iv r6, rv b7, .unset] [(.int (0 : Int32)), (.int (0 : Int32))])) rfl (by rw [hml]; rfl) (argsL := [(.int (0 : Int32))]) (rest := [(.int (0 : Int32))]) (lenOf own_pd5 rfl) rfl (by show 2 * 0 + _ ≤ _; exact Nat.le_of_eq rfl) (hb hby at_206) (fun _ _ => ⟨rfl, eh11, (by decide : 2 + 0 ≤ _), (by decide : 6 + 0 ≤ _)⟩)
    dsimp only [Pt.U, Pt.locs, Pt.cells, Pt.slots] at X13 l13 y13 z13 st13 hQ13
    subst l13 y13 z13
    obtain ⟨rfl, Nq13, eh13⟩ := hQ13
    have N13 := Fr.app N11 Nq13
    obtain ⟨_, _, ⟨T14, Lw14, kw14, nw14⟩, -, X14, ⟨Lc14, hQ14, l14, y14, z14⟩, st14⟩ := Jvm.LawKit.callS X13 hx (y := (⟨oz1, "one", "(Z)I"⟩ : MethodName)) hown (mvT hZ (own_w hw 22 rfl)) (mvT hZ (own_w hw 23 rfl)) (mvT hZ (own_w hw 2 rfl)) (mvT hZ (own_w hw 24 rfl)) (by decide) (backOf (W := 1) (rm5 l Z a0 hw [] (0 : Int32) T8.heap n0 Zc12 ) hZ (own_w hw 24 rfl) (own_w hw 2 rfl) (by decide) (by decide)) (g := (mkF m 227 #[iv x1, iv x2, iv x3, lv x4, .second, lv x5, .second, lv x6, .second, iv (0 : Int32), iv x3, iv r1, iv r2, iv r3, iv r4, iv r5, iv r6, rv b7, .unset] [(.int (0 : Int32)), (.int (0 : Int32))])) rfl (by rw [hml]; rfl) (argsL := [(.int (0 : Int32))]) (rest := [(.int (0 : Int32))]) (lenOf own_pd5 rfl) rfl (by show 2 * 0 + _ ≤ _; exact Nat.le_of_eq rfl) (hb hby at_227) (fun _ _ => ⟨rfl, eh13, (by decide : 2 + 0 ≤ _), (by decide : 6 + 0 ≤ _)⟩)
    dsimp only [Pt.U, Pt.locs, Pt.cells, Pt.slots] at X14 l14 y14 z14 st14 hQ14
    subst l14 y14 z14
    obtain ⟨rfl, Nq14, eh14⟩ := hQ14
    have N14 := Fr.app N13 Nq14
    obtain ⟨_, _, ⟨T15, Lw15, kw15, nw15⟩, -, X15, ⟨Lc15, hQ15, l15, y15, z15⟩, st15⟩ := Jvm.LawKit.callS X14 hx (y := (⟨oz1, "one", "(Z)I"⟩ : MethodName)) hown (mvT hZ (own_w hw 22 rfl)) (mvT hZ (own_w hw 23 rfl)) (mvT hZ (own_w hw 2 rfl)) (mvT hZ (own_w hw 24 rfl)) (by decide) (backOf (W := 1) (rm5 l Z a0 hw [] (0 : Int32) T8.heap n0 Zc12 ) hZ (own_w hw 24 rfl) (own_w hw 2 rfl) (by decide) (by decide)) (g := (mkF m 248 #[iv x1, iv x2, iv x3, lv x4, .second, lv x5, .second, lv x6, .second, iv (0 : Int32), iv x3, iv r1, iv r2, iv r3, iv r4, iv r5, iv r6, rv b7, .unset] [(.int (0 : Int32)), (.int (0 : Int32))])) rfl (by rw [hml]; rfl) (argsL := [(.int (0 : Int32))]) (rest := [(.int (0 : Int32))]) (lenOf own_pd5 rfl) rfl (by show 2 * 0 + _ ≤ _; exact Nat.le_of_eq rfl) (hb hby at_248) (fun _ _ => ⟨rfl, eh14, (by decide : 2 + 0 ≤ _), (by decide : 6 + 0 ≤ _)⟩)
    dsimp only [Pt.U, Pt.locs, Pt.cells, Pt.slots] at X15 l15 y15 z15 st15 hQ15
    subst l15 y15 z15
    obtain ⟨rfl, Nq15, eh15⟩ := hQ15
    have N15 := Fr.app N14 Nq15
    obtain ⟨_, _, ⟨T16, Lw16, kw16, nw16⟩, -, X16, ⟨Lc16, hQ16, l16, y16, z16⟩, st16⟩ := Jvm.LawKit.callS X15 hx (y := (⟨oz1, "one", "(Z)I"⟩ : MethodName)) hown (mvT hZ (own_w hw 22 rfl)) (mvT hZ (own_w hw 23 rfl)) (mvT hZ (own_w hw 2 rfl)) (mvT hZ (own_w hw 24 rfl)) (by decide) (backOf (W := 1) (rm5 l Z a0 hw [] (0 : Int32) T8.heap n0 Zc12 ) hZ (own_w hw 24 rfl) (own_w hw 2 rfl) (by decide) (by decide)) (g := (mkF m 269 #[iv x1, iv x2, iv x3, lv x4, .second, lv x5, .second, lv x6, .second, iv (0 : Int32), iv x3, iv r1, iv r2, iv r3, iv r4, iv r5, iv r6, rv b7, .unset] [(.int (0 : Int32)), (.int (0 : Int32))])) rfl (by rw [hml]; rfl) (argsL := [(.int (0 : Int32))]) (rest := [(.int (0 : Int32))]) (lenOf own_pd5 rfl) rfl (by show 2 * 0 + _ ≤ _; exact Nat.le_of_eq rfl) (hb hby at_269) (fun _ _ => ⟨rfl, eh15, (by decide : 2 + 0 ≤ _), (by decide : 6 + 0 ≤ _)⟩)
    dsimp only [Pt.U, Pt.locs, Pt.cells, Pt.slots] at X16 l16 y16 z16 st16 hQ16
    subst l16 y16 z16
    obtain ⟨rfl, Nq16, eh16⟩ := hQ16
    have N16 := Fr.app N15 Nq16
    obtain ⟨_, _, ⟨T17, Lw17, kw17, nw17⟩, -, X17, ⟨Lc17, hQ17, l17, y17, z17⟩, st17⟩ := Jvm.LawKit.callS X16 hx (y := (⟨oz1, "one", "(Z)I"⟩ : MethodName)) hown (mvT hZ (own_w hw 22 rfl)) (mvT hZ (own_w hw 23 rfl)) (mvT hZ (own_w hw 2 rfl)) (mvT hZ (own_w hw 24 rfl)) (by decide) (backOf (W := 1) (rm5 l Z a0 hw [] (0 : Int32) T8.heap n0 Zc12 ) hZ (own_w hw 24 rfl) (own_w hw 2 rfl) (by decide) (by decide)) (g := (mkF m 290 #[iv x1, iv x2, iv x3, lv x4, .second, lv x5, .second, lv x6, .second, iv (0 : Int32), iv x3, iv r1, iv r2, iv r3, iv r4, iv r5, iv r6, rv b7, .unset] [(.int (0 : Int32)), (.int (0 : Int32))])) rfl (by rw [hml]; rfl) (argsL := [(.int (0 : Int32))]) (rest := [(.int (0 : Int32))]) (lenOf own_pd5 rfl) rfl (by show 2 * 0 + _ ≤ _; exact Nat.le_of_eq rfl) (hb hby at_290) (fun _ _ => ⟨rfl, eh16, (by decide : 2 + 0 ≤ _), (by decide : 6 + 0 ≤ _)⟩)
    dsimp only [Pt.U, Pt.locs, Pt.cells, Pt.slots] at X17 l17 y17 z17 st17 hQ17
    subst l17 y17 z17
    obtain ⟨rfl, Nq17, eh17⟩ := hQ17
    have N17 := Fr.app N16 Nq17
    obtain ⟨_, _, ⟨T18, Lw18, kw18, nw18⟩, -, X18, ⟨Lc18, hQ18, l18, y18, z18⟩, st18⟩ := Jvm.LawKit.callS X17 hx (y := (⟨oz1, "one", "(Z)I"⟩ : MethodName)) hown (mvT hZ (own_w hw 22 rfl)) (mvT hZ (own_w hw 23 rfl)) (mvT hZ (own_w hw 2 rfl)) (mvT hZ (own_w hw 24 rfl)) (by decide) (backOf (W := 1) (rm5 l Z a0 hw [] (0 : Int32) T8.heap n0 Zc12 ) hZ (own_w hw 24 rfl) (own_w hw 2 rfl) (by decide) (by decide)) (g := (mkF m 312 #[iv x1, iv x2, iv x3, lv x4, .second, lv x5, .second, lv x6, .second, iv (0 : Int32), iv x3, iv r1, iv r2, iv r3, iv r4, iv r5, iv r6, rv b7, .unset] [(.int (0 : Int32)), (.int (0 : Int32))])) rfl (by rw [hml]; rfl) (argsL := [(.int (0 : Int32))]) (rest := [(.int (0 : Int32))]) (lenOf own_pd5 rfl) rfl (by show 2 * 0 + _ ≤ _; exact Nat.le_of_eq rfl) (hb hby at_312) (fun _ _ => ⟨rfl, eh17, (by decide : 2 + 0 ≤ _), (by decide : 6 + 0 ≤ _)⟩)
    dsimp only [Pt.U, Pt.locs, Pt.cells, Pt.slots] at X18 l18 y18 z18 st18 hQ18
    subst l18 y18 z18
    obtain ⟨rfl, Nq18, eh18⟩ := hQ18
    have N18 := Fr.app N17 Nq18
    have Ec20 : Exa Z T8.heap b7 oz0 := (A7.keep K8)
    obtain ⟨cq19, kq19, q19a, q19b, q19c⟩ := isOf hZ eh18 Ec20
    obtain ⟨_, _, ⟨T19, Lw19, kw19, nw19⟩, -, X19, ⟨Lc19, hQ19, l19, y19, z19⟩, st19⟩ := X18.virtualBack hx (y := (⟨oz0, "countAtMost", "(I)I"⟩ : MethodName)) (z := (⟨oz0, "countAtMost", "(I)I"⟩ : MethodName)) hown (mvT hZ (own_w hw 25 rfl)) (mvT hZ (own_w hw 26 rfl)) (notFace_of_selects (args := #[]) (mvT hZ (own_w hw 28 rfl))) (mvT hZ (own_w hw 28 rfl)) (mvT hZ (own_w hw 27 rfl)) (by decide) (backOf (W := 0) (rmC0 l Z a0 hw [] b7 x2 b8 k8 T8.heap n0 Zc12 Ec20 pf8_3 pf8_2 pf8_4) hZ (own_w hw 29 rfl) (own_w hw 12 rfl) (by decide) (by decide)) q19a q19c (g := (mkF m 321 #[iv x1, iv x2, iv x3, lv x4, .second, lv x5, .second, lv x6, .second, iv (0 : Int32), iv x3, iv r1, iv r2, iv r3, iv r4, iv r5, iv r6, rv b7, iv (0 : Int32)] [(.int x2), (.ref b7)])) rfl (by rw [hml]; rfl) (Steps.refl _) (argsL := [(.int x2)]) (rest := []) (lenOf own_pd6 rfl) rfl (by show 2 * 0 + _ ≤ _; exact Nat.le_of_eq rfl) (hb hby at_321) (fun _ _ => ⟨rfl, eh18, (by decide : 2 + 0 ≤ _), (by decide : 6 + 0 ≤ _)⟩)
    dsimp only [Pt.U, Pt.locs, Pt.cells, Pt.slots] at X19 l19 y19 z19 st19 hQ19
    subst l19 y19 z19
    obtain ⟨rfl, Nq19, eh19⟩ := hQ19
    have N19 := Fr.app N18 Nq19
    have pre21 : ∀ tz, oS p e below T19 m 334 #[iv x1, iv x2, iv x3, lv x4, .second, lv x5, .second, lv x6, .second, iv (0 : Int32), iv x3, iv r1, iv r2, iv r3, iv r4, iv r5, iv r6, rv b7, iv (0 : Int32)] [(.int (1 : Int32))] tz → oS p e below T8 m 79 #[iv x1, iv x2, iv x3, lv x4, .second, lv x5, .second, lv x6, .second, iv (0 : Int32), iv x3, iv r1, iv r2, iv r3, iv r4, iv r5, iv r6, rv b7, .unset] [] tz := fun tz kt => by
      show oS p e below T8 m 79 #[iv x1, iv x2, iv x3, lv x4, .second, lv x5, .second, lv x6, .second, iv (0 : Int32), iv x3, iv r1, iv r2, iv r3, iv r4, iv r5, iv r6, rv b7, .unset] [] _
      refine XS.iload X8.here hx rfl (hb hby at_79) rfl ?_
      refine XS.ifYes X8.here hx rfl (pc0 := 81) (pc' := 91) rfl (hb hby at_81) rfl ((if0 _ _).trans (flt (by decide : ¬ ((0 : Int32) < (0 : Int32)))).2.2.2) (by decide) (by decide) ?_
      refine XS.iload X8.here hx rfl (hb hby at_91) rfl ?_
      refine XS.iconst X8.here hx rfl (hb hby at_93) ?_
      show oS p e below T8 m 94 #[iv x1, iv x2, iv x3, lv x4, .second, lv x5, .second, lv x6, .second, iv (0 : Int32), iv x3, iv r1, iv r2, iv r3, iv r4, iv r5, iv r6, rv b7, .unset] [(.int (1 : Int32)), (.int (0 : Int32))] _
      refine XS.icmpYes X8.here hx rfl (pc0 := 94) (pc' := 104) rfl (hb hby at_94) rfl (flt (by decide : ¬ ((1 : Int32) < (0 : Int32)))).2.2.2 (by decide) (by decide) ?_
      refine XS.iload X8.here hx rfl (hb hby at_104) rfl ?_
      refine XS.iconst X8.here hx rfl (hb hby at_106) ?_
      refine XS.icmpYes X8.here hx rfl (pc0 := 107) (pc' := 117) rfl (hb hby at_107) rfl (flt (by decide : ¬ ((2 : Int32) < (0 : Int32)))).2.2.2 (by decide) (by decide) ?_
      show oS p e below T8 m 117 #[iv x1, iv x2, iv x3, lv x4, .second, lv x5, .second, lv x6, .second, iv (0 : Int32), iv x3, iv r1, iv r2, iv r3, iv r4, iv r5, iv r6, rv b7, .unset] [] _
      refine XS.iload X8.here hx rfl (hb hby at_117) rfl ?_
      refine XS.iconst X8.here hx rfl (hb hby at_119) ?_
      refine XS.icmpYes X8.here hx rfl (pc0 := 120) (pc' := 130) rfl (hb hby at_120) rfl (flt (by decide : ¬ ((3 : Int32) < (0 : Int32)))).2.2.2 (by decide) (by decide) ?_
      refine XS.iload X8.here hx rfl (hb hby at_130) rfl ?_
      show oS p e below T8 m 132 #[iv x1, iv x2, iv x3, lv x4, .second, lv x5, .second, lv x6, .second, iv (0 : Int32), iv x3, iv r1, iv r2, iv r3, iv r4, iv r5, iv r6, rv b7, .unset] [(.int (0 : Int32))] _
      refine XS.iconst X8.here hx rfl (hb hby at_132) ?_
      refine XS.icmpYes X8.here hx rfl (pc0 := 133) (pc' := 143) rfl (hb hby at_133) rfl (flt (by decide : ¬ ((4 : Int32) < (0 : Int32)))).2.2.2 (by decide) (by decide) ?_
      refine XS.iload X8.here hx rfl (hb hby at_143) rfl ?_
      refine XS.iconst X8.here hx rfl (hb hby at_145) ?_
      show oS p e below T8 m 146 #[iv x1, iv x2, iv x3, lv x4, .second, lv x5, .second, lv x6, .second, iv (0 : Int32), iv x3, iv r1, iv r2, iv r3, iv r4, iv r5, iv r6, rv b7, .unset] [(.int (5 : Int32)), (.int (0 : Int32))] _
      refine XS.icmpYes X8.here hx rfl (pc0 := 146) (pc' := 156) rfl (hb hby at_146) rfl (flt (by decide : ¬ ((5 : Int32) < (0 : Int32)))).2.2.2 (by decide) (by decide) ?_
      refine XS.iload X8.here hx rfl (hb hby at_156) rfl ?_
      refine XS.bipush X8.here hx rfl (hb hby at_158) ?_
      refine XS.icmpYes X8.here hx rfl (pc0 := 160) (pc' := 170) rfl (hb hby at_160) rfl (flt (by decide : ¬ ((6 : Int32) < (0 : Int32)))).2.2.2 (by decide) (by decide) ?_
      show oS p e below T8 m 170 #[iv x1, iv x2, iv x3, lv x4, .second, lv x5, .second, lv x6, .second, iv (0 : Int32), iv x3, iv r1, iv r2, iv r3, iv r4, iv r5, iv r6, rv b7, .unset] [] _
      refine XS.iload X8.here hx rfl (hb hby at_170) rfl ?_
      refine XS.ifYes X8.here hx rfl (pc0 := 172) (pc' := 185) rfl (hb hby at_172) rfl ((if0 _ _).trans (flt (by decide : ¬ ((0 : Int32) < (0 : Int32)))).2.2.2) (by decide) (by decide) ?_
      refine XS.iconst X8.here hx rfl (hb hby at_185) ?_
      show oS p e below T8 m 186 #[iv x1, iv x2, iv x3, lv x4, .second, lv x5, .second, lv x6, .second, iv (0 : Int32), iv x3, iv r1, iv r2, iv r3, iv r4, iv r5, iv r6, rv b7, .unset] [(.int (0 : Int32))] _
      refine st11 _ ?_
      rw [((if_pos (by decide : (0 : Int32) = (0 : Int32))) : (if (0 : Int32) = (0 : Int32) then (0 : Int32) else (1 : Int32)) = (0 : Int32))]
      show oS p e below T11 m 189 #[iv x1, iv x2, iv x3, lv x4, .second, lv x5, .second, lv x6, .second, iv (0 : Int32), iv x3, iv r1, iv r2, iv r3, iv r4, iv r5, iv r6, rv b7, .unset] [(.int (0 : Int32))] _
      refine XS.iload X11.here hx rfl (hb hby at_189) rfl ?_
      refine XS.iconst X11.here hx rfl (hb hby at_191) ?_
      refine XS.icmpYes X11.here hx rfl (pc0 := 192) (pc' := 205) rfl (hb hby at_192) rfl (flt (by decide : ¬ ((1 : Int32) < (0 : Int32)))).2.2.2 (by decide) (by decide) ?_
      refine XS.iconst X11.here hx rfl (hb hby at_205) ?_
      show oS p e below T11 m 206 #[iv x1, iv x2, iv x3, lv x4, .second, lv x5, .second, lv x6, .second, iv (0 : Int32), iv x3, iv r1, iv r2, iv r3, iv r4, iv r5, iv r6, rv b7, .unset] [(.int (0 : Int32)), (.int (0 : Int32))] _
      refine st13 _ ?_
      rw [((if_pos (by decide : (0 : Int32) = (0 : Int32))) : (if (0 : Int32) = (0 : Int32) then (0 : Int32) else (1 : Int32)) = (0 : Int32))]
      show oS p e below T13 m 209 #[iv x1, iv x2, iv x3, lv x4, .second, lv x5, .second, lv x6, .second, iv (0 : Int32), iv x3, iv r1, iv r2, iv r3, iv r4, iv r5, iv r6, rv b7, .unset] [(.int (0 : Int32)), (.int (0 : Int32))] _
      refine XS.iadd X13.here hx rfl (hb hby at_209) rfl ?_
      show oS p e below T13 m 210 #[iv x1, iv x2, iv x3, lv x4, .second, lv x5, .second, lv x6, .second, iv (0 : Int32), iv x3, iv r1, iv r2, iv r3, iv r4, iv r5, iv r6, rv b7, .unset] [(.int (0 : Int32))] _
      refine XS.iload X13.here hx rfl (hb hby at_210) rfl ?_
      refine XS.iconst X13.here hx rfl (hb hby at_212) ?_
      refine XS.icmpYes X13.here hx rfl (pc0 := 213) (pc' := 226) rfl (hb hby at_213) rfl (flt (by decide : ¬ ((2 : Int32) < (0 : Int32)))).2.2.2 (by decide) (by decide) ?_
      refine XS.iconst X13.here hx rfl (hb hby at_226) ?_
      show oS p e below T13 m 227 #[iv x1, iv x2, iv x3, lv x4, .second, lv x5, .second, lv x6, .second, iv (0 : Int32), iv x3, iv r1, iv r2, iv r3, iv r4, iv r5, iv r6, rv b7, .unset] [(.int (0 : Int32)), (.int (0 : Int32))] _
      refine st14 _ ?_
      rw [((if_pos (by decide : (0 : Int32) = (0 : Int32))) : (if (0 : Int32) = (0 : Int32) then (0 : Int32) else (1 : Int32)) = (0 : Int32))]
      show oS p e below T14 m 230 #[iv x1, iv x2, iv x3, lv x4, .second, lv x5, .second, lv x6, .second, iv (0 : Int32), iv x3, iv r1, iv r2, iv r3, iv r4, iv r5, iv r6, rv b7, .unset] [(.int (0 : Int32)), (.int (0 : Int32))] _
      refine XS.iadd X14.here hx rfl (hb hby at_230) rfl ?_
      show oS p e below T14 m 231 #[iv x1, iv x2, iv x3, lv x4, .second, lv x5, .second, lv x6, .second, iv (0 : Int32), iv x3, iv r1, iv r2, iv r3, iv r4, iv r5, iv r6, rv b7, .unset] [(.int (0 : Int32))] _
      refine XS.iload X14.here hx rfl (hb hby at_231) rfl ?_
      refine XS.iconst X14.here hx rfl (hb hby at_233) ?_
      refine XS.icmpYes X14.here hx rfl (pc0 := 234) (pc' := 247) rfl (hb hby at_234) rfl (flt (by decide : ¬ ((3 : Int32) < (0 : Int32)))).2.2.2 (by decide) (by decide) ?_
      refine XS.iconst X14.here hx rfl (hb hby at_247) ?_
      show oS p e below T14 m 248 #[iv x1, iv x2, iv x3, lv x4, .second, lv x5, .second, lv x6, .second, iv (0 : Int32), iv x3, iv r1, iv r2, iv r3, iv r4, iv r5, iv r6, rv b7, .unset] [(.int (0 : Int32)), (.int (0 : Int32))] _
      refine st15 _ ?_
      rw [((if_pos (by decide : (0 : Int32) = (0 : Int32))) : (if (0 : Int32) = (0 : Int32) then (0 : Int32) else (1 : Int32)) = (0 : Int32))]
      show oS p e below T15 m 251 #[iv x1, iv x2, iv x3, lv x4, .second, lv x5, .second, lv x6, .second, iv (0 : Int32), iv x3, iv r1, iv r2, iv r3, iv r4, iv r5, iv r6, rv b7, .unset] [(.int (0 : Int32)), (.int (0 : Int32))] _
      refine XS.iadd X15.here hx rfl (hb hby at_251) rfl ?_
      show oS p e below T15 m 252 #[iv x1, iv x2, iv x3, lv x4, .second, lv x5, .second, lv x6, .second, iv (0 : Int32), iv x3, iv r1, iv r2, iv r3, iv r4, iv r5, iv r6, rv b7, .unset] [(.int (0 : Int32))] _
      refine XS.iload X15.here hx rfl (hb hby at_252) rfl ?_
      refine XS.iconst X15.here hx rfl (hb hby at_254) ?_
      refine XS.icmpYes X15.here hx rfl (pc0 := 255) (pc' := 268) rfl (hb hby at_255) rfl (flt (by decide : ¬ ((4 : Int32) < (0 : Int32)))).2.2.2 (by decide) (by decide) ?_
      refine XS.iconst X15.here hx rfl (hb hby at_268) ?_
      show oS p e below T15 m 269 #[iv x1, iv x2, iv x3, lv x4, .second, lv x5, .second, lv x6, .second, iv (0 : Int32), iv x3, iv r1, iv r2, iv r3, iv r4, iv r5, iv r6, rv b7, .unset] [(.int (0 : Int32)), (.int (0 : Int32))] _
      refine st16 _ ?_
      rw [((if_pos (by decide : (0 : Int32) = (0 : Int32))) : (if (0 : Int32) = (0 : Int32) then (0 : Int32) else (1 : Int32)) = (0 : Int32))]
      show oS p e below T16 m 272 #[iv x1, iv x2, iv x3, lv x4, .second, lv x5, .second, lv x6, .second, iv (0 : Int32), iv x3, iv r1, iv r2, iv r3, iv r4, iv r5, iv r6, rv b7, .unset] [(.int (0 : Int32)), (.int (0 : Int32))] _
      refine XS.iadd X16.here hx rfl (hb hby at_272) rfl ?_
      show oS p e below T16 m 273 #[iv x1, iv x2, iv x3, lv x4, .second, lv x5, .second, lv x6, .second, iv (0 : Int32), iv x3, iv r1, iv r2, iv r3, iv r4, iv r5, iv r6, rv b7, .unset] [(.int (0 : Int32))] _
      refine XS.iload X16.here hx rfl (hb hby at_273) rfl ?_
      refine XS.iconst X16.here hx rfl (hb hby at_275) ?_
      refine XS.icmpYes X16.here hx rfl (pc0 := 276) (pc' := 289) rfl (hb hby at_276) rfl (flt (by decide : ¬ ((5 : Int32) < (0 : Int32)))).2.2.2 (by decide) (by decide) ?_
      refine XS.iconst X16.here hx rfl (hb hby at_289) ?_
      show oS p e below T16 m 290 #[iv x1, iv x2, iv x3, lv x4, .second, lv x5, .second, lv x6, .second, iv (0 : Int32), iv x3, iv r1, iv r2, iv r3, iv r4, iv r5, iv r6, rv b7, .unset] [(.int (0 : Int32)), (.int (0 : Int32))] _
      refine st17 _ ?_
      rw [((if_pos (by decide : (0 : Int32) = (0 : Int32))) : (if (0 : Int32) = (0 : Int32) then (0 : Int32) else (1 : Int32)) = (0 : Int32))]
      show oS p e below T17 m 293 #[iv x1, iv x2, iv x3, lv x4, .second, lv x5, .second, lv x6, .second, iv (0 : Int32), iv x3, iv r1, iv r2, iv r3, iv r4, iv r5, iv r6, rv b7, .unset] [(.int (0 : Int32)), (.int (0 : Int32))] _
      refine XS.iadd X17.here hx rfl (hb hby at_293) rfl ?_
      show oS p e below T17 m 294 #[iv x1, iv x2, iv x3, lv x4, .second, lv x5, .second, lv x6, .second, iv (0 : Int32), iv x3, iv r1, iv r2, iv r3, iv r4, iv r5, iv r6, rv b7, .unset] [(.int (0 : Int32))] _
      refine XS.iload X17.here hx rfl (hb hby at_294) rfl ?_
      refine XS.bipush X17.here hx rfl (hb hby at_296) ?_
      refine XS.icmpYes X17.here hx rfl (pc0 := 298) (pc' := 311) rfl (hb hby at_298) rfl (flt (by decide : ¬ ((6 : Int32) < (0 : Int32)))).2.2.2 (by decide) (by decide) ?_
      refine XS.iconst X17.here hx rfl (hb hby at_311) ?_
      show oS p e below T17 m 312 #[iv x1, iv x2, iv x3, lv x4, .second, lv x5, .second, lv x6, .second, iv (0 : Int32), iv x3, iv r1, iv r2, iv r3, iv r4, iv r5, iv r6, rv b7, .unset] [(.int (0 : Int32)), (.int (0 : Int32))] _
      refine st18 _ ?_
      rw [((if_pos (by decide : (0 : Int32) = (0 : Int32))) : (if (0 : Int32) = (0 : Int32) then (0 : Int32) else (1 : Int32)) = (0 : Int32))]
      show oS p e below T18 m 315 #[iv x1, iv x2, iv x3, lv x4, .second, lv x5, .second, lv x6, .second, iv (0 : Int32), iv x3, iv r1, iv r2, iv r3, iv r4, iv r5, iv r6, rv b7, .unset] [(.int (0 : Int32)), (.int (0 : Int32))] _
      refine XS.iadd X18.here hx rfl (hb hby at_315) rfl ?_
      show oS p e below T18 m 316 #[iv x1, iv x2, iv x3, lv x4, .second, lv x5, .second, lv x6, .second, iv (0 : Int32), iv x3, iv r1, iv r2, iv r3, iv r4, iv r5, iv r6, rv b7, .unset] [(.int (0 : Int32))] _
      refine XS.istore X18.here hx rfl (hb hby at_316) rfl (l' := #[iv x1, iv x2, iv x3, lv x4, .second, lv x5, .second, lv x6, .second, iv (0 : Int32), iv x3, iv r1, iv r2, iv r3, iv r4, iv r5, iv r6, rv b7, iv (0 : Int32)]) rfl ?_
      refine XS.aload X18.here hx rfl (hb hby at_318) rfl rfl ?_
      refine XS.iloadN X18.here hx rfl (hb hby at_320) rfl ?_
      show oS p e below T18 m 321 #[iv x1, iv x2, iv x3, lv x4, .second, lv x5, .second, lv x6, .second, iv (0 : Int32), iv x3, iv r1, iv r2, iv r3, iv r4, iv r5, iv r6, rv b7, iv (0 : Int32)] [(.int x2), (.ref b7)] _
      refine st19.trans ?_
      refine XS.iload X19.here hx rfl (hb hby at_324) rfl ?_
      refine XS.icmpNo X19.here hx rfl (hb hby at_326) rfl (teq (by decide : ((0 : Int32) = (0 : Int32)))).2 ?_
      refine XS.iconst X19.here hx rfl (hb hby at_329) ?_
      show oS p e below T19 m 330 #[iv x1, iv x2, iv x3, lv x4, .second, lv x5, .second, lv x6, .second, iv (0 : Int32), iv x3, iv r1, iv r2, iv r3, iv r4, iv r5, iv r6, rv b7, iv (0 : Int32)] [(.int (1 : Int32))] _
      refine XS.goto X19.here hx rfl (pc0 := 330) (pc' := 334) rfl (hb hby at_330) (by decide) (by decide) ?_
      exact kt
    obtain ⟨fs, hr, hrun, hended, hW, hsame⟩ := X19.leave (v := some (.int (1 : Int32))) (fun h => by rw [Bd.returns] at h; cases h)
    refine ⟨_, _, pre0 _ (pre10 _ (pre21 _ ?_)), hrun, hended, _, _, rfl, ?_, ⟨_, rfl⟩, hW, hsame.mono (by decide) (by decide)⟩
    · show oS p e below T19 m 334 #[iv x1, iv x2, iv x3, lv x4, .second, lv x5, .second, lv x6, .second, iv (0 : Int32), iv x3, iv r1, iv r2, iv r3, iv r4, iv r5, iv r6, rv b7, iv (0 : Int32)] [(.int (1 : Int32))] _
      exact retN X19 hx (t := .boolean) Bd.returns (by simp) (hb hby at_334) hr
    · show Q0 Z x1 x2 x3 x4 x5 x6 h0 n0 _ T19.heap _
      rw [eh19]
      exact ⟨rfl, N19⟩
  · subst hn
    have Ec23 : Exa Z T8.heap b7 oz0 := (A7.keep K8)
    have Zc24 : n0 ≤ T8.heap.size := (Nat.le_trans Zc9 K8.1)
    obtain ⟨cq22, kq22, q22a, q22b, q22c⟩ := isOf hZ rfl Ec23
    obtain ⟨_, _, ⟨T22, Lw22, kw22, nw22⟩, -, X22, ⟨Lc22, hQ22, l22, y22, z22⟩, st22⟩ := X8.virtualBack hx (y := (⟨oz0, "add", "(I)V"⟩ : MethodName)) (z := (⟨oz0, "add", "(I)V"⟩ : MethodName)) hown (mvT hZ (own_w hw 32 rfl)) (mvT hZ (own_w hw 33 rfl)) (notFace_of_selects (args := #[]) (mvT hZ (own_w hw 35 rfl))) (mvT hZ (own_w hw 35 rfl)) (mvT hZ (own_w hw 34 rfl)) (by decide) (backOf (W := 0) (rmA0 l Z a0 hw [] b7 x3 b8 k8 T8.heap n0 Zc24 Ec23 g_b7 pf8_1 ne_b7_b8 pf8_3 pf8_2 pf8_4) hZ (own_w hw 36 rfl) (own_w hw 12 rfl) (by decide) (by decide)) q22a q22c (g := (mkF m 88 #[iv x1, iv x2, iv x3, lv x4, .second, lv x5, .second, lv x6, .second, iv (1 : Int32), iv x3, iv r1, iv r2, iv r3, iv r4, iv r5, iv r6, rv b7, .unset] [(.int x3), (.ref b7)])) rfl (by rw [hml]; rfl) (Steps.refl _) (argsL := [(.int x3)]) (rest := []) (lenOf own_pd7 rfl) rfl (by show 2 * 0 + _ ≤ _; exact Nat.le_of_eq rfl) (hb hby at_88) (fun _ _ => ⟨rfl, rfl, (by decide : 2 + 0 ≤ _), (by decide : 6 + 0 ≤ _)⟩)
    dsimp only [Pt.U, Pt.locs, Pt.cells, Pt.slots] at X22 l22 y22 z22 st22 hQ22
    subst l22 y22 z22
    obtain ⟨rfl, Nq22, K22, pf22_0, pf22_1, pf22_2⟩ := hQ22
    have N22 := Fr.app N8 Nq22
    have pre25 : ∀ tz, oS p e below T22 m 178 #[iv x1, iv x2, iv x3, lv x4, .second, lv x5, .second, lv x6, .second, iv (1 : Int32), iv x3, iv r1, iv r2, iv r3, iv r4, iv r5, iv r6, rv b7, .unset] [(.int x2), (.int x3)] tz → oS p e below T8 m 79 #[iv x1, iv x2, iv x3, lv x4, .second, lv x5, .second, lv x6, .second, iv (1 : Int32), iv x3, iv r1, iv r2, iv r3, iv r4, iv r5, iv r6, rv b7, .unset] [] tz := fun tz kt => by
      show oS p e below T8 m 79 #[iv x1, iv x2, iv x3, lv x4, .second, lv x5, .second, lv x6, .second, iv (1 : Int32), iv x3, iv r1, iv r2, iv r3, iv r4, iv r5, iv r6, rv b7, .unset] [] _
      refine XS.iload X8.here hx rfl (hb hby at_79) rfl ?_
      refine XS.ifNo X8.here hx rfl (hb hby at_81) rfl ((if0 _ _).trans (tlt (by decide : ((0 : Int32) < (1 : Int32)))).2.2.2) ?_
      refine XS.aload X8.here hx rfl (hb hby at_84) rfl rfl ?_
      refine XS.iload X8.here hx rfl (hb hby at_86) rfl ?_
      show oS p e below T8 m 88 #[iv x1, iv x2, iv x3, lv x4, .second, lv x5, .second, lv x6, .second, iv (1 : Int32), iv x3, iv r1, iv r2, iv r3, iv r4, iv r5, iv r6, rv b7, .unset] [(.int x3), (.ref b7)] _
      refine st22.trans ?_
      refine XS.iload X22.here hx rfl (hb hby at_91) rfl ?_
      refine XS.iconst X22.here hx rfl (hb hby at_93) ?_
      refine XS.icmpYes X22.here hx rfl (pc0 := 94) (pc' := 104) rfl (hb hby at_94) rfl (flt (by decide : ¬ ((1 : Int32) < (1 : Int32)))).2.2.2 (by decide) (by decide) ?_
      show oS p e below T22 m 104 #[iv x1, iv x2, iv x3, lv x4, .second, lv x5, .second, lv x6, .second, iv (1 : Int32), iv x3, iv r1, iv r2, iv r3, iv r4, iv r5, iv r6, rv b7, .unset] [] _
      refine XS.iload X22.here hx rfl (hb hby at_104) rfl ?_
      refine XS.iconst X22.here hx rfl (hb hby at_106) ?_
      refine XS.icmpYes X22.here hx rfl (pc0 := 107) (pc' := 117) rfl (hb hby at_107) rfl (flt (by decide : ¬ ((2 : Int32) < (1 : Int32)))).2.2.2 (by decide) (by decide) ?_
      refine XS.iload X22.here hx rfl (hb hby at_117) rfl ?_
      show oS p e below T22 m 119 #[iv x1, iv x2, iv x3, lv x4, .second, lv x5, .second, lv x6, .second, iv (1 : Int32), iv x3, iv r1, iv r2, iv r3, iv r4, iv r5, iv r6, rv b7, .unset] [(.int (1 : Int32))] _
      refine XS.iconst X22.here hx rfl (hb hby at_119) ?_
      refine XS.icmpYes X22.here hx rfl (pc0 := 120) (pc' := 130) rfl (hb hby at_120) rfl (flt (by decide : ¬ ((3 : Int32) < (1 : Int32)))).2.2.2 (by decide) (by decide) ?_
      refine XS.iload X22.here hx rfl (hb hby at_130) rfl ?_
      refine XS.iconst X22.here hx rfl (hb hby at_132) ?_
      show oS p e below T22 m 133 #[iv x1, iv x2, iv x3, lv x4, .second, lv x5, .second, lv x6, .second, iv (1 : Int32), iv x3, iv r1, iv r2, iv r3, iv r4, iv r5, iv r6, rv b7, .unset] [(.int (4 : Int32)), (.int (1 : Int32))] _
      refine XS.icmpYes X22.here hx rfl (pc0 := 133) (pc' := 143) rfl (hb hby at_133) rfl (flt (by decide : ¬ ((4 : Int32) < (1 : Int32)))).2.2.2 (by decide) (by decide) ?_
      refine XS.iload X22.here hx rfl (hb hby at_143) rfl ?_
      refine XS.iconst X22.here hx rfl (hb hby at_145) ?_
      refine XS.icmpYes X22.here hx rfl (pc0 := 146) (pc' := 156) rfl (hb hby at_146) rfl (flt (by decide : ¬ ((5 : Int32) < (1 : Int32)))).2.2.2 (by decide) (by decide) ?_
      show oS p e below T22 m 156 #[iv x1, iv x2, iv x3, lv x4, .second, lv x5, .second, lv x6, .second, iv (1 : Int32), iv x3, iv r1, iv r2, iv r3, iv r4, iv r5, iv r6, rv b7, .unset] [] _
      refine XS.iload X22.here hx rfl (hb hby at_156) rfl ?_
      refine XS.bipush X22.here hx rfl (hb hby at_158) ?_
      refine XS.icmpYes X22.here hx rfl (pc0 := 160) (pc' := 170) rfl (hb hby at_160) rfl (flt (by decide : ¬ ((6 : Int32) < (1 : Int32)))).2.2.2 (by decide) (by decide) ?_
      refine XS.iload X22.here hx rfl (hb hby at_170) rfl ?_
      show oS p e below T22 m 172 #[iv x1, iv x2, iv x3, lv x4, .second, lv x5, .second, lv x6, .second, iv (1 : Int32), iv x3, iv r1, iv r2, iv r3, iv r4, iv r5, iv r6, rv b7, .unset] [(.int (1 : Int32))] _
      refine XS.ifNo X22.here hx rfl (hb hby at_172) rfl ((if0 _ _).trans (tlt (by decide : ((0 : Int32) < (1 : Int32)))).2.2.2) ?_
      refine XS.iload X22.here hx rfl (hb hby at_175) rfl ?_
      refine XS.iloadN X22.here hx rfl (hb hby at_177) rfl ?_
      exact kt
    obtain ⟨v186, T28, Lj28, jv28, N28, X28, e28, st28⟩ := own_join (α := Int32) X22 N22 rfl (mkF m 178 #[iv x1, iv x2, iv x3, lv x4, .second, lv x5, .second, lv x6, .second, iv (1 : Int32), iv x3, iv r1, iv r2, iv r3, iv r4, iv r5, iv r6, rv b7, .unset] [(.int x2), (.int x3)]) (fun v => (mkF m 186 #[iv x1, iv x2, iv x3, lv x4, .second, lv x5, .second, lv x6, .second, iv (1 : Int32), iv x3, iv r1, iv r2, iv r3, iv r4, iv r5, iv r6, rv b7, .unset] [(.int v)])) (fun v => v = (if x2 < x3 then (0 : Int32) else (1 : Int32))) (by
        by_cases hc178 : x2 < x3
        · have pre26 : ∀ tz, oS p e below T22 m 186 #[iv x1, iv x2, iv x3, lv x4, .second, lv x5, .second, lv x6, .second, iv (1 : Int32), iv x3, iv r1, iv r2, iv r3, iv r4, iv r5, iv r6, rv b7, .unset] [(.int (0 : Int32))] tz → oS p e below T22 m 178 #[iv x1, iv x2, iv x3, lv x4, .second, lv x5, .second, lv x6, .second, iv (1 : Int32), iv x3, iv r1, iv r2, iv r3, iv r4, iv r5, iv r6, rv b7, .unset] [(.int x2), (.int x3)] tz := fun tz kt => by
            show oS p e below T22 m 178 #[iv x1, iv x2, iv x3, lv x4, .second, lv x5, .second, lv x6, .second, iv (1 : Int32), iv x3, iv r1, iv r2, iv r3, iv r4, iv r5, iv r6, rv b7, .unset] [(.int x2), (.int x3)] _
            refine XS.icmpYes X22.here hx rfl (pc0 := 178) (pc' := 185) rfl (hb hby at_178) rfl (tlt hc178).2.2.1 (by decide) (by decide) ?_
            refine XS.iconst X22.here hx rfl (hb hby at_185) ?_
            exact kt
          exact ⟨(0 : Int32), T22, _, (by rw [if_pos hc178]), N22, X22, rfl, fun tz kt => (pre26 _ kt)⟩
        · have pre27 : ∀ tz, oS p e below T22 m 186 #[iv x1, iv x2, iv x3, lv x4, .second, lv x5, .second, lv x6, .second, iv (1 : Int32), iv x3, iv r1, iv r2, iv r3, iv r4, iv r5, iv r6, rv b7, .unset] [(.int (1 : Int32))] tz → oS p e below T22 m 178 #[iv x1, iv x2, iv x3, lv x4, .second, lv x5, .second, lv x6, .second, iv (1 : Int32), iv x3, iv r1, iv r2, iv r3, iv r4, iv r5, iv r6, rv b7, .unset] [(.int x2), (.int x3)] tz := fun tz kt => by
            show oS p e below T22 m 178 #[iv x1, iv x2, iv x3, lv x4, .second, lv x5, .second, lv x6, .second, iv (1 : Int32), iv x3, iv r1, iv r2, iv r3, iv r4, iv r5, iv r6, rv b7, .unset] [(.int x2), (.int x3)] _
            refine XS.icmpNo X22.here hx rfl (hb hby at_178) rfl (flt hc178).2.2.1 ?_
            refine XS.iconst X22.here hx rfl (hb hby at_181) ?_
            refine XS.goto X22.here hx rfl (pc0 := 182) (pc' := 186) rfl (hb hby at_182) (by decide) (by decide) ?_
            exact kt
          exact ⟨(1 : Int32), T22, _, (by rw [if_neg hc178]), N22, X22, rfl, fun tz kt => (pre27 _ kt)⟩)
    have hv186 : v186 = (if x2 < x3 then (0 : Int32) else (1 : Int32)) := jv28
    have Zc30 : n0 ≤ T22.heap.size := (Nat.le_trans Zc24 K22.1)
    obtain ⟨_, _, ⟨T29, Lw29, kw29, nw29⟩, -, X29, ⟨Lc29, hQ29, l29, y29, z29⟩, st29⟩ := Jvm.LawKit.callS X28 hx (y := (⟨oz1, "one", "(Z)I"⟩ : MethodName)) hown (mvT hZ (own_w hw 22 rfl)) (mvT hZ (own_w hw 23 rfl)) (mvT hZ (own_w hw 2 rfl)) (mvT hZ (own_w hw 24 rfl)) (by decide) (backOf (W := 0) (rm5 l Z a0 hw [] v186 T22.heap n0 Zc30 ) hZ (own_w hw 24 rfl) (own_w hw 2 rfl) (by decide) (by decide)) (g := (mkF m 186 #[iv x1, iv x2, iv x3, lv x4, .second, lv x5, .second, lv x6, .second, iv (1 : Int32), iv x3, iv r1, iv r2, iv r3, iv r4, iv r5, iv r6, rv b7, .unset] [(.int v186)])) rfl (by rw [hml]; rfl) (argsL := [(.int v186)]) (rest := []) (lenOf own_pd5 rfl) rfl (by show 2 * 0 + _ ≤ _; exact Nat.le_of_eq rfl) (hb hby at_186) (fun _ _ => ⟨rfl, e28, (by decide : 2 + 0 ≤ _), (by decide : 6 + 0 ≤ _)⟩)
    dsimp only [Pt.U, Pt.locs, Pt.cells, Pt.slots] at X29 l29 y29 z29 st29 hQ29
    subst l29 y29 z29
    obtain ⟨rfl, Nq29, eh29⟩ := hQ29
    have N29 := Fr.app N28 Nq29
    obtain ⟨_, _, ⟨T31, Lw31, kw31, nw31⟩, -, X31, ⟨Lc31, hQ31, l31, y31, z31⟩, st31⟩ := Jvm.LawKit.callS X29 hx (y := (⟨oz1, "one", "(Z)I"⟩ : MethodName)) hown (mvT hZ (own_w hw 22 rfl)) (mvT hZ (own_w hw 23 rfl)) (mvT hZ (own_w hw 2 rfl)) (mvT hZ (own_w hw 24 rfl)) (by decide) (backOf (W := 1) (rm5 l Z a0 hw [] (0 : Int32) T22.heap n0 Zc30 ) hZ (own_w hw 24 rfl) (own_w hw 2 rfl) (by decide) (by decide)) (g := (mkF m 206 #[iv x1, iv x2, iv x3, lv x4, .second, lv x5, .second, lv x6, .second, iv (1 : Int32), iv x3, iv r1, iv r2, iv r3, iv r4, iv r5, iv r6, rv b7, .unset] [(.int (0 : Int32)), (.int (if v186 = (0 : Int32) then (0 : Int32) else (1 : Int32)))])) rfl (by rw [hml]; rfl) (argsL := [(.int (0 : Int32))]) (rest := [(.int (if v186 = (0 : Int32) then (0 : Int32) else (1 : Int32)))]) (lenOf own_pd5 rfl) rfl (by show 2 * 0 + _ ≤ _; exact Nat.le_of_eq rfl) (hb hby at_206) (fun _ _ => ⟨rfl, eh29, (by decide : 2 + 0 ≤ _), (by decide : 6 + 0 ≤ _)⟩)
    dsimp only [Pt.U, Pt.locs, Pt.cells, Pt.slots] at X31 l31 y31 z31 st31 hQ31
    subst l31 y31 z31
    obtain ⟨rfl, Nq31, eh31⟩ := hQ31
    have N31 := Fr.app N29 Nq31
    obtain ⟨_, _, ⟨T32, Lw32, kw32, nw32⟩, -, X32, ⟨Lc32, hQ32, l32, y32, z32⟩, st32⟩ := Jvm.LawKit.callS X31 hx (y := (⟨oz1, "one", "(Z)I"⟩ : MethodName)) hown (mvT hZ (own_w hw 22 rfl)) (mvT hZ (own_w hw 23 rfl)) (mvT hZ (own_w hw 2 rfl)) (mvT hZ (own_w hw 24 rfl)) (by decide) (backOf (W := 1) (rm5 l Z a0 hw [] (0 : Int32) T22.heap n0 Zc30 ) hZ (own_w hw 24 rfl) (own_w hw 2 rfl) (by decide) (by decide)) (g := (mkF m 227 #[iv x1, iv x2, iv x3, lv x4, .second, lv x5, .second, lv x6, .second, iv (1 : Int32), iv x3, iv r1, iv r2, iv r3, iv r4, iv r5, iv r6, rv b7, .unset] [(.int (0 : Int32)), (.int ((if v186 = (0 : Int32) then (0 : Int32) else (1 : Int32)) + (0 : Int32)))])) rfl (by rw [hml]; rfl) (argsL := [(.int (0 : Int32))]) (rest := [(.int ((if v186 = (0 : Int32) then (0 : Int32) else (1 : Int32)) + (0 : Int32)))]) (lenOf own_pd5 rfl) rfl (by show 2 * 0 + _ ≤ _; exact Nat.le_of_eq rfl) (hb hby at_227) (fun _ _ => ⟨rfl, eh31, (by decide : 2 + 0 ≤ _), (by decide : 6 + 0 ≤ _)⟩)
    dsimp only [Pt.U, Pt.locs, Pt.cells, Pt.slots] at X32 l32 y32 z32 st32 hQ32
    subst l32 y32 z32
    obtain ⟨rfl, Nq32, eh32⟩ := hQ32
    have N32 := Fr.app N31 Nq32
    obtain ⟨_, _, ⟨T33, Lw33, kw33, nw33⟩, -, X33, ⟨Lc33, hQ33, l33, y33, z33⟩, st33⟩ := Jvm.LawKit.callS X32 hx (y := (⟨oz1, "one", "(Z)I"⟩ : MethodName)) hown (mvT hZ (own_w hw 22 rfl)) (mvT hZ (own_w hw 23 rfl)) (mvT hZ (own_w hw 2 rfl)) (mvT hZ (own_w hw 24 rfl)) (by decide) (backOf (W := 1) (rm5 l Z a0 hw [] (0 : Int32) T22.heap n0 Zc30 ) hZ (own_w hw 24 rfl) (own_w hw 2 rfl) (by decide) (by decide)) (g := (mkF m 248 #[iv x1, iv x2, iv x3, lv x4, .second, lv x5, .second, lv x6, .second, iv (1 : Int32), iv x3, iv r1, iv r2, iv r3, iv r4, iv r5, iv r6, rv b7, .unset] [(.int (0 : Int32)), (.int (((if v186 = (0 : Int32) then (0 : Int32) else (1 : Int32)) + (0 : Int32)) + (0 : Int32)))])) rfl (by rw [hml]; rfl) (argsL := [(.int (0 : Int32))]) (rest := [(.int (((if v186 = (0 : Int32) then (0 : Int32) else (1 : Int32)) + (0 : Int32)) + (0 : Int32)))]) (lenOf own_pd5 rfl) rfl (by show 2 * 0 + _ ≤ _; exact Nat.le_of_eq rfl) (hb hby at_248) (fun _ _ => ⟨rfl, eh32, (by decide : 2 + 0 ≤ _), (by decide : 6 + 0 ≤ _)⟩)
    dsimp only [Pt.U, Pt.locs, Pt.cells, Pt.slots] at X33 l33 y33 z33 st33 hQ33
    subst l33 y33 z33
    obtain ⟨rfl, Nq33, eh33⟩ := hQ33
    have N33 := Fr.app N32 Nq33
    obtain ⟨_, _, ⟨T34, Lw34, kw34, nw34⟩, -, X34, ⟨Lc34, hQ34, l34, y34, z34⟩, st34⟩ := Jvm.LawKit.callS X33 hx (y := (⟨oz1, "one", "(Z)I"⟩ : MethodName)) hown (mvT hZ (own_w hw 22 rfl)) (mvT hZ (own_w hw 23 rfl)) (mvT hZ (own_w hw 2 rfl)) (mvT hZ (own_w hw 24 rfl)) (by decide) (backOf (W := 1) (rm5 l Z a0 hw [] (0 : Int32) T22.heap n0 Zc30 ) hZ (own_w hw 24 rfl) (own_w hw 2 rfl) (by decide) (by decide)) (g := (mkF m 269 #[iv x1, iv x2, iv x3, lv x4, .second, lv x5, .second, lv x6, .second, iv (1 : Int32), iv x3, iv r1, iv r2, iv r3, iv r4, iv r5, iv r6, rv b7, .unset] [(.int (0 : Int32)), (.int ((((if v186 = (0 : Int32) then (0 : Int32) else (1 : Int32)) + (0 : Int32)) + (0 : Int32)) + (0 : Int32)))])) rfl (by rw [hml]; rfl) (argsL := [(.int (0 : Int32))]) (rest := [(.int ((((if v186 = (0 : Int32) then (0 : Int32) else (1 : Int32)) + (0 : Int32)) + (0 : Int32)) + (0 : Int32)))]) (lenOf own_pd5 rfl) rfl (by show 2 * 0 + _ ≤ _; exact Nat.le_of_eq rfl) (hb hby at_269) (fun _ _ => ⟨rfl, eh33, (by decide : 2 + 0 ≤ _), (by decide : 6 + 0 ≤ _)⟩)
    dsimp only [Pt.U, Pt.locs, Pt.cells, Pt.slots] at X34 l34 y34 z34 st34 hQ34
    subst l34 y34 z34
    obtain ⟨rfl, Nq34, eh34⟩ := hQ34
    have N34 := Fr.app N33 Nq34
    obtain ⟨_, _, ⟨T35, Lw35, kw35, nw35⟩, -, X35, ⟨Lc35, hQ35, l35, y35, z35⟩, st35⟩ := Jvm.LawKit.callS X34 hx (y := (⟨oz1, "one", "(Z)I"⟩ : MethodName)) hown (mvT hZ (own_w hw 22 rfl)) (mvT hZ (own_w hw 23 rfl)) (mvT hZ (own_w hw 2 rfl)) (mvT hZ (own_w hw 24 rfl)) (by decide) (backOf (W := 1) (rm5 l Z a0 hw [] (0 : Int32) T22.heap n0 Zc30 ) hZ (own_w hw 24 rfl) (own_w hw 2 rfl) (by decide) (by decide)) (g := (mkF m 290 #[iv x1, iv x2, iv x3, lv x4, .second, lv x5, .second, lv x6, .second, iv (1 : Int32), iv x3, iv r1, iv r2, iv r3, iv r4, iv r5, iv r6, rv b7, .unset] [(.int (0 : Int32)), (.int (((((if v186 = (0 : Int32) then (0 : Int32) else (1 : Int32)) + (0 : Int32)) + (0 : Int32)) + (0 : Int32)) + (0 : Int32)))])) rfl (by rw [hml]; rfl) (argsL := [(.int (0 : Int32))]) (rest := [(.int (((((if v186 = (0 : Int32) then (0 : Int32) else (1 : Int32)) + (0 : Int32)) + (0 : Int32)) + (0 : Int32)) + (0 : Int32)))]) (lenOf own_pd5 rfl) rfl (by show 2 * 0 + _ ≤ _; exact Nat.le_of_eq rfl) (hb hby at_290) (fun _ _ => ⟨rfl, eh34, (by decide : 2 + 0 ≤ _), (by decide : 6 + 0 ≤ _)⟩)
    dsimp only [Pt.U, Pt.locs, Pt.cells, Pt.slots] at X35 l35 y35 z35 st35 hQ35
    subst l35 y35 z35
    obtain ⟨rfl, Nq35, eh35⟩ := hQ35
    have N35 := Fr.app N34 Nq35
    obtain ⟨_, _, ⟨T36, Lw36, kw36, nw36⟩, -, X36, ⟨Lc36, hQ36, l36, y36, z36⟩, st36⟩ := Jvm.LawKit.callS X35 hx (y := (⟨oz1, "one", "(Z)I"⟩ : MethodName)) hown (mvT hZ (own_w hw 22 rfl)) (mvT hZ (own_w hw 23 rfl)) (mvT hZ (own_w hw 2 rfl)) (mvT hZ (own_w hw 24 rfl)) (by decide) (backOf (W := 1) (rm5 l Z a0 hw [] (0 : Int32) T22.heap n0 Zc30 ) hZ (own_w hw 24 rfl) (own_w hw 2 rfl) (by decide) (by decide)) (g := (mkF m 312 #[iv x1, iv x2, iv x3, lv x4, .second, lv x5, .second, lv x6, .second, iv (1 : Int32), iv x3, iv r1, iv r2, iv r3, iv r4, iv r5, iv r6, rv b7, .unset] [(.int (0 : Int32)), (.int ((((((if v186 = (0 : Int32) then (0 : Int32) else (1 : Int32)) + (0 : Int32)) + (0 : Int32)) + (0 : Int32)) + (0 : Int32)) + (0 : Int32)))])) rfl (by rw [hml]; rfl) (argsL := [(.int (0 : Int32))]) (rest := [(.int ((((((if v186 = (0 : Int32) then (0 : Int32) else (1 : Int32)) + (0 : Int32)) + (0 : Int32)) + (0 : Int32)) + (0 : Int32)) + (0 : Int32)))]) (lenOf own_pd5 rfl) rfl (by show 2 * 0 + _ ≤ _; exact Nat.le_of_eq rfl) (hb hby at_312) (fun _ _ => ⟨rfl, eh35, (by decide : 2 + 0 ≤ _), (by decide : 6 + 0 ≤ _)⟩)
    dsimp only [Pt.U, Pt.locs, Pt.cells, Pt.slots] at X36 l36 y36 z36 st36 hQ36
    subst l36 y36 z36
    obtain ⟨rfl, Nq36, eh36⟩ := hQ36
    have N36 := Fr.app N35 Nq36
    obtain ⟨y316, hy316⟩ : ∃ z, z = (((((((if v186 = (0 : Int32) then (0 : Int32) else (1 : Int32)) + (0 : Int32)) + (0 : Int32)) + (0 : Int32)) + (0 : Int32)) + (0 : Int32)) + (0 : Int32)) := ⟨_, rfl⟩
    have Ec38 : Exa Z T22.heap b7 oz0 := (Ec23.keep K22)
    obtain ⟨cq37, kq37, q37a, q37b, q37c⟩ := isOf hZ eh36 Ec38
    obtain ⟨_, _, ⟨T37, Lw37, kw37, nw37⟩, -, X37, ⟨Lc37, hQ37, l37, y37, z37⟩, st37⟩ := X36.virtualBack hx (y := (⟨oz0, "countAtMost", "(I)I"⟩ : MethodName)) (z := (⟨oz0, "countAtMost", "(I)I"⟩ : MethodName)) hown (mvT hZ (own_w hw 25 rfl)) (mvT hZ (own_w hw 26 rfl)) (notFace_of_selects (args := #[]) (mvT hZ (own_w hw 28 rfl))) (mvT hZ (own_w hw 28 rfl)) (mvT hZ (own_w hw 27 rfl)) (by decide) (backOf (W := 0) (rmC1 l Z a0 hw [] b7 x2 x3 b8 k8 T22.heap n0 Zc30 Ec38 pf22_0 pf22_1 pf22_2) hZ (own_w hw 29 rfl) (own_w hw 12 rfl) (by decide) (by decide)) q37a q37c (g := (mkF m 321 #[iv x1, iv x2, iv x3, lv x4, .second, lv x5, .second, lv x6, .second, iv (1 : Int32), iv x3, iv r1, iv r2, iv r3, iv r4, iv r5, iv r6, rv b7, iv y316] [(.int x2), (.ref b7)])) rfl (by rw [hml]; rfl) (Steps.refl _) (argsL := [(.int x2)]) (rest := []) (lenOf own_pd6 rfl) rfl (by show 2 * 0 + _ ≤ _; exact Nat.le_of_eq rfl) (hb hby at_321) (fun _ _ => ⟨rfl, eh36, (by decide : 2 + 0 ≤ _), (by decide : 6 + 0 ≤ _)⟩)
    dsimp only [Pt.U, Pt.locs, Pt.cells, Pt.slots] at X37 l37 y37 z37 st37 hQ37
    subst l37 y37 z37
    obtain ⟨rfl, Nq37, eh37⟩ := hQ37
    have N37 := Fr.app N36 Nq37
    have hc326 : (if x2 < x3 then (0 : Int32) else (1 : Int32)) = y316 := Classical.byContradiction fun hc326 => by
      subst hy316 hv186
      exact hc326 (own_cnt1 x2 x3 )
    have pre39 : ∀ tz, oS p e below T37 m 334 #[iv x1, iv x2, iv x3, lv x4, .second, lv x5, .second, lv x6, .second, iv (1 : Int32), iv x3, iv r1, iv r2, iv r3, iv r4, iv r5, iv r6, rv b7, iv y316] [(.int (1 : Int32))] tz → oS p e below T22 m 178 #[iv x1, iv x2, iv x3, lv x4, .second, lv x5, .second, lv x6, .second, iv (1 : Int32), iv x3, iv r1, iv r2, iv r3, iv r4, iv r5, iv r6, rv b7, .unset] [(.int x2), (.int x3)] tz := fun tz kt => by
      show oS p e below T22 m 178 #[iv x1, iv x2, iv x3, lv x4, .second, lv x5, .second, lv x6, .second, iv (1 : Int32), iv x3, iv r1, iv r2, iv r3, iv r4, iv r5, iv r6, rv b7, .unset] [(.int x2), (.int x3)] _
      refine st28 _ ?_
      show oS p e below T28 m 186 #[iv x1, iv x2, iv x3, lv x4, .second, lv x5, .second, lv x6, .second, iv (1 : Int32), iv x3, iv r1, iv r2, iv r3, iv r4, iv r5, iv r6, rv b7, .unset] [(.int v186)] _
      refine st29 _ ?_
      refine XS.iload X29.here hx rfl (hb hby at_189) rfl ?_
      refine XS.iconst X29.here hx rfl (hb hby at_191) ?_
      refine XS.icmpYes X29.here hx rfl (pc0 := 192) (pc' := 205) rfl (hb hby at_192) rfl (flt (by decide : ¬ ((1 : Int32) < (1 : Int32)))).2.2.2 (by decide) (by decide) ?_
      show oS p e below T29 m 205 #[iv x1, iv x2, iv x3, lv x4, .second, lv x5, .second, lv x6, .second, iv (1 : Int32), iv x3, iv r1, iv r2, iv r3, iv r4, iv r5, iv r6, rv b7, .unset] [(.int (if v186 = (0 : Int32) then (0 : Int32) else (1 : Int32)))] _
      refine XS.iconst X29.here hx rfl (hb hby at_205) ?_
      show oS p e below T29 m 206 #[iv x1, iv x2, iv x3, lv x4, .second, lv x5, .second, lv x6, .second, iv (1 : Int32), iv x3, iv r1, iv r2, iv r3, iv r4, iv r5, iv r6, rv b7, .unset] [(.int (0 : Int32)), (.int (if v186 = (0 : Int32) then (0 : Int32) else (1 : Int32)))] _
      refine st31 _ ?_
      rw [((if_pos (by decide : (0 : Int32) = (0 : Int32))) : (if (0 : Int32) = (0 : Int32) then (0 : Int32) else (1 : Int32)) = (0 : Int32))]
      show oS p e below T31 m 209 #[iv x1, iv x2, iv x3, lv x4, .second, lv x5, .second, lv x6, .second, iv (1 : Int32), iv x3, iv r1, iv r2, iv r3, iv r4, iv r5, iv r6, rv b7, .unset] [(.int (0 : Int32)), (.int (if v186 = (0 : Int32) then (0 : Int32) else (1 : Int32)))] _
      refine XS.iadd X31.here hx rfl (hb hby at_209) rfl ?_
      refine XS.iload X31.here hx rfl (hb hby at_210) rfl ?_
      refine XS.iconst X31.here hx rfl (hb hby at_212) ?_
      refine XS.icmpYes X31.here hx rfl (pc0 := 213) (pc' := 226) rfl (hb hby at_213) rfl (flt (by decide : ¬ ((2 : Int32) < (1 : Int32)))).2.2.2 (by decide) (by decide) ?_
      show oS p e below T31 m 226 #[iv x1, iv x2, iv x3, lv x4, .second, lv x5, .second, lv x6, .second, iv (1 : Int32), iv x3, iv r1, iv r2, iv r3, iv r4, iv r5, iv r6, rv b7, .unset] [(.int ((if v186 = (0 : Int32) then (0 : Int32) else (1 : Int32)) + (0 : Int32)))] _
      refine XS.iconst X31.here hx rfl (hb hby at_226) ?_
      show oS p e below T31 m 227 #[iv x1, iv x2, iv x3, lv x4, .second, lv x5, .second, lv x6, .second, iv (1 : Int32), iv x3, iv r1, iv r2, iv r3, iv r4, iv r5, iv r6, rv b7, .unset] [(.int (0 : Int32)), (.int ((if v186 = (0 : Int32) then (0 : Int32) else (1 : Int32)) + (0 : Int32)))] _
      refine st32 _ ?_
      rw [((if_pos (by decide : (0 : Int32) = (0 : Int32))) : (if (0 : Int32) = (0 : Int32) then (0 : Int32) else (1 : Int32)) = (0 : Int32))]
      show oS p e below T32 m 230 #[iv x1, iv x2, iv x3, lv x4, .second, lv x5, .second, lv x6, .second, iv (1 : Int32), iv x3, iv r1, iv r2, iv r3, iv r4, iv r5, iv r6, rv b7, .unset] [(.int (0 : Int32)), (.int ((if v186 = (0 : Int32) then (0 : Int32) else (1 : Int32)) + (0 : Int32)))] _
      refine XS.iadd X32.here hx rfl (hb hby at_230) rfl ?_
      refine XS.iload X32.here hx rfl (hb hby at_231) rfl ?_
      refine XS.iconst X32.here hx rfl (hb hby at_233) ?_
      refine XS.icmpYes X32.here hx rfl (pc0 := 234) (pc' := 247) rfl (hb hby at_234) rfl (flt (by decide : ¬ ((3 : Int32) < (1 : Int32)))).2.2.2 (by decide) (by decide) ?_
      show oS p e below T32 m 247 #[iv x1, iv x2, iv x3, lv x4, .second, lv x5, .second, lv x6, .second, iv (1 : Int32), iv x3, iv r1, iv r2, iv r3, iv r4, iv r5, iv r6, rv b7, .unset] [(.int (((if v186 = (0 : Int32) then (0 : Int32) else (1 : Int32)) + (0 : Int32)) + (0 : Int32)))] _
      refine XS.iconst X32.here hx rfl (hb hby at_247) ?_
      show oS p e below T32 m 248 #[iv x1, iv x2, iv x3, lv x4, .second, lv x5, .second, lv x6, .second, iv (1 : Int32), iv x3, iv r1, iv r2, iv r3, iv r4, iv r5, iv r6, rv b7, .unset] [(.int (0 : Int32)), (.int (((if v186 = (0 : Int32) then (0 : Int32) else (1 : Int32)) + (0 : Int32)) + (0 : Int32)))] _
      refine st33 _ ?_
      rw [((if_pos (by decide : (0 : Int32) = (0 : Int32))) : (if (0 : Int32) = (0 : Int32) then (0 : Int32) else (1 : Int32)) = (0 : Int32))]
      show oS p e below T33 m 251 #[iv x1, iv x2, iv x3, lv x4, .second, lv x5, .second, lv x6, .second, iv (1 : Int32), iv x3, iv r1, iv r2, iv r3, iv r4, iv r5, iv r6, rv b7, .unset] [(.int (0 : Int32)), (.int (((if v186 = (0 : Int32) then (0 : Int32) else (1 : Int32)) + (0 : Int32)) + (0 : Int32)))] _
      refine XS.iadd X33.here hx rfl (hb hby at_251) rfl ?_
      refine XS.iload X33.here hx rfl (hb hby at_252) rfl ?_
      refine XS.iconst X33.here hx rfl (hb hby at_254) ?_
      refine XS.icmpYes X33.here hx rfl (pc0 := 255) (pc' := 268) rfl (hb hby at_255) rfl (flt (by decide : ¬ ((4 : Int32) < (1 : Int32)))).2.2.2 (by decide) (by decide) ?_
      show oS p e below T33 m 268 #[iv x1, iv x2, iv x3, lv x4, .second, lv x5, .second, lv x6, .second, iv (1 : Int32), iv x3, iv r1, iv r2, iv r3, iv r4, iv r5, iv r6, rv b7, .unset] [(.int ((((if v186 = (0 : Int32) then (0 : Int32) else (1 : Int32)) + (0 : Int32)) + (0 : Int32)) + (0 : Int32)))] _
      refine XS.iconst X33.here hx rfl (hb hby at_268) ?_
      show oS p e below T33 m 269 #[iv x1, iv x2, iv x3, lv x4, .second, lv x5, .second, lv x6, .second, iv (1 : Int32), iv x3, iv r1, iv r2, iv r3, iv r4, iv r5, iv r6, rv b7, .unset] [(.int (0 : Int32)), (.int ((((if v186 = (0 : Int32) then (0 : Int32) else (1 : Int32)) + (0 : Int32)) + (0 : Int32)) + (0 : Int32)))] _
      refine st34 _ ?_
      rw [((if_pos (by decide : (0 : Int32) = (0 : Int32))) : (if (0 : Int32) = (0 : Int32) then (0 : Int32) else (1 : Int32)) = (0 : Int32))]
      show oS p e below T34 m 272 #[iv x1, iv x2, iv x3, lv x4, .second, lv x5, .second, lv x6, .second, iv (1 : Int32), iv x3, iv r1, iv r2, iv r3, iv r4, iv r5, iv r6, rv b7, .unset] [(.int (0 : Int32)), (.int ((((if v186 = (0 : Int32) then (0 : Int32) else (1 : Int32)) + (0 : Int32)) + (0 : Int32)) + (0 : Int32)))] _
      refine XS.iadd X34.here hx rfl (hb hby at_272) rfl ?_
      refine XS.iload X34.here hx rfl (hb hby at_273) rfl ?_
      refine XS.iconst X34.here hx rfl (hb hby at_275) ?_
      refine XS.icmpYes X34.here hx rfl (pc0 := 276) (pc' := 289) rfl (hb hby at_276) rfl (flt (by decide : ¬ ((5 : Int32) < (1 : Int32)))).2.2.2 (by decide) (by decide) ?_
      show oS p e below T34 m 289 #[iv x1, iv x2, iv x3, lv x4, .second, lv x5, .second, lv x6, .second, iv (1 : Int32), iv x3, iv r1, iv r2, iv r3, iv r4, iv r5, iv r6, rv b7, .unset] [(.int (((((if v186 = (0 : Int32) then (0 : Int32) else (1 : Int32)) + (0 : Int32)) + (0 : Int32)) + (0 : Int32)) + (0 : Int32)))] _
      refine XS.iconst X34.here hx rfl (hb hby at_289) ?_
      show oS p e below T34 m 290 #[iv x1, iv x2, iv x3, lv x4, .second, lv x5, .second, lv x6, .second, iv (1 : Int32), iv x3, iv r1, iv r2, iv r3, iv r4, iv r5, iv r6, rv b7, .unset] [(.int (0 : Int32)), (.int (((((if v186 = (0 : Int32) then (0 : Int32) else (1 : Int32)) + (0 : Int32)) + (0 : Int32)) + (0 : Int32)) + (0 : Int32)))] _
      refine st35 _ ?_
      rw [((if_pos (by decide : (0 : Int32) = (0 : Int32))) : (if (0 : Int32) = (0 : Int32) then (0 : Int32) else (1 : Int32)) = (0 : Int32))]
      show oS p e below T35 m 293 #[iv x1, iv x2, iv x3, lv x4, .second, lv x5, .second, lv x6, .second, iv (1 : Int32), iv x3, iv r1, iv r2, iv r3, iv r4, iv r5, iv r6, rv b7, .unset] [(.int (0 : Int32)), (.int (((((if v186 = (0 : Int32) then (0 : Int32) else (1 : Int32)) + (0 : Int32)) + (0 : Int32)) + (0 : Int32)) + (0 : Int32)))] _
      refine XS.iadd X35.here hx rfl (hb hby at_293) rfl ?_
      refine XS.iload X35.here hx rfl (hb hby at_294) rfl ?_
      refine XS.bipush X35.here hx rfl (hb hby at_296) ?_
      refine XS.icmpYes X35.here hx rfl (pc0 := 298) (pc' := 311) rfl (hb hby at_298) rfl (flt (by decide : ¬ ((6 : Int32) < (1 : Int32)))).2.2.2 (by decide) (by decide) ?_
      show oS p e below T35 m 311 #[iv x1, iv x2, iv x3, lv x4, .second, lv x5, .second, lv x6, .second, iv (1 : Int32), iv x3, iv r1, iv r2, iv r3, iv r4, iv r5, iv r6, rv b7, .unset] [(.int ((((((if v186 = (0 : Int32) then (0 : Int32) else (1 : Int32)) + (0 : Int32)) + (0 : Int32)) + (0 : Int32)) + (0 : Int32)) + (0 : Int32)))] _
      refine XS.iconst X35.here hx rfl (hb hby at_311) ?_
      show oS p e below T35 m 312 #[iv x1, iv x2, iv x3, lv x4, .second, lv x5, .second, lv x6, .second, iv (1 : Int32), iv x3, iv r1, iv r2, iv r3, iv r4, iv r5, iv r6, rv b7, .unset] [(.int (0 : Int32)), (.int ((((((if v186 = (0 : Int32) then (0 : Int32) else (1 : Int32)) + (0 : Int32)) + (0 : Int32)) + (0 : Int32)) + (0 : Int32)) + (0 : Int32)))] _
      refine st36 _ ?_
      rw [((if_pos (by decide : (0 : Int32) = (0 : Int32))) : (if (0 : Int32) = (0 : Int32) then (0 : Int32) else (1 : Int32)) = (0 : Int32))]
      show oS p e below T36 m 315 #[iv x1, iv x2, iv x3, lv x4, .second, lv x5, .second, lv x6, .second, iv (1 : Int32), iv x3, iv r1, iv r2, iv r3, iv r4, iv r5, iv r6, rv b7, .unset] [(.int (0 : Int32)), (.int ((((((if v186 = (0 : Int32) then (0 : Int32) else (1 : Int32)) + (0 : Int32)) + (0 : Int32)) + (0 : Int32)) + (0 : Int32)) + (0 : Int32)))] _
      refine XS.iadd X36.here hx rfl (hb hby at_315) rfl ?_
      refine XS.istore X36.here hx rfl (hb hby at_316) rfl (l' := #[iv x1, iv x2, iv x3, lv x4, .second, lv x5, .second, lv x6, .second, iv (1 : Int32), iv x3, iv r1, iv r2, iv r3, iv r4, iv r5, iv r6, rv b7, iv y316]) (by rw [hy316]; rfl) ?_
      refine XS.aload X36.here hx rfl (hb hby at_318) rfl rfl ?_
      refine XS.iloadN X36.here hx rfl (hb hby at_320) rfl ?_
      show oS p e below T36 m 321 #[iv x1, iv x2, iv x3, lv x4, .second, lv x5, .second, lv x6, .second, iv (1 : Int32), iv x3, iv r1, iv r2, iv r3, iv r4, iv r5, iv r6, rv b7, iv y316] [(.int x2), (.ref b7)] _
      refine st37.trans ?_
      refine XS.iload X37.here hx rfl (hb hby at_324) rfl ?_
      refine XS.icmpNo X37.here hx rfl (hb hby at_326) rfl (teq hc326).2 ?_
      refine XS.iconst X37.here hx rfl (hb hby at_329) ?_
      show oS p e below T37 m 330 #[iv x1, iv x2, iv x3, lv x4, .second, lv x5, .second, lv x6, .second, iv (1 : Int32), iv x3, iv r1, iv r2, iv r3, iv r4, iv r5, iv r6, rv b7, iv y316] [(.int (1 : Int32))] _
      refine XS.goto X37.here hx rfl (pc0 := 330) (pc' := 334) rfl (hb hby at_330) (by decide) (by decide) ?_
      exact kt
    obtain ⟨fs, hr, hrun, hended, hW, hsame⟩ := X37.leave (v := some (.int (1 : Int32))) (fun h => by rw [Bd.returns] at h; cases h)
    refine ⟨_, _, pre0 _ (pre10 _ (pre25 _ (pre39 _ ?_))), hrun, hended, _, _, rfl, ?_, ⟨_, rfl⟩, hW, hsame.mono (by decide) (by decide)⟩
    · show oS p e below T37 m 334 #[iv x1, iv x2, iv x3, lv x4, .second, lv x5, .second, lv x6, .second, iv (1 : Int32), iv x3, iv r1, iv r2, iv r3, iv r4, iv r5, iv r6, rv b7, iv y316] [(.int (1 : Int32))] _
      exact retN X37 hx (t := .boolean) Bd.returns (by simp) (hb hby at_334) hr
    · show Q0 Z x1 x2 x3 x4 x5 x6 h0 n0 _ T37.heap _
      rw [eh37]
      exact ⟨rfl, N37⟩
  · subst hn
    have Ec41 : Exa Z T8.heap b7 oz0 := (A7.keep K8)
    have Zc42 : n0 ≤ T8.heap.size := (Nat.le_trans Zc9 K8.1)
    obtain ⟨cq40, kq40, q40a, q40b, q40c⟩ := isOf hZ rfl Ec41
    obtain ⟨_, _, ⟨T40, Lw40, kw40, nw40⟩, -, X40, ⟨Lc40, hQ40, l40, y40, z40⟩, st40⟩ := X8.virtualBack hx (y := (⟨oz0, "add", "(I)V"⟩ : MethodName)) (z := (⟨oz0, "add", "(I)V"⟩ : MethodName)) hown (mvT hZ (own_w hw 32 rfl)) (mvT hZ (own_w hw 33 rfl)) (notFace_of_selects (args := #[]) (mvT hZ (own_w hw 35 rfl))) (mvT hZ (own_w hw 35 rfl)) (mvT hZ (own_w hw 34 rfl)) (by decide) (backOf (W := 0) (rmA0 l Z a0 hw [] b7 x3 b8 k8 T8.heap n0 Zc42 Ec41 g_b7 pf8_1 ne_b7_b8 pf8_3 pf8_2 pf8_4) hZ (own_w hw 36 rfl) (own_w hw 12 rfl) (by decide) (by decide)) q40a q40c (g := (mkF m 88 #[iv x1, iv x2, iv x3, lv x4, .second, lv x5, .second, lv x6, .second, iv (2 : Int32), iv x3, iv r1, iv r2, iv r3, iv r4, iv r5, iv r6, rv b7, .unset] [(.int x3), (.ref b7)])) rfl (by rw [hml]; rfl) (Steps.refl _) (argsL := [(.int x3)]) (rest := []) (lenOf own_pd7 rfl) rfl (by show 2 * 0 + _ ≤ _; exact Nat.le_of_eq rfl) (hb hby at_88) (fun _ _ => ⟨rfl, rfl, (by decide : 2 + 0 ≤ _), (by decide : 6 + 0 ≤ _)⟩)
    dsimp only [Pt.U, Pt.locs, Pt.cells, Pt.slots] at X40 l40 y40 z40 st40 hQ40
    subst l40 y40 z40
    obtain ⟨rfl, Nq40, K40, pf40_0, pf40_1, pf40_2⟩ := hQ40
    have N40 := Fr.app N8 Nq40
    have Ec44 : Exa Z T40.heap b7 oz0 := (Ec41.keep K40)
    have Zc45 : n0 ≤ T40.heap.size := (Nat.le_trans Zc42 K40.1)
    obtain ⟨cq43, kq43, q43a, q43b, q43c⟩ := isOf hZ rfl Ec44
    obtain ⟨_, _, ⟨T43, Lw43, kw43, nw43⟩, -, X43, ⟨Lc43, hQ43, l43, y43, z43⟩, st43⟩ := X40.virtualBack hx (y := (⟨oz0, "add", "(I)V"⟩ : MethodName)) (z := (⟨oz0, "add", "(I)V"⟩ : MethodName)) hown (mvT hZ (own_w hw 32 rfl)) (mvT hZ (own_w hw 33 rfl)) (notFace_of_selects (args := #[]) (mvT hZ (own_w hw 35 rfl))) (mvT hZ (own_w hw 35 rfl)) (mvT hZ (own_w hw 34 rfl)) (by decide) (backOf (W := 0) (rmA1 l Z a0 hw [] b7 r1 x3 b8 k8 T40.heap n0 Zc45 Ec44 g_b7 pf8_1 ne_b7_b8 pf40_0 pf40_1 pf40_2) hZ (own_w hw 36 rfl) (own_w hw 12 rfl) (by decide) (by decide)) q43a q43c (g := (mkF m 101 #[iv x1, iv x2, iv x3, lv x4, .second, lv x5, .second, lv x6, .second, iv (2 : Int32), iv x3, iv r1, iv r2, iv r3, iv r4, iv r5, iv r6, rv b7, .unset] [(.int r1), (.ref b7)])) rfl (by rw [hml]; rfl) (Steps.refl _) (argsL := [(.int r1)]) (rest := []) (lenOf own_pd7 rfl) rfl (by show 2 * 0 + _ ≤ _; exact Nat.le_of_eq rfl) (hb hby at_101) (fun _ _ => ⟨rfl, rfl, (by decide : 2 + 0 ≤ _), (by decide : 6 + 0 ≤ _)⟩)
    dsimp only [Pt.U, Pt.locs, Pt.cells, Pt.slots] at X43 l43 y43 z43 st43 hQ43
    subst l43 y43 z43
    obtain ⟨rfl, Nq43, K43, pf43_0, pf43_1, pf43_2⟩ := hQ43
    have N43 := Fr.app N40 Nq43
    have pre46 : ∀ tz, oS p e below T43 m 178 #[iv x1, iv x2, iv x3, lv x4, .second, lv x5, .second, lv x6, .second, iv (2 : Int32), iv x3, iv r1, iv r2, iv r3, iv r4, iv r5, iv r6, rv b7, .unset] [(.int x2), (.int x3)] tz → oS p e below T8 m 79 #[iv x1, iv x2, iv x3, lv x4, .second, lv x5, .second, lv x6, .second, iv (2 : Int32), iv x3, iv r1, iv r2, iv r3, iv r4, iv r5, iv r6, rv b7, .unset] [] tz := fun tz kt => by
      show oS p e below T8 m 79 #[iv x1, iv x2, iv x3, lv x4, .second, lv x5, .second, lv x6, .second, iv (2 : Int32), iv x3, iv r1, iv r2, iv r3, iv r4, iv r5, iv r6, rv b7, .unset] [] _
      refine XS.iload X8.here hx rfl (hb hby at_79) rfl ?_
      refine XS.ifNo X8.here hx rfl (hb hby at_81) rfl ((if0 _ _).trans (tlt (by decide : ((0 : Int32) < (2 : Int32)))).2.2.2) ?_
      refine XS.aload X8.here hx rfl (hb hby at_84) rfl rfl ?_
      refine XS.iload X8.here hx rfl (hb hby at_86) rfl ?_
      show oS p e below T8 m 88 #[iv x1, iv x2, iv x3, lv x4, .second, lv x5, .second, lv x6, .second, iv (2 : Int32), iv x3, iv r1, iv r2, iv r3, iv r4, iv r5, iv r6, rv b7, .unset] [(.int x3), (.ref b7)] _
      refine st40.trans ?_
      refine XS.iload X40.here hx rfl (hb hby at_91) rfl ?_
      refine XS.iconst X40.here hx rfl (hb hby at_93) ?_
      refine XS.icmpNo X40.here hx rfl (hb hby at_94) rfl (tlt (by decide : ((1 : Int32) < (2 : Int32)))).2.2.2 ?_
      show oS p e below T40 m 97 #[iv x1, iv x2, iv x3, lv x4, .second, lv x5, .second, lv x6, .second, iv (2 : Int32), iv x3, iv r1, iv r2, iv r3, iv r4, iv r5, iv r6, rv b7, .unset] [] _
      refine XS.aload X40.here hx rfl (hb hby at_97) rfl rfl ?_
      refine XS.iload X40.here hx rfl (hb hby at_99) rfl ?_
      show oS p e below T40 m 101 #[iv x1, iv x2, iv x3, lv x4, .second, lv x5, .second, lv x6, .second, iv (2 : Int32), iv x3, iv r1, iv r2, iv r3, iv r4, iv r5, iv r6, rv b7, .unset] [(.int r1), (.ref b7)] _
      refine st43.trans ?_
      refine XS.iload X43.here hx rfl (hb hby at_104) rfl ?_
      refine XS.iconst X43.here hx rfl (hb hby at_106) ?_
      refine XS.icmpYes X43.here hx rfl (pc0 := 107) (pc' := 117) rfl (hb hby at_107) rfl (flt (by decide : ¬ ((2 : Int32) < (2 : Int32)))).2.2.2 (by decide) (by decide) ?_
      show oS p e below T43 m 117 #[iv x1, iv x2, iv x3, lv x4, .second, lv x5, .second, lv x6, .second, iv (2 : Int32), iv x3, iv r1, iv r2, iv r3, iv r4, iv r5, iv r6, rv b7, .unset] [] _
      refine XS.iload X43.here hx rfl (hb hby at_117) rfl ?_
      refine XS.iconst X43.here hx rfl (hb hby at_119) ?_
      refine XS.icmpYes X43.here hx rfl (pc0 := 120) (pc' := 130) rfl (hb hby at_120) rfl (flt (by decide : ¬ ((3 : Int32) < (2 : Int32)))).2.2.2 (by decide) (by decide) ?_
      refine XS.iload X43.here hx rfl (hb hby at_130) rfl ?_
      show oS p e below T43 m 132 #[iv x1, iv x2, iv x3, lv x4, .second, lv x5, .second, lv x6, .second, iv (2 : Int32), iv x3, iv r1, iv r2, iv r3, iv r4, iv r5, iv r6, rv b7, .unset] [(.int (2 : Int32))] _
      refine XS.iconst X43.here hx rfl (hb hby at_132) ?_
      refine XS.icmpYes X43.here hx rfl (pc0 := 133) (pc' := 143) rfl (hb hby at_133) rfl (flt (by decide : ¬ ((4 : Int32) < (2 : Int32)))).2.2.2 (by decide) (by decide) ?_
      refine XS.iload X43.here hx rfl (hb hby at_143) rfl ?_
      refine XS.iconst X43.here hx rfl (hb hby at_145) ?_
      show oS p e below T43 m 146 #[iv x1, iv x2, iv x3, lv x4, .second, lv x5, .second, lv x6, .second, iv (2 : Int32), iv x3, iv r1, iv r2, iv r3, iv r4, iv r5, iv r6, rv b7, .unset] [(.int (5 : Int32)), (.int (2 : Int32))] _
      refine XS.icmpYes X43.here hx rfl (pc0 := 146) (pc' := 156) rfl (hb hby at_146) rfl (flt (by decide : ¬ ((5 : Int32) < (2 : Int32)))).2.2.2 (by decide) (by decide) ?_
      refine XS.iload X43.here hx rfl (hb hby at_156) rfl ?_
      refine XS.bipush X43.here hx rfl (hb hby at_158) ?_
      refine XS.icmpYes X43.here hx rfl (pc0 := 160) (pc' := 170) rfl (hb hby at_160) rfl (flt (by decide : ¬ ((6 : Int32) < (2 : Int32)))).2.2.2 (by decide) (by decide) ?_
      show oS p e below T43 m 170 #[iv x1, iv x2, iv x3, lv x4, .second, lv x5, .second, lv x6, .second, iv (2 : Int32), iv x3, iv r1, iv r2, iv r3, iv r4, iv r5, iv r6, rv b7, .unset] [] _
      refine XS.iload X43.here hx rfl (hb hby at_170) rfl ?_
      refine XS.ifNo X43.here hx rfl (hb hby at_172) rfl ((if0 _ _).trans (tlt (by decide : ((0 : Int32) < (2 : Int32)))).2.2.2) ?_
      refine XS.iload X43.here hx rfl (hb hby at_175) rfl ?_
      refine XS.iloadN X43.here hx rfl (hb hby at_177) rfl ?_
      exact kt
    obtain ⟨v186, T49, Lj49, jv49, N49, X49, e49, st49⟩ := own_join (α := Int32) X43 N43 rfl (mkF m 178 #[iv x1, iv x2, iv x3, lv x4, .second, lv x5, .second, lv x6, .second, iv (2 : Int32), iv x3, iv r1, iv r2, iv r3, iv r4, iv r5, iv r6, rv b7, .unset] [(.int x2), (.int x3)]) (fun v => (mkF m 186 #[iv x1, iv x2, iv x3, lv x4, .second, lv x5, .second, lv x6, .second, iv (2 : Int32), iv x3, iv r1, iv r2, iv r3, iv r4, iv r5, iv r6, rv b7, .unset] [(.int v)])) (fun v => v = (if x2 < x3 then (0 : Int32) else (1 : Int32))) (by
        by_cases hc178 : x2 < x3
        · have pre47 : ∀ tz, oS p e below T43 m 186 #[iv x1, iv x2, iv x3, lv x4, .second, lv x5, .second, lv x6, .second, iv (2 : Int32), iv x3, iv r1, iv r2, iv r3, iv r4, iv r5, iv r6, rv b7, .unset] [(.int (0 : Int32))] tz → oS p e below T43 m 178 #[iv x1, iv x2, iv x3, lv x4, .second, lv x5, .second, lv x6, .second, iv (2 : Int32), iv x3, iv r1, iv r2, iv r3, iv r4, iv r5, iv r6, rv b7, .unset] [(.int x2), (.int x3)] tz := fun tz kt => by
            show oS p e below T43 m 178 #[iv x1, iv x2, iv x3, lv x4, .second, lv x5, .second, lv x6, .second, iv (2 : Int32), iv x3, iv r1, iv r2, iv r3, iv r4, iv r5, iv r6, rv b7, .unset] [(.int x2), (.int x3)] _
            refine XS.icmpYes X43.here hx rfl (pc0 := 178) (pc' := 185) rfl (hb hby at_178) rfl (tlt hc178).2.2.1 (by decide) (by decide) ?_
            refine XS.iconst X43.here hx rfl (hb hby at_185) ?_
            exact kt
          exact ⟨(0 : Int32), T43, _, (by rw [if_pos hc178]), N43, X43, rfl, fun tz kt => (pre47 _ kt)⟩
        · have pre48 : ∀ tz, oS p e below T43 m 186 #[iv x1, iv x2, iv x3, lv x4, .second, lv x5, .second, lv x6, .second, iv (2 : Int32), iv x3, iv r1, iv r2, iv r3, iv r4, iv r5, iv r6, rv b7, .unset] [(.int (1 : Int32))] tz → oS p e below T43 m 178 #[iv x1, iv x2, iv x3, lv x4, .second, lv x5, .second, lv x6, .second, iv (2 : Int32), iv x3, iv r1, iv r2, iv r3, iv r4, iv r5, iv r6, rv b7, .unset] [(.int x2), (.int x3)] tz := fun tz kt => by
            show oS p e below T43 m 178 #[iv x1, iv x2, iv x3, lv x4, .second, lv x5, .second, lv x6, .second, iv (2 : Int32), iv x3, iv r1, iv r2, iv r3, iv r4, iv r5, iv r6, rv b7, .unset] [(.int x2), (.int x3)] _
            refine XS.icmpNo X43.here hx rfl (hb hby at_178) rfl (flt hc178).2.2.1 ?_
            refine XS.iconst X43.here hx rfl (hb hby at_181) ?_
            refine XS.goto X43.here hx rfl (pc0 := 182) (pc' := 186) rfl (hb hby at_182) (by decide) (by decide) ?_
            exact kt
          exact ⟨(1 : Int32), T43, _, (by rw [if_neg hc178]), N43, X43, rfl, fun tz kt => (pre48 _ kt)⟩)
    have hv186 : v186 = (if x2 < x3 then (0 : Int32) else (1 : Int32)) := jv49
    have Zc51 : n0 ≤ T43.heap.size := (Nat.le_trans Zc45 K43.1)
    obtain ⟨_, _, ⟨T50, Lw50, kw50, nw50⟩, -, X50, ⟨Lc50, hQ50, l50, y50, z50⟩, st50⟩ := Jvm.LawKit.callS X49 hx (y := (⟨oz1, "one", "(Z)I"⟩ : MethodName)) hown (mvT hZ (own_w hw 22 rfl)) (mvT hZ (own_w hw 23 rfl)) (mvT hZ (own_w hw 2 rfl)) (mvT hZ (own_w hw 24 rfl)) (by decide) (backOf (W := 0) (rm5 l Z a0 hw [] v186 T43.heap n0 Zc51 ) hZ (own_w hw 24 rfl) (own_w hw 2 rfl) (by decide) (by decide)) (g := (mkF m 186 #[iv x1, iv x2, iv x3, lv x4, .second, lv x5, .second, lv x6, .second, iv (2 : Int32), iv x3, iv r1, iv r2, iv r3, iv r4, iv r5, iv r6, rv b7, .unset] [(.int v186)])) rfl (by rw [hml]; rfl) (argsL := [(.int v186)]) (rest := []) (lenOf own_pd5 rfl) rfl (by show 2 * 0 + _ ≤ _; exact Nat.le_of_eq rfl) (hb hby at_186) (fun _ _ => ⟨rfl, e49, (by decide : 2 + 0 ≤ _), (by decide : 6 + 0 ≤ _)⟩)
    dsimp only [Pt.U, Pt.locs, Pt.cells, Pt.slots] at X50 l50 y50 z50 st50 hQ50
    subst l50 y50 z50
    obtain ⟨rfl, Nq50, eh50⟩ := hQ50
    have N50 := Fr.app N49 Nq50
    have pre52 : ∀ tz, oS p e below T50 m 198 #[iv x1, iv x2, iv x3, lv x4, .second, lv x5, .second, lv x6, .second, iv (2 : Int32), iv x3, iv r1, iv r2, iv r3, iv r4, iv r5, iv r6, rv b7, .unset] [(.int x2), (.int r1), (.int (if v186 = (0 : Int32) then (0 : Int32) else (1 : Int32)))] tz → oS p e below T43 m 178 #[iv x1, iv x2, iv x3, lv x4, .second, lv x5, .second, lv x6, .second, iv (2 : Int32), iv x3, iv r1, iv r2, iv r3, iv r4, iv r5, iv r6, rv b7, .unset] [(.int x2), (.int x3)] tz := fun tz kt => by
      show oS p e below T43 m 178 #[iv x1, iv x2, iv x3, lv x4, .second, lv x5, .second, lv x6, .second, iv (2 : Int32), iv x3, iv r1, iv r2, iv r3, iv r4, iv r5, iv r6, rv b7, .unset] [(.int x2), (.int x3)] _
      refine st49 _ ?_
      show oS p e below T49 m 186 #[iv x1, iv x2, iv x3, lv x4, .second, lv x5, .second, lv x6, .second, iv (2 : Int32), iv x3, iv r1, iv r2, iv r3, iv r4, iv r5, iv r6, rv b7, .unset] [(.int v186)] _
      refine st50 _ ?_
      refine XS.iload X50.here hx rfl (hb hby at_189) rfl ?_
      refine XS.iconst X50.here hx rfl (hb hby at_191) ?_
      refine XS.icmpNo X50.here hx rfl (hb hby at_192) rfl (tlt (by decide : ((1 : Int32) < (2 : Int32)))).2.2.2 ?_
      show oS p e below T50 m 195 #[iv x1, iv x2, iv x3, lv x4, .second, lv x5, .second, lv x6, .second, iv (2 : Int32), iv x3, iv r1, iv r2, iv r3, iv r4, iv r5, iv r6, rv b7, .unset] [(.int (if v186 = (0 : Int32) then (0 : Int32) else (1 : Int32)))] _
      refine XS.iload X50.here hx rfl (hb hby at_195) rfl ?_
      refine XS.iloadN X50.here hx rfl (hb hby at_197) rfl ?_
      exact kt
    obtain ⟨v206, T55, Lj55, jv55, N55, X55, e55, st55⟩ := own_join (α := Int32) X50 N50 eh50 (mkF m 198 #[iv x1, iv x2, iv x3, lv x4, .second, lv x5, .second, lv x6, .second, iv (2 : Int32), iv x3, iv r1, iv r2, iv r3, iv r4, iv r5, iv r6, rv b7, .unset] [(.int x2), (.int r1), (.int (if v186 = (0 : Int32) then (0 : Int32) else (1 : Int32)))]) (fun v => (mkF m 206 #[iv x1, iv x2, iv x3, lv x4, .second, lv x5, .second, lv x6, .second, iv (2 : Int32), iv x3, iv r1, iv r2, iv r3, iv r4, iv r5, iv r6, rv b7, .unset] [(.int v), (.int (if v186 = (0 : Int32) then (0 : Int32) else (1 : Int32)))])) (fun v => v = (if x2 < r1 then (0 : Int32) else (1 : Int32))) (by
        by_cases hc198 : x2 < r1
        · have pre53 : ∀ tz, oS p e below T50 m 206 #[iv x1, iv x2, iv x3, lv x4, .second, lv x5, .second, lv x6, .second, iv (2 : Int32), iv x3, iv r1, iv r2, iv r3, iv r4, iv r5, iv r6, rv b7, .unset] [(.int (0 : Int32)), (.int (if v186 = (0 : Int32) then (0 : Int32) else (1 : Int32)))] tz → oS p e below T50 m 198 #[iv x1, iv x2, iv x3, lv x4, .second, lv x5, .second, lv x6, .second, iv (2 : Int32), iv x3, iv r1, iv r2, iv r3, iv r4, iv r5, iv r6, rv b7, .unset] [(.int x2), (.int r1), (.int (if v186 = (0 : Int32) then (0 : Int32) else (1 : Int32)))] tz := fun tz kt => by
            show oS p e below T50 m 198 #[iv x1, iv x2, iv x3, lv x4, .second, lv x5, .second, lv x6, .second, iv (2 : Int32), iv x3, iv r1, iv r2, iv r3, iv r4, iv r5, iv r6, rv b7, .unset] [(.int x2), (.int r1), (.int (if v186 = (0 : Int32) then (0 : Int32) else (1 : Int32)))] _
            refine XS.icmpYes X50.here hx rfl (pc0 := 198) (pc' := 205) rfl (hb hby at_198) rfl (tlt hc198).2.2.1 (by decide) (by decide) ?_
            refine XS.iconst X50.here hx rfl (hb hby at_205) ?_
            exact kt
          exact ⟨(0 : Int32), T50, _, (by rw [if_pos hc198]), N50, X50, eh50, fun tz kt => (pre53 _ kt)⟩
        · have pre54 : ∀ tz, oS p e below T50 m 206 #[iv x1, iv x2, iv x3, lv x4, .second, lv x5, .second, lv x6, .second, iv (2 : Int32), iv x3, iv r1, iv r2, iv r3, iv r4, iv r5, iv r6, rv b7, .unset] [(.int (1 : Int32)), (.int (if v186 = (0 : Int32) then (0 : Int32) else (1 : Int32)))] tz → oS p e below T50 m 198 #[iv x1, iv x2, iv x3, lv x4, .second, lv x5, .second, lv x6, .second, iv (2 : Int32), iv x3, iv r1, iv r2, iv r3, iv r4, iv r5, iv r6, rv b7, .unset] [(.int x2), (.int r1), (.int (if v186 = (0 : Int32) then (0 : Int32) else (1 : Int32)))] tz := fun tz kt => by
            show oS p e below T50 m 198 #[iv x1, iv x2, iv x3, lv x4, .second, lv x5, .second, lv x6, .second, iv (2 : Int32), iv x3, iv r1, iv r2, iv r3, iv r4, iv r5, iv r6, rv b7, .unset] [(.int x2), (.int r1), (.int (if v186 = (0 : Int32) then (0 : Int32) else (1 : Int32)))] _
            refine XS.icmpNo X50.here hx rfl (hb hby at_198) rfl (flt hc198).2.2.1 ?_
            refine XS.iconst X50.here hx rfl (hb hby at_201) ?_
            refine XS.goto X50.here hx rfl (pc0 := 202) (pc' := 206) rfl (hb hby at_202) (by decide) (by decide) ?_
            exact kt
          exact ⟨(1 : Int32), T50, _, (by rw [if_neg hc198]), N50, X50, eh50, fun tz kt => (pre54 _ kt)⟩)
    have hv206 : v206 = (if x2 < r1 then (0 : Int32) else (1 : Int32)) := jv55
    obtain ⟨_, _, ⟨T56, Lw56, kw56, nw56⟩, -, X56, ⟨Lc56, hQ56, l56, y56, z56⟩, st56⟩ := Jvm.LawKit.callS X55 hx (y := (⟨oz1, "one", "(Z)I"⟩ : MethodName)) hown (mvT hZ (own_w hw 22 rfl)) (mvT hZ (own_w hw 23 rfl)) (mvT hZ (own_w hw 2 rfl)) (mvT hZ (own_w hw 24 rfl)) (by decide) (backOf (W := 1) (rm5 l Z a0 hw [] v206 T43.heap n0 Zc51 ) hZ (own_w hw 24 rfl) (own_w hw 2 rfl) (by decide) (by decide)) (g := (mkF m 206 #[iv x1, iv x2, iv x3, lv x4, .second, lv x5, .second, lv x6, .second, iv (2 : Int32), iv x3, iv r1, iv r2, iv r3, iv r4, iv r5, iv r6, rv b7, .unset] [(.int v206), (.int (if v186 = (0 : Int32) then (0 : Int32) else (1 : Int32)))])) rfl (by rw [hml]; rfl) (argsL := [(.int v206)]) (rest := [(.int (if v186 = (0 : Int32) then (0 : Int32) else (1 : Int32)))]) (lenOf own_pd5 rfl) rfl (by show 2 * 0 + _ ≤ _; exact Nat.le_of_eq rfl) (hb hby at_206) (fun _ _ => ⟨rfl, e55, (by decide : 2 + 0 ≤ _), (by decide : 6 + 0 ≤ _)⟩)
    dsimp only [Pt.U, Pt.locs, Pt.cells, Pt.slots] at X56 l56 y56 z56 st56 hQ56
    subst l56 y56 z56
    obtain ⟨rfl, Nq56, eh56⟩ := hQ56
    have N56 := Fr.app N55 Nq56
    obtain ⟨_, _, ⟨T57, Lw57, kw57, nw57⟩, -, X57, ⟨Lc57, hQ57, l57, y57, z57⟩, st57⟩ := Jvm.LawKit.callS X56 hx (y := (⟨oz1, "one", "(Z)I"⟩ : MethodName)) hown (mvT hZ (own_w hw 22 rfl)) (mvT hZ (own_w hw 23 rfl)) (mvT hZ (own_w hw 2 rfl)) (mvT hZ (own_w hw 24 rfl)) (by decide) (backOf (W := 1) (rm5 l Z a0 hw [] (0 : Int32) T43.heap n0 Zc51 ) hZ (own_w hw 24 rfl) (own_w hw 2 rfl) (by decide) (by decide)) (g := (mkF m 227 #[iv x1, iv x2, iv x3, lv x4, .second, lv x5, .second, lv x6, .second, iv (2 : Int32), iv x3, iv r1, iv r2, iv r3, iv r4, iv r5, iv r6, rv b7, .unset] [(.int (0 : Int32)), (.int ((if v186 = (0 : Int32) then (0 : Int32) else (1 : Int32)) + (if v206 = (0 : Int32) then (0 : Int32) else (1 : Int32))))])) rfl (by rw [hml]; rfl) (argsL := [(.int (0 : Int32))]) (rest := [(.int ((if v186 = (0 : Int32) then (0 : Int32) else (1 : Int32)) + (if v206 = (0 : Int32) then (0 : Int32) else (1 : Int32))))]) (lenOf own_pd5 rfl) rfl (by show 2 * 0 + _ ≤ _; exact Nat.le_of_eq rfl) (hb hby at_227) (fun _ _ => ⟨rfl, eh56, (by decide : 2 + 0 ≤ _), (by decide : 6 + 0 ≤ _)⟩)
    dsimp only [Pt.U, Pt.locs, Pt.cells, Pt.slots] at X57 l57 y57 z57 st57 hQ57
    subst l57 y57 z57
    obtain ⟨rfl, Nq57, eh57⟩ := hQ57
    have N57 := Fr.app N56 Nq57
    obtain ⟨_, _, ⟨T58, Lw58, kw58, nw58⟩, -, X58, ⟨Lc58, hQ58, l58, y58, z58⟩, st58⟩ := Jvm.LawKit.callS X57 hx (y := (⟨oz1, "one", "(Z)I"⟩ : MethodName)) hown (mvT hZ (own_w hw 22 rfl)) (mvT hZ (own_w hw 23 rfl)) (mvT hZ (own_w hw 2 rfl)) (mvT hZ (own_w hw 24 rfl)) (by decide) (backOf (W := 1) (rm5 l Z a0 hw [] (0 : Int32) T43.heap n0 Zc51 ) hZ (own_w hw 24 rfl) (own_w hw 2 rfl) (by decide) (by decide)) (g := (mkF m 248 #[iv x1, iv x2, iv x3, lv x4, .second, lv x5, .second, lv x6, .second, iv (2 : Int32), iv x3, iv r1, iv r2, iv r3, iv r4, iv r5, iv r6, rv b7, .unset] [(.int (0 : Int32)), (.int (((if v186 = (0 : Int32) then (0 : Int32) else (1 : Int32)) + (if v206 = (0 : Int32) then (0 : Int32) else (1 : Int32))) + (0 : Int32)))])) rfl (by rw [hml]; rfl) (argsL := [(.int (0 : Int32))]) (rest := [(.int (((if v186 = (0 : Int32) then (0 : Int32) else (1 : Int32)) + (if v206 = (0 : Int32) then (0 : Int32) else (1 : Int32))) + (0 : Int32)))]) (lenOf own_pd5 rfl) rfl (by show 2 * 0 + _ ≤ _; exact Nat.le_of_eq rfl) (hb hby at_248) (fun _ _ => ⟨rfl, eh57, (by decide : 2 + 0 ≤ _), (by decide : 6 + 0 ≤ _)⟩)
    dsimp only [Pt.U, Pt.locs, Pt.cells, Pt.slots] at X58 l58 y58 z58 st58 hQ58
    subst l58 y58 z58
    obtain ⟨rfl, Nq58, eh58⟩ := hQ58
    have N58 := Fr.app N57 Nq58
    obtain ⟨_, _, ⟨T59, Lw59, kw59, nw59⟩, -, X59, ⟨Lc59, hQ59, l59, y59, z59⟩, st59⟩ := Jvm.LawKit.callS X58 hx (y := (⟨oz1, "one", "(Z)I"⟩ : MethodName)) hown (mvT hZ (own_w hw 22 rfl)) (mvT hZ (own_w hw 23 rfl)) (mvT hZ (own_w hw 2 rfl)) (mvT hZ (own_w hw 24 rfl)) (by decide) (backOf (W := 1) (rm5 l Z a0 hw [] (0 : Int32) T43.heap n0 Zc51 ) hZ (own_w hw 24 rfl) (own_w hw 2 rfl) (by decide) (by decide)) (g := (mkF m 269 #[iv x1, iv x2, iv x3, lv x4, .second, lv x5, .second, lv x6, .second, iv (2 : Int32), iv x3, iv r1, iv r2, iv r3, iv r4, iv r5, iv r6, rv b7, .unset] [(.int (0 : Int32)), (.int ((((if v186 = (0 : Int32) then (0 : Int32) else (1 : Int32)) + (if v206 = (0 : Int32) then (0 : Int32) else (1 : Int32))) + (0 : Int32)) + (0 : Int32)))])) rfl (by rw [hml]; rfl) (argsL := [(.int (0 : Int32))]) (rest := [(.int ((((if v186 = (0 : Int32) then (0 : Int32) else (1 : Int32)) + (if v206 = (0 : Int32) then (0 : Int32) else (1 : Int32))) + (0 : Int32)) + (0 : Int32)))]) (lenOf own_pd5 rfl) rfl (by show 2 * 0 + _ ≤ _; exact Nat.le_of_eq rfl) (hb hby at_269) (fun _ _ => ⟨rfl, eh58, (by decide : 2 + 0 ≤ _), (by decide : 6 + 0 ≤ _)⟩)
    dsimp only [Pt.U, Pt.locs, Pt.cells, Pt.slots] at X59 l59 y59 z59 st59 hQ59
    subst l59 y59 z59
    obtain ⟨rfl, Nq59, eh59⟩ := hQ59
    have N59 := Fr.app N58 Nq59
    obtain ⟨_, _, ⟨T60, Lw60, kw60, nw60⟩, -, X60, ⟨Lc60, hQ60, l60, y60, z60⟩, st60⟩ := Jvm.LawKit.callS X59 hx (y := (⟨oz1, "one", "(Z)I"⟩ : MethodName)) hown (mvT hZ (own_w hw 22 rfl)) (mvT hZ (own_w hw 23 rfl)) (mvT hZ (own_w hw 2 rfl)) (mvT hZ (own_w hw 24 rfl)) (by decide) (backOf (W := 1) (rm5 l Z a0 hw [] (0 : Int32) T43.heap n0 Zc51 ) hZ (own_w hw 24 rfl) (own_w hw 2 rfl) (by decide) (by decide)) (g := (mkF m 290 #[iv x1, iv x2, iv x3, lv x4, .second, lv x5, .second, lv x6, .second, iv (2 : Int32), iv x3, iv r1, iv r2, iv r3, iv r4, iv r5, iv r6, rv b7, .unset] [(.int (0 : Int32)), (.int (((((if v186 = (0 : Int32) then (0 : Int32) else (1 : Int32)) + (if v206 = (0 : Int32) then (0 : Int32) else (1 : Int32))) + (0 : Int32)) + (0 : Int32)) + (0 : Int32)))])) rfl (by rw [hml]; rfl) (argsL := [(.int (0 : Int32))]) (rest := [(.int (((((if v186 = (0 : Int32) then (0 : Int32) else (1 : Int32)) + (if v206 = (0 : Int32) then (0 : Int32) else (1 : Int32))) + (0 : Int32)) + (0 : Int32)) + (0 : Int32)))]) (lenOf own_pd5 rfl) rfl (by show 2 * 0 + _ ≤ _; exact Nat.le_of_eq rfl) (hb hby at_290) (fun _ _ => ⟨rfl, eh59, (by decide : 2 + 0 ≤ _), (by decide : 6 + 0 ≤ _)⟩)
    dsimp only [Pt.U, Pt.locs, Pt.cells, Pt.slots] at X60 l60 y60 z60 st60 hQ60
    subst l60 y60 z60
    obtain ⟨rfl, Nq60, eh60⟩ := hQ60
    have N60 := Fr.app N59 Nq60
    obtain ⟨_, _, ⟨T61, Lw61, kw61, nw61⟩, -, X61, ⟨Lc61, hQ61, l61, y61, z61⟩, st61⟩ := Jvm.LawKit.callS X60 hx (y := (⟨oz1, "one", "(Z)I"⟩ : MethodName)) hown (mvT hZ (own_w hw 22 rfl)) (mvT hZ (own_w hw 23 rfl)) (mvT hZ (own_w hw 2 rfl)) (mvT hZ (own_w hw 24 rfl)) (by decide) (backOf (W := 1) (rm5 l Z a0 hw [] (0 : Int32) T43.heap n0 Zc51 ) hZ (own_w hw 24 rfl) (own_w hw 2 rfl) (by decide) (by decide)) (g := (mkF m 312 #[iv x1, iv x2, iv x3, lv x4, .second, lv x5, .second, lv x6, .second, iv (2 : Int32), iv x3, iv r1, iv r2, iv r3, iv r4, iv r5, iv r6, rv b7, .unset] [(.int (0 : Int32)), (.int ((((((if v186 = (0 : Int32) then (0 : Int32) else (1 : Int32)) + (if v206 = (0 : Int32) then (0 : Int32) else (1 : Int32))) + (0 : Int32)) + (0 : Int32)) + (0 : Int32)) + (0 : Int32)))])) rfl (by rw [hml]; rfl) (argsL := [(.int (0 : Int32))]) (rest := [(.int ((((((if v186 = (0 : Int32) then (0 : Int32) else (1 : Int32)) + (if v206 = (0 : Int32) then (0 : Int32) else (1 : Int32))) + (0 : Int32)) + (0 : Int32)) + (0 : Int32)) + (0 : Int32)))]) (lenOf own_pd5 rfl) rfl (by show 2 * 0 + _ ≤ _; exact Nat.le_of_eq rfl) (hb hby at_312) (fun _ _ => ⟨rfl, eh60, (by decide : 2 + 0 ≤ _), (by decide : 6 + 0 ≤ _)⟩)
    dsimp only [Pt.U, Pt.locs, Pt.cells, Pt.slots] at X61 l61 y61 z61 st61 hQ61
    subst l61 y61 z61
    obtain ⟨rfl, Nq61, eh61⟩ := hQ61
    have N61 := Fr.app N60 Nq61
    obtain ⟨y316, hy316⟩ : ∃ z, z = (((((((if v186 = (0 : Int32) then (0 : Int32) else (1 : Int32)) + (if v206 = (0 : Int32) then (0 : Int32) else (1 : Int32))) + (0 : Int32)) + (0 : Int32)) + (0 : Int32)) + (0 : Int32)) + (0 : Int32)) := ⟨_, rfl⟩
    have Ec63 : Exa Z T43.heap b7 oz0 := (Ec44.keep K43)
    obtain ⟨cq62, kq62, q62a, q62b, q62c⟩ := isOf hZ eh61 Ec63
    obtain ⟨_, _, ⟨T62, Lw62, kw62, nw62⟩, -, X62, ⟨Lc62, hQ62, l62, y62, z62⟩, st62⟩ := X61.virtualBack hx (y := (⟨oz0, "countAtMost", "(I)I"⟩ : MethodName)) (z := (⟨oz0, "countAtMost", "(I)I"⟩ : MethodName)) hown (mvT hZ (own_w hw 25 rfl)) (mvT hZ (own_w hw 26 rfl)) (notFace_of_selects (args := #[]) (mvT hZ (own_w hw 28 rfl))) (mvT hZ (own_w hw 28 rfl)) (mvT hZ (own_w hw 27 rfl)) (by decide) (backOf (W := 0) (rmC2 l Z a0 hw [] b7 x2 x3 r1 b8 k8 T43.heap n0 Zc51 Ec63 pf43_0 pf43_1 pf43_2) hZ (own_w hw 29 rfl) (own_w hw 12 rfl) (by decide) (by decide)) q62a q62c (g := (mkF m 321 #[iv x1, iv x2, iv x3, lv x4, .second, lv x5, .second, lv x6, .second, iv (2 : Int32), iv x3, iv r1, iv r2, iv r3, iv r4, iv r5, iv r6, rv b7, iv y316] [(.int x2), (.ref b7)])) rfl (by rw [hml]; rfl) (Steps.refl _) (argsL := [(.int x2)]) (rest := []) (lenOf own_pd6 rfl) rfl (by show 2 * 0 + _ ≤ _; exact Nat.le_of_eq rfl) (hb hby at_321) (fun _ _ => ⟨rfl, eh61, (by decide : 2 + 0 ≤ _), (by decide : 6 + 0 ≤ _)⟩)
    dsimp only [Pt.U, Pt.locs, Pt.cells, Pt.slots] at X62 l62 y62 z62 st62 hQ62
    subst l62 y62 z62
    obtain ⟨rfl, Nq62, eh62⟩ := hQ62
    have N62 := Fr.app N61 Nq62
    have hc326 : (if x2 < r1 then (if x2 < x3 then (0 : Int32) else (1 : Int32)) else (2 : Int32)) = y316 := Classical.byContradiction fun hc326 => by
      subst hy316 hv206 hv186
      exact hc326 (own_cnt2 x2 x3 r1 pf1_0)
    have pre64 : ∀ tz, oS p e below T62 m 334 #[iv x1, iv x2, iv x3, lv x4, .second, lv x5, .second, lv x6, .second, iv (2 : Int32), iv x3, iv r1, iv r2, iv r3, iv r4, iv r5, iv r6, rv b7, iv y316] [(.int (1 : Int32))] tz → oS p e below T50 m 198 #[iv x1, iv x2, iv x3, lv x4, .second, lv x5, .second, lv x6, .second, iv (2 : Int32), iv x3, iv r1, iv r2, iv r3, iv r4, iv r5, iv r6, rv b7, .unset] [(.int x2), (.int r1), (.int (if v186 = (0 : Int32) then (0 : Int32) else (1 : Int32)))] tz := fun tz kt => by
      show oS p e below T50 m 198 #[iv x1, iv x2, iv x3, lv x4, .second, lv x5, .second, lv x6, .second, iv (2 : Int32), iv x3, iv r1, iv r2, iv r3, iv r4, iv r5, iv r6, rv b7, .unset] [(.int x2), (.int r1), (.int (if v186 = (0 : Int32) then (0 : Int32) else (1 : Int32)))] _
      refine st55 _ ?_
      show oS p e below T55 m 206 #[iv x1, iv x2, iv x3, lv x4, .second, lv x5, .second, lv x6, .second, iv (2 : Int32), iv x3, iv r1, iv r2, iv r3, iv r4, iv r5, iv r6, rv b7, .unset] [(.int v206), (.int (if v186 = (0 : Int32) then (0 : Int32) else (1 : Int32)))] _
      refine st56 _ ?_
      refine XS.iadd X56.here hx rfl (hb hby at_209) rfl ?_
      refine XS.iload X56.here hx rfl (hb hby at_210) rfl ?_
      refine XS.iconst X56.here hx rfl (hb hby at_212) ?_
      show oS p e below T56 m 213 #[iv x1, iv x2, iv x3, lv x4, .second, lv x5, .second, lv x6, .second, iv (2 : Int32), iv x3, iv r1, iv r2, iv r3, iv r4, iv r5, iv r6, rv b7, .unset] [(.int (2 : Int32)), (.int (2 : Int32)), (.int ((if v186 = (0 : Int32) then (0 : Int32) else (1 : Int32)) + (if v206 = (0 : Int32) then (0 : Int32) else (1 : Int32))))] _
      refine XS.icmpYes X56.here hx rfl (pc0 := 213) (pc' := 226) rfl (hb hby at_213) rfl (flt (by decide : ¬ ((2 : Int32) < (2 : Int32)))).2.2.2 (by decide) (by decide) ?_
      refine XS.iconst X56.here hx rfl (hb hby at_226) ?_
      show oS p e below T56 m 227 #[iv x1, iv x2, iv x3, lv x4, .second, lv x5, .second, lv x6, .second, iv (2 : Int32), iv x3, iv r1, iv r2, iv r3, iv r4, iv r5, iv r6, rv b7, .unset] [(.int (0 : Int32)), (.int ((if v186 = (0 : Int32) then (0 : Int32) else (1 : Int32)) + (if v206 = (0 : Int32) then (0 : Int32) else (1 : Int32))))] _
      refine st57 _ ?_
      rw [((if_pos (by decide : (0 : Int32) = (0 : Int32))) : (if (0 : Int32) = (0 : Int32) then (0 : Int32) else (1 : Int32)) = (0 : Int32))]
      show oS p e below T57 m 230 #[iv x1, iv x2, iv x3, lv x4, .second, lv x5, .second, lv x6, .second, iv (2 : Int32), iv x3, iv r1, iv r2, iv r3, iv r4, iv r5, iv r6, rv b7, .unset] [(.int (0 : Int32)), (.int ((if v186 = (0 : Int32) then (0 : Int32) else (1 : Int32)) + (if v206 = (0 : Int32) then (0 : Int32) else (1 : Int32))))] _
      refine XS.iadd X57.here hx rfl (hb hby at_230) rfl ?_
      refine XS.iload X57.here hx rfl (hb hby at_231) rfl ?_
      refine XS.iconst X57.here hx rfl (hb hby at_233) ?_
      refine XS.icmpYes X57.here hx rfl (pc0 := 234) (pc' := 247) rfl (hb hby at_234) rfl (flt (by decide : ¬ ((3 : Int32) < (2 : Int32)))).2.2.2 (by decide) (by decide) ?_
      show oS p e below T57 m 247 #[iv x1, iv x2, iv x3, lv x4, .second, lv x5, .second, lv x6, .second, iv (2 : Int32), iv x3, iv r1, iv r2, iv r3, iv r4, iv r5, iv r6, rv b7, .unset] [(.int (((if v186 = (0 : Int32) then (0 : Int32) else (1 : Int32)) + (if v206 = (0 : Int32) then (0 : Int32) else (1 : Int32))) + (0 : Int32)))] _
      refine XS.iconst X57.here hx rfl (hb hby at_247) ?_
      show oS p e below T57 m 248 #[iv x1, iv x2, iv x3, lv x4, .second, lv x5, .second, lv x6, .second, iv (2 : Int32), iv x3, iv r1, iv r2, iv r3, iv r4, iv r5, iv r6, rv b7, .unset] [(.int (0 : Int32)), (.int (((if v186 = (0 : Int32) then (0 : Int32) else (1 : Int32)) + (if v206 = (0 : Int32) then (0 : Int32) else (1 : Int32))) + (0 : Int32)))] _
      refine st58 _ ?_
      rw [((if_pos (by decide : (0 : Int32) = (0 : Int32))) : (if (0 : Int32) = (0 : Int32) then (0 : Int32) else (1 : Int32)) = (0 : Int32))]
      show oS p e below T58 m 251 #[iv x1, iv x2, iv x3, lv x4, .second, lv x5, .second, lv x6, .second, iv (2 : Int32), iv x3, iv r1, iv r2, iv r3, iv r4, iv r5, iv r6, rv b7, .unset] [(.int (0 : Int32)), (.int (((if v186 = (0 : Int32) then (0 : Int32) else (1 : Int32)) + (if v206 = (0 : Int32) then (0 : Int32) else (1 : Int32))) + (0 : Int32)))] _
      refine XS.iadd X58.here hx rfl (hb hby at_251) rfl ?_
      refine XS.iload X58.here hx rfl (hb hby at_252) rfl ?_
      refine XS.iconst X58.here hx rfl (hb hby at_254) ?_
      refine XS.icmpYes X58.here hx rfl (pc0 := 255) (pc' := 268) rfl (hb hby at_255) rfl (flt (by decide : ¬ ((4 : Int32) < (2 : Int32)))).2.2.2 (by decide) (by decide) ?_
      show oS p e below T58 m 268 #[iv x1, iv x2, iv x3, lv x4, .second, lv x5, .second, lv x6, .second, iv (2 : Int32), iv x3, iv r1, iv r2, iv r3, iv r4, iv r5, iv r6, rv b7, .unset] [(.int ((((if v186 = (0 : Int32) then (0 : Int32) else (1 : Int32)) + (if v206 = (0 : Int32) then (0 : Int32) else (1 : Int32))) + (0 : Int32)) + (0 : Int32)))] _
      refine XS.iconst X58.here hx rfl (hb hby at_268) ?_
      show oS p e below T58 m 269 #[iv x1, iv x2, iv x3, lv x4, .second, lv x5, .second, lv x6, .second, iv (2 : Int32), iv x3, iv r1, iv r2, iv r3, iv r4, iv r5, iv r6, rv b7, .unset] [(.int (0 : Int32)), (.int ((((if v186 = (0 : Int32) then (0 : Int32) else (1 : Int32)) + (if v206 = (0 : Int32) then (0 : Int32) else (1 : Int32))) + (0 : Int32)) + (0 : Int32)))] _
      refine st59 _ ?_
      rw [((if_pos (by decide : (0 : Int32) = (0 : Int32))) : (if (0 : Int32) = (0 : Int32) then (0 : Int32) else (1 : Int32)) = (0 : Int32))]
      show oS p e below T59 m 272 #[iv x1, iv x2, iv x3, lv x4, .second, lv x5, .second, lv x6, .second, iv (2 : Int32), iv x3, iv r1, iv r2, iv r3, iv r4, iv r5, iv r6, rv b7, .unset] [(.int (0 : Int32)), (.int ((((if v186 = (0 : Int32) then (0 : Int32) else (1 : Int32)) + (if v206 = (0 : Int32) then (0 : Int32) else (1 : Int32))) + (0 : Int32)) + (0 : Int32)))] _
      refine XS.iadd X59.here hx rfl (hb hby at_272) rfl ?_
      refine XS.iload X59.here hx rfl (hb hby at_273) rfl ?_
      refine XS.iconst X59.here hx rfl (hb hby at_275) ?_
      refine XS.icmpYes X59.here hx rfl (pc0 := 276) (pc' := 289) rfl (hb hby at_276) rfl (flt (by decide : ¬ ((5 : Int32) < (2 : Int32)))).2.2.2 (by decide) (by decide) ?_
      show oS p e below T59 m 289 #[iv x1, iv x2, iv x3, lv x4, .second, lv x5, .second, lv x6, .second, iv (2 : Int32), iv x3, iv r1, iv r2, iv r3, iv r4, iv r5, iv r6, rv b7, .unset] [(.int (((((if v186 = (0 : Int32) then (0 : Int32) else (1 : Int32)) + (if v206 = (0 : Int32) then (0 : Int32) else (1 : Int32))) + (0 : Int32)) + (0 : Int32)) + (0 : Int32)))] _
      refine XS.iconst X59.here hx rfl (hb hby at_289) ?_
      show oS p e below T59 m 290 #[iv x1, iv x2, iv x3, lv x4, .second, lv x5, .second, lv x6, .second, iv (2 : Int32), iv x3, iv r1, iv r2, iv r3, iv r4, iv r5, iv r6, rv b7, .unset] [(.int (0 : Int32)), (.int (((((if v186 = (0 : Int32) then (0 : Int32) else (1 : Int32)) + (if v206 = (0 : Int32) then (0 : Int32) else (1 : Int32))) + (0 : Int32)) + (0 : Int32)) + (0 : Int32)))] _
      refine st60 _ ?_
      rw [((if_pos (by decide : (0 : Int32) = (0 : Int32))) : (if (0 : Int32) = (0 : Int32) then (0 : Int32) else (1 : Int32)) = (0 : Int32))]
      show oS p e below T60 m 293 #[iv x1, iv x2, iv x3, lv x4, .second, lv x5, .second, lv x6, .second, iv (2 : Int32), iv x3, iv r1, iv r2, iv r3, iv r4, iv r5, iv r6, rv b7, .unset] [(.int (0 : Int32)), (.int (((((if v186 = (0 : Int32) then (0 : Int32) else (1 : Int32)) + (if v206 = (0 : Int32) then (0 : Int32) else (1 : Int32))) + (0 : Int32)) + (0 : Int32)) + (0 : Int32)))] _
      refine XS.iadd X60.here hx rfl (hb hby at_293) rfl ?_
      refine XS.iload X60.here hx rfl (hb hby at_294) rfl ?_
      refine XS.bipush X60.here hx rfl (hb hby at_296) ?_
      refine XS.icmpYes X60.here hx rfl (pc0 := 298) (pc' := 311) rfl (hb hby at_298) rfl (flt (by decide : ¬ ((6 : Int32) < (2 : Int32)))).2.2.2 (by decide) (by decide) ?_
      show oS p e below T60 m 311 #[iv x1, iv x2, iv x3, lv x4, .second, lv x5, .second, lv x6, .second, iv (2 : Int32), iv x3, iv r1, iv r2, iv r3, iv r4, iv r5, iv r6, rv b7, .unset] [(.int ((((((if v186 = (0 : Int32) then (0 : Int32) else (1 : Int32)) + (if v206 = (0 : Int32) then (0 : Int32) else (1 : Int32))) + (0 : Int32)) + (0 : Int32)) + (0 : Int32)) + (0 : Int32)))] _
      refine XS.iconst X60.here hx rfl (hb hby at_311) ?_
      show oS p e below T60 m 312 #[iv x1, iv x2, iv x3, lv x4, .second, lv x5, .second, lv x6, .second, iv (2 : Int32), iv x3, iv r1, iv r2, iv r3, iv r4, iv r5, iv r6, rv b7, .unset] [(.int (0 : Int32)), (.int ((((((if v186 = (0 : Int32) then (0 : Int32) else (1 : Int32)) + (if v206 = (0 : Int32) then (0 : Int32) else (1 : Int32))) + (0 : Int32)) + (0 : Int32)) + (0 : Int32)) + (0 : Int32)))] _
      refine st61 _ ?_
      rw [((if_pos (by decide : (0 : Int32) = (0 : Int32))) : (if (0 : Int32) = (0 : Int32) then (0 : Int32) else (1 : Int32)) = (0 : Int32))]
      show oS p e below T61 m 315 #[iv x1, iv x2, iv x3, lv x4, .second, lv x5, .second, lv x6, .second, iv (2 : Int32), iv x3, iv r1, iv r2, iv r3, iv r4, iv r5, iv r6, rv b7, .unset] [(.int (0 : Int32)), (.int ((((((if v186 = (0 : Int32) then (0 : Int32) else (1 : Int32)) + (if v206 = (0 : Int32) then (0 : Int32) else (1 : Int32))) + (0 : Int32)) + (0 : Int32)) + (0 : Int32)) + (0 : Int32)))] _
      refine XS.iadd X61.here hx rfl (hb hby at_315) rfl ?_
      refine XS.istore X61.here hx rfl (hb hby at_316) rfl (l' := #[iv x1, iv x2, iv x3, lv x4, .second, lv x5, .second, lv x6, .second, iv (2 : Int32), iv x3, iv r1, iv r2, iv r3, iv r4, iv r5, iv r6, rv b7, iv y316]) (by rw [hy316]; rfl) ?_
      refine XS.aload X61.here hx rfl (hb hby at_318) rfl rfl ?_
      refine XS.iloadN X61.here hx rfl (hb hby at_320) rfl ?_
      show oS p e below T61 m 321 #[iv x1, iv x2, iv x3, lv x4, .second, lv x5, .second, lv x6, .second, iv (2 : Int32), iv x3, iv r1, iv r2, iv r3, iv r4, iv r5, iv r6, rv b7, iv y316] [(.int x2), (.ref b7)] _
      refine st62.trans ?_
      refine XS.iload X62.here hx rfl (hb hby at_324) rfl ?_
      refine XS.icmpNo X62.here hx rfl (hb hby at_326) rfl (teq hc326).2 ?_
      refine XS.iconst X62.here hx rfl (hb hby at_329) ?_
      show oS p e below T62 m 330 #[iv x1, iv x2, iv x3, lv x4, .second, lv x5, .second, lv x6, .second, iv (2 : Int32), iv x3, iv r1, iv r2, iv r3, iv r4, iv r5, iv r6, rv b7, iv y316] [(.int (1 : Int32))] _
      refine XS.goto X62.here hx rfl (pc0 := 330) (pc' := 334) rfl (hb hby at_330) (by decide) (by decide) ?_
      exact kt
    obtain ⟨fs, hr, hrun, hended, hW, hsame⟩ := X62.leave (v := some (.int (1 : Int32))) (fun h => by rw [Bd.returns] at h; cases h)
    refine ⟨_, _, pre0 _ (pre10 _ (pre46 _ (pre52 _ (pre64 _ ?_)))), hrun, hended, _, _, rfl, ?_, ⟨_, rfl⟩, hW, hsame.mono (by decide) (by decide)⟩
    · show oS p e below T62 m 334 #[iv x1, iv x2, iv x3, lv x4, .second, lv x5, .second, lv x6, .second, iv (2 : Int32), iv x3, iv r1, iv r2, iv r3, iv r4, iv r5, iv r6, rv b7, iv y316] [(.int (1 : Int32))] _
      exact retN X62 hx (t := .boolean) Bd.returns (by simp) (hb hby at_334) hr
    · show Q0 Z x1 x2 x3 x4 x5 x6 h0 n0 _ T62.heap _
      rw [eh62]
      exact ⟨rfl, N62⟩
  · subst hn
    have Ec66 : Exa Z T8.heap b7 oz0 := (A7.keep K8)
    have Zc67 : n0 ≤ T8.heap.size := (Nat.le_trans Zc9 K8.1)
    obtain ⟨cq65, kq65, q65a, q65b, q65c⟩ := isOf hZ rfl Ec66
    obtain ⟨_, _, ⟨T65, Lw65, kw65, nw65⟩, -, X65, ⟨Lc65, hQ65, l65, y65, z65⟩, st65⟩ := X8.virtualBack hx (y := (⟨oz0, "add", "(I)V"⟩ : MethodName)) (z := (⟨oz0, "add", "(I)V"⟩ : MethodName)) hown (mvT hZ (own_w hw 32 rfl)) (mvT hZ (own_w hw 33 rfl)) (notFace_of_selects (args := #[]) (mvT hZ (own_w hw 35 rfl))) (mvT hZ (own_w hw 35 rfl)) (mvT hZ (own_w hw 34 rfl)) (by decide) (backOf (W := 0) (rmA0 l Z a0 hw [] b7 x3 b8 k8 T8.heap n0 Zc67 Ec66 g_b7 pf8_1 ne_b7_b8 pf8_3 pf8_2 pf8_4) hZ (own_w hw 36 rfl) (own_w hw 12 rfl) (by decide) (by decide)) q65a q65c (g := (mkF m 88 #[iv x1, iv x2, iv x3, lv x4, .second, lv x5, .second, lv x6, .second, iv (3 : Int32), iv x3, iv r1, iv r2, iv r3, iv r4, iv r5, iv r6, rv b7, .unset] [(.int x3), (.ref b7)])) rfl (by rw [hml]; rfl) (Steps.refl _) (argsL := [(.int x3)]) (rest := []) (lenOf own_pd7 rfl) rfl (by show 2 * 0 + _ ≤ _; exact Nat.le_of_eq rfl) (hb hby at_88) (fun _ _ => ⟨rfl, rfl, (by decide : 2 + 0 ≤ _), (by decide : 6 + 0 ≤ _)⟩)
    dsimp only [Pt.U, Pt.locs, Pt.cells, Pt.slots] at X65 l65 y65 z65 st65 hQ65
    subst l65 y65 z65
    obtain ⟨rfl, Nq65, K65, pf65_0, pf65_1, pf65_2⟩ := hQ65
    have N65 := Fr.app N8 Nq65
    have Ec69 : Exa Z T65.heap b7 oz0 := (Ec66.keep K65)
    have Zc70 : n0 ≤ T65.heap.size := (Nat.le_trans Zc67 K65.1)
    obtain ⟨cq68, kq68, q68a, q68b, q68c⟩ := isOf hZ rfl Ec69
    obtain ⟨_, _, ⟨T68, Lw68, kw68, nw68⟩, -, X68, ⟨Lc68, hQ68, l68, y68, z68⟩, st68⟩ := X65.virtualBack hx (y := (⟨oz0, "add", "(I)V"⟩ : MethodName)) (z := (⟨oz0, "add", "(I)V"⟩ : MethodName)) hown (mvT hZ (own_w hw 32 rfl)) (mvT hZ (own_w hw 33 rfl)) (notFace_of_selects (args := #[]) (mvT hZ (own_w hw 35 rfl))) (mvT hZ (own_w hw 35 rfl)) (mvT hZ (own_w hw 34 rfl)) (by decide) (backOf (W := 0) (rmA1 l Z a0 hw [] b7 r1 x3 b8 k8 T65.heap n0 Zc70 Ec69 g_b7 pf8_1 ne_b7_b8 pf65_0 pf65_1 pf65_2) hZ (own_w hw 36 rfl) (own_w hw 12 rfl) (by decide) (by decide)) q68a q68c (g := (mkF m 101 #[iv x1, iv x2, iv x3, lv x4, .second, lv x5, .second, lv x6, .second, iv (3 : Int32), iv x3, iv r1, iv r2, iv r3, iv r4, iv r5, iv r6, rv b7, .unset] [(.int r1), (.ref b7)])) rfl (by rw [hml]; rfl) (Steps.refl _) (argsL := [(.int r1)]) (rest := []) (lenOf own_pd7 rfl) rfl (by show 2 * 0 + _ ≤ _; exact Nat.le_of_eq rfl) (hb hby at_101) (fun _ _ => ⟨rfl, rfl, (by decide : 2 + 0 ≤ _), (by decide : 6 + 0 ≤ _)⟩)
    dsimp only [Pt.U, Pt.locs, Pt.cells, Pt.slots] at X68 l68 y68 z68 st68 hQ68
    subst l68 y68 z68
    obtain ⟨rfl, Nq68, K68, pf68_0, pf68_1, pf68_2⟩ := hQ68
    have N68 := Fr.app N65 Nq68
    have Ec72 : Exa Z T68.heap b7 oz0 := (Ec69.keep K68)
    have Zc73 : n0 ≤ T68.heap.size := (Nat.le_trans Zc70 K68.1)
    obtain ⟨cq71, kq71, q71a, q71b, q71c⟩ := isOf hZ rfl Ec72
    obtain ⟨_, _, ⟨T71, Lw71, kw71, nw71⟩, -, X71, ⟨Lc71, hQ71, l71, y71, z71⟩, st71⟩ := X68.virtualBack hx (y := (⟨oz0, "add", "(I)V"⟩ : MethodName)) (z := (⟨oz0, "add", "(I)V"⟩ : MethodName)) hown (mvT hZ (own_w hw 32 rfl)) (mvT hZ (own_w hw 33 rfl)) (notFace_of_selects (args := #[]) (mvT hZ (own_w hw 35 rfl))) (mvT hZ (own_w hw 35 rfl)) (mvT hZ (own_w hw 34 rfl)) (by decide) (backOf (W := 0) (rmA2 l Z a0 hw [] b7 r2 x3 r1 b8 k8 T68.heap n0 Zc73 Ec72 g_b7 pf8_1 ne_b7_b8 pf68_0 pf68_1 pf68_2) hZ (own_w hw 36 rfl) (own_w hw 12 rfl) (by decide) (by decide)) q71a q71c (g := (mkF m 114 #[iv x1, iv x2, iv x3, lv x4, .second, lv x5, .second, lv x6, .second, iv (3 : Int32), iv x3, iv r1, iv r2, iv r3, iv r4, iv r5, iv r6, rv b7, .unset] [(.int r2), (.ref b7)])) rfl (by rw [hml]; rfl) (Steps.refl _) (argsL := [(.int r2)]) (rest := []) (lenOf own_pd7 rfl) rfl (by show 2 * 0 + _ ≤ _; exact Nat.le_of_eq rfl) (hb hby at_114) (fun _ _ => ⟨rfl, rfl, (by decide : 2 + 0 ≤ _), (by decide : 6 + 0 ≤ _)⟩)
    dsimp only [Pt.U, Pt.locs, Pt.cells, Pt.slots] at X71 l71 y71 z71 st71 hQ71
    subst l71 y71 z71
    obtain ⟨rfl, Nq71, K71, pf71_0, pf71_1, pf71_2⟩ := hQ71
    have N71 := Fr.app N68 Nq71
    have pre74 : ∀ tz, oS p e below T71 m 178 #[iv x1, iv x2, iv x3, lv x4, .second, lv x5, .second, lv x6, .second, iv (3 : Int32), iv x3, iv r1, iv r2, iv r3, iv r4, iv r5, iv r6, rv b7, .unset] [(.int x2), (.int x3)] tz → oS p e below T8 m 79 #[iv x1, iv x2, iv x3, lv x4, .second, lv x5, .second, lv x6, .second, iv (3 : Int32), iv x3, iv r1, iv r2, iv r3, iv r4, iv r5, iv r6, rv b7, .unset] [] tz := fun tz kt => by
      show oS p e below T8 m 79 #[iv x1, iv x2, iv x3, lv x4, .second, lv x5, .second, lv x6, .second, iv (3 : Int32), iv x3, iv r1, iv r2, iv r3, iv r4, iv r5, iv r6, rv b7, .unset] [] _
      refine XS.iload X8.here hx rfl (hb hby at_79) rfl ?_
      refine XS.ifNo X8.here hx rfl (hb hby at_81) rfl ((if0 _ _).trans (tlt (by decide : ((0 : Int32) < (3 : Int32)))).2.2.2) ?_
      refine XS.aload X8.here hx rfl (hb hby at_84) rfl rfl ?_
      refine XS.iload X8.here hx rfl (hb hby at_86) rfl ?_
      show oS p e below T8 m 88 #[iv x1, iv x2, iv x3, lv x4, .second, lv x5, .second, lv x6, .second, iv (3 : Int32), iv x3, iv r1, iv r2, iv r3, iv r4, iv r5, iv r6, rv b7, .unset] [(.int x3), (.ref b7)] _
      refine st65.trans ?_
      refine XS.iload X65.here hx rfl (hb hby at_91) rfl ?_
      refine XS.iconst X65.here hx rfl (hb hby at_93) ?_
      refine XS.icmpNo X65.here hx rfl (hb hby at_94) rfl (tlt (by decide : ((1 : Int32) < (3 : Int32)))).2.2.2 ?_
      show oS p e below T65 m 97 #[iv x1, iv x2, iv x3, lv x4, .second, lv x5, .second, lv x6, .second, iv (3 : Int32), iv x3, iv r1, iv r2, iv r3, iv r4, iv r5, iv r6, rv b7, .unset] [] _
      refine XS.aload X65.here hx rfl (hb hby at_97) rfl rfl ?_
      refine XS.iload X65.here hx rfl (hb hby at_99) rfl ?_
      show oS p e below T65 m 101 #[iv x1, iv x2, iv x3, lv x4, .second, lv x5, .second, lv x6, .second, iv (3 : Int32), iv x3, iv r1, iv r2, iv r3, iv r4, iv r5, iv r6, rv b7, .unset] [(.int r1), (.ref b7)] _
      refine st68.trans ?_
      refine XS.iload X68.here hx rfl (hb hby at_104) rfl ?_
      refine XS.iconst X68.here hx rfl (hb hby at_106) ?_
      refine XS.icmpNo X68.here hx rfl (hb hby at_107) rfl (tlt (by decide : ((2 : Int32) < (3 : Int32)))).2.2.2 ?_
      show oS p e below T68 m 110 #[iv x1, iv x2, iv x3, lv x4, .second, lv x5, .second, lv x6, .second, iv (3 : Int32), iv x3, iv r1, iv r2, iv r3, iv r4, iv r5, iv r6, rv b7, .unset] [] _
      refine XS.aload X68.here hx rfl (hb hby at_110) rfl rfl ?_
      refine XS.iload X68.here hx rfl (hb hby at_112) rfl ?_
      show oS p e below T68 m 114 #[iv x1, iv x2, iv x3, lv x4, .second, lv x5, .second, lv x6, .second, iv (3 : Int32), iv x3, iv r1, iv r2, iv r3, iv r4, iv r5, iv r6, rv b7, .unset] [(.int r2), (.ref b7)] _
      refine st71.trans ?_
      refine XS.iload X71.here hx rfl (hb hby at_117) rfl ?_
      refine XS.iconst X71.here hx rfl (hb hby at_119) ?_
      refine XS.icmpYes X71.here hx rfl (pc0 := 120) (pc' := 130) rfl (hb hby at_120) rfl (flt (by decide : ¬ ((3 : Int32) < (3 : Int32)))).2.2.2 (by decide) (by decide) ?_
      show oS p e below T71 m 130 #[iv x1, iv x2, iv x3, lv x4, .second, lv x5, .second, lv x6, .second, iv (3 : Int32), iv x3, iv r1, iv r2, iv r3, iv r4, iv r5, iv r6, rv b7, .unset] [] _
      refine XS.iload X71.here hx rfl (hb hby at_130) rfl ?_
      refine XS.iconst X71.here hx rfl (hb hby at_132) ?_
      refine XS.icmpYes X71.here hx rfl (pc0 := 133) (pc' := 143) rfl (hb hby at_133) rfl (flt (by decide : ¬ ((4 : Int32) < (3 : Int32)))).2.2.2 (by decide) (by decide) ?_
      refine XS.iload X71.here hx rfl (hb hby at_143) rfl ?_
      show oS p e below T71 m 145 #[iv x1, iv x2, iv x3, lv x4, .second, lv x5, .second, lv x6, .second, iv (3 : Int32), iv x3, iv r1, iv r2, iv r3, iv r4, iv r5, iv r6, rv b7, .unset] [(.int (3 : Int32))] _
      refine XS.iconst X71.here hx rfl (hb hby at_145) ?_
      refine XS.icmpYes X71.here hx rfl (pc0 := 146) (pc' := 156) rfl (hb hby at_146) rfl (flt (by decide : ¬ ((5 : Int32) < (3 : Int32)))).2.2.2 (by decide) (by decide) ?_
      refine XS.iload X71.here hx rfl (hb hby at_156) rfl ?_
      refine XS.bipush X71.here hx rfl (hb hby at_158) ?_
      show oS p e below T71 m 160 #[iv x1, iv x2, iv x3, lv x4, .second, lv x5, .second, lv x6, .second, iv (3 : Int32), iv x3, iv r1, iv r2, iv r3, iv r4, iv r5, iv r6, rv b7, .unset] [(.int (6 : Int32)), (.int (3 : Int32))] _
      refine XS.icmpYes X71.here hx rfl (pc0 := 160) (pc' := 170) rfl (hb hby at_160) rfl (flt (by decide : ¬ ((6 : Int32) < (3 : Int32)))).2.2.2 (by decide) (by decide) ?_
      refine XS.iload X71.here hx rfl (hb hby at_170) rfl ?_
      refine XS.ifNo X71.here hx rfl (hb hby at_172) rfl ((if0 _ _).trans (tlt (by decide : ((0 : Int32) < (3 : Int32)))).2.2.2) ?_
      refine XS.iload X71.here hx rfl (hb hby at_175) rfl ?_
      show oS p e below T71 m 177 #[iv x1, iv x2, iv x3, lv x4, .second, lv x5, .second, lv x6, .second, iv (3 : Int32), iv x3, iv r1, iv r2, iv r3, iv r4, iv r5, iv r6, rv b7, .unset] [(.int x3)] _
      refine XS.iloadN X71.here hx rfl (hb hby at_177) rfl ?_
      exact kt
    obtain ⟨v186, T77, Lj77, jv77, N77, X77, e77, st77⟩ := own_join (α := Int32) X71 N71 rfl (mkF m 178 #[iv x1, iv x2, iv x3, lv x4, .second, lv x5, .second, lv x6, .second, iv (3 : Int32), iv x3, iv r1, iv r2, iv r3, iv r4, iv r5, iv r6, rv b7, .unset] [(.int x2), (.int x3)]) (fun v => (mkF m 186 #[iv x1, iv x2, iv x3, lv x4, .second, lv x5, .second, lv x6, .second, iv (3 : Int32), iv x3, iv r1, iv r2, iv r3, iv r4, iv r5, iv r6, rv b7, .unset] [(.int v)])) (fun v => v = (if x2 < x3 then (0 : Int32) else (1 : Int32))) (by
        by_cases hc178 : x2 < x3
        · have pre75 : ∀ tz, oS p e below T71 m 186 #[iv x1, iv x2, iv x3, lv x4, .second, lv x5, .second, lv x6, .second, iv (3 : Int32), iv x3, iv r1, iv r2, iv r3, iv r4, iv r5, iv r6, rv b7, .unset] [(.int (0 : Int32))] tz → oS p e below T71 m 178 #[iv x1, iv x2, iv x3, lv x4, .second, lv x5, .second, lv x6, .second, iv (3 : Int32), iv x3, iv r1, iv r2, iv r3, iv r4, iv r5, iv r6, rv b7, .unset] [(.int x2), (.int x3)] tz := fun tz kt => by
            show oS p e below T71 m 178 #[iv x1, iv x2, iv x3, lv x4, .second, lv x5, .second, lv x6, .second, iv (3 : Int32), iv x3, iv r1, iv r2, iv r3, iv r4, iv r5, iv r6, rv b7, .unset] [(.int x2), (.int x3)] _
            refine XS.icmpYes X71.here hx rfl (pc0 := 178) (pc' := 185) rfl (hb hby at_178) rfl (tlt hc178).2.2.1 (by decide) (by decide) ?_
            refine XS.iconst X71.here hx rfl (hb hby at_185) ?_
            exact kt
          exact ⟨(0 : Int32), T71, _, (by rw [if_pos hc178]), N71, X71, rfl, fun tz kt => (pre75 _ kt)⟩
        · have pre76 : ∀ tz, oS p e below T71 m 186 #[iv x1, iv x2, iv x3, lv x4, .second, lv x5, .second, lv x6, .second, iv (3 : Int32), iv x3, iv r1, iv r2, iv r3, iv r4, iv r5, iv r6, rv b7, .unset] [(.int (1 : Int32))] tz → oS p e below T71 m 178 #[iv x1, iv x2, iv x3, lv x4, .second, lv x5, .second, lv x6, .second, iv (3 : Int32), iv x3, iv r1, iv r2, iv r3, iv r4, iv r5, iv r6, rv b7, .unset] [(.int x2), (.int x3)] tz := fun tz kt => by
            show oS p e below T71 m 178 #[iv x1, iv x2, iv x3, lv x4, .second, lv x5, .second, lv x6, .second, iv (3 : Int32), iv x3, iv r1, iv r2, iv r3, iv r4, iv r5, iv r6, rv b7, .unset] [(.int x2), (.int x3)] _
            refine XS.icmpNo X71.here hx rfl (hb hby at_178) rfl (flt hc178).2.2.1 ?_
            refine XS.iconst X71.here hx rfl (hb hby at_181) ?_
            refine XS.goto X71.here hx rfl (pc0 := 182) (pc' := 186) rfl (hb hby at_182) (by decide) (by decide) ?_
            exact kt
          exact ⟨(1 : Int32), T71, _, (by rw [if_neg hc178]), N71, X71, rfl, fun tz kt => (pre76 _ kt)⟩)
    have hv186 : v186 = (if x2 < x3 then (0 : Int32) else (1 : Int32)) := jv77
    have Zc79 : n0 ≤ T71.heap.size := (Nat.le_trans Zc73 K71.1)
    obtain ⟨_, _, ⟨T78, Lw78, kw78, nw78⟩, -, X78, ⟨Lc78, hQ78, l78, y78, z78⟩, st78⟩ := Jvm.LawKit.callS X77 hx (y := (⟨oz1, "one", "(Z)I"⟩ : MethodName)) hown (mvT hZ (own_w hw 22 rfl)) (mvT hZ (own_w hw 23 rfl)) (mvT hZ (own_w hw 2 rfl)) (mvT hZ (own_w hw 24 rfl)) (by decide) (backOf (W := 0) (rm5 l Z a0 hw [] v186 T71.heap n0 Zc79 ) hZ (own_w hw 24 rfl) (own_w hw 2 rfl) (by decide) (by decide)) (g := (mkF m 186 #[iv x1, iv x2, iv x3, lv x4, .second, lv x5, .second, lv x6, .second, iv (3 : Int32), iv x3, iv r1, iv r2, iv r3, iv r4, iv r5, iv r6, rv b7, .unset] [(.int v186)])) rfl (by rw [hml]; rfl) (argsL := [(.int v186)]) (rest := []) (lenOf own_pd5 rfl) rfl (by show 2 * 0 + _ ≤ _; exact Nat.le_of_eq rfl) (hb hby at_186) (fun _ _ => ⟨rfl, e77, (by decide : 2 + 0 ≤ _), (by decide : 6 + 0 ≤ _)⟩)
    dsimp only [Pt.U, Pt.locs, Pt.cells, Pt.slots] at X78 l78 y78 z78 st78 hQ78
    subst l78 y78 z78
    obtain ⟨rfl, Nq78, eh78⟩ := hQ78
    have N78 := Fr.app N77 Nq78
    have pre80 : ∀ tz, oS p e below T78 m 198 #[iv x1, iv x2, iv x3, lv x4, .second, lv x5, .second, lv x6, .second, iv (3 : Int32), iv x3, iv r1, iv r2, iv r3, iv r4, iv r5, iv r6, rv b7, .unset] [(.int x2), (.int r1), (.int (if v186 = (0 : Int32) then (0 : Int32) else (1 : Int32)))] tz → oS p e below T71 m 178 #[iv x1, iv x2, iv x3, lv x4, .second, lv x5, .second, lv x6, .second, iv (3 : Int32), iv x3, iv r1, iv r2, iv r3, iv r4, iv r5, iv r6, rv b7, .unset] [(.int x2), (.int x3)] tz := fun tz kt => by
      show oS p e below T71 m 178 #[iv x1, iv x2, iv x3, lv x4, .second, lv x5, .second, lv x6, .second, iv (3 : Int32), iv x3, iv r1, iv r2, iv r3, iv r4, iv r5, iv r6, rv b7, .unset] [(.int x2), (.int x3)] _
      refine st77 _ ?_
      show oS p e below T77 m 186 #[iv x1, iv x2, iv x3, lv x4, .second, lv x5, .second, lv x6, .second, iv (3 : Int32), iv x3, iv r1, iv r2, iv r3, iv r4, iv r5, iv r6, rv b7, .unset] [(.int v186)] _
      refine st78 _ ?_
      refine XS.iload X78.here hx rfl (hb hby at_189) rfl ?_
      refine XS.iconst X78.here hx rfl (hb hby at_191) ?_
      refine XS.icmpNo X78.here hx rfl (hb hby at_192) rfl (tlt (by decide : ((1 : Int32) < (3 : Int32)))).2.2.2 ?_
      show oS p e below T78 m 195 #[iv x1, iv x2, iv x3, lv x4, .second, lv x5, .second, lv x6, .second, iv (3 : Int32), iv x3, iv r1, iv r2, iv r3, iv r4, iv r5, iv r6, rv b7, .unset] [(.int (if v186 = (0 : Int32) then (0 : Int32) else (1 : Int32)))] _
      refine XS.iload X78.here hx rfl (hb hby at_195) rfl ?_
      refine XS.iloadN X78.here hx rfl (hb hby at_197) rfl ?_
      exact kt
    obtain ⟨v206, T83, Lj83, jv83, N83, X83, e83, st83⟩ := own_join (α := Int32) X78 N78 eh78 (mkF m 198 #[iv x1, iv x2, iv x3, lv x4, .second, lv x5, .second, lv x6, .second, iv (3 : Int32), iv x3, iv r1, iv r2, iv r3, iv r4, iv r5, iv r6, rv b7, .unset] [(.int x2), (.int r1), (.int (if v186 = (0 : Int32) then (0 : Int32) else (1 : Int32)))]) (fun v => (mkF m 206 #[iv x1, iv x2, iv x3, lv x4, .second, lv x5, .second, lv x6, .second, iv (3 : Int32), iv x3, iv r1, iv r2, iv r3, iv r4, iv r5, iv r6, rv b7, .unset] [(.int v), (.int (if v186 = (0 : Int32) then (0 : Int32) else (1 : Int32)))])) (fun v => v = (if x2 < r1 then (0 : Int32) else (1 : Int32))) (by
        by_cases hc198 : x2 < r1
        · have pre81 : ∀ tz, oS p e below T78 m 206 #[iv x1, iv x2, iv x3, lv x4, .second, lv x5, .second, lv x6, .second, iv (3 : Int32), iv x3, iv r1, iv r2, iv r3, iv r4, iv r5, iv r6, rv b7, .unset] [(.int (0 : Int32)), (.int (if v186 = (0 : Int32) then (0 : Int32) else (1 : Int32)))] tz → oS p e below T78 m 198 #[iv x1, iv x2, iv x3, lv x4, .second, lv x5, .second, lv x6, .second, iv (3 : Int32), iv x3, iv r1, iv r2, iv r3, iv r4, iv r5, iv r6, rv b7, .unset] [(.int x2), (.int r1), (.int (if v186 = (0 : Int32) then (0 : Int32) else (1 : Int32)))] tz := fun tz kt => by
            show oS p e below T78 m 198 #[iv x1, iv x2, iv x3, lv x4, .second, lv x5, .second, lv x6, .second, iv (3 : Int32), iv x3, iv r1, iv r2, iv r3, iv r4, iv r5, iv r6, rv b7, .unset] [(.int x2), (.int r1), (.int (if v186 = (0 : Int32) then (0 : Int32) else (1 : Int32)))] _
            refine XS.icmpYes X78.here hx rfl (pc0 := 198) (pc' := 205) rfl (hb hby at_198) rfl (tlt hc198).2.2.1 (by decide) (by decide) ?_
            refine XS.iconst X78.here hx rfl (hb hby at_205) ?_
            exact kt
          exact ⟨(0 : Int32), T78, _, (by rw [if_pos hc198]), N78, X78, eh78, fun tz kt => (pre81 _ kt)⟩
        · have pre82 : ∀ tz, oS p e below T78 m 206 #[iv x1, iv x2, iv x3, lv x4, .second, lv x5, .second, lv x6, .second, iv (3 : Int32), iv x3, iv r1, iv r2, iv r3, iv r4, iv r5, iv r6, rv b7, .unset] [(.int (1 : Int32)), (.int (if v186 = (0 : Int32) then (0 : Int32) else (1 : Int32)))] tz → oS p e below T78 m 198 #[iv x1, iv x2, iv x3, lv x4, .second, lv x5, .second, lv x6, .second, iv (3 : Int32), iv x3, iv r1, iv r2, iv r3, iv r4, iv r5, iv r6, rv b7, .unset] [(.int x2), (.int r1), (.int (if v186 = (0 : Int32) then (0 : Int32) else (1 : Int32)))] tz := fun tz kt => by
            show oS p e below T78 m 198 #[iv x1, iv x2, iv x3, lv x4, .second, lv x5, .second, lv x6, .second, iv (3 : Int32), iv x3, iv r1, iv r2, iv r3, iv r4, iv r5, iv r6, rv b7, .unset] [(.int x2), (.int r1), (.int (if v186 = (0 : Int32) then (0 : Int32) else (1 : Int32)))] _
            refine XS.icmpNo X78.here hx rfl (hb hby at_198) rfl (flt hc198).2.2.1 ?_
            refine XS.iconst X78.here hx rfl (hb hby at_201) ?_
            refine XS.goto X78.here hx rfl (pc0 := 202) (pc' := 206) rfl (hb hby at_202) (by decide) (by decide) ?_
            exact kt
          exact ⟨(1 : Int32), T78, _, (by rw [if_neg hc198]), N78, X78, eh78, fun tz kt => (pre82 _ kt)⟩)
    have hv206 : v206 = (if x2 < r1 then (0 : Int32) else (1 : Int32)) := jv83
    obtain ⟨_, _, ⟨T84, Lw84, kw84, nw84⟩, -, X84, ⟨Lc84, hQ84, l84, y84, z84⟩, st84⟩ := Jvm.LawKit.callS X83 hx (y := (⟨oz1, "one", "(Z)I"⟩ : MethodName)) hown (mvT hZ (own_w hw 22 rfl)) (mvT hZ (own_w hw 23 rfl)) (mvT hZ (own_w hw 2 rfl)) (mvT hZ (own_w hw 24 rfl)) (by decide) (backOf (W := 1) (rm5 l Z a0 hw [] v206 T71.heap n0 Zc79 ) hZ (own_w hw 24 rfl) (own_w hw 2 rfl) (by decide) (by decide)) (g := (mkF m 206 #[iv x1, iv x2, iv x3, lv x4, .second, lv x5, .second, lv x6, .second, iv (3 : Int32), iv x3, iv r1, iv r2, iv r3, iv r4, iv r5, iv r6, rv b7, .unset] [(.int v206), (.int (if v186 = (0 : Int32) then (0 : Int32) else (1 : Int32)))])) rfl (by rw [hml]; rfl) (argsL := [(.int v206)]) (rest := [(.int (if v186 = (0 : Int32) then (0 : Int32) else (1 : Int32)))]) (lenOf own_pd5 rfl) rfl (by show 2 * 0 + _ ≤ _; exact Nat.le_of_eq rfl) (hb hby at_206) (fun _ _ => ⟨rfl, e83, (by decide : 2 + 0 ≤ _), (by decide : 6 + 0 ≤ _)⟩)
    dsimp only [Pt.U, Pt.locs, Pt.cells, Pt.slots] at X84 l84 y84 z84 st84 hQ84
    subst l84 y84 z84
    obtain ⟨rfl, Nq84, eh84⟩ := hQ84
    have N84 := Fr.app N83 Nq84
    have pre85 : ∀ tz, oS p e below T84 m 219 #[iv x1, iv x2, iv x3, lv x4, .second, lv x5, .second, lv x6, .second, iv (3 : Int32), iv x3, iv r1, iv r2, iv r3, iv r4, iv r5, iv r6, rv b7, .unset] [(.int x2), (.int r2), (.int ((if v186 = (0 : Int32) then (0 : Int32) else (1 : Int32)) + (if v206 = (0 : Int32) then (0 : Int32) else (1 : Int32))))] tz → oS p e below T78 m 198 #[iv x1, iv x2, iv x3, lv x4, .second, lv x5, .second, lv x6, .second, iv (3 : Int32), iv x3, iv r1, iv r2, iv r3, iv r4, iv r5, iv r6, rv b7, .unset] [(.int x2), (.int r1), (.int (if v186 = (0 : Int32) then (0 : Int32) else (1 : Int32)))] tz := fun tz kt => by
      show oS p e below T78 m 198 #[iv x1, iv x2, iv x3, lv x4, .second, lv x5, .second, lv x6, .second, iv (3 : Int32), iv x3, iv r1, iv r2, iv r3, iv r4, iv r5, iv r6, rv b7, .unset] [(.int x2), (.int r1), (.int (if v186 = (0 : Int32) then (0 : Int32) else (1 : Int32)))] _
      refine st83 _ ?_
      show oS p e below T83 m 206 #[iv x1, iv x2, iv x3, lv x4, .second, lv x5, .second, lv x6, .second, iv (3 : Int32), iv x3, iv r1, iv r2, iv r3, iv r4, iv r5, iv r6, rv b7, .unset] [(.int v206), (.int (if v186 = (0 : Int32) then (0 : Int32) else (1 : Int32)))] _
      refine st84 _ ?_
      refine XS.iadd X84.here hx rfl (hb hby at_209) rfl ?_
      refine XS.iload X84.here hx rfl (hb hby at_210) rfl ?_
      refine XS.iconst X84.here hx rfl (hb hby at_212) ?_
      show oS p e below T84 m 213 #[iv x1, iv x2, iv x3, lv x4, .second, lv x5, .second, lv x6, .second, iv (3 : Int32), iv x3, iv r1, iv r2, iv r3, iv r4, iv r5, iv r6, rv b7, .unset] [(.int (2 : Int32)), (.int (3 : Int32)), (.int ((if v186 = (0 : Int32) then (0 : Int32) else (1 : Int32)) + (if v206 = (0 : Int32) then (0 : Int32) else (1 : Int32))))] _
      refine XS.icmpNo X84.here hx rfl (hb hby at_213) rfl (tlt (by decide : ((2 : Int32) < (3 : Int32)))).2.2.2 ?_
      refine XS.iload X84.here hx rfl (hb hby at_216) rfl ?_
      refine XS.iloadN X84.here hx rfl (hb hby at_218) rfl ?_
      exact kt
    obtain ⟨v227, T88, Lj88, jv88, N88, X88, e88, st88⟩ := own_join (α := Int32) X84 N84 eh84 (mkF m 219 #[iv x1, iv x2, iv x3, lv x4, .second, lv x5, .second, lv x6, .second, iv (3 : Int32), iv x3, iv r1, iv r2, iv r3, iv r4, iv r5, iv r6, rv b7, .unset] [(.int x2), (.int r2), (.int ((if v186 = (0 : Int32) then (0 : Int32) else (1 : Int32)) + (if v206 = (0 : Int32) then (0 : Int32) else (1 : Int32))))]) (fun v => (mkF m 227 #[iv x1, iv x2, iv x3, lv x4, .second, lv x5, .second, lv x6, .second, iv (3 : Int32), iv x3, iv r1, iv r2, iv r3, iv r4, iv r5, iv r6, rv b7, .unset] [(.int v), (.int ((if v186 = (0 : Int32) then (0 : Int32) else (1 : Int32)) + (if v206 = (0 : Int32) then (0 : Int32) else (1 : Int32))))])) (fun v => v = (if x2 < r2 then (0 : Int32) else (1 : Int32))) (by
        by_cases hc219 : x2 < r2
        · have pre86 : ∀ tz, oS p e below T84 m 227 #[iv x1, iv x2, iv x3, lv x4, .second, lv x5, .second, lv x6, .second, iv (3 : Int32), iv x3, iv r1, iv r2, iv r3, iv r4, iv r5, iv r6, rv b7, .unset] [(.int (0 : Int32)), (.int ((if v186 = (0 : Int32) then (0 : Int32) else (1 : Int32)) + (if v206 = (0 : Int32) then (0 : Int32) else (1 : Int32))))] tz → oS p e below T84 m 219 #[iv x1, iv x2, iv x3, lv x4, .second, lv x5, .second, lv x6, .second, iv (3 : Int32), iv x3, iv r1, iv r2, iv r3, iv r4, iv r5, iv r6, rv b7, .unset] [(.int x2), (.int r2), (.int ((if v186 = (0 : Int32) then (0 : Int32) else (1 : Int32)) + (if v206 = (0 : Int32) then (0 : Int32) else (1 : Int32))))] tz := fun tz kt => by
            show oS p e below T84 m 219 #[iv x1, iv x2, iv x3, lv x4, .second, lv x5, .second, lv x6, .second, iv (3 : Int32), iv x3, iv r1, iv r2, iv r3, iv r4, iv r5, iv r6, rv b7, .unset] [(.int x2), (.int r2), (.int ((if v186 = (0 : Int32) then (0 : Int32) else (1 : Int32)) + (if v206 = (0 : Int32) then (0 : Int32) else (1 : Int32))))] _
            refine XS.icmpYes X84.here hx rfl (pc0 := 219) (pc' := 226) rfl (hb hby at_219) rfl (tlt hc219).2.2.1 (by decide) (by decide) ?_
            refine XS.iconst X84.here hx rfl (hb hby at_226) ?_
            exact kt
          exact ⟨(0 : Int32), T84, _, (by rw [if_pos hc219]), N84, X84, eh84, fun tz kt => (pre86 _ kt)⟩
        · have pre87 : ∀ tz, oS p e below T84 m 227 #[iv x1, iv x2, iv x3, lv x4, .second, lv x5, .second, lv x6, .second, iv (3 : Int32), iv x3, iv r1, iv r2, iv r3, iv r4, iv r5, iv r6, rv b7, .unset] [(.int (1 : Int32)), (.int ((if v186 = (0 : Int32) then (0 : Int32) else (1 : Int32)) + (if v206 = (0 : Int32) then (0 : Int32) else (1 : Int32))))] tz → oS p e below T84 m 219 #[iv x1, iv x2, iv x3, lv x4, .second, lv x5, .second, lv x6, .second, iv (3 : Int32), iv x3, iv r1, iv r2, iv r3, iv r4, iv r5, iv r6, rv b7, .unset] [(.int x2), (.int r2), (.int ((if v186 = (0 : Int32) then (0 : Int32) else (1 : Int32)) + (if v206 = (0 : Int32) then (0 : Int32) else (1 : Int32))))] tz := fun tz kt => by
            show oS p e below T84 m 219 #[iv x1, iv x2, iv x3, lv x4, .second, lv x5, .second, lv x6, .second, iv (3 : Int32), iv x3, iv r1, iv r2, iv r3, iv r4, iv r5, iv r6, rv b7, .unset] [(.int x2), (.int r2), (.int ((if v186 = (0 : Int32) then (0 : Int32) else (1 : Int32)) + (if v206 = (0 : Int32) then (0 : Int32) else (1 : Int32))))] _
            refine XS.icmpNo X84.here hx rfl (hb hby at_219) rfl (flt hc219).2.2.1 ?_
            refine XS.iconst X84.here hx rfl (hb hby at_222) ?_
            refine XS.goto X84.here hx rfl (pc0 := 223) (pc' := 227) rfl (hb hby at_223) (by decide) (by decide) ?_
            exact kt
          exact ⟨(1 : Int32), T84, _, (by rw [if_neg hc219]), N84, X84, eh84, fun tz kt => (pre87 _ kt)⟩)
    have hv227 : v227 = (if x2 < r2 then (0 : Int32) else (1 : Int32)) := jv88
    obtain ⟨_, _, ⟨T89, Lw89, kw89, nw89⟩, -, X89, ⟨Lc89, hQ89, l89, y89, z89⟩, st89⟩ := Jvm.LawKit.callS X88 hx (y := (⟨oz1, "one", "(Z)I"⟩ : MethodName)) hown (mvT hZ (own_w hw 22 rfl)) (mvT hZ (own_w hw 23 rfl)) (mvT hZ (own_w hw 2 rfl)) (mvT hZ (own_w hw 24 rfl)) (by decide) (backOf (W := 1) (rm5 l Z a0 hw [] v227 T71.heap n0 Zc79 ) hZ (own_w hw 24 rfl) (own_w hw 2 rfl) (by decide) (by decide)) (g := (mkF m 227 #[iv x1, iv x2, iv x3, lv x4, .second, lv x5, .second, lv x6, .second, iv (3 : Int32), iv x3, iv r1, iv r2, iv r3, iv r4, iv r5, iv r6, rv b7, .unset] [(.int v227), (.int ((if v186 = (0 : Int32) then (0 : Int32) else (1 : Int32)) + (if v206 = (0 : Int32) then (0 : Int32) else (1 : Int32))))])) rfl (by rw [hml]; rfl) (argsL := [(.int v227)]) (rest := [(.int ((if v186 = (0 : Int32) then (0 : Int32) else (1 : Int32)) + (if v206 = (0 : Int32) then (0 : Int32) else (1 : Int32))))]) (lenOf own_pd5 rfl) rfl (by show 2 * 0 + _ ≤ _; exact Nat.le_of_eq rfl) (hb hby at_227) (fun _ _ => ⟨rfl, e88, (by decide : 2 + 0 ≤ _), (by decide : 6 + 0 ≤ _)⟩)
    dsimp only [Pt.U, Pt.locs, Pt.cells, Pt.slots] at X89 l89 y89 z89 st89 hQ89
    subst l89 y89 z89
    obtain ⟨rfl, Nq89, eh89⟩ := hQ89
    have N89 := Fr.app N88 Nq89
    obtain ⟨_, _, ⟨T90, Lw90, kw90, nw90⟩, -, X90, ⟨Lc90, hQ90, l90, y90, z90⟩, st90⟩ := Jvm.LawKit.callS X89 hx (y := (⟨oz1, "one", "(Z)I"⟩ : MethodName)) hown (mvT hZ (own_w hw 22 rfl)) (mvT hZ (own_w hw 23 rfl)) (mvT hZ (own_w hw 2 rfl)) (mvT hZ (own_w hw 24 rfl)) (by decide) (backOf (W := 1) (rm5 l Z a0 hw [] (0 : Int32) T71.heap n0 Zc79 ) hZ (own_w hw 24 rfl) (own_w hw 2 rfl) (by decide) (by decide)) (g := (mkF m 248 #[iv x1, iv x2, iv x3, lv x4, .second, lv x5, .second, lv x6, .second, iv (3 : Int32), iv x3, iv r1, iv r2, iv r3, iv r4, iv r5, iv r6, rv b7, .unset] [(.int (0 : Int32)), (.int (((if v186 = (0 : Int32) then (0 : Int32) else (1 : Int32)) + (if v206 = (0 : Int32) then (0 : Int32) else (1 : Int32))) + (if v227 = (0 : Int32) then (0 : Int32) else (1 : Int32))))])) rfl (by rw [hml]; rfl) (argsL := [(.int (0 : Int32))]) (rest := [(.int (((if v186 = (0 : Int32) then (0 : Int32) else (1 : Int32)) + (if v206 = (0 : Int32) then (0 : Int32) else (1 : Int32))) + (if v227 = (0 : Int32) then (0 : Int32) else (1 : Int32))))]) (lenOf own_pd5 rfl) rfl (by show 2 * 0 + _ ≤ _; exact Nat.le_of_eq rfl) (hb hby at_248) (fun _ _ => ⟨rfl, eh89, (by decide : 2 + 0 ≤ _), (by decide : 6 + 0 ≤ _)⟩)
    dsimp only [Pt.U, Pt.locs, Pt.cells, Pt.slots] at X90 l90 y90 z90 st90 hQ90
    subst l90 y90 z90
    obtain ⟨rfl, Nq90, eh90⟩ := hQ90
    have N90 := Fr.app N89 Nq90
    obtain ⟨_, _, ⟨T91, Lw91, kw91, nw91⟩, -, X91, ⟨Lc91, hQ91, l91, y91, z91⟩, st91⟩ := Jvm.LawKit.callS X90 hx (y := (⟨oz1, "one", "(Z)I"⟩ : MethodName)) hown (mvT hZ (own_w hw 22 rfl)) (mvT hZ (own_w hw 23 rfl)) (mvT hZ (own_w hw 2 rfl)) (mvT hZ (own_w hw 24 rfl)) (by decide) (backOf (W := 1) (rm5 l Z a0 hw [] (0 : Int32) T71.heap n0 Zc79 ) hZ (own_w hw 24 rfl) (own_w hw 2 rfl) (by decide) (by decide)) (g := (mkF m 269 #[iv x1, iv x2, iv x3, lv x4, .second, lv x5, .second, lv x6, .second, iv (3 : Int32), iv x3, iv r1, iv r2, iv r3, iv r4, iv r5, iv r6, rv b7, .unset] [(.int (0 : Int32)), (.int ((((if v186 = (0 : Int32) then (0 : Int32) else (1 : Int32)) + (if v206 = (0 : Int32) then (0 : Int32) else (1 : Int32))) + (if v227 = (0 : Int32) then (0 : Int32) else (1 : Int32))) + (0 : Int32)))])) rfl (by rw [hml]; rfl) (argsL := [(.int (0 : Int32))]) (rest := [(.int ((((if v186 = (0 : Int32) then (0 : Int32) else (1 : Int32)) + (if v206 = (0 : Int32) then (0 : Int32) else (1 : Int32))) + (if v227 = (0 : Int32) then (0 : Int32) else (1 : Int32))) + (0 : Int32)))]) (lenOf own_pd5 rfl) rfl (by show 2 * 0 + _ ≤ _; exact Nat.le_of_eq rfl) (hb hby at_269) (fun _ _ => ⟨rfl, eh90, (by decide : 2 + 0 ≤ _), (by decide : 6 + 0 ≤ _)⟩)
    dsimp only [Pt.U, Pt.locs, Pt.cells, Pt.slots] at X91 l91 y91 z91 st91 hQ91
    subst l91 y91 z91
    obtain ⟨rfl, Nq91, eh91⟩ := hQ91
    have N91 := Fr.app N90 Nq91
    obtain ⟨_, _, ⟨T92, Lw92, kw92, nw92⟩, -, X92, ⟨Lc92, hQ92, l92, y92, z92⟩, st92⟩ := Jvm.LawKit.callS X91 hx (y := (⟨oz1, "one", "(Z)I"⟩ : MethodName)) hown (mvT hZ (own_w hw 22 rfl)) (mvT hZ (own_w hw 23 rfl)) (mvT hZ (own_w hw 2 rfl)) (mvT hZ (own_w hw 24 rfl)) (by decide) (backOf (W := 1) (rm5 l Z a0 hw [] (0 : Int32) T71.heap n0 Zc79 ) hZ (own_w hw 24 rfl) (own_w hw 2 rfl) (by decide) (by decide)) (g := (mkF m 290 #[iv x1, iv x2, iv x3, lv x4, .second, lv x5, .second, lv x6, .second, iv (3 : Int32), iv x3, iv r1, iv r2, iv r3, iv r4, iv r5, iv r6, rv b7, .unset] [(.int (0 : Int32)), (.int (((((if v186 = (0 : Int32) then (0 : Int32) else (1 : Int32)) + (if v206 = (0 : Int32) then (0 : Int32) else (1 : Int32))) + (if v227 = (0 : Int32) then (0 : Int32) else (1 : Int32))) + (0 : Int32)) + (0 : Int32)))])) rfl (by rw [hml]; rfl) (argsL := [(.int (0 : Int32))]) (rest := [(.int (((((if v186 = (0 : Int32) then (0 : Int32) else (1 : Int32)) + (if v206 = (0 : Int32) then (0 : Int32) else (1 : Int32))) + (if v227 = (0 : Int32) then (0 : Int32) else (1 : Int32))) + (0 : Int32)) + (0 : Int32)))]) (lenOf own_pd5 rfl) rfl (by show 2 * 0 + _ ≤ _; exact Nat.le_of_eq rfl) (hb hby at_290) (fun _ _ => ⟨rfl, eh91, (by decide : 2 + 0 ≤ _), (by decide : 6 + 0 ≤ _)⟩)
    dsimp only [Pt.U, Pt.locs, Pt.cells, Pt.slots] at X92 l92 y92 z92 st92 hQ92
    subst l92 y92 z92
    obtain ⟨rfl, Nq92, eh92⟩ := hQ92
    have N92 := Fr.app N91 Nq92
    obtain ⟨_, _, ⟨T93, Lw93, kw93, nw93⟩, -, X93, ⟨Lc93, hQ93, l93, y93, z93⟩, st93⟩ := Jvm.LawKit.callS X92 hx (y := (⟨oz1, "one", "(Z)I"⟩ : MethodName)) hown (mvT hZ (own_w hw 22 rfl)) (mvT hZ (own_w hw 23 rfl)) (mvT hZ (own_w hw 2 rfl)) (mvT hZ (own_w hw 24 rfl)) (by decide) (backOf (W := 1) (rm5 l Z a0 hw [] (0 : Int32) T71.heap n0 Zc79 ) hZ (own_w hw 24 rfl) (own_w hw 2 rfl) (by decide) (by decide)) (g := (mkF m 312 #[iv x1, iv x2, iv x3, lv x4, .second, lv x5, .second, lv x6, .second, iv (3 : Int32), iv x3, iv r1, iv r2, iv r3, iv r4, iv r5, iv r6, rv b7, .unset] [(.int (0 : Int32)), (.int ((((((if v186 = (0 : Int32) then (0 : Int32) else (1 : Int32)) + (if v206 = (0 : Int32) then (0 : Int32) else (1 : Int32))) + (if v227 = (0 : Int32) then (0 : Int32) else (1 : Int32))) + (0 : Int32)) + (0 : Int32)) + (0 : Int32)))])) rfl (by rw [hml]; rfl) (argsL := [(.int (0 : Int32))]) (rest := [(.int ((((((if v186 = (0 : Int32) then (0 : Int32) else (1 : Int32)) + (if v206 = (0 : Int32) then (0 : Int32) else (1 : Int32))) + (if v227 = (0 : Int32) then (0 : Int32) else (1 : Int32))) + (0 : Int32)) + (0 : Int32)) + (0 : Int32)))]) (lenOf own_pd5 rfl) rfl (by show 2 * 0 + _ ≤ _; exact Nat.le_of_eq rfl) (hb hby at_312) (fun _ _ => ⟨rfl, eh92, (by decide : 2 + 0 ≤ _), (by decide : 6 + 0 ≤ _)⟩)
    dsimp only [Pt.U, Pt.locs, Pt.cells, Pt.slots] at X93 l93 y93 z93 st93 hQ93
    subst l93 y93 z93
    obtain ⟨rfl, Nq93, eh93⟩ := hQ93
    have N93 := Fr.app N92 Nq93
    obtain ⟨y316, hy316⟩ : ∃ z, z = (((((((if v186 = (0 : Int32) then (0 : Int32) else (1 : Int32)) + (if v206 = (0 : Int32) then (0 : Int32) else (1 : Int32))) + (if v227 = (0 : Int32) then (0 : Int32) else (1 : Int32))) + (0 : Int32)) + (0 : Int32)) + (0 : Int32)) + (0 : Int32)) := ⟨_, rfl⟩
    have Ec95 : Exa Z T71.heap b7 oz0 := (Ec72.keep K71)
    obtain ⟨cq94, kq94, q94a, q94b, q94c⟩ := isOf hZ eh93 Ec95
    obtain ⟨_, _, ⟨T94, Lw94, kw94, nw94⟩, -, X94, ⟨Lc94, hQ94, l94, y94, z94⟩, st94⟩ := X93.virtualBack hx (y := (⟨oz0, "countAtMost", "(I)I"⟩ : MethodName)) (z := (⟨oz0, "countAtMost", "(I)I"⟩ : MethodName)) hown (mvT hZ (own_w hw 25 rfl)) (mvT hZ (own_w hw 26 rfl)) (notFace_of_selects (args := #[]) (mvT hZ (own_w hw 28 rfl))) (mvT hZ (own_w hw 28 rfl)) (mvT hZ (own_w hw 27 rfl)) (by decide) (backOf (W := 0) (rmC3 l Z a0 hw [] b7 x2 x3 r1 r2 b8 k8 T71.heap n0 Zc79 Ec95 pf71_0 pf71_1 pf71_2) hZ (own_w hw 29 rfl) (own_w hw 12 rfl) (by decide) (by decide)) q94a q94c (g := (mkF m 321 #[iv x1, iv x2, iv x3, lv x4, .second, lv x5, .second, lv x6, .second, iv (3 : Int32), iv x3, iv r1, iv r2, iv r3, iv r4, iv r5, iv r6, rv b7, iv y316] [(.int x2), (.ref b7)])) rfl (by rw [hml]; rfl) (Steps.refl _) (argsL := [(.int x2)]) (rest := []) (lenOf own_pd6 rfl) rfl (by show 2 * 0 + _ ≤ _; exact Nat.le_of_eq rfl) (hb hby at_321) (fun _ _ => ⟨rfl, eh93, (by decide : 2 + 0 ≤ _), (by decide : 6 + 0 ≤ _)⟩)
    dsimp only [Pt.U, Pt.locs, Pt.cells, Pt.slots] at X94 l94 y94 z94 st94 hQ94
    subst l94 y94 z94
    obtain ⟨rfl, Nq94, eh94⟩ := hQ94
    have N94 := Fr.app N93 Nq94
    have hc326 : (if x2 < r1 then (if x2 < x3 then (0 : Int32) else (1 : Int32)) else (if x2 < r2 then (2 : Int32) else (3 : Int32))) = y316 := Classical.byContradiction fun hc326 => by
      subst hy316 hv227 hv206 hv186
      exact hc326 (own_cnt3 x2 x3 r1 r2 pf1_0 pf2_0)
    have pre96 : ∀ tz, oS p e below T94 m 334 #[iv x1, iv x2, iv x3, lv x4, .second, lv x5, .second, lv x6, .second, iv (3 : Int32), iv x3, iv r1, iv r2, iv r3, iv r4, iv r5, iv r6, rv b7, iv y316] [(.int (1 : Int32))] tz → oS p e below T84 m 219 #[iv x1, iv x2, iv x3, lv x4, .second, lv x5, .second, lv x6, .second, iv (3 : Int32), iv x3, iv r1, iv r2, iv r3, iv r4, iv r5, iv r6, rv b7, .unset] [(.int x2), (.int r2), (.int ((if v186 = (0 : Int32) then (0 : Int32) else (1 : Int32)) + (if v206 = (0 : Int32) then (0 : Int32) else (1 : Int32))))] tz := fun tz kt => by
      show oS p e below T84 m 219 #[iv x1, iv x2, iv x3, lv x4, .second, lv x5, .second, lv x6, .second, iv (3 : Int32), iv x3, iv r1, iv r2, iv r3, iv r4, iv r5, iv r6, rv b7, .unset] [(.int x2), (.int r2), (.int ((if v186 = (0 : Int32) then (0 : Int32) else (1 : Int32)) + (if v206 = (0 : Int32) then (0 : Int32) else (1 : Int32))))] _
      refine st88 _ ?_
      show oS p e below T88 m 227 #[iv x1, iv x2, iv x3, lv x4, .second, lv x5, .second, lv x6, .second, iv (3 : Int32), iv x3, iv r1, iv r2, iv r3, iv r4, iv r5, iv r6, rv b7, .unset] [(.int v227), (.int ((if v186 = (0 : Int32) then (0 : Int32) else (1 : Int32)) + (if v206 = (0 : Int32) then (0 : Int32) else (1 : Int32))))] _
      refine st89 _ ?_
      refine XS.iadd X89.here hx rfl (hb hby at_230) rfl ?_
      refine XS.iload X89.here hx rfl (hb hby at_231) rfl ?_
      refine XS.iconst X89.here hx rfl (hb hby at_233) ?_
      show oS p e below T89 m 234 #[iv x1, iv x2, iv x3, lv x4, .second, lv x5, .second, lv x6, .second, iv (3 : Int32), iv x3, iv r1, iv r2, iv r3, iv r4, iv r5, iv r6, rv b7, .unset] [(.int (3 : Int32)), (.int (3 : Int32)), (.int (((if v186 = (0 : Int32) then (0 : Int32) else (1 : Int32)) + (if v206 = (0 : Int32) then (0 : Int32) else (1 : Int32))) + (if v227 = (0 : Int32) then (0 : Int32) else (1 : Int32))))] _
      refine XS.icmpYes X89.here hx rfl (pc0 := 234) (pc' := 247) rfl (hb hby at_234) rfl (flt (by decide : ¬ ((3 : Int32) < (3 : Int32)))).2.2.2 (by decide) (by decide) ?_
      refine XS.iconst X89.here hx rfl (hb hby at_247) ?_
      show oS p e below T89 m 248 #[iv x1, iv x2, iv x3, lv x4, .second, lv x5, .second, lv x6, .second, iv (3 : Int32), iv x3, iv r1, iv r2, iv r3, iv r4, iv r5, iv r6, rv b7, .unset] [(.int (0 : Int32)), (.int (((if v186 = (0 : Int32) then (0 : Int32) else (1 : Int32)) + (if v206 = (0 : Int32) then (0 : Int32) else (1 : Int32))) + (if v227 = (0 : Int32) then (0 : Int32) else (1 : Int32))))] _
      refine st90 _ ?_
      rw [((if_pos (by decide : (0 : Int32) = (0 : Int32))) : (if (0 : Int32) = (0 : Int32) then (0 : Int32) else (1 : Int32)) = (0 : Int32))]
      show oS p e below T90 m 251 #[iv x1, iv x2, iv x3, lv x4, .second, lv x5, .second, lv x6, .second, iv (3 : Int32), iv x3, iv r1, iv r2, iv r3, iv r4, iv r5, iv r6, rv b7, .unset] [(.int (0 : Int32)), (.int (((if v186 = (0 : Int32) then (0 : Int32) else (1 : Int32)) + (if v206 = (0 : Int32) then (0 : Int32) else (1 : Int32))) + (if v227 = (0 : Int32) then (0 : Int32) else (1 : Int32))))] _
      refine XS.iadd X90.here hx rfl (hb hby at_251) rfl ?_
      refine XS.iload X90.here hx rfl (hb hby at_252) rfl ?_
      refine XS.iconst X90.here hx rfl (hb hby at_254) ?_
      refine XS.icmpYes X90.here hx rfl (pc0 := 255) (pc' := 268) rfl (hb hby at_255) rfl (flt (by decide : ¬ ((4 : Int32) < (3 : Int32)))).2.2.2 (by decide) (by decide) ?_
      show oS p e below T90 m 268 #[iv x1, iv x2, iv x3, lv x4, .second, lv x5, .second, lv x6, .second, iv (3 : Int32), iv x3, iv r1, iv r2, iv r3, iv r4, iv r5, iv r6, rv b7, .unset] [(.int ((((if v186 = (0 : Int32) then (0 : Int32) else (1 : Int32)) + (if v206 = (0 : Int32) then (0 : Int32) else (1 : Int32))) + (if v227 = (0 : Int32) then (0 : Int32) else (1 : Int32))) + (0 : Int32)))] _
      refine XS.iconst X90.here hx rfl (hb hby at_268) ?_
      show oS p e below T90 m 269 #[iv x1, iv x2, iv x3, lv x4, .second, lv x5, .second, lv x6, .second, iv (3 : Int32), iv x3, iv r1, iv r2, iv r3, iv r4, iv r5, iv r6, rv b7, .unset] [(.int (0 : Int32)), (.int ((((if v186 = (0 : Int32) then (0 : Int32) else (1 : Int32)) + (if v206 = (0 : Int32) then (0 : Int32) else (1 : Int32))) + (if v227 = (0 : Int32) then (0 : Int32) else (1 : Int32))) + (0 : Int32)))] _
      refine st91 _ ?_
      rw [((if_pos (by decide : (0 : Int32) = (0 : Int32))) : (if (0 : Int32) = (0 : Int32) then (0 : Int32) else (1 : Int32)) = (0 : Int32))]
      show oS p e below T91 m 272 #[iv x1, iv x2, iv x3, lv x4, .second, lv x5, .second, lv x6, .second, iv (3 : Int32), iv x3, iv r1, iv r2, iv r3, iv r4, iv r5, iv r6, rv b7, .unset] [(.int (0 : Int32)), (.int ((((if v186 = (0 : Int32) then (0 : Int32) else (1 : Int32)) + (if v206 = (0 : Int32) then (0 : Int32) else (1 : Int32))) + (if v227 = (0 : Int32) then (0 : Int32) else (1 : Int32))) + (0 : Int32)))] _
      refine XS.iadd X91.here hx rfl (hb hby at_272) rfl ?_
      refine XS.iload X91.here hx rfl (hb hby at_273) rfl ?_
      refine XS.iconst X91.here hx rfl (hb hby at_275) ?_
      refine XS.icmpYes X91.here hx rfl (pc0 := 276) (pc' := 289) rfl (hb hby at_276) rfl (flt (by decide : ¬ ((5 : Int32) < (3 : Int32)))).2.2.2 (by decide) (by decide) ?_
      show oS p e below T91 m 289 #[iv x1, iv x2, iv x3, lv x4, .second, lv x5, .second, lv x6, .second, iv (3 : Int32), iv x3, iv r1, iv r2, iv r3, iv r4, iv r5, iv r6, rv b7, .unset] [(.int (((((if v186 = (0 : Int32) then (0 : Int32) else (1 : Int32)) + (if v206 = (0 : Int32) then (0 : Int32) else (1 : Int32))) + (if v227 = (0 : Int32) then (0 : Int32) else (1 : Int32))) + (0 : Int32)) + (0 : Int32)))] _
      refine XS.iconst X91.here hx rfl (hb hby at_289) ?_
      show oS p e below T91 m 290 #[iv x1, iv x2, iv x3, lv x4, .second, lv x5, .second, lv x6, .second, iv (3 : Int32), iv x3, iv r1, iv r2, iv r3, iv r4, iv r5, iv r6, rv b7, .unset] [(.int (0 : Int32)), (.int (((((if v186 = (0 : Int32) then (0 : Int32) else (1 : Int32)) + (if v206 = (0 : Int32) then (0 : Int32) else (1 : Int32))) + (if v227 = (0 : Int32) then (0 : Int32) else (1 : Int32))) + (0 : Int32)) + (0 : Int32)))] _
      refine st92 _ ?_
      rw [((if_pos (by decide : (0 : Int32) = (0 : Int32))) : (if (0 : Int32) = (0 : Int32) then (0 : Int32) else (1 : Int32)) = (0 : Int32))]
      show oS p e below T92 m 293 #[iv x1, iv x2, iv x3, lv x4, .second, lv x5, .second, lv x6, .second, iv (3 : Int32), iv x3, iv r1, iv r2, iv r3, iv r4, iv r5, iv r6, rv b7, .unset] [(.int (0 : Int32)), (.int (((((if v186 = (0 : Int32) then (0 : Int32) else (1 : Int32)) + (if v206 = (0 : Int32) then (0 : Int32) else (1 : Int32))) + (if v227 = (0 : Int32) then (0 : Int32) else (1 : Int32))) + (0 : Int32)) + (0 : Int32)))] _
      refine XS.iadd X92.here hx rfl (hb hby at_293) rfl ?_
      refine XS.iload X92.here hx rfl (hb hby at_294) rfl ?_
      refine XS.bipush X92.here hx rfl (hb hby at_296) ?_
      refine XS.icmpYes X92.here hx rfl (pc0 := 298) (pc' := 311) rfl (hb hby at_298) rfl (flt (by decide : ¬ ((6 : Int32) < (3 : Int32)))).2.2.2 (by decide) (by decide) ?_
      show oS p e below T92 m 311 #[iv x1, iv x2, iv x3, lv x4, .second, lv x5, .second, lv x6, .second, iv (3 : Int32), iv x3, iv r1, iv r2, iv r3, iv r4, iv r5, iv r6, rv b7, .unset] [(.int ((((((if v186 = (0 : Int32) then (0 : Int32) else (1 : Int32)) + (if v206 = (0 : Int32) then (0 : Int32) else (1 : Int32))) + (if v227 = (0 : Int32) then (0 : Int32) else (1 : Int32))) + (0 : Int32)) + (0 : Int32)) + (0 : Int32)))] _
      refine XS.iconst X92.here hx rfl (hb hby at_311) ?_
      show oS p e below T92 m 312 #[iv x1, iv x2, iv x3, lv x4, .second, lv x5, .second, lv x6, .second, iv (3 : Int32), iv x3, iv r1, iv r2, iv r3, iv r4, iv r5, iv r6, rv b7, .unset] [(.int (0 : Int32)), (.int ((((((if v186 = (0 : Int32) then (0 : Int32) else (1 : Int32)) + (if v206 = (0 : Int32) then (0 : Int32) else (1 : Int32))) + (if v227 = (0 : Int32) then (0 : Int32) else (1 : Int32))) + (0 : Int32)) + (0 : Int32)) + (0 : Int32)))] _
      refine st93 _ ?_
      rw [((if_pos (by decide : (0 : Int32) = (0 : Int32))) : (if (0 : Int32) = (0 : Int32) then (0 : Int32) else (1 : Int32)) = (0 : Int32))]
      show oS p e below T93 m 315 #[iv x1, iv x2, iv x3, lv x4, .second, lv x5, .second, lv x6, .second, iv (3 : Int32), iv x3, iv r1, iv r2, iv r3, iv r4, iv r5, iv r6, rv b7, .unset] [(.int (0 : Int32)), (.int ((((((if v186 = (0 : Int32) then (0 : Int32) else (1 : Int32)) + (if v206 = (0 : Int32) then (0 : Int32) else (1 : Int32))) + (if v227 = (0 : Int32) then (0 : Int32) else (1 : Int32))) + (0 : Int32)) + (0 : Int32)) + (0 : Int32)))] _
      refine XS.iadd X93.here hx rfl (hb hby at_315) rfl ?_
      refine XS.istore X93.here hx rfl (hb hby at_316) rfl (l' := #[iv x1, iv x2, iv x3, lv x4, .second, lv x5, .second, lv x6, .second, iv (3 : Int32), iv x3, iv r1, iv r2, iv r3, iv r4, iv r5, iv r6, rv b7, iv y316]) (by rw [hy316]; rfl) ?_
      refine XS.aload X93.here hx rfl (hb hby at_318) rfl rfl ?_
      refine XS.iloadN X93.here hx rfl (hb hby at_320) rfl ?_
      show oS p e below T93 m 321 #[iv x1, iv x2, iv x3, lv x4, .second, lv x5, .second, lv x6, .second, iv (3 : Int32), iv x3, iv r1, iv r2, iv r3, iv r4, iv r5, iv r6, rv b7, iv y316] [(.int x2), (.ref b7)] _
      refine st94.trans ?_
      refine XS.iload X94.here hx rfl (hb hby at_324) rfl ?_
      refine XS.icmpNo X94.here hx rfl (hb hby at_326) rfl (teq hc326).2 ?_
      refine XS.iconst X94.here hx rfl (hb hby at_329) ?_
      show oS p e below T94 m 330 #[iv x1, iv x2, iv x3, lv x4, .second, lv x5, .second, lv x6, .second, iv (3 : Int32), iv x3, iv r1, iv r2, iv r3, iv r4, iv r5, iv r6, rv b7, iv y316] [(.int (1 : Int32))] _
      refine XS.goto X94.here hx rfl (pc0 := 330) (pc' := 334) rfl (hb hby at_330) (by decide) (by decide) ?_
      exact kt
    obtain ⟨fs, hr, hrun, hended, hW, hsame⟩ := X94.leave (v := some (.int (1 : Int32))) (fun h => by rw [Bd.returns] at h; cases h)
    refine ⟨_, _, pre0 _ (pre10 _ (pre74 _ (pre80 _ (pre85 _ (pre96 _ ?_))))), hrun, hended, _, _, rfl, ?_, ⟨_, rfl⟩, hW, hsame.mono (by decide) (by decide)⟩
    · show oS p e below T94 m 334 #[iv x1, iv x2, iv x3, lv x4, .second, lv x5, .second, lv x6, .second, iv (3 : Int32), iv x3, iv r1, iv r2, iv r3, iv r4, iv r5, iv r6, rv b7, iv y316] [(.int (1 : Int32))] _
      exact retN X94 hx (t := .boolean) Bd.returns (by simp) (hb hby at_334) hr
    · show Q0 Z x1 x2 x3 x4 x5 x6 h0 n0 _ T94.heap _
      rw [eh94]
      exact ⟨rfl, N94⟩
  · subst hn
    have Ec98 : Exa Z T8.heap b7 oz0 := (A7.keep K8)
    have Zc99 : n0 ≤ T8.heap.size := (Nat.le_trans Zc9 K8.1)
    obtain ⟨cq97, kq97, q97a, q97b, q97c⟩ := isOf hZ rfl Ec98
    obtain ⟨_, _, ⟨T97, Lw97, kw97, nw97⟩, -, X97, ⟨Lc97, hQ97, l97, y97, z97⟩, st97⟩ := X8.virtualBack hx (y := (⟨oz0, "add", "(I)V"⟩ : MethodName)) (z := (⟨oz0, "add", "(I)V"⟩ : MethodName)) hown (mvT hZ (own_w hw 32 rfl)) (mvT hZ (own_w hw 33 rfl)) (notFace_of_selects (args := #[]) (mvT hZ (own_w hw 35 rfl))) (mvT hZ (own_w hw 35 rfl)) (mvT hZ (own_w hw 34 rfl)) (by decide) (backOf (W := 0) (rmA0 l Z a0 hw [] b7 x3 b8 k8 T8.heap n0 Zc99 Ec98 g_b7 pf8_1 ne_b7_b8 pf8_3 pf8_2 pf8_4) hZ (own_w hw 36 rfl) (own_w hw 12 rfl) (by decide) (by decide)) q97a q97c (g := (mkF m 88 #[iv x1, iv x2, iv x3, lv x4, .second, lv x5, .second, lv x6, .second, iv (4 : Int32), iv x3, iv r1, iv r2, iv r3, iv r4, iv r5, iv r6, rv b7, .unset] [(.int x3), (.ref b7)])) rfl (by rw [hml]; rfl) (Steps.refl _) (argsL := [(.int x3)]) (rest := []) (lenOf own_pd7 rfl) rfl (by show 2 * 0 + _ ≤ _; exact Nat.le_of_eq rfl) (hb hby at_88) (fun _ _ => ⟨rfl, rfl, (by decide : 2 + 0 ≤ _), (by decide : 6 + 0 ≤ _)⟩)
    dsimp only [Pt.U, Pt.locs, Pt.cells, Pt.slots] at X97 l97 y97 z97 st97 hQ97
    subst l97 y97 z97
    obtain ⟨rfl, Nq97, K97, pf97_0, pf97_1, pf97_2⟩ := hQ97
    have N97 := Fr.app N8 Nq97
    have Ec101 : Exa Z T97.heap b7 oz0 := (Ec98.keep K97)
    have Zc102 : n0 ≤ T97.heap.size := (Nat.le_trans Zc99 K97.1)
    obtain ⟨cq100, kq100, q100a, q100b, q100c⟩ := isOf hZ rfl Ec101
    obtain ⟨_, _, ⟨T100, Lw100, kw100, nw100⟩, -, X100, ⟨Lc100, hQ100, l100, y100, z100⟩, st100⟩ := X97.virtualBack hx (y := (⟨oz0, "add", "(I)V"⟩ : MethodName)) (z := (⟨oz0, "add", "(I)V"⟩ : MethodName)) hown (mvT hZ (own_w hw 32 rfl)) (mvT hZ (own_w hw 33 rfl)) (notFace_of_selects (args := #[]) (mvT hZ (own_w hw 35 rfl))) (mvT hZ (own_w hw 35 rfl)) (mvT hZ (own_w hw 34 rfl)) (by decide) (backOf (W := 0) (rmA1 l Z a0 hw [] b7 r1 x3 b8 k8 T97.heap n0 Zc102 Ec101 g_b7 pf8_1 ne_b7_b8 pf97_0 pf97_1 pf97_2) hZ (own_w hw 36 rfl) (own_w hw 12 rfl) (by decide) (by decide)) q100a q100c (g := (mkF m 101 #[iv x1, iv x2, iv x3, lv x4, .second, lv x5, .second, lv x6, .second, iv (4 : Int32), iv x3, iv r1, iv r2, iv r3, iv r4, iv r5, iv r6, rv b7, .unset] [(.int r1), (.ref b7)])) rfl (by rw [hml]; rfl) (Steps.refl _) (argsL := [(.int r1)]) (rest := []) (lenOf own_pd7 rfl) rfl (by show 2 * 0 + _ ≤ _; exact Nat.le_of_eq rfl) (hb hby at_101) (fun _ _ => ⟨rfl, rfl, (by decide : 2 + 0 ≤ _), (by decide : 6 + 0 ≤ _)⟩)
    dsimp only [Pt.U, Pt.locs, Pt.cells, Pt.slots] at X100 l100 y100 z100 st100 hQ100
    subst l100 y100 z100
    obtain ⟨rfl, Nq100, K100, pf100_0, pf100_1, pf100_2⟩ := hQ100
    have N100 := Fr.app N97 Nq100
    have Ec104 : Exa Z T100.heap b7 oz0 := (Ec101.keep K100)
    have Zc105 : n0 ≤ T100.heap.size := (Nat.le_trans Zc102 K100.1)
    obtain ⟨cq103, kq103, q103a, q103b, q103c⟩ := isOf hZ rfl Ec104
    obtain ⟨_, _, ⟨T103, Lw103, kw103, nw103⟩, -, X103, ⟨Lc103, hQ103, l103, y103, z103⟩, st103⟩ := X100.virtualBack hx (y := (⟨oz0, "add", "(I)V"⟩ : MethodName)) (z := (⟨oz0, "add", "(I)V"⟩ : MethodName)) hown (mvT hZ (own_w hw 32 rfl)) (mvT hZ (own_w hw 33 rfl)) (notFace_of_selects (args := #[]) (mvT hZ (own_w hw 35 rfl))) (mvT hZ (own_w hw 35 rfl)) (mvT hZ (own_w hw 34 rfl)) (by decide) (backOf (W := 0) (rmA2 l Z a0 hw [] b7 r2 x3 r1 b8 k8 T100.heap n0 Zc105 Ec104 g_b7 pf8_1 ne_b7_b8 pf100_0 pf100_1 pf100_2) hZ (own_w hw 36 rfl) (own_w hw 12 rfl) (by decide) (by decide)) q103a q103c (g := (mkF m 114 #[iv x1, iv x2, iv x3, lv x4, .second, lv x5, .second, lv x6, .second, iv (4 : Int32), iv x3, iv r1, iv r2, iv r3, iv r4, iv r5, iv r6, rv b7, .unset] [(.int r2), (.ref b7)])) rfl (by rw [hml]; rfl) (Steps.refl _) (argsL := [(.int r2)]) (rest := []) (lenOf own_pd7 rfl) rfl (by show 2 * 0 + _ ≤ _; exact Nat.le_of_eq rfl) (hb hby at_114) (fun _ _ => ⟨rfl, rfl, (by decide : 2 + 0 ≤ _), (by decide : 6 + 0 ≤ _)⟩)
    dsimp only [Pt.U, Pt.locs, Pt.cells, Pt.slots] at X103 l103 y103 z103 st103 hQ103
    subst l103 y103 z103
    obtain ⟨rfl, Nq103, K103, pf103_0, pf103_1, pf103_2⟩ := hQ103
    have N103 := Fr.app N100 Nq103
    have Ec107 : Exa Z T103.heap b7 oz0 := (Ec104.keep K103)
    have Zc108 : n0 ≤ T103.heap.size := (Nat.le_trans Zc105 K103.1)
    obtain ⟨cq106, kq106, q106a, q106b, q106c⟩ := isOf hZ rfl Ec107
    obtain ⟨_, _, ⟨T106, Lw106, kw106, nw106⟩, -, X106, ⟨Lc106, hQ106, l106, y106, z106⟩, st106⟩ := X103.virtualBack hx (y := (⟨oz0, "add", "(I)V"⟩ : MethodName)) (z := (⟨oz0, "add", "(I)V"⟩ : MethodName)) hown (mvT hZ (own_w hw 32 rfl)) (mvT hZ (own_w hw 33 rfl)) (notFace_of_selects (args := #[]) (mvT hZ (own_w hw 35 rfl))) (mvT hZ (own_w hw 35 rfl)) (mvT hZ (own_w hw 34 rfl)) (by decide) (backOf (W := 0) (rmA3 l Z a0 hw [] b7 r3 x3 r1 r2 b8 k8 T103.heap n0 Zc108 Ec107 g_b7 pf8_1 ne_b7_b8 pf103_0 pf103_1 pf103_2) hZ (own_w hw 36 rfl) (own_w hw 12 rfl) (by decide) (by decide)) q106a q106c (g := (mkF m 127 #[iv x1, iv x2, iv x3, lv x4, .second, lv x5, .second, lv x6, .second, iv (4 : Int32), iv x3, iv r1, iv r2, iv r3, iv r4, iv r5, iv r6, rv b7, .unset] [(.int r3), (.ref b7)])) rfl (by rw [hml]; rfl) (Steps.refl _) (argsL := [(.int r3)]) (rest := []) (lenOf own_pd7 rfl) rfl (by show 2 * 0 + _ ≤ _; exact Nat.le_of_eq rfl) (hb hby at_127) (fun _ _ => ⟨rfl, rfl, (by decide : 2 + 0 ≤ _), (by decide : 6 + 0 ≤ _)⟩)
    dsimp only [Pt.U, Pt.locs, Pt.cells, Pt.slots] at X106 l106 y106 z106 st106 hQ106
    subst l106 y106 z106
    obtain ⟨rfl, Nq106, K106, pf106_0, pf106_1, pf106_2⟩ := hQ106
    have N106 := Fr.app N103 Nq106
    have pre109 : ∀ tz, oS p e below T106 m 178 #[iv x1, iv x2, iv x3, lv x4, .second, lv x5, .second, lv x6, .second, iv (4 : Int32), iv x3, iv r1, iv r2, iv r3, iv r4, iv r5, iv r6, rv b7, .unset] [(.int x2), (.int x3)] tz → oS p e below T8 m 79 #[iv x1, iv x2, iv x3, lv x4, .second, lv x5, .second, lv x6, .second, iv (4 : Int32), iv x3, iv r1, iv r2, iv r3, iv r4, iv r5, iv r6, rv b7, .unset] [] tz := fun tz kt => by
      show oS p e below T8 m 79 #[iv x1, iv x2, iv x3, lv x4, .second, lv x5, .second, lv x6, .second, iv (4 : Int32), iv x3, iv r1, iv r2, iv r3, iv r4, iv r5, iv r6, rv b7, .unset] [] _
      refine XS.iload X8.here hx rfl (hb hby at_79) rfl ?_
      refine XS.ifNo X8.here hx rfl (hb hby at_81) rfl ((if0 _ _).trans (tlt (by decide : ((0 : Int32) < (4 : Int32)))).2.2.2) ?_
      refine XS.aload X8.here hx rfl (hb hby at_84) rfl rfl ?_
      refine XS.iload X8.here hx rfl (hb hby at_86) rfl ?_
      show oS p e below T8 m 88 #[iv x1, iv x2, iv x3, lv x4, .second, lv x5, .second, lv x6, .second, iv (4 : Int32), iv x3, iv r1, iv r2, iv r3, iv r4, iv r5, iv r6, rv b7, .unset] [(.int x3), (.ref b7)] _
      refine st97.trans ?_
      refine XS.iload X97.here hx rfl (hb hby at_91) rfl ?_
      refine XS.iconst X97.here hx rfl (hb hby at_93) ?_
      refine XS.icmpNo X97.here hx rfl (hb hby at_94) rfl (tlt (by decide : ((1 : Int32) < (4 : Int32)))).2.2.2 ?_
      show oS p e below T97 m 97 #[iv x1, iv x2, iv x3, lv x4, .second, lv x5, .second, lv x6, .second, iv (4 : Int32), iv x3, iv r1, iv r2, iv r3, iv r4, iv r5, iv r6, rv b7, .unset] [] _
      refine XS.aload X97.here hx rfl (hb hby at_97) rfl rfl ?_
      refine XS.iload X97.here hx rfl (hb hby at_99) rfl ?_
      show oS p e below T97 m 101 #[iv x1, iv x2, iv x3, lv x4, .second, lv x5, .second, lv x6, .second, iv (4 : Int32), iv x3, iv r1, iv r2, iv r3, iv r4, iv r5, iv r6, rv b7, .unset] [(.int r1), (.ref b7)] _
      refine st100.trans ?_
      refine XS.iload X100.here hx rfl (hb hby at_104) rfl ?_
      refine XS.iconst X100.here hx rfl (hb hby at_106) ?_
      refine XS.icmpNo X100.here hx rfl (hb hby at_107) rfl (tlt (by decide : ((2 : Int32) < (4 : Int32)))).2.2.2 ?_
      show oS p e below T100 m 110 #[iv x1, iv x2, iv x3, lv x4, .second, lv x5, .second, lv x6, .second, iv (4 : Int32), iv x3, iv r1, iv r2, iv r3, iv r4, iv r5, iv r6, rv b7, .unset] [] _
      refine XS.aload X100.here hx rfl (hb hby at_110) rfl rfl ?_
      refine XS.iload X100.here hx rfl (hb hby at_112) rfl ?_
      show oS p e below T100 m 114 #[iv x1, iv x2, iv x3, lv x4, .second, lv x5, .second, lv x6, .second, iv (4 : Int32), iv x3, iv r1, iv r2, iv r3, iv r4, iv r5, iv r6, rv b7, .unset] [(.int r2), (.ref b7)] _
      refine st103.trans ?_
      refine XS.iload X103.here hx rfl (hb hby at_117) rfl ?_
      refine XS.iconst X103.here hx rfl (hb hby at_119) ?_
      refine XS.icmpNo X103.here hx rfl (hb hby at_120) rfl (tlt (by decide : ((3 : Int32) < (4 : Int32)))).2.2.2 ?_
      show oS p e below T103 m 123 #[iv x1, iv x2, iv x3, lv x4, .second, lv x5, .second, lv x6, .second, iv (4 : Int32), iv x3, iv r1, iv r2, iv r3, iv r4, iv r5, iv r6, rv b7, .unset] [] _
      refine XS.aload X103.here hx rfl (hb hby at_123) rfl rfl ?_
      refine XS.iload X103.here hx rfl (hb hby at_125) rfl ?_
      show oS p e below T103 m 127 #[iv x1, iv x2, iv x3, lv x4, .second, lv x5, .second, lv x6, .second, iv (4 : Int32), iv x3, iv r1, iv r2, iv r3, iv r4, iv r5, iv r6, rv b7, .unset] [(.int r3), (.ref b7)] _
      refine st106.trans ?_
      refine XS.iload X106.here hx rfl (hb hby at_130) rfl ?_
      refine XS.iconst X106.here hx rfl (hb hby at_132) ?_
      refine XS.icmpYes X106.here hx rfl (pc0 := 133) (pc' := 143) rfl (hb hby at_133) rfl (flt (by decide : ¬ ((4 : Int32) < (4 : Int32)))).2.2.2 (by decide) (by decide) ?_
      show oS p e below T106 m 143 #[iv x1, iv x2, iv x3, lv x4, .second, lv x5, .second, lv x6, .second, iv (4 : Int32), iv x3, iv r1, iv r2, iv r3, iv r4, iv r5, iv r6, rv b7, .unset] [] _
      refine XS.iload X106.here hx rfl (hb hby at_143) rfl ?_
      refine XS.iconst X106.here hx rfl (hb hby at_145) ?_
      refine XS.icmpYes X106.here hx rfl (pc0 := 146) (pc' := 156) rfl (hb hby at_146) rfl (flt (by decide : ¬ ((5 : Int32) < (4 : Int32)))).2.2.2 (by decide) (by decide) ?_
      refine XS.iload X106.here hx rfl (hb hby at_156) rfl ?_
      show oS p e below T106 m 158 #[iv x1, iv x2, iv x3, lv x4, .second, lv x5, .second, lv x6, .second, iv (4 : Int32), iv x3, iv r1, iv r2, iv r3, iv r4, iv r5, iv r6, rv b7, .unset] [(.int (4 : Int32))] _
      refine XS.bipush X106.here hx rfl (hb hby at_158) ?_
      refine XS.icmpYes X106.here hx rfl (pc0 := 160) (pc' := 170) rfl (hb hby at_160) rfl (flt (by decide : ¬ ((6 : Int32) < (4 : Int32)))).2.2.2 (by decide) (by decide) ?_
      refine XS.iload X106.here hx rfl (hb hby at_170) rfl ?_
      refine XS.ifNo X106.here hx rfl (hb hby at_172) rfl ((if0 _ _).trans (tlt (by decide : ((0 : Int32) < (4 : Int32)))).2.2.2) ?_
      show oS p e below T106 m 175 #[iv x1, iv x2, iv x3, lv x4, .second, lv x5, .second, lv x6, .second, iv (4 : Int32), iv x3, iv r1, iv r2, iv r3, iv r4, iv r5, iv r6, rv b7, .unset] [] _
      refine XS.iload X106.here hx rfl (hb hby at_175) rfl ?_
      refine XS.iloadN X106.here hx rfl (hb hby at_177) rfl ?_
      exact kt
    obtain ⟨v186, T112, Lj112, jv112, N112, X112, e112, st112⟩ := own_join (α := Int32) X106 N106 rfl (mkF m 178 #[iv x1, iv x2, iv x3, lv x4, .second, lv x5, .second, lv x6, .second, iv (4 : Int32), iv x3, iv r1, iv r2, iv r3, iv r4, iv r5, iv r6, rv b7, .unset] [(.int x2), (.int x3)]) (fun v => (mkF m 186 #[iv x1, iv x2, iv x3, lv x4, .second, lv x5, .second, lv x6, .second, iv (4 : Int32), iv x3, iv r1, iv r2, iv r3, iv r4, iv r5, iv r6, rv b7, .unset] [(.int v)])) (fun v => v = (if x2 < x3 then (0 : Int32) else (1 : Int32))) (by
        by_cases hc178 : x2 < x3
        · have pre110 : ∀ tz, oS p e below T106 m 186 #[iv x1, iv x2, iv x3, lv x4, .second, lv x5, .second, lv x6, .second, iv (4 : Int32), iv x3, iv r1, iv r2, iv r3, iv r4, iv r5, iv r6, rv b7, .unset] [(.int (0 : Int32))] tz → oS p e below T106 m 178 #[iv x1, iv x2, iv x3, lv x4, .second, lv x5, .second, lv x6, .second, iv (4 : Int32), iv x3, iv r1, iv r2, iv r3, iv r4, iv r5, iv r6, rv b7, .unset] [(.int x2), (.int x3)] tz := fun tz kt => by
            show oS p e below T106 m 178 #[iv x1, iv x2, iv x3, lv x4, .second, lv x5, .second, lv x6, .second, iv (4 : Int32), iv x3, iv r1, iv r2, iv r3, iv r4, iv r5, iv r6, rv b7, .unset] [(.int x2), (.int x3)] _
            refine XS.icmpYes X106.here hx rfl (pc0 := 178) (pc' := 185) rfl (hb hby at_178) rfl (tlt hc178).2.2.1 (by decide) (by decide) ?_
            refine XS.iconst X106.here hx rfl (hb hby at_185) ?_
            exact kt
          exact ⟨(0 : Int32), T106, _, (by rw [if_pos hc178]), N106, X106, rfl, fun tz kt => (pre110 _ kt)⟩
        · have pre111 : ∀ tz, oS p e below T106 m 186 #[iv x1, iv x2, iv x3, lv x4, .second, lv x5, .second, lv x6, .second, iv (4 : Int32), iv x3, iv r1, iv r2, iv r3, iv r4, iv r5, iv r6, rv b7, .unset] [(.int (1 : Int32))] tz → oS p e below T106 m 178 #[iv x1, iv x2, iv x3, lv x4, .second, lv x5, .second, lv x6, .second, iv (4 : Int32), iv x3, iv r1, iv r2, iv r3, iv r4, iv r5, iv r6, rv b7, .unset] [(.int x2), (.int x3)] tz := fun tz kt => by
            show oS p e below T106 m 178 #[iv x1, iv x2, iv x3, lv x4, .second, lv x5, .second, lv x6, .second, iv (4 : Int32), iv x3, iv r1, iv r2, iv r3, iv r4, iv r5, iv r6, rv b7, .unset] [(.int x2), (.int x3)] _
            refine XS.icmpNo X106.here hx rfl (hb hby at_178) rfl (flt hc178).2.2.1 ?_
            refine XS.iconst X106.here hx rfl (hb hby at_181) ?_
            refine XS.goto X106.here hx rfl (pc0 := 182) (pc' := 186) rfl (hb hby at_182) (by decide) (by decide) ?_
            exact kt
          exact ⟨(1 : Int32), T106, _, (by rw [if_neg hc178]), N106, X106, rfl, fun tz kt => (pre111 _ kt)⟩)
    have hv186 : v186 = (if x2 < x3 then (0 : Int32) else (1 : Int32)) := jv112
    have Zc114 : n0 ≤ T106.heap.size := (Nat.le_trans Zc108 K106.1)
    obtain ⟨_, _, ⟨T113, Lw113, kw113, nw113⟩, -, X113, ⟨Lc113, hQ113, l113, y113, z113⟩, st113⟩ := Jvm.LawKit.callS X112 hx (y := (⟨oz1, "one", "(Z)I"⟩ : MethodName)) hown (mvT hZ (own_w hw 22 rfl)) (mvT hZ (own_w hw 23 rfl)) (mvT hZ (own_w hw 2 rfl)) (mvT hZ (own_w hw 24 rfl)) (by decide) (backOf (W := 0) (rm5 l Z a0 hw [] v186 T106.heap n0 Zc114 ) hZ (own_w hw 24 rfl) (own_w hw 2 rfl) (by decide) (by decide)) (g := (mkF m 186 #[iv x1, iv x2, iv x3, lv x4, .second, lv x5, .second, lv x6, .second, iv (4 : Int32), iv x3, iv r1, iv r2, iv r3, iv r4, iv r5, iv r6, rv b7, .unset] [(.int v186)])) rfl (by rw [hml]; rfl) (argsL := [(.int v186)]) (rest := []) (lenOf own_pd5 rfl) rfl (by show 2 * 0 + _ ≤ _; exact Nat.le_of_eq rfl) (hb hby at_186) (fun _ _ => ⟨rfl, e112, (by decide : 2 + 0 ≤ _), (by decide : 6 + 0 ≤ _)⟩)
    dsimp only [Pt.U, Pt.locs, Pt.cells, Pt.slots] at X113 l113 y113 z113 st113 hQ113
    subst l113 y113 z113
    obtain ⟨rfl, Nq113, eh113⟩ := hQ113
    have N113 := Fr.app N112 Nq113
    have pre115 : ∀ tz, oS p e below T113 m 198 #[iv x1, iv x2, iv x3, lv x4, .second, lv x5, .second, lv x6, .second, iv (4 : Int32), iv x3, iv r1, iv r2, iv r3, iv r4, iv r5, iv r6, rv b7, .unset] [(.int x2), (.int r1), (.int (if v186 = (0 : Int32) then (0 : Int32) else (1 : Int32)))] tz → oS p e below T106 m 178 #[iv x1, iv x2, iv x3, lv x4, .second, lv x5, .second, lv x6, .second, iv (4 : Int32), iv x3, iv r1, iv r2, iv r3, iv r4, iv r5, iv r6, rv b7, .unset] [(.int x2), (.int x3)] tz := fun tz kt => by
      show oS p e below T106 m 178 #[iv x1, iv x2, iv x3, lv x4, .second, lv x5, .second, lv x6, .second, iv (4 : Int32), iv x3, iv r1, iv r2, iv r3, iv r4, iv r5, iv r6, rv b7, .unset] [(.int x2), (.int x3)] _
      refine st112 _ ?_
      show oS p e below T112 m 186 #[iv x1, iv x2, iv x3, lv x4, .second, lv x5, .second, lv x6, .second, iv (4 : Int32), iv x3, iv r1, iv r2, iv r3, iv r4, iv r5, iv r6, rv b7, .unset] [(.int v186)] _
      refine st113 _ ?_
      refine XS.iload X113.here hx rfl (hb hby at_189) rfl ?_
      refine XS.iconst X113.here hx rfl (hb hby at_191) ?_
      refine XS.icmpNo X113.here hx rfl (hb hby at_192) rfl (tlt (by decide : ((1 : Int32) < (4 : Int32)))).2.2.2 ?_
      show oS p e below T113 m 195 #[iv x1, iv x2, iv x3, lv x4, .second, lv x5, .second, lv x6, .second, iv (4 : Int32), iv x3, iv r1, iv r2, iv r3, iv r4, iv r5, iv r6, rv b7, .unset] [(.int (if v186 = (0 : Int32) then (0 : Int32) else (1 : Int32)))] _
      refine XS.iload X113.here hx rfl (hb hby at_195) rfl ?_
      refine XS.iloadN X113.here hx rfl (hb hby at_197) rfl ?_
      exact kt
    obtain ⟨v206, T118, Lj118, jv118, N118, X118, e118, st118⟩ := own_join (α := Int32) X113 N113 eh113 (mkF m 198 #[iv x1, iv x2, iv x3, lv x4, .second, lv x5, .second, lv x6, .second, iv (4 : Int32), iv x3, iv r1, iv r2, iv r3, iv r4, iv r5, iv r6, rv b7, .unset] [(.int x2), (.int r1), (.int (if v186 = (0 : Int32) then (0 : Int32) else (1 : Int32)))]) (fun v => (mkF m 206 #[iv x1, iv x2, iv x3, lv x4, .second, lv x5, .second, lv x6, .second, iv (4 : Int32), iv x3, iv r1, iv r2, iv r3, iv r4, iv r5, iv r6, rv b7, .unset] [(.int v), (.int (if v186 = (0 : Int32) then (0 : Int32) else (1 : Int32)))])) (fun v => v = (if x2 < r1 then (0 : Int32) else (1 : Int32))) (by
        by_cases hc198 : x2 < r1
        · have pre116 : ∀ tz, oS p e below T113 m 206 #[iv x1, iv x2, iv x3, lv x4, .second, lv x5, .second, lv x6, .second, iv (4 : Int32), iv x3, iv r1, iv r2, iv r3, iv r4, iv r5, iv r6, rv b7, .unset] [(.int (0 : Int32)), (.int (if v186 = (0 : Int32) then (0 : Int32) else (1 : Int32)))] tz → oS p e below T113 m 198 #[iv x1, iv x2, iv x3, lv x4, .second, lv x5, .second, lv x6, .second, iv (4 : Int32), iv x3, iv r1, iv r2, iv r3, iv r4, iv r5, iv r6, rv b7, .unset] [(.int x2), (.int r1), (.int (if v186 = (0 : Int32) then (0 : Int32) else (1 : Int32)))] tz := fun tz kt => by
            show oS p e below T113 m 198 #[iv x1, iv x2, iv x3, lv x4, .second, lv x5, .second, lv x6, .second, iv (4 : Int32), iv x3, iv r1, iv r2, iv r3, iv r4, iv r5, iv r6, rv b7, .unset] [(.int x2), (.int r1), (.int (if v186 = (0 : Int32) then (0 : Int32) else (1 : Int32)))] _
            refine XS.icmpYes X113.here hx rfl (pc0 := 198) (pc' := 205) rfl (hb hby at_198) rfl (tlt hc198).2.2.1 (by decide) (by decide) ?_
            refine XS.iconst X113.here hx rfl (hb hby at_205) ?_
            exact kt
          exact ⟨(0 : Int32), T113, _, (by rw [if_pos hc198]), N113, X113, eh113, fun tz kt => (pre116 _ kt)⟩
        · have pre117 : ∀ tz, oS p e below T113 m 206 #[iv x1, iv x2, iv x3, lv x4, .second, lv x5, .second, lv x6, .second, iv (4 : Int32), iv x3, iv r1, iv r2, iv r3, iv r4, iv r5, iv r6, rv b7, .unset] [(.int (1 : Int32)), (.int (if v186 = (0 : Int32) then (0 : Int32) else (1 : Int32)))] tz → oS p e below T113 m 198 #[iv x1, iv x2, iv x3, lv x4, .second, lv x5, .second, lv x6, .second, iv (4 : Int32), iv x3, iv r1, iv r2, iv r3, iv r4, iv r5, iv r6, rv b7, .unset] [(.int x2), (.int r1), (.int (if v186 = (0 : Int32) then (0 : Int32) else (1 : Int32)))] tz := fun tz kt => by
            show oS p e below T113 m 198 #[iv x1, iv x2, iv x3, lv x4, .second, lv x5, .second, lv x6, .second, iv (4 : Int32), iv x3, iv r1, iv r2, iv r3, iv r4, iv r5, iv r6, rv b7, .unset] [(.int x2), (.int r1), (.int (if v186 = (0 : Int32) then (0 : Int32) else (1 : Int32)))] _
            refine XS.icmpNo X113.here hx rfl (hb hby at_198) rfl (flt hc198).2.2.1 ?_
            refine XS.iconst X113.here hx rfl (hb hby at_201) ?_
            refine XS.goto X113.here hx rfl (pc0 := 202) (pc' := 206) rfl (hb hby at_202) (by decide) (by decide) ?_
            exact kt
          exact ⟨(1 : Int32), T113, _, (by rw [if_neg hc198]), N113, X113, eh113, fun tz kt => (pre117 _ kt)⟩)
    have hv206 : v206 = (if x2 < r1 then (0 : Int32) else (1 : Int32)) := jv118
    obtain ⟨_, _, ⟨T119, Lw119, kw119, nw119⟩, -, X119, ⟨Lc119, hQ119, l119, y119, z119⟩, st119⟩ := Jvm.LawKit.callS X118 hx (y := (⟨oz1, "one", "(Z)I"⟩ : MethodName)) hown (mvT hZ (own_w hw 22 rfl)) (mvT hZ (own_w hw 23 rfl)) (mvT hZ (own_w hw 2 rfl)) (mvT hZ (own_w hw 24 rfl)) (by decide) (backOf (W := 1) (rm5 l Z a0 hw [] v206 T106.heap n0 Zc114 ) hZ (own_w hw 24 rfl) (own_w hw 2 rfl) (by decide) (by decide)) (g := (mkF m 206 #[iv x1, iv x2, iv x3, lv x4, .second, lv x5, .second, lv x6, .second, iv (4 : Int32), iv x3, iv r1, iv r2, iv r3, iv r4, iv r5, iv r6, rv b7, .unset] [(.int v206), (.int (if v186 = (0 : Int32) then (0 : Int32) else (1 : Int32)))])) rfl (by rw [hml]; rfl) (argsL := [(.int v206)]) (rest := [(.int (if v186 = (0 : Int32) then (0 : Int32) else (1 : Int32)))]) (lenOf own_pd5 rfl) rfl (by show 2 * 0 + _ ≤ _; exact Nat.le_of_eq rfl) (hb hby at_206) (fun _ _ => ⟨rfl, e118, (by decide : 2 + 0 ≤ _), (by decide : 6 + 0 ≤ _)⟩)
    dsimp only [Pt.U, Pt.locs, Pt.cells, Pt.slots] at X119 l119 y119 z119 st119 hQ119
    subst l119 y119 z119
    obtain ⟨rfl, Nq119, eh119⟩ := hQ119
    have N119 := Fr.app N118 Nq119
    have pre120 : ∀ tz, oS p e below T119 m 219 #[iv x1, iv x2, iv x3, lv x4, .second, lv x5, .second, lv x6, .second, iv (4 : Int32), iv x3, iv r1, iv r2, iv r3, iv r4, iv r5, iv r6, rv b7, .unset] [(.int x2), (.int r2), (.int ((if v186 = (0 : Int32) then (0 : Int32) else (1 : Int32)) + (if v206 = (0 : Int32) then (0 : Int32) else (1 : Int32))))] tz → oS p e below T113 m 198 #[iv x1, iv x2, iv x3, lv x4, .second, lv x5, .second, lv x6, .second, iv (4 : Int32), iv x3, iv r1, iv r2, iv r3, iv r4, iv r5, iv r6, rv b7, .unset] [(.int x2), (.int r1), (.int (if v186 = (0 : Int32) then (0 : Int32) else (1 : Int32)))] tz := fun tz kt => by
      show oS p e below T113 m 198 #[iv x1, iv x2, iv x3, lv x4, .second, lv x5, .second, lv x6, .second, iv (4 : Int32), iv x3, iv r1, iv r2, iv r3, iv r4, iv r5, iv r6, rv b7, .unset] [(.int x2), (.int r1), (.int (if v186 = (0 : Int32) then (0 : Int32) else (1 : Int32)))] _
      refine st118 _ ?_
      show oS p e below T118 m 206 #[iv x1, iv x2, iv x3, lv x4, .second, lv x5, .second, lv x6, .second, iv (4 : Int32), iv x3, iv r1, iv r2, iv r3, iv r4, iv r5, iv r6, rv b7, .unset] [(.int v206), (.int (if v186 = (0 : Int32) then (0 : Int32) else (1 : Int32)))] _
      refine st119 _ ?_
      refine XS.iadd X119.here hx rfl (hb hby at_209) rfl ?_
      refine XS.iload X119.here hx rfl (hb hby at_210) rfl ?_
      refine XS.iconst X119.here hx rfl (hb hby at_212) ?_
      show oS p e below T119 m 213 #[iv x1, iv x2, iv x3, lv x4, .second, lv x5, .second, lv x6, .second, iv (4 : Int32), iv x3, iv r1, iv r2, iv r3, iv r4, iv r5, iv r6, rv b7, .unset] [(.int (2 : Int32)), (.int (4 : Int32)), (.int ((if v186 = (0 : Int32) then (0 : Int32) else (1 : Int32)) + (if v206 = (0 : Int32) then (0 : Int32) else (1 : Int32))))] _
      refine XS.icmpNo X119.here hx rfl (hb hby at_213) rfl (tlt (by decide : ((2 : Int32) < (4 : Int32)))).2.2.2 ?_
      refine XS.iload X119.here hx rfl (hb hby at_216) rfl ?_
      refine XS.iloadN X119.here hx rfl (hb hby at_218) rfl ?_
      exact kt
    obtain ⟨v227, T123, Lj123, jv123, N123, X123, e123, st123⟩ := own_join (α := Int32) X119 N119 eh119 (mkF m 219 #[iv x1, iv x2, iv x3, lv x4, .second, lv x5, .second, lv x6, .second, iv (4 : Int32), iv x3, iv r1, iv r2, iv r3, iv r4, iv r5, iv r6, rv b7, .unset] [(.int x2), (.int r2), (.int ((if v186 = (0 : Int32) then (0 : Int32) else (1 : Int32)) + (if v206 = (0 : Int32) then (0 : Int32) else (1 : Int32))))]) (fun v => (mkF m 227 #[iv x1, iv x2, iv x3, lv x4, .second, lv x5, .second, lv x6, .second, iv (4 : Int32), iv x3, iv r1, iv r2, iv r3, iv r4, iv r5, iv r6, rv b7, .unset] [(.int v), (.int ((if v186 = (0 : Int32) then (0 : Int32) else (1 : Int32)) + (if v206 = (0 : Int32) then (0 : Int32) else (1 : Int32))))])) (fun v => v = (if x2 < r2 then (0 : Int32) else (1 : Int32))) (by
        by_cases hc219 : x2 < r2
        · have pre121 : ∀ tz, oS p e below T119 m 227 #[iv x1, iv x2, iv x3, lv x4, .second, lv x5, .second, lv x6, .second, iv (4 : Int32), iv x3, iv r1, iv r2, iv r3, iv r4, iv r5, iv r6, rv b7, .unset] [(.int (0 : Int32)), (.int ((if v186 = (0 : Int32) then (0 : Int32) else (1 : Int32)) + (if v206 = (0 : Int32) then (0 : Int32) else (1 : Int32))))] tz → oS p e below T119 m 219 #[iv x1, iv x2, iv x3, lv x4, .second, lv x5, .second, lv x6, .second, iv (4 : Int32), iv x3, iv r1, iv r2, iv r3, iv r4, iv r5, iv r6, rv b7, .unset] [(.int x2), (.int r2), (.int ((if v186 = (0 : Int32) then (0 : Int32) else (1 : Int32)) + (if v206 = (0 : Int32) then (0 : Int32) else (1 : Int32))))] tz := fun tz kt => by
            show oS p e below T119 m 219 #[iv x1, iv x2, iv x3, lv x4, .second, lv x5, .second, lv x6, .second, iv (4 : Int32), iv x3, iv r1, iv r2, iv r3, iv r4, iv r5, iv r6, rv b7, .unset] [(.int x2), (.int r2), (.int ((if v186 = (0 : Int32) then (0 : Int32) else (1 : Int32)) + (if v206 = (0 : Int32) then (0 : Int32) else (1 : Int32))))] _
            refine XS.icmpYes X119.here hx rfl (pc0 := 219) (pc' := 226) rfl (hb hby at_219) rfl (tlt hc219).2.2.1 (by decide) (by decide) ?_
            refine XS.iconst X119.here hx rfl (hb hby at_226) ?_
            exact kt
          exact ⟨(0 : Int32), T119, _, (by rw [if_pos hc219]), N119, X119, eh119, fun tz kt => (pre121 _ kt)⟩
        · have pre122 : ∀ tz, oS p e below T119 m 227 #[iv x1, iv x2, iv x3, lv x4, .second, lv x5, .second, lv x6, .second, iv (4 : Int32), iv x3, iv r1, iv r2, iv r3, iv r4, iv r5, iv r6, rv b7, .unset] [(.int (1 : Int32)), (.int ((if v186 = (0 : Int32) then (0 : Int32) else (1 : Int32)) + (if v206 = (0 : Int32) then (0 : Int32) else (1 : Int32))))] tz → oS p e below T119 m 219 #[iv x1, iv x2, iv x3, lv x4, .second, lv x5, .second, lv x6, .second, iv (4 : Int32), iv x3, iv r1, iv r2, iv r3, iv r4, iv r5, iv r6, rv b7, .unset] [(.int x2), (.int r2), (.int ((if v186 = (0 : Int32) then (0 : Int32) else (1 : Int32)) + (if v206 = (0 : Int32) then (0 : Int32) else (1 : Int32))))] tz := fun tz kt => by
            show oS p e below T119 m 219 #[iv x1, iv x2, iv x3, lv x4, .second, lv x5, .second, lv x6, .second, iv (4 : Int32), iv x3, iv r1, iv r2, iv r3, iv r4, iv r5, iv r6, rv b7, .unset] [(.int x2), (.int r2), (.int ((if v186 = (0 : Int32) then (0 : Int32) else (1 : Int32)) + (if v206 = (0 : Int32) then (0 : Int32) else (1 : Int32))))] _
            refine XS.icmpNo X119.here hx rfl (hb hby at_219) rfl (flt hc219).2.2.1 ?_
            refine XS.iconst X119.here hx rfl (hb hby at_222) ?_
            refine XS.goto X119.here hx rfl (pc0 := 223) (pc' := 227) rfl (hb hby at_223) (by decide) (by decide) ?_
            exact kt
          exact ⟨(1 : Int32), T119, _, (by rw [if_neg hc219]), N119, X119, eh119, fun tz kt => (pre122 _ kt)⟩)
    have hv227 : v227 = (if x2 < r2 then (0 : Int32) else (1 : Int32)) := jv123
    obtain ⟨_, _, ⟨T124, Lw124, kw124, nw124⟩, -, X124, ⟨Lc124, hQ124, l124, y124, z124⟩, st124⟩ := Jvm.LawKit.callS X123 hx (y := (⟨oz1, "one", "(Z)I"⟩ : MethodName)) hown (mvT hZ (own_w hw 22 rfl)) (mvT hZ (own_w hw 23 rfl)) (mvT hZ (own_w hw 2 rfl)) (mvT hZ (own_w hw 24 rfl)) (by decide) (backOf (W := 1) (rm5 l Z a0 hw [] v227 T106.heap n0 Zc114 ) hZ (own_w hw 24 rfl) (own_w hw 2 rfl) (by decide) (by decide)) (g := (mkF m 227 #[iv x1, iv x2, iv x3, lv x4, .second, lv x5, .second, lv x6, .second, iv (4 : Int32), iv x3, iv r1, iv r2, iv r3, iv r4, iv r5, iv r6, rv b7, .unset] [(.int v227), (.int ((if v186 = (0 : Int32) then (0 : Int32) else (1 : Int32)) + (if v206 = (0 : Int32) then (0 : Int32) else (1 : Int32))))])) rfl (by rw [hml]; rfl) (argsL := [(.int v227)]) (rest := [(.int ((if v186 = (0 : Int32) then (0 : Int32) else (1 : Int32)) + (if v206 = (0 : Int32) then (0 : Int32) else (1 : Int32))))]) (lenOf own_pd5 rfl) rfl (by show 2 * 0 + _ ≤ _; exact Nat.le_of_eq rfl) (hb hby at_227) (fun _ _ => ⟨rfl, e123, (by decide : 2 + 0 ≤ _), (by decide : 6 + 0 ≤ _)⟩)
    dsimp only [Pt.U, Pt.locs, Pt.cells, Pt.slots] at X124 l124 y124 z124 st124 hQ124
    subst l124 y124 z124
    obtain ⟨rfl, Nq124, eh124⟩ := hQ124
    have N124 := Fr.app N123 Nq124
    have pre125 : ∀ tz, oS p e below T124 m 240 #[iv x1, iv x2, iv x3, lv x4, .second, lv x5, .second, lv x6, .second, iv (4 : Int32), iv x3, iv r1, iv r2, iv r3, iv r4, iv r5, iv r6, rv b7, .unset] [(.int x2), (.int r3), (.int (((if v186 = (0 : Int32) then (0 : Int32) else (1 : Int32)) + (if v206 = (0 : Int32) then (0 : Int32) else (1 : Int32))) + (if v227 = (0 : Int32) then (0 : Int32) else (1 : Int32))))] tz → oS p e below T119 m 219 #[iv x1, iv x2, iv x3, lv x4, .second, lv x5, .second, lv x6, .second, iv (4 : Int32), iv x3, iv r1, iv r2, iv r3, iv r4, iv r5, iv r6, rv b7, .unset] [(.int x2), (.int r2), (.int ((if v186 = (0 : Int32) then (0 : Int32) else (1 : Int32)) + (if v206 = (0 : Int32) then (0 : Int32) else (1 : Int32))))] tz := fun tz kt => by
      show oS p e below T119 m 219 #[iv x1, iv x2, iv x3, lv x4, .second, lv x5, .second, lv x6, .second, iv (4 : Int32), iv x3, iv r1, iv r2, iv r3, iv r4, iv r5, iv r6, rv b7, .unset] [(.int x2), (.int r2), (.int ((if v186 = (0 : Int32) then (0 : Int32) else (1 : Int32)) + (if v206 = (0 : Int32) then (0 : Int32) else (1 : Int32))))] _
      refine st123 _ ?_
      show oS p e below T123 m 227 #[iv x1, iv x2, iv x3, lv x4, .second, lv x5, .second, lv x6, .second, iv (4 : Int32), iv x3, iv r1, iv r2, iv r3, iv r4, iv r5, iv r6, rv b7, .unset] [(.int v227), (.int ((if v186 = (0 : Int32) then (0 : Int32) else (1 : Int32)) + (if v206 = (0 : Int32) then (0 : Int32) else (1 : Int32))))] _
      refine st124 _ ?_
      refine XS.iadd X124.here hx rfl (hb hby at_230) rfl ?_
      refine XS.iload X124.here hx rfl (hb hby at_231) rfl ?_
      refine XS.iconst X124.here hx rfl (hb hby at_233) ?_
      show oS p e below T124 m 234 #[iv x1, iv x2, iv x3, lv x4, .second, lv x5, .second, lv x6, .second, iv (4 : Int32), iv x3, iv r1, iv r2, iv r3, iv r4, iv r5, iv r6, rv b7, .unset] [(.int (3 : Int32)), (.int (4 : Int32)), (.int (((if v186 = (0 : Int32) then (0 : Int32) else (1 : Int32)) + (if v206 = (0 : Int32) then (0 : Int32) else (1 : Int32))) + (if v227 = (0 : Int32) then (0 : Int32) else (1 : Int32))))] _
      refine XS.icmpNo X124.here hx rfl (hb hby at_234) rfl (tlt (by decide : ((3 : Int32) < (4 : Int32)))).2.2.2 ?_
      refine XS.iload X124.here hx rfl (hb hby at_237) rfl ?_
      refine XS.iloadN X124.here hx rfl (hb hby at_239) rfl ?_
      exact kt
    obtain ⟨v248, T128, Lj128, jv128, N128, X128, e128, st128⟩ := own_join (α := Int32) X124 N124 eh124 (mkF m 240 #[iv x1, iv x2, iv x3, lv x4, .second, lv x5, .second, lv x6, .second, iv (4 : Int32), iv x3, iv r1, iv r2, iv r3, iv r4, iv r5, iv r6, rv b7, .unset] [(.int x2), (.int r3), (.int (((if v186 = (0 : Int32) then (0 : Int32) else (1 : Int32)) + (if v206 = (0 : Int32) then (0 : Int32) else (1 : Int32))) + (if v227 = (0 : Int32) then (0 : Int32) else (1 : Int32))))]) (fun v => (mkF m 248 #[iv x1, iv x2, iv x3, lv x4, .second, lv x5, .second, lv x6, .second, iv (4 : Int32), iv x3, iv r1, iv r2, iv r3, iv r4, iv r5, iv r6, rv b7, .unset] [(.int v), (.int (((if v186 = (0 : Int32) then (0 : Int32) else (1 : Int32)) + (if v206 = (0 : Int32) then (0 : Int32) else (1 : Int32))) + (if v227 = (0 : Int32) then (0 : Int32) else (1 : Int32))))])) (fun v => v = (if x2 < r3 then (0 : Int32) else (1 : Int32))) (by
        by_cases hc240 : x2 < r3
        · have pre126 : ∀ tz, oS p e below T124 m 248 #[iv x1, iv x2, iv x3, lv x4, .second, lv x5, .second, lv x6, .second, iv (4 : Int32), iv x3, iv r1, iv r2, iv r3, iv r4, iv r5, iv r6, rv b7, .unset] [(.int (0 : Int32)), (.int (((if v186 = (0 : Int32) then (0 : Int32) else (1 : Int32)) + (if v206 = (0 : Int32) then (0 : Int32) else (1 : Int32))) + (if v227 = (0 : Int32) then (0 : Int32) else (1 : Int32))))] tz → oS p e below T124 m 240 #[iv x1, iv x2, iv x3, lv x4, .second, lv x5, .second, lv x6, .second, iv (4 : Int32), iv x3, iv r1, iv r2, iv r3, iv r4, iv r5, iv r6, rv b7, .unset] [(.int x2), (.int r3), (.int (((if v186 = (0 : Int32) then (0 : Int32) else (1 : Int32)) + (if v206 = (0 : Int32) then (0 : Int32) else (1 : Int32))) + (if v227 = (0 : Int32) then (0 : Int32) else (1 : Int32))))] tz := fun tz kt => by
            show oS p e below T124 m 240 #[iv x1, iv x2, iv x3, lv x4, .second, lv x5, .second, lv x6, .second, iv (4 : Int32), iv x3, iv r1, iv r2, iv r3, iv r4, iv r5, iv r6, rv b7, .unset] [(.int x2), (.int r3), (.int (((if v186 = (0 : Int32) then (0 : Int32) else (1 : Int32)) + (if v206 = (0 : Int32) then (0 : Int32) else (1 : Int32))) + (if v227 = (0 : Int32) then (0 : Int32) else (1 : Int32))))] _
            refine XS.icmpYes X124.here hx rfl (pc0 := 240) (pc' := 247) rfl (hb hby at_240) rfl (tlt hc240).2.2.1 (by decide) (by decide) ?_
            refine XS.iconst X124.here hx rfl (hb hby at_247) ?_
            exact kt
          exact ⟨(0 : Int32), T124, _, (by rw [if_pos hc240]), N124, X124, eh124, fun tz kt => (pre126 _ kt)⟩
        · have pre127 : ∀ tz, oS p e below T124 m 248 #[iv x1, iv x2, iv x3, lv x4, .second, lv x5, .second, lv x6, .second, iv (4 : Int32), iv x3, iv r1, iv r2, iv r3, iv r4, iv r5, iv r6, rv b7, .unset] [(.int (1 : Int32)), (.int (((if v186 = (0 : Int32) then (0 : Int32) else (1 : Int32)) + (if v206 = (0 : Int32) then (0 : Int32) else (1 : Int32))) + (if v227 = (0 : Int32) then (0 : Int32) else (1 : Int32))))] tz → oS p e below T124 m 240 #[iv x1, iv x2, iv x3, lv x4, .second, lv x5, .second, lv x6, .second, iv (4 : Int32), iv x3, iv r1, iv r2, iv r3, iv r4, iv r5, iv r6, rv b7, .unset] [(.int x2), (.int r3), (.int (((if v186 = (0 : Int32) then (0 : Int32) else (1 : Int32)) + (if v206 = (0 : Int32) then (0 : Int32) else (1 : Int32))) + (if v227 = (0 : Int32) then (0 : Int32) else (1 : Int32))))] tz := fun tz kt => by
            show oS p e below T124 m 240 #[iv x1, iv x2, iv x3, lv x4, .second, lv x5, .second, lv x6, .second, iv (4 : Int32), iv x3, iv r1, iv r2, iv r3, iv r4, iv r5, iv r6, rv b7, .unset] [(.int x2), (.int r3), (.int (((if v186 = (0 : Int32) then (0 : Int32) else (1 : Int32)) + (if v206 = (0 : Int32) then (0 : Int32) else (1 : Int32))) + (if v227 = (0 : Int32) then (0 : Int32) else (1 : Int32))))] _
            refine XS.icmpNo X124.here hx rfl (hb hby at_240) rfl (flt hc240).2.2.1 ?_
            refine XS.iconst X124.here hx rfl (hb hby at_243) ?_
            refine XS.goto X124.here hx rfl (pc0 := 244) (pc' := 248) rfl (hb hby at_244) (by decide) (by decide) ?_
            exact kt
          exact ⟨(1 : Int32), T124, _, (by rw [if_neg hc240]), N124, X124, eh124, fun tz kt => (pre127 _ kt)⟩)
    have hv248 : v248 = (if x2 < r3 then (0 : Int32) else (1 : Int32)) := jv128
    obtain ⟨_, _, ⟨T129, Lw129, kw129, nw129⟩, -, X129, ⟨Lc129, hQ129, l129, y129, z129⟩, st129⟩ := Jvm.LawKit.callS X128 hx (y := (⟨oz1, "one", "(Z)I"⟩ : MethodName)) hown (mvT hZ (own_w hw 22 rfl)) (mvT hZ (own_w hw 23 rfl)) (mvT hZ (own_w hw 2 rfl)) (mvT hZ (own_w hw 24 rfl)) (by decide) (backOf (W := 1) (rm5 l Z a0 hw [] v248 T106.heap n0 Zc114 ) hZ (own_w hw 24 rfl) (own_w hw 2 rfl) (by decide) (by decide)) (g := (mkF m 248 #[iv x1, iv x2, iv x3, lv x4, .second, lv x5, .second, lv x6, .second, iv (4 : Int32), iv x3, iv r1, iv r2, iv r3, iv r4, iv r5, iv r6, rv b7, .unset] [(.int v248), (.int (((if v186 = (0 : Int32) then (0 : Int32) else (1 : Int32)) + (if v206 = (0 : Int32) then (0 : Int32) else (1 : Int32))) + (if v227 = (0 : Int32) then (0 : Int32) else (1 : Int32))))])) rfl (by rw [hml]; rfl) (argsL := [(.int v248)]) (rest := [(.int (((if v186 = (0 : Int32) then (0 : Int32) else (1 : Int32)) + (if v206 = (0 : Int32) then (0 : Int32) else (1 : Int32))) + (if v227 = (0 : Int32) then (0 : Int32) else (1 : Int32))))]) (lenOf own_pd5 rfl) rfl (by show 2 * 0 + _ ≤ _; exact Nat.le_of_eq rfl) (hb hby at_248) (fun _ _ => ⟨rfl, e128, (by decide : 2 + 0 ≤ _), (by decide : 6 + 0 ≤ _)⟩)
    dsimp only [Pt.U, Pt.locs, Pt.cells, Pt.slots] at X129 l129 y129 z129 st129 hQ129
    subst l129 y129 z129
    obtain ⟨rfl, Nq129, eh129⟩ := hQ129
    have N129 := Fr.app N128 Nq129
    obtain ⟨_, _, ⟨T130, Lw130, kw130, nw130⟩, -, X130, ⟨Lc130, hQ130, l130, y130, z130⟩, st130⟩ := Jvm.LawKit.callS X129 hx (y := (⟨oz1, "one", "(Z)I"⟩ : MethodName)) hown (mvT hZ (own_w hw 22 rfl)) (mvT hZ (own_w hw 23 rfl)) (mvT hZ (own_w hw 2 rfl)) (mvT hZ (own_w hw 24 rfl)) (by decide) (backOf (W := 1) (rm5 l Z a0 hw [] (0 : Int32) T106.heap n0 Zc114 ) hZ (own_w hw 24 rfl) (own_w hw 2 rfl) (by decide) (by decide)) (g := (mkF m 269 #[iv x1, iv x2, iv x3, lv x4, .second, lv x5, .second, lv x6, .second, iv (4 : Int32), iv x3, iv r1, iv r2, iv r3, iv r4, iv r5, iv r6, rv b7, .unset] [(.int (0 : Int32)), (.int ((((if v186 = (0 : Int32) then (0 : Int32) else (1 : Int32)) + (if v206 = (0 : Int32) then (0 : Int32) else (1 : Int32))) + (if v227 = (0 : Int32) then (0 : Int32) else (1 : Int32))) + (if v248 = (0 : Int32) then (0 : Int32) else (1 : Int32))))])) rfl (by rw [hml]; rfl) (argsL := [(.int (0 : Int32))]) (rest := [(.int ((((if v186 = (0 : Int32) then (0 : Int32) else (1 : Int32)) + (if v206 = (0 : Int32) then (0 : Int32) else (1 : Int32))) + (if v227 = (0 : Int32) then (0 : Int32) else (1 : Int32))) + (if v248 = (0 : Int32) then (0 : Int32) else (1 : Int32))))]) (lenOf own_pd5 rfl) rfl (by show 2 * 0 + _ ≤ _; exact Nat.le_of_eq rfl) (hb hby at_269) (fun _ _ => ⟨rfl, eh129, (by decide : 2 + 0 ≤ _), (by decide : 6 + 0 ≤ _)⟩)
    dsimp only [Pt.U, Pt.locs, Pt.cells, Pt.slots] at X130 l130 y130 z130 st130 hQ130
    subst l130 y130 z130
    obtain ⟨rfl, Nq130, eh130⟩ := hQ130
    have N130 := Fr.app N129 Nq130
    obtain ⟨_, _, ⟨T131, Lw131, kw131, nw131⟩, -, X131, ⟨Lc131, hQ131, l131, y131, z131⟩, st131⟩ := Jvm.LawKit.callS X130 hx (y := (⟨oz1, "one", "(Z)I"⟩ : MethodName)) hown (mvT hZ (own_w hw 22 rfl)) (mvT hZ (own_w hw 23 rfl)) (mvT hZ (own_w hw 2 rfl)) (mvT hZ (own_w hw 24 rfl)) (by decide) (backOf (W := 1) (rm5 l Z a0 hw [] (0 : Int32) T106.heap n0 Zc114 ) hZ (own_w hw 24 rfl) (own_w hw 2 rfl) (by decide) (by decide)) (g := (mkF m 290 #[iv x1, iv x2, iv x3, lv x4, .second, lv x5, .second, lv x6, .second, iv (4 : Int32), iv x3, iv r1, iv r2, iv r3, iv r4, iv r5, iv r6, rv b7, .unset] [(.int (0 : Int32)), (.int (((((if v186 = (0 : Int32) then (0 : Int32) else (1 : Int32)) + (if v206 = (0 : Int32) then (0 : Int32) else (1 : Int32))) + (if v227 = (0 : Int32) then (0 : Int32) else (1 : Int32))) + (if v248 = (0 : Int32) then (0 : Int32) else (1 : Int32))) + (0 : Int32)))])) rfl (by rw [hml]; rfl) (argsL := [(.int (0 : Int32))]) (rest := [(.int (((((if v186 = (0 : Int32) then (0 : Int32) else (1 : Int32)) + (if v206 = (0 : Int32) then (0 : Int32) else (1 : Int32))) + (if v227 = (0 : Int32) then (0 : Int32) else (1 : Int32))) + (if v248 = (0 : Int32) then (0 : Int32) else (1 : Int32))) + (0 : Int32)))]) (lenOf own_pd5 rfl) rfl (by show 2 * 0 + _ ≤ _; exact Nat.le_of_eq rfl) (hb hby at_290) (fun _ _ => ⟨rfl, eh130, (by decide : 2 + 0 ≤ _), (by decide : 6 + 0 ≤ _)⟩)
    dsimp only [Pt.U, Pt.locs, Pt.cells, Pt.slots] at X131 l131 y131 z131 st131 hQ131
    subst l131 y131 z131
    obtain ⟨rfl, Nq131, eh131⟩ := hQ131
    have N131 := Fr.app N130 Nq131
    obtain ⟨_, _, ⟨T132, Lw132, kw132, nw132⟩, -, X132, ⟨Lc132, hQ132, l132, y132, z132⟩, st132⟩ := Jvm.LawKit.callS X131 hx (y := (⟨oz1, "one", "(Z)I"⟩ : MethodName)) hown (mvT hZ (own_w hw 22 rfl)) (mvT hZ (own_w hw 23 rfl)) (mvT hZ (own_w hw 2 rfl)) (mvT hZ (own_w hw 24 rfl)) (by decide) (backOf (W := 1) (rm5 l Z a0 hw [] (0 : Int32) T106.heap n0 Zc114 ) hZ (own_w hw 24 rfl) (own_w hw 2 rfl) (by decide) (by decide)) (g := (mkF m 312 #[iv x1, iv x2, iv x3, lv x4, .second, lv x5, .second, lv x6, .second, iv (4 : Int32), iv x3, iv r1, iv r2, iv r3, iv r4, iv r5, iv r6, rv b7, .unset] [(.int (0 : Int32)), (.int ((((((if v186 = (0 : Int32) then (0 : Int32) else (1 : Int32)) + (if v206 = (0 : Int32) then (0 : Int32) else (1 : Int32))) + (if v227 = (0 : Int32) then (0 : Int32) else (1 : Int32))) + (if v248 = (0 : Int32) then (0 : Int32) else (1 : Int32))) + (0 : Int32)) + (0 : Int32)))])) rfl (by rw [hml]; rfl) (argsL := [(.int (0 : Int32))]) (rest := [(.int ((((((if v186 = (0 : Int32) then (0 : Int32) else (1 : Int32)) + (if v206 = (0 : Int32) then (0 : Int32) else (1 : Int32))) + (if v227 = (0 : Int32) then (0 : Int32) else (1 : Int32))) + (if v248 = (0 : Int32) then (0 : Int32) else (1 : Int32))) + (0 : Int32)) + (0 : Int32)))]) (lenOf own_pd5 rfl) rfl (by show 2 * 0 + _ ≤ _; exact Nat.le_of_eq rfl) (hb hby at_312) (fun _ _ => ⟨rfl, eh131, (by decide : 2 + 0 ≤ _), (by decide : 6 + 0 ≤ _)⟩)
    dsimp only [Pt.U, Pt.locs, Pt.cells, Pt.slots] at X132 l132 y132 z132 st132 hQ132
    subst l132 y132 z132
    obtain ⟨rfl, Nq132, eh132⟩ := hQ132
    have N132 := Fr.app N131 Nq132
    obtain ⟨y316, hy316⟩ : ∃ z, z = (((((((if v186 = (0 : Int32) then (0 : Int32) else (1 : Int32)) + (if v206 = (0 : Int32) then (0 : Int32) else (1 : Int32))) + (if v227 = (0 : Int32) then (0 : Int32) else (1 : Int32))) + (if v248 = (0 : Int32) then (0 : Int32) else (1 : Int32))) + (0 : Int32)) + (0 : Int32)) + (0 : Int32)) := ⟨_, rfl⟩
    have Ec134 : Exa Z T106.heap b7 oz0 := (Ec107.keep K106)
    obtain ⟨cq133, kq133, q133a, q133b, q133c⟩ := isOf hZ eh132 Ec134
    obtain ⟨_, _, ⟨T133, Lw133, kw133, nw133⟩, -, X133, ⟨Lc133, hQ133, l133, y133, z133⟩, st133⟩ := X132.virtualBack hx (y := (⟨oz0, "countAtMost", "(I)I"⟩ : MethodName)) (z := (⟨oz0, "countAtMost", "(I)I"⟩ : MethodName)) hown (mvT hZ (own_w hw 25 rfl)) (mvT hZ (own_w hw 26 rfl)) (notFace_of_selects (args := #[]) (mvT hZ (own_w hw 28 rfl))) (mvT hZ (own_w hw 28 rfl)) (mvT hZ (own_w hw 27 rfl)) (by decide) (backOf (W := 0) (rmC4 l Z a0 hw [] b7 x2 x3 r1 r2 r3 b8 k8 T106.heap n0 Zc114 Ec134 pf106_0 pf106_1 pf106_2) hZ (own_w hw 29 rfl) (own_w hw 12 rfl) (by decide) (by decide)) q133a q133c (g := (mkF m 321 #[iv x1, iv x2, iv x3, lv x4, .second, lv x5, .second, lv x6, .second, iv (4 : Int32), iv x3, iv r1, iv r2, iv r3, iv r4, iv r5, iv r6, rv b7, iv y316] [(.int x2), (.ref b7)])) rfl (by rw [hml]; rfl) (Steps.refl _) (argsL := [(.int x2)]) (rest := []) (lenOf own_pd6 rfl) rfl (by show 2 * 0 + _ ≤ _; exact Nat.le_of_eq rfl) (hb hby at_321) (fun _ _ => ⟨rfl, eh132, (by decide : 2 + 0 ≤ _), (by decide : 6 + 0 ≤ _)⟩)
    dsimp only [Pt.U, Pt.locs, Pt.cells, Pt.slots] at X133 l133 y133 z133 st133 hQ133
    subst l133 y133 z133
    obtain ⟨rfl, Nq133, eh133⟩ := hQ133
    have N133 := Fr.app N132 Nq133
    have hc326 : (if x2 < r2 then (if x2 < r1 then (if x2 < x3 then (0 : Int32) else (1 : Int32)) else (2 : Int32)) else (if x2 < r3 then (3 : Int32) else (4 : Int32))) = y316 := Classical.byContradiction fun hc326 => by
      subst hy316 hv248 hv227 hv206 hv186
      exact hc326 (own_cnt4 x2 x3 r1 r2 r3 pf1_0 pf2_0 pf3_0)
    have pre135 : ∀ tz, oS p e below T133 m 334 #[iv x1, iv x2, iv x3, lv x4, .second, lv x5, .second, lv x6, .second, iv (4 : Int32), iv x3, iv r1, iv r2, iv r3, iv r4, iv r5, iv r6, rv b7, iv y316] [(.int (1 : Int32))] tz → oS p e below T124 m 240 #[iv x1, iv x2, iv x3, lv x4, .second, lv x5, .second, lv x6, .second, iv (4 : Int32), iv x3, iv r1, iv r2, iv r3, iv r4, iv r5, iv r6, rv b7, .unset] [(.int x2), (.int r3), (.int (((if v186 = (0 : Int32) then (0 : Int32) else (1 : Int32)) + (if v206 = (0 : Int32) then (0 : Int32) else (1 : Int32))) + (if v227 = (0 : Int32) then (0 : Int32) else (1 : Int32))))] tz := fun tz kt => by
      show oS p e below T124 m 240 #[iv x1, iv x2, iv x3, lv x4, .second, lv x5, .second, lv x6, .second, iv (4 : Int32), iv x3, iv r1, iv r2, iv r3, iv r4, iv r5, iv r6, rv b7, .unset] [(.int x2), (.int r3), (.int (((if v186 = (0 : Int32) then (0 : Int32) else (1 : Int32)) + (if v206 = (0 : Int32) then (0 : Int32) else (1 : Int32))) + (if v227 = (0 : Int32) then (0 : Int32) else (1 : Int32))))] _
      refine st128 _ ?_
      show oS p e below T128 m 248 #[iv x1, iv x2, iv x3, lv x4, .second, lv x5, .second, lv x6, .second, iv (4 : Int32), iv x3, iv r1, iv r2, iv r3, iv r4, iv r5, iv r6, rv b7, .unset] [(.int v248), (.int (((if v186 = (0 : Int32) then (0 : Int32) else (1 : Int32)) + (if v206 = (0 : Int32) then (0 : Int32) else (1 : Int32))) + (if v227 = (0 : Int32) then (0 : Int32) else (1 : Int32))))] _
      refine st129 _ ?_
      refine XS.iadd X129.here hx rfl (hb hby at_251) rfl ?_
      refine XS.iload X129.here hx rfl (hb hby at_252) rfl ?_
      refine XS.iconst X129.here hx rfl (hb hby at_254) ?_
      show oS p e below T129 m 255 #[iv x1, iv x2, iv x3, lv x4, .second, lv x5, .second, lv x6, .second, iv (4 : Int32), iv x3, iv r1, iv r2, iv r3, iv r4, iv r5, iv r6, rv b7, .unset] [(.int (4 : Int32)), (.int (4 : Int32)), (.int ((((if v186 = (0 : Int32) then (0 : Int32) else (1 : Int32)) + (if v206 = (0 : Int32) then (0 : Int32) else (1 : Int32))) + (if v227 = (0 : Int32) then (0 : Int32) else (1 : Int32))) + (if v248 = (0 : Int32) then (0 : Int32) else (1 : Int32))))] _
      refine XS.icmpYes X129.here hx rfl (pc0 := 255) (pc' := 268) rfl (hb hby at_255) rfl (flt (by decide : ¬ ((4 : Int32) < (4 : Int32)))).2.2.2 (by decide) (by decide) ?_
      refine XS.iconst X129.here hx rfl (hb hby at_268) ?_
      show oS p e below T129 m 269 #[iv x1, iv x2, iv x3, lv x4, .second, lv x5, .second, lv x6, .second, iv (4 : Int32), iv x3, iv r1, iv r2, iv r3, iv r4, iv r5, iv r6, rv b7, .unset] [(.int (0 : Int32)), (.int ((((if v186 = (0 : Int32) then (0 : Int32) else (1 : Int32)) + (if v206 = (0 : Int32) then (0 : Int32) else (1 : Int32))) + (if v227 = (0 : Int32) then (0 : Int32) else (1 : Int32))) + (if v248 = (0 : Int32) then (0 : Int32) else (1 : Int32))))] _
      refine st130 _ ?_
      rw [((if_pos (by decide : (0 : Int32) = (0 : Int32))) : (if (0 : Int32) = (0 : Int32) then (0 : Int32) else (1 : Int32)) = (0 : Int32))]
      show oS p e below T130 m 272 #[iv x1, iv x2, iv x3, lv x4, .second, lv x5, .second, lv x6, .second, iv (4 : Int32), iv x3, iv r1, iv r2, iv r3, iv r4, iv r5, iv r6, rv b7, .unset] [(.int (0 : Int32)), (.int ((((if v186 = (0 : Int32) then (0 : Int32) else (1 : Int32)) + (if v206 = (0 : Int32) then (0 : Int32) else (1 : Int32))) + (if v227 = (0 : Int32) then (0 : Int32) else (1 : Int32))) + (if v248 = (0 : Int32) then (0 : Int32) else (1 : Int32))))] _
      refine XS.iadd X130.here hx rfl (hb hby at_272) rfl ?_
      refine XS.iload X130.here hx rfl (hb hby at_273) rfl ?_
      refine XS.iconst X130.here hx rfl (hb hby at_275) ?_
      refine XS.icmpYes X130.here hx rfl (pc0 := 276) (pc' := 289) rfl (hb hby at_276) rfl (flt (by decide : ¬ ((5 : Int32) < (4 : Int32)))).2.2.2 (by decide) (by decide) ?_
      show oS p e below T130 m 289 #[iv x1, iv x2, iv x3, lv x4, .second, lv x5, .second, lv x6, .second, iv (4 : Int32), iv x3, iv r1, iv r2, iv r3, iv r4, iv r5, iv r6, rv b7, .unset] [(.int (((((if v186 = (0 : Int32) then (0 : Int32) else (1 : Int32)) + (if v206 = (0 : Int32) then (0 : Int32) else (1 : Int32))) + (if v227 = (0 : Int32) then (0 : Int32) else (1 : Int32))) + (if v248 = (0 : Int32) then (0 : Int32) else (1 : Int32))) + (0 : Int32)))] _
      refine XS.iconst X130.here hx rfl (hb hby at_289) ?_
      show oS p e below T130 m 290 #[iv x1, iv x2, iv x3, lv x4, .second, lv x5, .second, lv x6, .second, iv (4 : Int32), iv x3, iv r1, iv r2, iv r3, iv r4, iv r5, iv r6, rv b7, .unset] [(.int (0 : Int32)), (.int (((((if v186 = (0 : Int32) then (0 : Int32) else (1 : Int32)) + (if v206 = (0 : Int32) then (0 : Int32) else (1 : Int32))) + (if v227 = (0 : Int32) then (0 : Int32) else (1 : Int32))) + (if v248 = (0 : Int32) then (0 : Int32) else (1 : Int32))) + (0 : Int32)))] _
      refine st131 _ ?_
      rw [((if_pos (by decide : (0 : Int32) = (0 : Int32))) : (if (0 : Int32) = (0 : Int32) then (0 : Int32) else (1 : Int32)) = (0 : Int32))]
      show oS p e below T131 m 293 #[iv x1, iv x2, iv x3, lv x4, .second, lv x5, .second, lv x6, .second, iv (4 : Int32), iv x3, iv r1, iv r2, iv r3, iv r4, iv r5, iv r6, rv b7, .unset] [(.int (0 : Int32)), (.int (((((if v186 = (0 : Int32) then (0 : Int32) else (1 : Int32)) + (if v206 = (0 : Int32) then (0 : Int32) else (1 : Int32))) + (if v227 = (0 : Int32) then (0 : Int32) else (1 : Int32))) + (if v248 = (0 : Int32) then (0 : Int32) else (1 : Int32))) + (0 : Int32)))] _
      refine XS.iadd X131.here hx rfl (hb hby at_293) rfl ?_
      refine XS.iload X131.here hx rfl (hb hby at_294) rfl ?_
      refine XS.bipush X131.here hx rfl (hb hby at_296) ?_
      refine XS.icmpYes X131.here hx rfl (pc0 := 298) (pc' := 311) rfl (hb hby at_298) rfl (flt (by decide : ¬ ((6 : Int32) < (4 : Int32)))).2.2.2 (by decide) (by decide) ?_
      show oS p e below T131 m 311 #[iv x1, iv x2, iv x3, lv x4, .second, lv x5, .second, lv x6, .second, iv (4 : Int32), iv x3, iv r1, iv r2, iv r3, iv r4, iv r5, iv r6, rv b7, .unset] [(.int ((((((if v186 = (0 : Int32) then (0 : Int32) else (1 : Int32)) + (if v206 = (0 : Int32) then (0 : Int32) else (1 : Int32))) + (if v227 = (0 : Int32) then (0 : Int32) else (1 : Int32))) + (if v248 = (0 : Int32) then (0 : Int32) else (1 : Int32))) + (0 : Int32)) + (0 : Int32)))] _
      refine XS.iconst X131.here hx rfl (hb hby at_311) ?_
      show oS p e below T131 m 312 #[iv x1, iv x2, iv x3, lv x4, .second, lv x5, .second, lv x6, .second, iv (4 : Int32), iv x3, iv r1, iv r2, iv r3, iv r4, iv r5, iv r6, rv b7, .unset] [(.int (0 : Int32)), (.int ((((((if v186 = (0 : Int32) then (0 : Int32) else (1 : Int32)) + (if v206 = (0 : Int32) then (0 : Int32) else (1 : Int32))) + (if v227 = (0 : Int32) then (0 : Int32) else (1 : Int32))) + (if v248 = (0 : Int32) then (0 : Int32) else (1 : Int32))) + (0 : Int32)) + (0 : Int32)))] _
      refine st132 _ ?_
      rw [((if_pos (by decide : (0 : Int32) = (0 : Int32))) : (if (0 : Int32) = (0 : Int32) then (0 : Int32) else (1 : Int32)) = (0 : Int32))]
      show oS p e below T132 m 315 #[iv x1, iv x2, iv x3, lv x4, .second, lv x5, .second, lv x6, .second, iv (4 : Int32), iv x3, iv r1, iv r2, iv r3, iv r4, iv r5, iv r6, rv b7, .unset] [(.int (0 : Int32)), (.int ((((((if v186 = (0 : Int32) then (0 : Int32) else (1 : Int32)) + (if v206 = (0 : Int32) then (0 : Int32) else (1 : Int32))) + (if v227 = (0 : Int32) then (0 : Int32) else (1 : Int32))) + (if v248 = (0 : Int32) then (0 : Int32) else (1 : Int32))) + (0 : Int32)) + (0 : Int32)))] _
      refine XS.iadd X132.here hx rfl (hb hby at_315) rfl ?_
      refine XS.istore X132.here hx rfl (hb hby at_316) rfl (l' := #[iv x1, iv x2, iv x3, lv x4, .second, lv x5, .second, lv x6, .second, iv (4 : Int32), iv x3, iv r1, iv r2, iv r3, iv r4, iv r5, iv r6, rv b7, iv y316]) (by rw [hy316]; rfl) ?_
      refine XS.aload X132.here hx rfl (hb hby at_318) rfl rfl ?_
      refine XS.iloadN X132.here hx rfl (hb hby at_320) rfl ?_
      show oS p e below T132 m 321 #[iv x1, iv x2, iv x3, lv x4, .second, lv x5, .second, lv x6, .second, iv (4 : Int32), iv x3, iv r1, iv r2, iv r3, iv r4, iv r5, iv r6, rv b7, iv y316] [(.int x2), (.ref b7)] _
      refine st133.trans ?_
      refine XS.iload X133.here hx rfl (hb hby at_324) rfl ?_
      refine XS.icmpNo X133.here hx rfl (hb hby at_326) rfl (teq hc326).2 ?_
      refine XS.iconst X133.here hx rfl (hb hby at_329) ?_
      show oS p e below T133 m 330 #[iv x1, iv x2, iv x3, lv x4, .second, lv x5, .second, lv x6, .second, iv (4 : Int32), iv x3, iv r1, iv r2, iv r3, iv r4, iv r5, iv r6, rv b7, iv y316] [(.int (1 : Int32))] _
      refine XS.goto X133.here hx rfl (pc0 := 330) (pc' := 334) rfl (hb hby at_330) (by decide) (by decide) ?_
      exact kt
    obtain ⟨fs, hr, hrun, hended, hW, hsame⟩ := X133.leave (v := some (.int (1 : Int32))) (fun h => by rw [Bd.returns] at h; cases h)
    refine ⟨_, _, pre0 _ (pre10 _ (pre109 _ (pre115 _ (pre120 _ (pre125 _ (pre135 _ ?_)))))), hrun, hended, _, _, rfl, ?_, ⟨_, rfl⟩, hW, hsame.mono (by decide) (by decide)⟩
    · show oS p e below T133 m 334 #[iv x1, iv x2, iv x3, lv x4, .second, lv x5, .second, lv x6, .second, iv (4 : Int32), iv x3, iv r1, iv r2, iv r3, iv r4, iv r5, iv r6, rv b7, iv y316] [(.int (1 : Int32))] _
      exact retN X133 hx (t := .boolean) Bd.returns (by simp) (hb hby at_334) hr
    · show Q0 Z x1 x2 x3 x4 x5 x6 h0 n0 _ T133.heap _
      rw [eh133]
      exact ⟨rfl, N133⟩
  · subst hn
    have Ec137 : Exa Z T8.heap b7 oz0 := (A7.keep K8)
    have Zc138 : n0 ≤ T8.heap.size := (Nat.le_trans Zc9 K8.1)
    obtain ⟨cq136, kq136, q136a, q136b, q136c⟩ := isOf hZ rfl Ec137
    obtain ⟨_, _, ⟨T136, Lw136, kw136, nw136⟩, -, X136, ⟨Lc136, hQ136, l136, y136, z136⟩, st136⟩ := X8.virtualBack hx (y := (⟨oz0, "add", "(I)V"⟩ : MethodName)) (z := (⟨oz0, "add", "(I)V"⟩ : MethodName)) hown (mvT hZ (own_w hw 32 rfl)) (mvT hZ (own_w hw 33 rfl)) (notFace_of_selects (args := #[]) (mvT hZ (own_w hw 35 rfl))) (mvT hZ (own_w hw 35 rfl)) (mvT hZ (own_w hw 34 rfl)) (by decide) (backOf (W := 0) (rmA0 l Z a0 hw [] b7 x3 b8 k8 T8.heap n0 Zc138 Ec137 g_b7 pf8_1 ne_b7_b8 pf8_3 pf8_2 pf8_4) hZ (own_w hw 36 rfl) (own_w hw 12 rfl) (by decide) (by decide)) q136a q136c (g := (mkF m 88 #[iv x1, iv x2, iv x3, lv x4, .second, lv x5, .second, lv x6, .second, iv (5 : Int32), iv x3, iv r1, iv r2, iv r3, iv r4, iv r5, iv r6, rv b7, .unset] [(.int x3), (.ref b7)])) rfl (by rw [hml]; rfl) (Steps.refl _) (argsL := [(.int x3)]) (rest := []) (lenOf own_pd7 rfl) rfl (by show 2 * 0 + _ ≤ _; exact Nat.le_of_eq rfl) (hb hby at_88) (fun _ _ => ⟨rfl, rfl, (by decide : 2 + 0 ≤ _), (by decide : 6 + 0 ≤ _)⟩)
    dsimp only [Pt.U, Pt.locs, Pt.cells, Pt.slots] at X136 l136 y136 z136 st136 hQ136
    subst l136 y136 z136
    obtain ⟨rfl, Nq136, K136, pf136_0, pf136_1, pf136_2⟩ := hQ136
    have N136 := Fr.app N8 Nq136
    have Ec140 : Exa Z T136.heap b7 oz0 := (Ec137.keep K136)
    have Zc141 : n0 ≤ T136.heap.size := (Nat.le_trans Zc138 K136.1)
    obtain ⟨cq139, kq139, q139a, q139b, q139c⟩ := isOf hZ rfl Ec140
    obtain ⟨_, _, ⟨T139, Lw139, kw139, nw139⟩, -, X139, ⟨Lc139, hQ139, l139, y139, z139⟩, st139⟩ := X136.virtualBack hx (y := (⟨oz0, "add", "(I)V"⟩ : MethodName)) (z := (⟨oz0, "add", "(I)V"⟩ : MethodName)) hown (mvT hZ (own_w hw 32 rfl)) (mvT hZ (own_w hw 33 rfl)) (notFace_of_selects (args := #[]) (mvT hZ (own_w hw 35 rfl))) (mvT hZ (own_w hw 35 rfl)) (mvT hZ (own_w hw 34 rfl)) (by decide) (backOf (W := 0) (rmA1 l Z a0 hw [] b7 r1 x3 b8 k8 T136.heap n0 Zc141 Ec140 g_b7 pf8_1 ne_b7_b8 pf136_0 pf136_1 pf136_2) hZ (own_w hw 36 rfl) (own_w hw 12 rfl) (by decide) (by decide)) q139a q139c (g := (mkF m 101 #[iv x1, iv x2, iv x3, lv x4, .second, lv x5, .second, lv x6, .second, iv (5 : Int32), iv x3, iv r1, iv r2, iv r3, iv r4, iv r5, iv r6, rv b7, .unset] [(.int r1), (.ref b7)])) rfl (by rw [hml]; rfl) (Steps.refl _) (argsL := [(.int r1)]) (rest := []) (lenOf own_pd7 rfl) rfl (by show 2 * 0 + _ ≤ _; exact Nat.le_of_eq rfl) (hb hby at_101) (fun _ _ => ⟨rfl, rfl, (by decide : 2 + 0 ≤ _), (by decide : 6 + 0 ≤ _)⟩)
    dsimp only [Pt.U, Pt.locs, Pt.cells, Pt.slots] at X139 l139 y139 z139 st139 hQ139
    subst l139 y139 z139
    obtain ⟨rfl, Nq139, K139, pf139_0, pf139_1, pf139_2⟩ := hQ139
    have N139 := Fr.app N136 Nq139
    have Ec143 : Exa Z T139.heap b7 oz0 := (Ec140.keep K139)
    have Zc144 : n0 ≤ T139.heap.size := (Nat.le_trans Zc141 K139.1)
    obtain ⟨cq142, kq142, q142a, q142b, q142c⟩ := isOf hZ rfl Ec143
    obtain ⟨_, _, ⟨T142, Lw142, kw142, nw142⟩, -, X142, ⟨Lc142, hQ142, l142, y142, z142⟩, st142⟩ := X139.virtualBack hx (y := (⟨oz0, "add", "(I)V"⟩ : MethodName)) (z := (⟨oz0, "add", "(I)V"⟩ : MethodName)) hown (mvT hZ (own_w hw 32 rfl)) (mvT hZ (own_w hw 33 rfl)) (notFace_of_selects (args := #[]) (mvT hZ (own_w hw 35 rfl))) (mvT hZ (own_w hw 35 rfl)) (mvT hZ (own_w hw 34 rfl)) (by decide) (backOf (W := 0) (rmA2 l Z a0 hw [] b7 r2 x3 r1 b8 k8 T139.heap n0 Zc144 Ec143 g_b7 pf8_1 ne_b7_b8 pf139_0 pf139_1 pf139_2) hZ (own_w hw 36 rfl) (own_w hw 12 rfl) (by decide) (by decide)) q142a q142c (g := (mkF m 114 #[iv x1, iv x2, iv x3, lv x4, .second, lv x5, .second, lv x6, .second, iv (5 : Int32), iv x3, iv r1, iv r2, iv r3, iv r4, iv r5, iv r6, rv b7, .unset] [(.int r2), (.ref b7)])) rfl (by rw [hml]; rfl) (Steps.refl _) (argsL := [(.int r2)]) (rest := []) (lenOf own_pd7 rfl) rfl (by show 2 * 0 + _ ≤ _; exact Nat.le_of_eq rfl) (hb hby at_114) (fun _ _ => ⟨rfl, rfl, (by decide : 2 + 0 ≤ _), (by decide : 6 + 0 ≤ _)⟩)
    dsimp only [Pt.U, Pt.locs, Pt.cells, Pt.slots] at X142 l142 y142 z142 st142 hQ142
    subst l142 y142 z142
    obtain ⟨rfl, Nq142, K142, pf142_0, pf142_1, pf142_2⟩ := hQ142
    have N142 := Fr.app N139 Nq142
    have Ec146 : Exa Z T142.heap b7 oz0 := (Ec143.keep K142)
    have Zc147 : n0 ≤ T142.heap.size := (Nat.le_trans Zc144 K142.1)
    obtain ⟨cq145, kq145, q145a, q145b, q145c⟩ := isOf hZ rfl Ec146
    obtain ⟨_, _, ⟨T145, Lw145, kw145, nw145⟩, -, X145, ⟨Lc145, hQ145, l145, y145, z145⟩, st145⟩ := X142.virtualBack hx (y := (⟨oz0, "add", "(I)V"⟩ : MethodName)) (z := (⟨oz0, "add", "(I)V"⟩ : MethodName)) hown (mvT hZ (own_w hw 32 rfl)) (mvT hZ (own_w hw 33 rfl)) (notFace_of_selects (args := #[]) (mvT hZ (own_w hw 35 rfl))) (mvT hZ (own_w hw 35 rfl)) (mvT hZ (own_w hw 34 rfl)) (by decide) (backOf (W := 0) (rmA3 l Z a0 hw [] b7 r3 x3 r1 r2 b8 k8 T142.heap n0 Zc147 Ec146 g_b7 pf8_1 ne_b7_b8 pf142_0 pf142_1 pf142_2) hZ (own_w hw 36 rfl) (own_w hw 12 rfl) (by decide) (by decide)) q145a q145c (g := (mkF m 127 #[iv x1, iv x2, iv x3, lv x4, .second, lv x5, .second, lv x6, .second, iv (5 : Int32), iv x3, iv r1, iv r2, iv r3, iv r4, iv r5, iv r6, rv b7, .unset] [(.int r3), (.ref b7)])) rfl (by rw [hml]; rfl) (Steps.refl _) (argsL := [(.int r3)]) (rest := []) (lenOf own_pd7 rfl) rfl (by show 2 * 0 + _ ≤ _; exact Nat.le_of_eq rfl) (hb hby at_127) (fun _ _ => ⟨rfl, rfl, (by decide : 2 + 0 ≤ _), (by decide : 6 + 0 ≤ _)⟩)
    dsimp only [Pt.U, Pt.locs, Pt.cells, Pt.slots] at X145 l145 y145 z145 st145 hQ145
    subst l145 y145 z145
    obtain ⟨rfl, Nq145, K145, pf145_0, pf145_1, pf145_2⟩ := hQ145
    have N145 := Fr.app N142 Nq145
    have Ec149 : Exa Z T145.heap b7 oz0 := (Ec146.keep K145)
    have Zc150 : n0 ≤ T145.heap.size := (Nat.le_trans Zc147 K145.1)
    obtain ⟨cq148, kq148, q148a, q148b, q148c⟩ := isOf hZ rfl Ec149
    obtain ⟨_, _, ⟨T148, Lw148, kw148, nw148⟩, -, X148, ⟨Lc148, hQ148, l148, y148, z148⟩, st148⟩ := X145.virtualBack hx (y := (⟨oz0, "add", "(I)V"⟩ : MethodName)) (z := (⟨oz0, "add", "(I)V"⟩ : MethodName)) hown (mvT hZ (own_w hw 32 rfl)) (mvT hZ (own_w hw 33 rfl)) (notFace_of_selects (args := #[]) (mvT hZ (own_w hw 35 rfl))) (mvT hZ (own_w hw 35 rfl)) (mvT hZ (own_w hw 34 rfl)) (by decide) (backOf (W := 0) (rmA4 l Z a0 hw [] b7 r4 x3 r1 r2 r3 b8 k8 T145.heap n0 Zc150 Ec149 g_b7 ne_b7_b8 pf145_0 pf145_1 pf145_2) hZ (own_w hw 36 rfl) (own_w hw 12 rfl) (by decide) (by decide)) q148a q148c (g := (mkF m 140 #[iv x1, iv x2, iv x3, lv x4, .second, lv x5, .second, lv x6, .second, iv (5 : Int32), iv x3, iv r1, iv r2, iv r3, iv r4, iv r5, iv r6, rv b7, .unset] [(.int r4), (.ref b7)])) rfl (by rw [hml]; rfl) (Steps.refl _) (argsL := [(.int r4)]) (rest := []) (lenOf own_pd7 rfl) rfl (by show 2 * 0 + _ ≤ _; exact Nat.le_of_eq rfl) (hb hby at_140) (fun _ _ => ⟨rfl, rfl, (by decide : 2 + 1 ≤ _), (by decide : 6 + 8 ≤ _)⟩)
    dsimp only [Pt.U, Pt.locs, Pt.cells, Pt.slots] at X148 l148 y148 z148 st148 hQ148
    subst l148 y148 z148
    obtain ⟨b148, k148, rfl, Nq148, K148, pf148_0, pf148_1, pf148_2, pf148_3, pf148_4⟩ := hQ148
    have N148 := Fr.app N145 Nq148
    have ne_b7_b148 : b7 ≠ b148 := Nat.ne_of_lt (Nat.lt_of_lt_of_le Ec149.lt pf148_0)
    have ne_b8_b148 : b8 ≠ b148 := Nat.ne_of_lt (Nat.lt_of_lt_of_le pf145_2.lt pf148_0)
    have pre151 : ∀ tz, oS p e below T148 m 178 #[iv x1, iv x2, iv x3, lv x4, .second, lv x5, .second, lv x6, .second, iv (5 : Int32), iv x3, iv r1, iv r2, iv r3, iv r4, iv r5, iv r6, rv b7, .unset] [(.int x2), (.int x3)] tz → oS p e below T8 m 79 #[iv x1, iv x2, iv x3, lv x4, .second, lv x5, .second, lv x6, .second, iv (5 : Int32), iv x3, iv r1, iv r2, iv r3, iv r4, iv r5, iv r6, rv b7, .unset] [] tz := fun tz kt => by
      show oS p e below T8 m 79 #[iv x1, iv x2, iv x3, lv x4, .second, lv x5, .second, lv x6, .second, iv (5 : Int32), iv x3, iv r1, iv r2, iv r3, iv r4, iv r5, iv r6, rv b7, .unset] [] _
      refine XS.iload X8.here hx rfl (hb hby at_79) rfl ?_
      refine XS.ifNo X8.here hx rfl (hb hby at_81) rfl ((if0 _ _).trans (tlt (by decide : ((0 : Int32) < (5 : Int32)))).2.2.2) ?_
      refine XS.aload X8.here hx rfl (hb hby at_84) rfl rfl ?_
      refine XS.iload X8.here hx rfl (hb hby at_86) rfl ?_
      show oS p e below T8 m 88 #[iv x1, iv x2, iv x3, lv x4, .second, lv x5, .second, lv x6, .second, iv (5 : Int32), iv x3, iv r1, iv r2, iv r3, iv r4, iv r5, iv r6, rv b7, .unset] [(.int x3), (.ref b7)] _
      refine st136.trans ?_
      refine XS.iload X136.here hx rfl (hb hby at_91) rfl ?_
      refine XS.iconst X136.here hx rfl (hb hby at_93) ?_
      refine XS.icmpNo X136.here hx rfl (hb hby at_94) rfl (tlt (by decide : ((1 : Int32) < (5 : Int32)))).2.2.2 ?_
      show oS p e below T136 m 97 #[iv x1, iv x2, iv x3, lv x4, .second, lv x5, .second, lv x6, .second, iv (5 : Int32), iv x3, iv r1, iv r2, iv r3, iv r4, iv r5, iv r6, rv b7, .unset] [] _
      refine XS.aload X136.here hx rfl (hb hby at_97) rfl rfl ?_
      refine XS.iload X136.here hx rfl (hb hby at_99) rfl ?_
      show oS p e below T136 m 101 #[iv x1, iv x2, iv x3, lv x4, .second, lv x5, .second, lv x6, .second, iv (5 : Int32), iv x3, iv r1, iv r2, iv r3, iv r4, iv r5, iv r6, rv b7, .unset] [(.int r1), (.ref b7)] _
      refine st139.trans ?_
      refine XS.iload X139.here hx rfl (hb hby at_104) rfl ?_
      refine XS.iconst X139.here hx rfl (hb hby at_106) ?_
      refine XS.icmpNo X139.here hx rfl (hb hby at_107) rfl (tlt (by decide : ((2 : Int32) < (5 : Int32)))).2.2.2 ?_
      show oS p e below T139 m 110 #[iv x1, iv x2, iv x3, lv x4, .second, lv x5, .second, lv x6, .second, iv (5 : Int32), iv x3, iv r1, iv r2, iv r3, iv r4, iv r5, iv r6, rv b7, .unset] [] _
      refine XS.aload X139.here hx rfl (hb hby at_110) rfl rfl ?_
      refine XS.iload X139.here hx rfl (hb hby at_112) rfl ?_
      show oS p e below T139 m 114 #[iv x1, iv x2, iv x3, lv x4, .second, lv x5, .second, lv x6, .second, iv (5 : Int32), iv x3, iv r1, iv r2, iv r3, iv r4, iv r5, iv r6, rv b7, .unset] [(.int r2), (.ref b7)] _
      refine st142.trans ?_
      refine XS.iload X142.here hx rfl (hb hby at_117) rfl ?_
      refine XS.iconst X142.here hx rfl (hb hby at_119) ?_
      refine XS.icmpNo X142.here hx rfl (hb hby at_120) rfl (tlt (by decide : ((3 : Int32) < (5 : Int32)))).2.2.2 ?_
      show oS p e below T142 m 123 #[iv x1, iv x2, iv x3, lv x4, .second, lv x5, .second, lv x6, .second, iv (5 : Int32), iv x3, iv r1, iv r2, iv r3, iv r4, iv r5, iv r6, rv b7, .unset] [] _
      refine XS.aload X142.here hx rfl (hb hby at_123) rfl rfl ?_
      refine XS.iload X142.here hx rfl (hb hby at_125) rfl ?_
      show oS p e below T142 m 127 #[iv x1, iv x2, iv x3, lv x4, .second, lv x5, .second, lv x6, .second, iv (5 : Int32), iv x3, iv r1, iv r2, iv r3, iv r4, iv r5, iv r6, rv b7, .unset] [(.int r3), (.ref b7)] _
      refine st145.trans ?_
      refine XS.iload X145.here hx rfl (hb hby at_130) rfl ?_
      refine XS.iconst X145.here hx rfl (hb hby at_132) ?_
      refine XS.icmpNo X145.here hx rfl (hb hby at_133) rfl (tlt (by decide : ((4 : Int32) < (5 : Int32)))).2.2.2 ?_
      show oS p e below T145 m 136 #[iv x1, iv x2, iv x3, lv x4, .second, lv x5, .second, lv x6, .second, iv (5 : Int32), iv x3, iv r1, iv r2, iv r3, iv r4, iv r5, iv r6, rv b7, .unset] [] _
      refine XS.aload X145.here hx rfl (hb hby at_136) rfl rfl ?_
      refine XS.iload X145.here hx rfl (hb hby at_138) rfl ?_
      show oS p e below T145 m 140 #[iv x1, iv x2, iv x3, lv x4, .second, lv x5, .second, lv x6, .second, iv (5 : Int32), iv x3, iv r1, iv r2, iv r3, iv r4, iv r5, iv r6, rv b7, .unset] [(.int r4), (.ref b7)] _
      refine st148.trans ?_
      refine XS.iload X148.here hx rfl (hb hby at_143) rfl ?_
      refine XS.iconst X148.here hx rfl (hb hby at_145) ?_
      refine XS.icmpYes X148.here hx rfl (pc0 := 146) (pc' := 156) rfl (hb hby at_146) rfl (flt (by decide : ¬ ((5 : Int32) < (5 : Int32)))).2.2.2 (by decide) (by decide) ?_
      show oS p e below T148 m 156 #[iv x1, iv x2, iv x3, lv x4, .second, lv x5, .second, lv x6, .second, iv (5 : Int32), iv x3, iv r1, iv r2, iv r3, iv r4, iv r5, iv r6, rv b7, .unset] [] _
      refine XS.iload X148.here hx rfl (hb hby at_156) rfl ?_
      refine XS.bipush X148.here hx rfl (hb hby at_158) ?_
      refine XS.icmpYes X148.here hx rfl (pc0 := 160) (pc' := 170) rfl (hb hby at_160) rfl (flt (by decide : ¬ ((6 : Int32) < (5 : Int32)))).2.2.2 (by decide) (by decide) ?_
      refine XS.iload X148.here hx rfl (hb hby at_170) rfl ?_
      show oS p e below T148 m 172 #[iv x1, iv x2, iv x3, lv x4, .second, lv x5, .second, lv x6, .second, iv (5 : Int32), iv x3, iv r1, iv r2, iv r3, iv r4, iv r5, iv r6, rv b7, .unset] [(.int (5 : Int32))] _
      refine XS.ifNo X148.here hx rfl (hb hby at_172) rfl ((if0 _ _).trans (tlt (by decide : ((0 : Int32) < (5 : Int32)))).2.2.2) ?_
      refine XS.iload X148.here hx rfl (hb hby at_175) rfl ?_
      refine XS.iloadN X148.here hx rfl (hb hby at_177) rfl ?_
      exact kt
    obtain ⟨v186, T154, Lj154, jv154, N154, X154, e154, st154⟩ := own_join (α := Int32) X148 N148 rfl (mkF m 178 #[iv x1, iv x2, iv x3, lv x4, .second, lv x5, .second, lv x6, .second, iv (5 : Int32), iv x3, iv r1, iv r2, iv r3, iv r4, iv r5, iv r6, rv b7, .unset] [(.int x2), (.int x3)]) (fun v => (mkF m 186 #[iv x1, iv x2, iv x3, lv x4, .second, lv x5, .second, lv x6, .second, iv (5 : Int32), iv x3, iv r1, iv r2, iv r3, iv r4, iv r5, iv r6, rv b7, .unset] [(.int v)])) (fun v => v = (if x2 < x3 then (0 : Int32) else (1 : Int32))) (by
        by_cases hc178 : x2 < x3
        · have pre152 : ∀ tz, oS p e below T148 m 186 #[iv x1, iv x2, iv x3, lv x4, .second, lv x5, .second, lv x6, .second, iv (5 : Int32), iv x3, iv r1, iv r2, iv r3, iv r4, iv r5, iv r6, rv b7, .unset] [(.int (0 : Int32))] tz → oS p e below T148 m 178 #[iv x1, iv x2, iv x3, lv x4, .second, lv x5, .second, lv x6, .second, iv (5 : Int32), iv x3, iv r1, iv r2, iv r3, iv r4, iv r5, iv r6, rv b7, .unset] [(.int x2), (.int x3)] tz := fun tz kt => by
            show oS p e below T148 m 178 #[iv x1, iv x2, iv x3, lv x4, .second, lv x5, .second, lv x6, .second, iv (5 : Int32), iv x3, iv r1, iv r2, iv r3, iv r4, iv r5, iv r6, rv b7, .unset] [(.int x2), (.int x3)] _
            refine XS.icmpYes X148.here hx rfl (pc0 := 178) (pc' := 185) rfl (hb hby at_178) rfl (tlt hc178).2.2.1 (by decide) (by decide) ?_
            refine XS.iconst X148.here hx rfl (hb hby at_185) ?_
            exact kt
          exact ⟨(0 : Int32), T148, _, (by rw [if_pos hc178]), N148, X148, rfl, fun tz kt => (pre152 _ kt)⟩
        · have pre153 : ∀ tz, oS p e below T148 m 186 #[iv x1, iv x2, iv x3, lv x4, .second, lv x5, .second, lv x6, .second, iv (5 : Int32), iv x3, iv r1, iv r2, iv r3, iv r4, iv r5, iv r6, rv b7, .unset] [(.int (1 : Int32))] tz → oS p e below T148 m 178 #[iv x1, iv x2, iv x3, lv x4, .second, lv x5, .second, lv x6, .second, iv (5 : Int32), iv x3, iv r1, iv r2, iv r3, iv r4, iv r5, iv r6, rv b7, .unset] [(.int x2), (.int x3)] tz := fun tz kt => by
            show oS p e below T148 m 178 #[iv x1, iv x2, iv x3, lv x4, .second, lv x5, .second, lv x6, .second, iv (5 : Int32), iv x3, iv r1, iv r2, iv r3, iv r4, iv r5, iv r6, rv b7, .unset] [(.int x2), (.int x3)] _
            refine XS.icmpNo X148.here hx rfl (hb hby at_178) rfl (flt hc178).2.2.1 ?_
            refine XS.iconst X148.here hx rfl (hb hby at_181) ?_
            refine XS.goto X148.here hx rfl (pc0 := 182) (pc' := 186) rfl (hb hby at_182) (by decide) (by decide) ?_
            exact kt
          exact ⟨(1 : Int32), T148, _, (by rw [if_neg hc178]), N148, X148, rfl, fun tz kt => (pre153 _ kt)⟩)
    have hv186 : v186 = (if x2 < x3 then (0 : Int32) else (1 : Int32)) := jv154
    have Zc156 : n0 ≤ T148.heap.size := (Nat.le_trans Zc150 K148.1)
    obtain ⟨_, _, ⟨T155, Lw155, kw155, nw155⟩, -, X155, ⟨Lc155, hQ155, l155, y155, z155⟩, st155⟩ := Jvm.LawKit.callS X154 hx (y := (⟨oz1, "one", "(Z)I"⟩ : MethodName)) hown (mvT hZ (own_w hw 22 rfl)) (mvT hZ (own_w hw 23 rfl)) (mvT hZ (own_w hw 2 rfl)) (mvT hZ (own_w hw 24 rfl)) (by decide) (backOf (W := 0) (rm5 l Z a0 hw [] v186 T148.heap n0 Zc156 ) hZ (own_w hw 24 rfl) (own_w hw 2 rfl) (by decide) (by decide)) (g := (mkF m 186 #[iv x1, iv x2, iv x3, lv x4, .second, lv x5, .second, lv x6, .second, iv (5 : Int32), iv x3, iv r1, iv r2, iv r3, iv r4, iv r5, iv r6, rv b7, .unset] [(.int v186)])) rfl (by rw [hml]; rfl) (argsL := [(.int v186)]) (rest := []) (lenOf own_pd5 rfl) rfl (by show 2 * 0 + _ ≤ _; exact Nat.le_of_eq rfl) (hb hby at_186) (fun _ _ => ⟨rfl, e154, (by decide : 3 + 0 ≤ _), (by decide : 14 + 0 ≤ _)⟩)
    dsimp only [Pt.U, Pt.locs, Pt.cells, Pt.slots] at X155 l155 y155 z155 st155 hQ155
    subst l155 y155 z155
    obtain ⟨rfl, Nq155, eh155⟩ := hQ155
    have N155 := Fr.app N154 Nq155
    have pre157 : ∀ tz, oS p e below T155 m 198 #[iv x1, iv x2, iv x3, lv x4, .second, lv x5, .second, lv x6, .second, iv (5 : Int32), iv x3, iv r1, iv r2, iv r3, iv r4, iv r5, iv r6, rv b7, .unset] [(.int x2), (.int r1), (.int (if v186 = (0 : Int32) then (0 : Int32) else (1 : Int32)))] tz → oS p e below T148 m 178 #[iv x1, iv x2, iv x3, lv x4, .second, lv x5, .second, lv x6, .second, iv (5 : Int32), iv x3, iv r1, iv r2, iv r3, iv r4, iv r5, iv r6, rv b7, .unset] [(.int x2), (.int x3)] tz := fun tz kt => by
      show oS p e below T148 m 178 #[iv x1, iv x2, iv x3, lv x4, .second, lv x5, .second, lv x6, .second, iv (5 : Int32), iv x3, iv r1, iv r2, iv r3, iv r4, iv r5, iv r6, rv b7, .unset] [(.int x2), (.int x3)] _
      refine st154 _ ?_
      show oS p e below T154 m 186 #[iv x1, iv x2, iv x3, lv x4, .second, lv x5, .second, lv x6, .second, iv (5 : Int32), iv x3, iv r1, iv r2, iv r3, iv r4, iv r5, iv r6, rv b7, .unset] [(.int v186)] _
      refine st155 _ ?_
      refine XS.iload X155.here hx rfl (hb hby at_189) rfl ?_
      refine XS.iconst X155.here hx rfl (hb hby at_191) ?_
      refine XS.icmpNo X155.here hx rfl (hb hby at_192) rfl (tlt (by decide : ((1 : Int32) < (5 : Int32)))).2.2.2 ?_
      show oS p e below T155 m 195 #[iv x1, iv x2, iv x3, lv x4, .second, lv x5, .second, lv x6, .second, iv (5 : Int32), iv x3, iv r1, iv r2, iv r3, iv r4, iv r5, iv r6, rv b7, .unset] [(.int (if v186 = (0 : Int32) then (0 : Int32) else (1 : Int32)))] _
      refine XS.iload X155.here hx rfl (hb hby at_195) rfl ?_
      refine XS.iloadN X155.here hx rfl (hb hby at_197) rfl ?_
      exact kt
    obtain ⟨v206, T160, Lj160, jv160, N160, X160, e160, st160⟩ := own_join (α := Int32) X155 N155 eh155 (mkF m 198 #[iv x1, iv x2, iv x3, lv x4, .second, lv x5, .second, lv x6, .second, iv (5 : Int32), iv x3, iv r1, iv r2, iv r3, iv r4, iv r5, iv r6, rv b7, .unset] [(.int x2), (.int r1), (.int (if v186 = (0 : Int32) then (0 : Int32) else (1 : Int32)))]) (fun v => (mkF m 206 #[iv x1, iv x2, iv x3, lv x4, .second, lv x5, .second, lv x6, .second, iv (5 : Int32), iv x3, iv r1, iv r2, iv r3, iv r4, iv r5, iv r6, rv b7, .unset] [(.int v), (.int (if v186 = (0 : Int32) then (0 : Int32) else (1 : Int32)))])) (fun v => v = (if x2 < r1 then (0 : Int32) else (1 : Int32))) (by
        by_cases hc198 : x2 < r1
        · have pre158 : ∀ tz, oS p e below T155 m 206 #[iv x1, iv x2, iv x3, lv x4, .second, lv x5, .second, lv x6, .second, iv (5 : Int32), iv x3, iv r1, iv r2, iv r3, iv r4, iv r5, iv r6, rv b7, .unset] [(.int (0 : Int32)), (.int (if v186 = (0 : Int32) then (0 : Int32) else (1 : Int32)))] tz → oS p e below T155 m 198 #[iv x1, iv x2, iv x3, lv x4, .second, lv x5, .second, lv x6, .second, iv (5 : Int32), iv x3, iv r1, iv r2, iv r3, iv r4, iv r5, iv r6, rv b7, .unset] [(.int x2), (.int r1), (.int (if v186 = (0 : Int32) then (0 : Int32) else (1 : Int32)))] tz := fun tz kt => by
            show oS p e below T155 m 198 #[iv x1, iv x2, iv x3, lv x4, .second, lv x5, .second, lv x6, .second, iv (5 : Int32), iv x3, iv r1, iv r2, iv r3, iv r4, iv r5, iv r6, rv b7, .unset] [(.int x2), (.int r1), (.int (if v186 = (0 : Int32) then (0 : Int32) else (1 : Int32)))] _
            refine XS.icmpYes X155.here hx rfl (pc0 := 198) (pc' := 205) rfl (hb hby at_198) rfl (tlt hc198).2.2.1 (by decide) (by decide) ?_
            refine XS.iconst X155.here hx rfl (hb hby at_205) ?_
            exact kt
          exact ⟨(0 : Int32), T155, _, (by rw [if_pos hc198]), N155, X155, eh155, fun tz kt => (pre158 _ kt)⟩
        · have pre159 : ∀ tz, oS p e below T155 m 206 #[iv x1, iv x2, iv x3, lv x4, .second, lv x5, .second, lv x6, .second, iv (5 : Int32), iv x3, iv r1, iv r2, iv r3, iv r4, iv r5, iv r6, rv b7, .unset] [(.int (1 : Int32)), (.int (if v186 = (0 : Int32) then (0 : Int32) else (1 : Int32)))] tz → oS p e below T155 m 198 #[iv x1, iv x2, iv x3, lv x4, .second, lv x5, .second, lv x6, .second, iv (5 : Int32), iv x3, iv r1, iv r2, iv r3, iv r4, iv r5, iv r6, rv b7, .unset] [(.int x2), (.int r1), (.int (if v186 = (0 : Int32) then (0 : Int32) else (1 : Int32)))] tz := fun tz kt => by
            show oS p e below T155 m 198 #[iv x1, iv x2, iv x3, lv x4, .second, lv x5, .second, lv x6, .second, iv (5 : Int32), iv x3, iv r1, iv r2, iv r3, iv r4, iv r5, iv r6, rv b7, .unset] [(.int x2), (.int r1), (.int (if v186 = (0 : Int32) then (0 : Int32) else (1 : Int32)))] _
            refine XS.icmpNo X155.here hx rfl (hb hby at_198) rfl (flt hc198).2.2.1 ?_
            refine XS.iconst X155.here hx rfl (hb hby at_201) ?_
            refine XS.goto X155.here hx rfl (pc0 := 202) (pc' := 206) rfl (hb hby at_202) (by decide) (by decide) ?_
            exact kt
          exact ⟨(1 : Int32), T155, _, (by rw [if_neg hc198]), N155, X155, eh155, fun tz kt => (pre159 _ kt)⟩)
    have hv206 : v206 = (if x2 < r1 then (0 : Int32) else (1 : Int32)) := jv160
    obtain ⟨_, _, ⟨T161, Lw161, kw161, nw161⟩, -, X161, ⟨Lc161, hQ161, l161, y161, z161⟩, st161⟩ := Jvm.LawKit.callS X160 hx (y := (⟨oz1, "one", "(Z)I"⟩ : MethodName)) hown (mvT hZ (own_w hw 22 rfl)) (mvT hZ (own_w hw 23 rfl)) (mvT hZ (own_w hw 2 rfl)) (mvT hZ (own_w hw 24 rfl)) (by decide) (backOf (W := 1) (rm5 l Z a0 hw [] v206 T148.heap n0 Zc156 ) hZ (own_w hw 24 rfl) (own_w hw 2 rfl) (by decide) (by decide)) (g := (mkF m 206 #[iv x1, iv x2, iv x3, lv x4, .second, lv x5, .second, lv x6, .second, iv (5 : Int32), iv x3, iv r1, iv r2, iv r3, iv r4, iv r5, iv r6, rv b7, .unset] [(.int v206), (.int (if v186 = (0 : Int32) then (0 : Int32) else (1 : Int32)))])) rfl (by rw [hml]; rfl) (argsL := [(.int v206)]) (rest := [(.int (if v186 = (0 : Int32) then (0 : Int32) else (1 : Int32)))]) (lenOf own_pd5 rfl) rfl (by show 2 * 0 + _ ≤ _; exact Nat.le_of_eq rfl) (hb hby at_206) (fun _ _ => ⟨rfl, e160, (by decide : 3 + 0 ≤ _), (by decide : 14 + 0 ≤ _)⟩)
    dsimp only [Pt.U, Pt.locs, Pt.cells, Pt.slots] at X161 l161 y161 z161 st161 hQ161
    subst l161 y161 z161
    obtain ⟨rfl, Nq161, eh161⟩ := hQ161
    have N161 := Fr.app N160 Nq161
    have pre162 : ∀ tz, oS p e below T161 m 219 #[iv x1, iv x2, iv x3, lv x4, .second, lv x5, .second, lv x6, .second, iv (5 : Int32), iv x3, iv r1, iv r2, iv r3, iv r4, iv r5, iv r6, rv b7, .unset] [(.int x2), (.int r2), (.int ((if v186 = (0 : Int32) then (0 : Int32) else (1 : Int32)) + (if v206 = (0 : Int32) then (0 : Int32) else (1 : Int32))))] tz → oS p e below T155 m 198 #[iv x1, iv x2, iv x3, lv x4, .second, lv x5, .second, lv x6, .second, iv (5 : Int32), iv x3, iv r1, iv r2, iv r3, iv r4, iv r5, iv r6, rv b7, .unset] [(.int x2), (.int r1), (.int (if v186 = (0 : Int32) then (0 : Int32) else (1 : Int32)))] tz := fun tz kt => by
      show oS p e below T155 m 198 #[iv x1, iv x2, iv x3, lv x4, .second, lv x5, .second, lv x6, .second, iv (5 : Int32), iv x3, iv r1, iv r2, iv r3, iv r4, iv r5, iv r6, rv b7, .unset] [(.int x2), (.int r1), (.int (if v186 = (0 : Int32) then (0 : Int32) else (1 : Int32)))] _
      refine st160 _ ?_
      show oS p e below T160 m 206 #[iv x1, iv x2, iv x3, lv x4, .second, lv x5, .second, lv x6, .second, iv (5 : Int32), iv x3, iv r1, iv r2, iv r3, iv r4, iv r5, iv r6, rv b7, .unset] [(.int v206), (.int (if v186 = (0 : Int32) then (0 : Int32) else (1 : Int32)))] _
      refine st161 _ ?_
      refine XS.iadd X161.here hx rfl (hb hby at_209) rfl ?_
      refine XS.iload X161.here hx rfl (hb hby at_210) rfl ?_
      refine XS.iconst X161.here hx rfl (hb hby at_212) ?_
      show oS p e below T161 m 213 #[iv x1, iv x2, iv x3, lv x4, .second, lv x5, .second, lv x6, .second, iv (5 : Int32), iv x3, iv r1, iv r2, iv r3, iv r4, iv r5, iv r6, rv b7, .unset] [(.int (2 : Int32)), (.int (5 : Int32)), (.int ((if v186 = (0 : Int32) then (0 : Int32) else (1 : Int32)) + (if v206 = (0 : Int32) then (0 : Int32) else (1 : Int32))))] _
      refine XS.icmpNo X161.here hx rfl (hb hby at_213) rfl (tlt (by decide : ((2 : Int32) < (5 : Int32)))).2.2.2 ?_
      refine XS.iload X161.here hx rfl (hb hby at_216) rfl ?_
      refine XS.iloadN X161.here hx rfl (hb hby at_218) rfl ?_
      exact kt
    obtain ⟨v227, T165, Lj165, jv165, N165, X165, e165, st165⟩ := own_join (α := Int32) X161 N161 eh161 (mkF m 219 #[iv x1, iv x2, iv x3, lv x4, .second, lv x5, .second, lv x6, .second, iv (5 : Int32), iv x3, iv r1, iv r2, iv r3, iv r4, iv r5, iv r6, rv b7, .unset] [(.int x2), (.int r2), (.int ((if v186 = (0 : Int32) then (0 : Int32) else (1 : Int32)) + (if v206 = (0 : Int32) then (0 : Int32) else (1 : Int32))))]) (fun v => (mkF m 227 #[iv x1, iv x2, iv x3, lv x4, .second, lv x5, .second, lv x6, .second, iv (5 : Int32), iv x3, iv r1, iv r2, iv r3, iv r4, iv r5, iv r6, rv b7, .unset] [(.int v), (.int ((if v186 = (0 : Int32) then (0 : Int32) else (1 : Int32)) + (if v206 = (0 : Int32) then (0 : Int32) else (1 : Int32))))])) (fun v => v = (if x2 < r2 then (0 : Int32) else (1 : Int32))) (by
        by_cases hc219 : x2 < r2
        · have pre163 : ∀ tz, oS p e below T161 m 227 #[iv x1, iv x2, iv x3, lv x4, .second, lv x5, .second, lv x6, .second, iv (5 : Int32), iv x3, iv r1, iv r2, iv r3, iv r4, iv r5, iv r6, rv b7, .unset] [(.int (0 : Int32)), (.int ((if v186 = (0 : Int32) then (0 : Int32) else (1 : Int32)) + (if v206 = (0 : Int32) then (0 : Int32) else (1 : Int32))))] tz → oS p e below T161 m 219 #[iv x1, iv x2, iv x3, lv x4, .second, lv x5, .second, lv x6, .second, iv (5 : Int32), iv x3, iv r1, iv r2, iv r3, iv r4, iv r5, iv r6, rv b7, .unset] [(.int x2), (.int r2), (.int ((if v186 = (0 : Int32) then (0 : Int32) else (1 : Int32)) + (if v206 = (0 : Int32) then (0 : Int32) else (1 : Int32))))] tz := fun tz kt => by
            show oS p e below T161 m 219 #[iv x1, iv x2, iv x3, lv x4, .second, lv x5, .second, lv x6, .second, iv (5 : Int32), iv x3, iv r1, iv r2, iv r3, iv r4, iv r5, iv r6, rv b7, .unset] [(.int x2), (.int r2), (.int ((if v186 = (0 : Int32) then (0 : Int32) else (1 : Int32)) + (if v206 = (0 : Int32) then (0 : Int32) else (1 : Int32))))] _
            refine XS.icmpYes X161.here hx rfl (pc0 := 219) (pc' := 226) rfl (hb hby at_219) rfl (tlt hc219).2.2.1 (by decide) (by decide) ?_
            refine XS.iconst X161.here hx rfl (hb hby at_226) ?_
            exact kt
          exact ⟨(0 : Int32), T161, _, (by rw [if_pos hc219]), N161, X161, eh161, fun tz kt => (pre163 _ kt)⟩
        · have pre164 : ∀ tz, oS p e below T161 m 227 #[iv x1, iv x2, iv x3, lv x4, .second, lv x5, .second, lv x6, .second, iv (5 : Int32), iv x3, iv r1, iv r2, iv r3, iv r4, iv r5, iv r6, rv b7, .unset] [(.int (1 : Int32)), (.int ((if v186 = (0 : Int32) then (0 : Int32) else (1 : Int32)) + (if v206 = (0 : Int32) then (0 : Int32) else (1 : Int32))))] tz → oS p e below T161 m 219 #[iv x1, iv x2, iv x3, lv x4, .second, lv x5, .second, lv x6, .second, iv (5 : Int32), iv x3, iv r1, iv r2, iv r3, iv r4, iv r5, iv r6, rv b7, .unset] [(.int x2), (.int r2), (.int ((if v186 = (0 : Int32) then (0 : Int32) else (1 : Int32)) + (if v206 = (0 : Int32) then (0 : Int32) else (1 : Int32))))] tz := fun tz kt => by
            show oS p e below T161 m 219 #[iv x1, iv x2, iv x3, lv x4, .second, lv x5, .second, lv x6, .second, iv (5 : Int32), iv x3, iv r1, iv r2, iv r3, iv r4, iv r5, iv r6, rv b7, .unset] [(.int x2), (.int r2), (.int ((if v186 = (0 : Int32) then (0 : Int32) else (1 : Int32)) + (if v206 = (0 : Int32) then (0 : Int32) else (1 : Int32))))] _
            refine XS.icmpNo X161.here hx rfl (hb hby at_219) rfl (flt hc219).2.2.1 ?_
            refine XS.iconst X161.here hx rfl (hb hby at_222) ?_
            refine XS.goto X161.here hx rfl (pc0 := 223) (pc' := 227) rfl (hb hby at_223) (by decide) (by decide) ?_
            exact kt
          exact ⟨(1 : Int32), T161, _, (by rw [if_neg hc219]), N161, X161, eh161, fun tz kt => (pre164 _ kt)⟩)
    have hv227 : v227 = (if x2 < r2 then (0 : Int32) else (1 : Int32)) := jv165
    obtain ⟨_, _, ⟨T166, Lw166, kw166, nw166⟩, -, X166, ⟨Lc166, hQ166, l166, y166, z166⟩, st166⟩ := Jvm.LawKit.callS X165 hx (y := (⟨oz1, "one", "(Z)I"⟩ : MethodName)) hown (mvT hZ (own_w hw 22 rfl)) (mvT hZ (own_w hw 23 rfl)) (mvT hZ (own_w hw 2 rfl)) (mvT hZ (own_w hw 24 rfl)) (by decide) (backOf (W := 1) (rm5 l Z a0 hw [] v227 T148.heap n0 Zc156 ) hZ (own_w hw 24 rfl) (own_w hw 2 rfl) (by decide) (by decide)) (g := (mkF m 227 #[iv x1, iv x2, iv x3, lv x4, .second, lv x5, .second, lv x6, .second, iv (5 : Int32), iv x3, iv r1, iv r2, iv r3, iv r4, iv r5, iv r6, rv b7, .unset] [(.int v227), (.int ((if v186 = (0 : Int32) then (0 : Int32) else (1 : Int32)) + (if v206 = (0 : Int32) then (0 : Int32) else (1 : Int32))))])) rfl (by rw [hml]; rfl) (argsL := [(.int v227)]) (rest := [(.int ((if v186 = (0 : Int32) then (0 : Int32) else (1 : Int32)) + (if v206 = (0 : Int32) then (0 : Int32) else (1 : Int32))))]) (lenOf own_pd5 rfl) rfl (by show 2 * 0 + _ ≤ _; exact Nat.le_of_eq rfl) (hb hby at_227) (fun _ _ => ⟨rfl, e165, (by decide : 3 + 0 ≤ _), (by decide : 14 + 0 ≤ _)⟩)
    dsimp only [Pt.U, Pt.locs, Pt.cells, Pt.slots] at X166 l166 y166 z166 st166 hQ166
    subst l166 y166 z166
    obtain ⟨rfl, Nq166, eh166⟩ := hQ166
    have N166 := Fr.app N165 Nq166
    have pre167 : ∀ tz, oS p e below T166 m 240 #[iv x1, iv x2, iv x3, lv x4, .second, lv x5, .second, lv x6, .second, iv (5 : Int32), iv x3, iv r1, iv r2, iv r3, iv r4, iv r5, iv r6, rv b7, .unset] [(.int x2), (.int r3), (.int (((if v186 = (0 : Int32) then (0 : Int32) else (1 : Int32)) + (if v206 = (0 : Int32) then (0 : Int32) else (1 : Int32))) + (if v227 = (0 : Int32) then (0 : Int32) else (1 : Int32))))] tz → oS p e below T161 m 219 #[iv x1, iv x2, iv x3, lv x4, .second, lv x5, .second, lv x6, .second, iv (5 : Int32), iv x3, iv r1, iv r2, iv r3, iv r4, iv r5, iv r6, rv b7, .unset] [(.int x2), (.int r2), (.int ((if v186 = (0 : Int32) then (0 : Int32) else (1 : Int32)) + (if v206 = (0 : Int32) then (0 : Int32) else (1 : Int32))))] tz := fun tz kt => by
      show oS p e below T161 m 219 #[iv x1, iv x2, iv x3, lv x4, .second, lv x5, .second, lv x6, .second, iv (5 : Int32), iv x3, iv r1, iv r2, iv r3, iv r4, iv r5, iv r6, rv b7, .unset] [(.int x2), (.int r2), (.int ((if v186 = (0 : Int32) then (0 : Int32) else (1 : Int32)) + (if v206 = (0 : Int32) then (0 : Int32) else (1 : Int32))))] _
      refine st165 _ ?_
      show oS p e below T165 m 227 #[iv x1, iv x2, iv x3, lv x4, .second, lv x5, .second, lv x6, .second, iv (5 : Int32), iv x3, iv r1, iv r2, iv r3, iv r4, iv r5, iv r6, rv b7, .unset] [(.int v227), (.int ((if v186 = (0 : Int32) then (0 : Int32) else (1 : Int32)) + (if v206 = (0 : Int32) then (0 : Int32) else (1 : Int32))))] _
      refine st166 _ ?_
      refine XS.iadd X166.here hx rfl (hb hby at_230) rfl ?_
      refine XS.iload X166.here hx rfl (hb hby at_231) rfl ?_
      refine XS.iconst X166.here hx rfl (hb hby at_233) ?_
      show oS p e below T166 m 234 #[iv x1, iv x2, iv x3, lv x4, .second, lv x5, .second, lv x6, .second, iv (5 : Int32), iv x3, iv r1, iv r2, iv r3, iv r4, iv r5, iv r6, rv b7, .unset] [(.int (3 : Int32)), (.int (5 : Int32)), (.int (((if v186 = (0 : Int32) then (0 : Int32) else (1 : Int32)) + (if v206 = (0 : Int32) then (0 : Int32) else (1 : Int32))) + (if v227 = (0 : Int32) then (0 : Int32) else (1 : Int32))))] _
      refine XS.icmpNo X166.here hx rfl (hb hby at_234) rfl (tlt (by decide : ((3 : Int32) < (5 : Int32)))).2.2.2 ?_
      refine XS.iload X166.here hx rfl (hb hby at_237) rfl ?_
      refine XS.iloadN X166.here hx rfl (hb hby at_239) rfl ?_
      exact kt
    obtain ⟨v248, T170, Lj170, jv170, N170, X170, e170, st170⟩ := own_join (α := Int32) X166 N166 eh166 (mkF m 240 #[iv x1, iv x2, iv x3, lv x4, .second, lv x5, .second, lv x6, .second, iv (5 : Int32), iv x3, iv r1, iv r2, iv r3, iv r4, iv r5, iv r6, rv b7, .unset] [(.int x2), (.int r3), (.int (((if v186 = (0 : Int32) then (0 : Int32) else (1 : Int32)) + (if v206 = (0 : Int32) then (0 : Int32) else (1 : Int32))) + (if v227 = (0 : Int32) then (0 : Int32) else (1 : Int32))))]) (fun v => (mkF m 248 #[iv x1, iv x2, iv x3, lv x4, .second, lv x5, .second, lv x6, .second, iv (5 : Int32), iv x3, iv r1, iv r2, iv r3, iv r4, iv r5, iv r6, rv b7, .unset] [(.int v), (.int (((if v186 = (0 : Int32) then (0 : Int32) else (1 : Int32)) + (if v206 = (0 : Int32) then (0 : Int32) else (1 : Int32))) + (if v227 = (0 : Int32) then (0 : Int32) else (1 : Int32))))])) (fun v => v = (if x2 < r3 then (0 : Int32) else (1 : Int32))) (by
        by_cases hc240 : x2 < r3
        · have pre168 : ∀ tz, oS p e below T166 m 248 #[iv x1, iv x2, iv x3, lv x4, .second, lv x5, .second, lv x6, .second, iv (5 : Int32), iv x3, iv r1, iv r2, iv r3, iv r4, iv r5, iv r6, rv b7, .unset] [(.int (0 : Int32)), (.int (((if v186 = (0 : Int32) then (0 : Int32) else (1 : Int32)) + (if v206 = (0 : Int32) then (0 : Int32) else (1 : Int32))) + (if v227 = (0 : Int32) then (0 : Int32) else (1 : Int32))))] tz → oS p e below T166 m 240 #[iv x1, iv x2, iv x3, lv x4, .second, lv x5, .second, lv x6, .second, iv (5 : Int32), iv x3, iv r1, iv r2, iv r3, iv r4, iv r5, iv r6, rv b7, .unset] [(.int x2), (.int r3), (.int (((if v186 = (0 : Int32) then (0 : Int32) else (1 : Int32)) + (if v206 = (0 : Int32) then (0 : Int32) else (1 : Int32))) + (if v227 = (0 : Int32) then (0 : Int32) else (1 : Int32))))] tz := fun tz kt => by
            show oS p e below T166 m 240 #[iv x1, iv x2, iv x3, lv x4, .second, lv x5, .second, lv x6, .second, iv (5 : Int32), iv x3, iv r1, iv r2, iv r3, iv r4, iv r5, iv r6, rv b7, .unset] [(.int x2), (.int r3), (.int (((if v186 = (0 : Int32) then (0 : Int32) else (1 : Int32)) + (if v206 = (0 : Int32) then (0 : Int32) else (1 : Int32))) + (if v227 = (0 : Int32) then (0 : Int32) else (1 : Int32))))] _
            refine XS.icmpYes X166.here hx rfl (pc0 := 240) (pc' := 247) rfl (hb hby at_240) rfl (tlt hc240).2.2.1 (by decide) (by decide) ?_
            refine XS.iconst X166.here hx rfl (hb hby at_247) ?_
            exact kt
          exact ⟨(0 : Int32), T166, _, (by rw [if_pos hc240]), N166, X166, eh166, fun tz kt => (pre168 _ kt)⟩
        · have pre169 : ∀ tz, oS p e below T166 m 248 #[iv x1, iv x2, iv x3, lv x4, .second, lv x5, .second, lv x6, .second, iv (5 : Int32), iv x3, iv r1, iv r2, iv r3, iv r4, iv r5, iv r6, rv b7, .unset] [(.int (1 : Int32)), (.int (((if v186 = (0 : Int32) then (0 : Int32) else (1 : Int32)) + (if v206 = (0 : Int32) then (0 : Int32) else (1 : Int32))) + (if v227 = (0 : Int32) then (0 : Int32) else (1 : Int32))))] tz → oS p e below T166 m 240 #[iv x1, iv x2, iv x3, lv x4, .second, lv x5, .second, lv x6, .second, iv (5 : Int32), iv x3, iv r1, iv r2, iv r3, iv r4, iv r5, iv r6, rv b7, .unset] [(.int x2), (.int r3), (.int (((if v186 = (0 : Int32) then (0 : Int32) else (1 : Int32)) + (if v206 = (0 : Int32) then (0 : Int32) else (1 : Int32))) + (if v227 = (0 : Int32) then (0 : Int32) else (1 : Int32))))] tz := fun tz kt => by
            show oS p e below T166 m 240 #[iv x1, iv x2, iv x3, lv x4, .second, lv x5, .second, lv x6, .second, iv (5 : Int32), iv x3, iv r1, iv r2, iv r3, iv r4, iv r5, iv r6, rv b7, .unset] [(.int x2), (.int r3), (.int (((if v186 = (0 : Int32) then (0 : Int32) else (1 : Int32)) + (if v206 = (0 : Int32) then (0 : Int32) else (1 : Int32))) + (if v227 = (0 : Int32) then (0 : Int32) else (1 : Int32))))] _
            refine XS.icmpNo X166.here hx rfl (hb hby at_240) rfl (flt hc240).2.2.1 ?_
            refine XS.iconst X166.here hx rfl (hb hby at_243) ?_
            refine XS.goto X166.here hx rfl (pc0 := 244) (pc' := 248) rfl (hb hby at_244) (by decide) (by decide) ?_
            exact kt
          exact ⟨(1 : Int32), T166, _, (by rw [if_neg hc240]), N166, X166, eh166, fun tz kt => (pre169 _ kt)⟩)
    have hv248 : v248 = (if x2 < r3 then (0 : Int32) else (1 : Int32)) := jv170
    obtain ⟨_, _, ⟨T171, Lw171, kw171, nw171⟩, -, X171, ⟨Lc171, hQ171, l171, y171, z171⟩, st171⟩ := Jvm.LawKit.callS X170 hx (y := (⟨oz1, "one", "(Z)I"⟩ : MethodName)) hown (mvT hZ (own_w hw 22 rfl)) (mvT hZ (own_w hw 23 rfl)) (mvT hZ (own_w hw 2 rfl)) (mvT hZ (own_w hw 24 rfl)) (by decide) (backOf (W := 1) (rm5 l Z a0 hw [] v248 T148.heap n0 Zc156 ) hZ (own_w hw 24 rfl) (own_w hw 2 rfl) (by decide) (by decide)) (g := (mkF m 248 #[iv x1, iv x2, iv x3, lv x4, .second, lv x5, .second, lv x6, .second, iv (5 : Int32), iv x3, iv r1, iv r2, iv r3, iv r4, iv r5, iv r6, rv b7, .unset] [(.int v248), (.int (((if v186 = (0 : Int32) then (0 : Int32) else (1 : Int32)) + (if v206 = (0 : Int32) then (0 : Int32) else (1 : Int32))) + (if v227 = (0 : Int32) then (0 : Int32) else (1 : Int32))))])) rfl (by rw [hml]; rfl) (argsL := [(.int v248)]) (rest := [(.int (((if v186 = (0 : Int32) then (0 : Int32) else (1 : Int32)) + (if v206 = (0 : Int32) then (0 : Int32) else (1 : Int32))) + (if v227 = (0 : Int32) then (0 : Int32) else (1 : Int32))))]) (lenOf own_pd5 rfl) rfl (by show 2 * 0 + _ ≤ _; exact Nat.le_of_eq rfl) (hb hby at_248) (fun _ _ => ⟨rfl, e170, (by decide : 3 + 0 ≤ _), (by decide : 14 + 0 ≤ _)⟩)
    dsimp only [Pt.U, Pt.locs, Pt.cells, Pt.slots] at X171 l171 y171 z171 st171 hQ171
    subst l171 y171 z171
    obtain ⟨rfl, Nq171, eh171⟩ := hQ171
    have N171 := Fr.app N170 Nq171
    have pre172 : ∀ tz, oS p e below T171 m 261 #[iv x1, iv x2, iv x3, lv x4, .second, lv x5, .second, lv x6, .second, iv (5 : Int32), iv x3, iv r1, iv r2, iv r3, iv r4, iv r5, iv r6, rv b7, .unset] [(.int x2), (.int r4), (.int ((((if v186 = (0 : Int32) then (0 : Int32) else (1 : Int32)) + (if v206 = (0 : Int32) then (0 : Int32) else (1 : Int32))) + (if v227 = (0 : Int32) then (0 : Int32) else (1 : Int32))) + (if v248 = (0 : Int32) then (0 : Int32) else (1 : Int32))))] tz → oS p e below T166 m 240 #[iv x1, iv x2, iv x3, lv x4, .second, lv x5, .second, lv x6, .second, iv (5 : Int32), iv x3, iv r1, iv r2, iv r3, iv r4, iv r5, iv r6, rv b7, .unset] [(.int x2), (.int r3), (.int (((if v186 = (0 : Int32) then (0 : Int32) else (1 : Int32)) + (if v206 = (0 : Int32) then (0 : Int32) else (1 : Int32))) + (if v227 = (0 : Int32) then (0 : Int32) else (1 : Int32))))] tz := fun tz kt => by
      show oS p e below T166 m 240 #[iv x1, iv x2, iv x3, lv x4, .second, lv x5, .second, lv x6, .second, iv (5 : Int32), iv x3, iv r1, iv r2, iv r3, iv r4, iv r5, iv r6, rv b7, .unset] [(.int x2), (.int r3), (.int (((if v186 = (0 : Int32) then (0 : Int32) else (1 : Int32)) + (if v206 = (0 : Int32) then (0 : Int32) else (1 : Int32))) + (if v227 = (0 : Int32) then (0 : Int32) else (1 : Int32))))] _
      refine st170 _ ?_
      show oS p e below T170 m 248 #[iv x1, iv x2, iv x3, lv x4, .second, lv x5, .second, lv x6, .second, iv (5 : Int32), iv x3, iv r1, iv r2, iv r3, iv r4, iv r5, iv r6, rv b7, .unset] [(.int v248), (.int (((if v186 = (0 : Int32) then (0 : Int32) else (1 : Int32)) + (if v206 = (0 : Int32) then (0 : Int32) else (1 : Int32))) + (if v227 = (0 : Int32) then (0 : Int32) else (1 : Int32))))] _
      refine st171 _ ?_
      refine XS.iadd X171.here hx rfl (hb hby at_251) rfl ?_
      refine XS.iload X171.here hx rfl (hb hby at_252) rfl ?_
      refine XS.iconst X171.here hx rfl (hb hby at_254) ?_
      show oS p e below T171 m 255 #[iv x1, iv x2, iv x3, lv x4, .second, lv x5, .second, lv x6, .second, iv (5 : Int32), iv x3, iv r1, iv r2, iv r3, iv r4, iv r5, iv r6, rv b7, .unset] [(.int (4 : Int32)), (.int (5 : Int32)), (.int ((((if v186 = (0 : Int32) then (0 : Int32) else (1 : Int32)) + (if v206 = (0 : Int32) then (0 : Int32) else (1 : Int32))) + (if v227 = (0 : Int32) then (0 : Int32) else (1 : Int32))) + (if v248 = (0 : Int32) then (0 : Int32) else (1 : Int32))))] _
      refine XS.icmpNo X171.here hx rfl (hb hby at_255) rfl (tlt (by decide : ((4 : Int32) < (5 : Int32)))).2.2.2 ?_
      refine XS.iload X171.here hx rfl (hb hby at_258) rfl ?_
      refine XS.iloadN X171.here hx rfl (hb hby at_260) rfl ?_
      exact kt
    obtain ⟨v269, T175, Lj175, jv175, N175, X175, e175, st175⟩ := own_join (α := Int32) X171 N171 eh171 (mkF m 261 #[iv x1, iv x2, iv x3, lv x4, .second, lv x5, .second, lv x6, .second, iv (5 : Int32), iv x3, iv r1, iv r2, iv r3, iv r4, iv r5, iv r6, rv b7, .unset] [(.int x2), (.int r4), (.int ((((if v186 = (0 : Int32) then (0 : Int32) else (1 : Int32)) + (if v206 = (0 : Int32) then (0 : Int32) else (1 : Int32))) + (if v227 = (0 : Int32) then (0 : Int32) else (1 : Int32))) + (if v248 = (0 : Int32) then (0 : Int32) else (1 : Int32))))]) (fun v => (mkF m 269 #[iv x1, iv x2, iv x3, lv x4, .second, lv x5, .second, lv x6, .second, iv (5 : Int32), iv x3, iv r1, iv r2, iv r3, iv r4, iv r5, iv r6, rv b7, .unset] [(.int v), (.int ((((if v186 = (0 : Int32) then (0 : Int32) else (1 : Int32)) + (if v206 = (0 : Int32) then (0 : Int32) else (1 : Int32))) + (if v227 = (0 : Int32) then (0 : Int32) else (1 : Int32))) + (if v248 = (0 : Int32) then (0 : Int32) else (1 : Int32))))])) (fun v => v = (if x2 < r4 then (0 : Int32) else (1 : Int32))) (by
        by_cases hc261 : x2 < r4
        · have pre173 : ∀ tz, oS p e below T171 m 269 #[iv x1, iv x2, iv x3, lv x4, .second, lv x5, .second, lv x6, .second, iv (5 : Int32), iv x3, iv r1, iv r2, iv r3, iv r4, iv r5, iv r6, rv b7, .unset] [(.int (0 : Int32)), (.int ((((if v186 = (0 : Int32) then (0 : Int32) else (1 : Int32)) + (if v206 = (0 : Int32) then (0 : Int32) else (1 : Int32))) + (if v227 = (0 : Int32) then (0 : Int32) else (1 : Int32))) + (if v248 = (0 : Int32) then (0 : Int32) else (1 : Int32))))] tz → oS p e below T171 m 261 #[iv x1, iv x2, iv x3, lv x4, .second, lv x5, .second, lv x6, .second, iv (5 : Int32), iv x3, iv r1, iv r2, iv r3, iv r4, iv r5, iv r6, rv b7, .unset] [(.int x2), (.int r4), (.int ((((if v186 = (0 : Int32) then (0 : Int32) else (1 : Int32)) + (if v206 = (0 : Int32) then (0 : Int32) else (1 : Int32))) + (if v227 = (0 : Int32) then (0 : Int32) else (1 : Int32))) + (if v248 = (0 : Int32) then (0 : Int32) else (1 : Int32))))] tz := fun tz kt => by
            show oS p e below T171 m 261 #[iv x1, iv x2, iv x3, lv x4, .second, lv x5, .second, lv x6, .second, iv (5 : Int32), iv x3, iv r1, iv r2, iv r3, iv r4, iv r5, iv r6, rv b7, .unset] [(.int x2), (.int r4), (.int ((((if v186 = (0 : Int32) then (0 : Int32) else (1 : Int32)) + (if v206 = (0 : Int32) then (0 : Int32) else (1 : Int32))) + (if v227 = (0 : Int32) then (0 : Int32) else (1 : Int32))) + (if v248 = (0 : Int32) then (0 : Int32) else (1 : Int32))))] _
            refine XS.icmpYes X171.here hx rfl (pc0 := 261) (pc' := 268) rfl (hb hby at_261) rfl (tlt hc261).2.2.1 (by decide) (by decide) ?_
            refine XS.iconst X171.here hx rfl (hb hby at_268) ?_
            exact kt
          exact ⟨(0 : Int32), T171, _, (by rw [if_pos hc261]), N171, X171, eh171, fun tz kt => (pre173 _ kt)⟩
        · have pre174 : ∀ tz, oS p e below T171 m 269 #[iv x1, iv x2, iv x3, lv x4, .second, lv x5, .second, lv x6, .second, iv (5 : Int32), iv x3, iv r1, iv r2, iv r3, iv r4, iv r5, iv r6, rv b7, .unset] [(.int (1 : Int32)), (.int ((((if v186 = (0 : Int32) then (0 : Int32) else (1 : Int32)) + (if v206 = (0 : Int32) then (0 : Int32) else (1 : Int32))) + (if v227 = (0 : Int32) then (0 : Int32) else (1 : Int32))) + (if v248 = (0 : Int32) then (0 : Int32) else (1 : Int32))))] tz → oS p e below T171 m 261 #[iv x1, iv x2, iv x3, lv x4, .second, lv x5, .second, lv x6, .second, iv (5 : Int32), iv x3, iv r1, iv r2, iv r3, iv r4, iv r5, iv r6, rv b7, .unset] [(.int x2), (.int r4), (.int ((((if v186 = (0 : Int32) then (0 : Int32) else (1 : Int32)) + (if v206 = (0 : Int32) then (0 : Int32) else (1 : Int32))) + (if v227 = (0 : Int32) then (0 : Int32) else (1 : Int32))) + (if v248 = (0 : Int32) then (0 : Int32) else (1 : Int32))))] tz := fun tz kt => by
            show oS p e below T171 m 261 #[iv x1, iv x2, iv x3, lv x4, .second, lv x5, .second, lv x6, .second, iv (5 : Int32), iv x3, iv r1, iv r2, iv r3, iv r4, iv r5, iv r6, rv b7, .unset] [(.int x2), (.int r4), (.int ((((if v186 = (0 : Int32) then (0 : Int32) else (1 : Int32)) + (if v206 = (0 : Int32) then (0 : Int32) else (1 : Int32))) + (if v227 = (0 : Int32) then (0 : Int32) else (1 : Int32))) + (if v248 = (0 : Int32) then (0 : Int32) else (1 : Int32))))] _
            refine XS.icmpNo X171.here hx rfl (hb hby at_261) rfl (flt hc261).2.2.1 ?_
            refine XS.iconst X171.here hx rfl (hb hby at_264) ?_
            refine XS.goto X171.here hx rfl (pc0 := 265) (pc' := 269) rfl (hb hby at_265) (by decide) (by decide) ?_
            exact kt
          exact ⟨(1 : Int32), T171, _, (by rw [if_neg hc261]), N171, X171, eh171, fun tz kt => (pre174 _ kt)⟩)
    have hv269 : v269 = (if x2 < r4 then (0 : Int32) else (1 : Int32)) := jv175
    obtain ⟨_, _, ⟨T176, Lw176, kw176, nw176⟩, -, X176, ⟨Lc176, hQ176, l176, y176, z176⟩, st176⟩ := Jvm.LawKit.callS X175 hx (y := (⟨oz1, "one", "(Z)I"⟩ : MethodName)) hown (mvT hZ (own_w hw 22 rfl)) (mvT hZ (own_w hw 23 rfl)) (mvT hZ (own_w hw 2 rfl)) (mvT hZ (own_w hw 24 rfl)) (by decide) (backOf (W := 1) (rm5 l Z a0 hw [] v269 T148.heap n0 Zc156 ) hZ (own_w hw 24 rfl) (own_w hw 2 rfl) (by decide) (by decide)) (g := (mkF m 269 #[iv x1, iv x2, iv x3, lv x4, .second, lv x5, .second, lv x6, .second, iv (5 : Int32), iv x3, iv r1, iv r2, iv r3, iv r4, iv r5, iv r6, rv b7, .unset] [(.int v269), (.int ((((if v186 = (0 : Int32) then (0 : Int32) else (1 : Int32)) + (if v206 = (0 : Int32) then (0 : Int32) else (1 : Int32))) + (if v227 = (0 : Int32) then (0 : Int32) else (1 : Int32))) + (if v248 = (0 : Int32) then (0 : Int32) else (1 : Int32))))])) rfl (by rw [hml]; rfl) (argsL := [(.int v269)]) (rest := [(.int ((((if v186 = (0 : Int32) then (0 : Int32) else (1 : Int32)) + (if v206 = (0 : Int32) then (0 : Int32) else (1 : Int32))) + (if v227 = (0 : Int32) then (0 : Int32) else (1 : Int32))) + (if v248 = (0 : Int32) then (0 : Int32) else (1 : Int32))))]) (lenOf own_pd5 rfl) rfl (by show 2 * 0 + _ ≤ _; exact Nat.le_of_eq rfl) (hb hby at_269) (fun _ _ => ⟨rfl, e175, (by decide : 3 + 0 ≤ _), (by decide : 14 + 0 ≤ _)⟩)
    dsimp only [Pt.U, Pt.locs, Pt.cells, Pt.slots] at X176 l176 y176 z176 st176 hQ176
    subst l176 y176 z176
    obtain ⟨rfl, Nq176, eh176⟩ := hQ176
    have N176 := Fr.app N175 Nq176
    obtain ⟨_, _, ⟨T177, Lw177, kw177, nw177⟩, -, X177, ⟨Lc177, hQ177, l177, y177, z177⟩, st177⟩ := Jvm.LawKit.callS X176 hx (y := (⟨oz1, "one", "(Z)I"⟩ : MethodName)) hown (mvT hZ (own_w hw 22 rfl)) (mvT hZ (own_w hw 23 rfl)) (mvT hZ (own_w hw 2 rfl)) (mvT hZ (own_w hw 24 rfl)) (by decide) (backOf (W := 1) (rm5 l Z a0 hw [] (0 : Int32) T148.heap n0 Zc156 ) hZ (own_w hw 24 rfl) (own_w hw 2 rfl) (by decide) (by decide)) (g := (mkF m 290 #[iv x1, iv x2, iv x3, lv x4, .second, lv x5, .second, lv x6, .second, iv (5 : Int32), iv x3, iv r1, iv r2, iv r3, iv r4, iv r5, iv r6, rv b7, .unset] [(.int (0 : Int32)), (.int (((((if v186 = (0 : Int32) then (0 : Int32) else (1 : Int32)) + (if v206 = (0 : Int32) then (0 : Int32) else (1 : Int32))) + (if v227 = (0 : Int32) then (0 : Int32) else (1 : Int32))) + (if v248 = (0 : Int32) then (0 : Int32) else (1 : Int32))) + (if v269 = (0 : Int32) then (0 : Int32) else (1 : Int32))))])) rfl (by rw [hml]; rfl) (argsL := [(.int (0 : Int32))]) (rest := [(.int (((((if v186 = (0 : Int32) then (0 : Int32) else (1 : Int32)) + (if v206 = (0 : Int32) then (0 : Int32) else (1 : Int32))) + (if v227 = (0 : Int32) then (0 : Int32) else (1 : Int32))) + (if v248 = (0 : Int32) then (0 : Int32) else (1 : Int32))) + (if v269 = (0 : Int32) then (0 : Int32) else (1 : Int32))))]) (lenOf own_pd5 rfl) rfl (by show 2 * 0 + _ ≤ _; exact Nat.le_of_eq rfl) (hb hby at_290) (fun _ _ => ⟨rfl, eh176, (by decide : 3 + 0 ≤ _), (by decide : 14 + 0 ≤ _)⟩)
    dsimp only [Pt.U, Pt.locs, Pt.cells, Pt.slots] at X177 l177 y177 z177 st177 hQ177
    subst l177 y177 z177
    obtain ⟨rfl, Nq177, eh177⟩ := hQ177
    have N177 := Fr.app N176 Nq177
    obtain ⟨_, _, ⟨T178, Lw178, kw178, nw178⟩, -, X178, ⟨Lc178, hQ178, l178, y178, z178⟩, st178⟩ := Jvm.LawKit.callS X177 hx (y := (⟨oz1, "one", "(Z)I"⟩ : MethodName)) hown (mvT hZ (own_w hw 22 rfl)) (mvT hZ (own_w hw 23 rfl)) (mvT hZ (own_w hw 2 rfl)) (mvT hZ (own_w hw 24 rfl)) (by decide) (backOf (W := 1) (rm5 l Z a0 hw [] (0 : Int32) T148.heap n0 Zc156 ) hZ (own_w hw 24 rfl) (own_w hw 2 rfl) (by decide) (by decide)) (g := (mkF m 312 #[iv x1, iv x2, iv x3, lv x4, .second, lv x5, .second, lv x6, .second, iv (5 : Int32), iv x3, iv r1, iv r2, iv r3, iv r4, iv r5, iv r6, rv b7, .unset] [(.int (0 : Int32)), (.int ((((((if v186 = (0 : Int32) then (0 : Int32) else (1 : Int32)) + (if v206 = (0 : Int32) then (0 : Int32) else (1 : Int32))) + (if v227 = (0 : Int32) then (0 : Int32) else (1 : Int32))) + (if v248 = (0 : Int32) then (0 : Int32) else (1 : Int32))) + (if v269 = (0 : Int32) then (0 : Int32) else (1 : Int32))) + (0 : Int32)))])) rfl (by rw [hml]; rfl) (argsL := [(.int (0 : Int32))]) (rest := [(.int ((((((if v186 = (0 : Int32) then (0 : Int32) else (1 : Int32)) + (if v206 = (0 : Int32) then (0 : Int32) else (1 : Int32))) + (if v227 = (0 : Int32) then (0 : Int32) else (1 : Int32))) + (if v248 = (0 : Int32) then (0 : Int32) else (1 : Int32))) + (if v269 = (0 : Int32) then (0 : Int32) else (1 : Int32))) + (0 : Int32)))]) (lenOf own_pd5 rfl) rfl (by show 2 * 0 + _ ≤ _; exact Nat.le_of_eq rfl) (hb hby at_312) (fun _ _ => ⟨rfl, eh177, (by decide : 3 + 0 ≤ _), (by decide : 14 + 0 ≤ _)⟩)
    dsimp only [Pt.U, Pt.locs, Pt.cells, Pt.slots] at X178 l178 y178 z178 st178 hQ178
    subst l178 y178 z178
    obtain ⟨rfl, Nq178, eh178⟩ := hQ178
    have N178 := Fr.app N177 Nq178
    obtain ⟨y316, hy316⟩ : ∃ z, z = (((((((if v186 = (0 : Int32) then (0 : Int32) else (1 : Int32)) + (if v206 = (0 : Int32) then (0 : Int32) else (1 : Int32))) + (if v227 = (0 : Int32) then (0 : Int32) else (1 : Int32))) + (if v248 = (0 : Int32) then (0 : Int32) else (1 : Int32))) + (if v269 = (0 : Int32) then (0 : Int32) else (1 : Int32))) + (0 : Int32)) + (0 : Int32)) := ⟨_, rfl⟩
    have Ec180 : Exa Z T148.heap b7 oz0 := (Ec149.keep K148)
    obtain ⟨cq179, kq179, q179a, q179b, q179c⟩ := isOf hZ eh178 Ec180
    obtain ⟨_, _, ⟨T179, Lw179, kw179, nw179⟩, -, X179, ⟨Lc179, hQ179, l179, y179, z179⟩, st179⟩ := X178.virtualBack hx (y := (⟨oz0, "countAtMost", "(I)I"⟩ : MethodName)) (z := (⟨oz0, "countAtMost", "(I)I"⟩ : MethodName)) hown (mvT hZ (own_w hw 25 rfl)) (mvT hZ (own_w hw 26 rfl)) (notFace_of_selects (args := #[]) (mvT hZ (own_w hw 28 rfl))) (mvT hZ (own_w hw 28 rfl)) (mvT hZ (own_w hw 27 rfl)) (by decide) (backOf (W := 0) (rmC5 l Z a0 hw [] b7 x2 x3 r1 r2 r3 r4 b148 k148 T148.heap n0 Zc156 Ec180 pf148_2 pf148_3 pf148_4) hZ (own_w hw 29 rfl) (own_w hw 12 rfl) (by decide) (by decide)) q179a q179c (g := (mkF m 321 #[iv x1, iv x2, iv x3, lv x4, .second, lv x5, .second, lv x6, .second, iv (5 : Int32), iv x3, iv r1, iv r2, iv r3, iv r4, iv r5, iv r6, rv b7, iv y316] [(.int x2), (.ref b7)])) rfl (by rw [hml]; rfl) (Steps.refl _) (argsL := [(.int x2)]) (rest := []) (lenOf own_pd6 rfl) rfl (by show 2 * 0 + _ ≤ _; exact Nat.le_of_eq rfl) (hb hby at_321) (fun _ _ => ⟨rfl, eh178, (by decide : 3 + 0 ≤ _), (by decide : 14 + 0 ≤ _)⟩)
    dsimp only [Pt.U, Pt.locs, Pt.cells, Pt.slots] at X179 l179 y179 z179 st179 hQ179
    subst l179 y179 z179
    obtain ⟨rfl, Nq179, eh179⟩ := hQ179
    have N179 := Fr.app N178 Nq179
    have hc326 : (if x2 < r2 then (if x2 < r1 then (if x2 < x3 then (0 : Int32) else (1 : Int32)) else (2 : Int32)) else (if x2 < r4 then (if x2 < r3 then (3 : Int32) else (4 : Int32)) else (5 : Int32))) = y316 := Classical.byContradiction fun hc326 => by
      subst hy316 hv269 hv248 hv227 hv206 hv186
      exact hc326 (own_cnt5 x2 x3 r1 r2 r3 r4 pf1_0 pf2_0 pf3_0 pf4_0)
    have pre181 : ∀ tz, oS p e below T179 m 334 #[iv x1, iv x2, iv x3, lv x4, .second, lv x5, .second, lv x6, .second, iv (5 : Int32), iv x3, iv r1, iv r2, iv r3, iv r4, iv r5, iv r6, rv b7, iv y316] [(.int (1 : Int32))] tz → oS p e below T171 m 261 #[iv x1, iv x2, iv x3, lv x4, .second, lv x5, .second, lv x6, .second, iv (5 : Int32), iv x3, iv r1, iv r2, iv r3, iv r4, iv r5, iv r6, rv b7, .unset] [(.int x2), (.int r4), (.int ((((if v186 = (0 : Int32) then (0 : Int32) else (1 : Int32)) + (if v206 = (0 : Int32) then (0 : Int32) else (1 : Int32))) + (if v227 = (0 : Int32) then (0 : Int32) else (1 : Int32))) + (if v248 = (0 : Int32) then (0 : Int32) else (1 : Int32))))] tz := fun tz kt => by
      show oS p e below T171 m 261 #[iv x1, iv x2, iv x3, lv x4, .second, lv x5, .second, lv x6, .second, iv (5 : Int32), iv x3, iv r1, iv r2, iv r3, iv r4, iv r5, iv r6, rv b7, .unset] [(.int x2), (.int r4), (.int ((((if v186 = (0 : Int32) then (0 : Int32) else (1 : Int32)) + (if v206 = (0 : Int32) then (0 : Int32) else (1 : Int32))) + (if v227 = (0 : Int32) then (0 : Int32) else (1 : Int32))) + (if v248 = (0 : Int32) then (0 : Int32) else (1 : Int32))))] _
      refine st175 _ ?_
      show oS p e below T175 m 269 #[iv x1, iv x2, iv x3, lv x4, .second, lv x5, .second, lv x6, .second, iv (5 : Int32), iv x3, iv r1, iv r2, iv r3, iv r4, iv r5, iv r6, rv b7, .unset] [(.int v269), (.int ((((if v186 = (0 : Int32) then (0 : Int32) else (1 : Int32)) + (if v206 = (0 : Int32) then (0 : Int32) else (1 : Int32))) + (if v227 = (0 : Int32) then (0 : Int32) else (1 : Int32))) + (if v248 = (0 : Int32) then (0 : Int32) else (1 : Int32))))] _
      refine st176 _ ?_
      refine XS.iadd X176.here hx rfl (hb hby at_272) rfl ?_
      refine XS.iload X176.here hx rfl (hb hby at_273) rfl ?_
      refine XS.iconst X176.here hx rfl (hb hby at_275) ?_
      show oS p e below T176 m 276 #[iv x1, iv x2, iv x3, lv x4, .second, lv x5, .second, lv x6, .second, iv (5 : Int32), iv x3, iv r1, iv r2, iv r3, iv r4, iv r5, iv r6, rv b7, .unset] [(.int (5 : Int32)), (.int (5 : Int32)), (.int (((((if v186 = (0 : Int32) then (0 : Int32) else (1 : Int32)) + (if v206 = (0 : Int32) then (0 : Int32) else (1 : Int32))) + (if v227 = (0 : Int32) then (0 : Int32) else (1 : Int32))) + (if v248 = (0 : Int32) then (0 : Int32) else (1 : Int32))) + (if v269 = (0 : Int32) then (0 : Int32) else (1 : Int32))))] _
      refine XS.icmpYes X176.here hx rfl (pc0 := 276) (pc' := 289) rfl (hb hby at_276) rfl (flt (by decide : ¬ ((5 : Int32) < (5 : Int32)))).2.2.2 (by decide) (by decide) ?_
      refine XS.iconst X176.here hx rfl (hb hby at_289) ?_
      show oS p e below T176 m 290 #[iv x1, iv x2, iv x3, lv x4, .second, lv x5, .second, lv x6, .second, iv (5 : Int32), iv x3, iv r1, iv r2, iv r3, iv r4, iv r5, iv r6, rv b7, .unset] [(.int (0 : Int32)), (.int (((((if v186 = (0 : Int32) then (0 : Int32) else (1 : Int32)) + (if v206 = (0 : Int32) then (0 : Int32) else (1 : Int32))) + (if v227 = (0 : Int32) then (0 : Int32) else (1 : Int32))) + (if v248 = (0 : Int32) then (0 : Int32) else (1 : Int32))) + (if v269 = (0 : Int32) then (0 : Int32) else (1 : Int32))))] _
      refine st177 _ ?_
      rw [((if_pos (by decide : (0 : Int32) = (0 : Int32))) : (if (0 : Int32) = (0 : Int32) then (0 : Int32) else (1 : Int32)) = (0 : Int32))]
      show oS p e below T177 m 293 #[iv x1, iv x2, iv x3, lv x4, .second, lv x5, .second, lv x6, .second, iv (5 : Int32), iv x3, iv r1, iv r2, iv r3, iv r4, iv r5, iv r6, rv b7, .unset] [(.int (0 : Int32)), (.int (((((if v186 = (0 : Int32) then (0 : Int32) else (1 : Int32)) + (if v206 = (0 : Int32) then (0 : Int32) else (1 : Int32))) + (if v227 = (0 : Int32) then (0 : Int32) else (1 : Int32))) + (if v248 = (0 : Int32) then (0 : Int32) else (1 : Int32))) + (if v269 = (0 : Int32) then (0 : Int32) else (1 : Int32))))] _
      refine XS.iadd X177.here hx rfl (hb hby at_293) rfl ?_
      refine XS.iload X177.here hx rfl (hb hby at_294) rfl ?_
      refine XS.bipush X177.here hx rfl (hb hby at_296) ?_
      refine XS.icmpYes X177.here hx rfl (pc0 := 298) (pc' := 311) rfl (hb hby at_298) rfl (flt (by decide : ¬ ((6 : Int32) < (5 : Int32)))).2.2.2 (by decide) (by decide) ?_
      show oS p e below T177 m 311 #[iv x1, iv x2, iv x3, lv x4, .second, lv x5, .second, lv x6, .second, iv (5 : Int32), iv x3, iv r1, iv r2, iv r3, iv r4, iv r5, iv r6, rv b7, .unset] [(.int ((((((if v186 = (0 : Int32) then (0 : Int32) else (1 : Int32)) + (if v206 = (0 : Int32) then (0 : Int32) else (1 : Int32))) + (if v227 = (0 : Int32) then (0 : Int32) else (1 : Int32))) + (if v248 = (0 : Int32) then (0 : Int32) else (1 : Int32))) + (if v269 = (0 : Int32) then (0 : Int32) else (1 : Int32))) + (0 : Int32)))] _
      refine XS.iconst X177.here hx rfl (hb hby at_311) ?_
      show oS p e below T177 m 312 #[iv x1, iv x2, iv x3, lv x4, .second, lv x5, .second, lv x6, .second, iv (5 : Int32), iv x3, iv r1, iv r2, iv r3, iv r4, iv r5, iv r6, rv b7, .unset] [(.int (0 : Int32)), (.int ((((((if v186 = (0 : Int32) then (0 : Int32) else (1 : Int32)) + (if v206 = (0 : Int32) then (0 : Int32) else (1 : Int32))) + (if v227 = (0 : Int32) then (0 : Int32) else (1 : Int32))) + (if v248 = (0 : Int32) then (0 : Int32) else (1 : Int32))) + (if v269 = (0 : Int32) then (0 : Int32) else (1 : Int32))) + (0 : Int32)))] _
      refine st178 _ ?_
      rw [((if_pos (by decide : (0 : Int32) = (0 : Int32))) : (if (0 : Int32) = (0 : Int32) then (0 : Int32) else (1 : Int32)) = (0 : Int32))]
      show oS p e below T178 m 315 #[iv x1, iv x2, iv x3, lv x4, .second, lv x5, .second, lv x6, .second, iv (5 : Int32), iv x3, iv r1, iv r2, iv r3, iv r4, iv r5, iv r6, rv b7, .unset] [(.int (0 : Int32)), (.int ((((((if v186 = (0 : Int32) then (0 : Int32) else (1 : Int32)) + (if v206 = (0 : Int32) then (0 : Int32) else (1 : Int32))) + (if v227 = (0 : Int32) then (0 : Int32) else (1 : Int32))) + (if v248 = (0 : Int32) then (0 : Int32) else (1 : Int32))) + (if v269 = (0 : Int32) then (0 : Int32) else (1 : Int32))) + (0 : Int32)))] _
      refine XS.iadd X178.here hx rfl (hb hby at_315) rfl ?_
      refine XS.istore X178.here hx rfl (hb hby at_316) rfl (l' := #[iv x1, iv x2, iv x3, lv x4, .second, lv x5, .second, lv x6, .second, iv (5 : Int32), iv x3, iv r1, iv r2, iv r3, iv r4, iv r5, iv r6, rv b7, iv y316]) (by rw [hy316]; rfl) ?_
      refine XS.aload X178.here hx rfl (hb hby at_318) rfl rfl ?_
      refine XS.iloadN X178.here hx rfl (hb hby at_320) rfl ?_
      show oS p e below T178 m 321 #[iv x1, iv x2, iv x3, lv x4, .second, lv x5, .second, lv x6, .second, iv (5 : Int32), iv x3, iv r1, iv r2, iv r3, iv r4, iv r5, iv r6, rv b7, iv y316] [(.int x2), (.ref b7)] _
      refine st179.trans ?_
      refine XS.iload X179.here hx rfl (hb hby at_324) rfl ?_
      refine XS.icmpNo X179.here hx rfl (hb hby at_326) rfl (teq hc326).2 ?_
      refine XS.iconst X179.here hx rfl (hb hby at_329) ?_
      show oS p e below T179 m 330 #[iv x1, iv x2, iv x3, lv x4, .second, lv x5, .second, lv x6, .second, iv (5 : Int32), iv x3, iv r1, iv r2, iv r3, iv r4, iv r5, iv r6, rv b7, iv y316] [(.int (1 : Int32))] _
      refine XS.goto X179.here hx rfl (pc0 := 330) (pc' := 334) rfl (hb hby at_330) (by decide) (by decide) ?_
      exact kt
    obtain ⟨fs, hr, hrun, hended, hW, hsame⟩ := X179.leave (v := some (.int (1 : Int32))) (fun h => by rw [Bd.returns] at h; cases h)
    refine ⟨_, _, pre0 _ (pre10 _ (pre151 _ (pre157 _ (pre162 _ (pre167 _ (pre172 _ (pre181 _ ?_))))))), hrun, hended, _, _, rfl, ?_, ⟨_, rfl⟩, hW, hsame.mono (by decide) (by decide)⟩
    · show oS p e below T179 m 334 #[iv x1, iv x2, iv x3, lv x4, .second, lv x5, .second, lv x6, .second, iv (5 : Int32), iv x3, iv r1, iv r2, iv r3, iv r4, iv r5, iv r6, rv b7, iv y316] [(.int (1 : Int32))] _
      exact retN X179 hx (t := .boolean) Bd.returns (by simp) (hb hby at_334) hr
    · show Q0 Z x1 x2 x3 x4 x5 x6 h0 n0 _ T179.heap _
      rw [eh179]
      exact ⟨rfl, N179⟩
  · subst hn
    have Ec183 : Exa Z T8.heap b7 oz0 := (A7.keep K8)
    have Zc184 : n0 ≤ T8.heap.size := (Nat.le_trans Zc9 K8.1)
    obtain ⟨cq182, kq182, q182a, q182b, q182c⟩ := isOf hZ rfl Ec183
    obtain ⟨_, _, ⟨T182, Lw182, kw182, nw182⟩, -, X182, ⟨Lc182, hQ182, l182, y182, z182⟩, st182⟩ := X8.virtualBack hx (y := (⟨oz0, "add", "(I)V"⟩ : MethodName)) (z := (⟨oz0, "add", "(I)V"⟩ : MethodName)) hown (mvT hZ (own_w hw 32 rfl)) (mvT hZ (own_w hw 33 rfl)) (notFace_of_selects (args := #[]) (mvT hZ (own_w hw 35 rfl))) (mvT hZ (own_w hw 35 rfl)) (mvT hZ (own_w hw 34 rfl)) (by decide) (backOf (W := 0) (rmA0 l Z a0 hw [] b7 x3 b8 k8 T8.heap n0 Zc184 Ec183 g_b7 pf8_1 ne_b7_b8 pf8_3 pf8_2 pf8_4) hZ (own_w hw 36 rfl) (own_w hw 12 rfl) (by decide) (by decide)) q182a q182c (g := (mkF m 88 #[iv x1, iv x2, iv x3, lv x4, .second, lv x5, .second, lv x6, .second, iv (6 : Int32), iv x3, iv r1, iv r2, iv r3, iv r4, iv r5, iv r6, rv b7, .unset] [(.int x3), (.ref b7)])) rfl (by rw [hml]; rfl) (Steps.refl _) (argsL := [(.int x3)]) (rest := []) (lenOf own_pd7 rfl) rfl (by show 2 * 0 + _ ≤ _; exact Nat.le_of_eq rfl) (hb hby at_88) (fun _ _ => ⟨rfl, rfl, (by decide : 2 + 0 ≤ _), (by decide : 6 + 0 ≤ _)⟩)
    dsimp only [Pt.U, Pt.locs, Pt.cells, Pt.slots] at X182 l182 y182 z182 st182 hQ182
    subst l182 y182 z182
    obtain ⟨rfl, Nq182, K182, pf182_0, pf182_1, pf182_2⟩ := hQ182
    have N182 := Fr.app N8 Nq182
    have Ec186 : Exa Z T182.heap b7 oz0 := (Ec183.keep K182)
    have Zc187 : n0 ≤ T182.heap.size := (Nat.le_trans Zc184 K182.1)
    obtain ⟨cq185, kq185, q185a, q185b, q185c⟩ := isOf hZ rfl Ec186
    obtain ⟨_, _, ⟨T185, Lw185, kw185, nw185⟩, -, X185, ⟨Lc185, hQ185, l185, y185, z185⟩, st185⟩ := X182.virtualBack hx (y := (⟨oz0, "add", "(I)V"⟩ : MethodName)) (z := (⟨oz0, "add", "(I)V"⟩ : MethodName)) hown (mvT hZ (own_w hw 32 rfl)) (mvT hZ (own_w hw 33 rfl)) (notFace_of_selects (args := #[]) (mvT hZ (own_w hw 35 rfl))) (mvT hZ (own_w hw 35 rfl)) (mvT hZ (own_w hw 34 rfl)) (by decide) (backOf (W := 0) (rmA1 l Z a0 hw [] b7 r1 x3 b8 k8 T182.heap n0 Zc187 Ec186 g_b7 pf8_1 ne_b7_b8 pf182_0 pf182_1 pf182_2) hZ (own_w hw 36 rfl) (own_w hw 12 rfl) (by decide) (by decide)) q185a q185c (g := (mkF m 101 #[iv x1, iv x2, iv x3, lv x4, .second, lv x5, .second, lv x6, .second, iv (6 : Int32), iv x3, iv r1, iv r2, iv r3, iv r4, iv r5, iv r6, rv b7, .unset] [(.int r1), (.ref b7)])) rfl (by rw [hml]; rfl) (Steps.refl _) (argsL := [(.int r1)]) (rest := []) (lenOf own_pd7 rfl) rfl (by show 2 * 0 + _ ≤ _; exact Nat.le_of_eq rfl) (hb hby at_101) (fun _ _ => ⟨rfl, rfl, (by decide : 2 + 0 ≤ _), (by decide : 6 + 0 ≤ _)⟩)
    dsimp only [Pt.U, Pt.locs, Pt.cells, Pt.slots] at X185 l185 y185 z185 st185 hQ185
    subst l185 y185 z185
    obtain ⟨rfl, Nq185, K185, pf185_0, pf185_1, pf185_2⟩ := hQ185
    have N185 := Fr.app N182 Nq185
    have Ec189 : Exa Z T185.heap b7 oz0 := (Ec186.keep K185)
    have Zc190 : n0 ≤ T185.heap.size := (Nat.le_trans Zc187 K185.1)
    obtain ⟨cq188, kq188, q188a, q188b, q188c⟩ := isOf hZ rfl Ec189
    obtain ⟨_, _, ⟨T188, Lw188, kw188, nw188⟩, -, X188, ⟨Lc188, hQ188, l188, y188, z188⟩, st188⟩ := X185.virtualBack hx (y := (⟨oz0, "add", "(I)V"⟩ : MethodName)) (z := (⟨oz0, "add", "(I)V"⟩ : MethodName)) hown (mvT hZ (own_w hw 32 rfl)) (mvT hZ (own_w hw 33 rfl)) (notFace_of_selects (args := #[]) (mvT hZ (own_w hw 35 rfl))) (mvT hZ (own_w hw 35 rfl)) (mvT hZ (own_w hw 34 rfl)) (by decide) (backOf (W := 0) (rmA2 l Z a0 hw [] b7 r2 x3 r1 b8 k8 T185.heap n0 Zc190 Ec189 g_b7 pf8_1 ne_b7_b8 pf185_0 pf185_1 pf185_2) hZ (own_w hw 36 rfl) (own_w hw 12 rfl) (by decide) (by decide)) q188a q188c (g := (mkF m 114 #[iv x1, iv x2, iv x3, lv x4, .second, lv x5, .second, lv x6, .second, iv (6 : Int32), iv x3, iv r1, iv r2, iv r3, iv r4, iv r5, iv r6, rv b7, .unset] [(.int r2), (.ref b7)])) rfl (by rw [hml]; rfl) (Steps.refl _) (argsL := [(.int r2)]) (rest := []) (lenOf own_pd7 rfl) rfl (by show 2 * 0 + _ ≤ _; exact Nat.le_of_eq rfl) (hb hby at_114) (fun _ _ => ⟨rfl, rfl, (by decide : 2 + 0 ≤ _), (by decide : 6 + 0 ≤ _)⟩)
    dsimp only [Pt.U, Pt.locs, Pt.cells, Pt.slots] at X188 l188 y188 z188 st188 hQ188
    subst l188 y188 z188
    obtain ⟨rfl, Nq188, K188, pf188_0, pf188_1, pf188_2⟩ := hQ188
    have N188 := Fr.app N185 Nq188
    have Ec192 : Exa Z T188.heap b7 oz0 := (Ec189.keep K188)
    have Zc193 : n0 ≤ T188.heap.size := (Nat.le_trans Zc190 K188.1)
    obtain ⟨cq191, kq191, q191a, q191b, q191c⟩ := isOf hZ rfl Ec192
    obtain ⟨_, _, ⟨T191, Lw191, kw191, nw191⟩, -, X191, ⟨Lc191, hQ191, l191, y191, z191⟩, st191⟩ := X188.virtualBack hx (y := (⟨oz0, "add", "(I)V"⟩ : MethodName)) (z := (⟨oz0, "add", "(I)V"⟩ : MethodName)) hown (mvT hZ (own_w hw 32 rfl)) (mvT hZ (own_w hw 33 rfl)) (notFace_of_selects (args := #[]) (mvT hZ (own_w hw 35 rfl))) (mvT hZ (own_w hw 35 rfl)) (mvT hZ (own_w hw 34 rfl)) (by decide) (backOf (W := 0) (rmA3 l Z a0 hw [] b7 r3 x3 r1 r2 b8 k8 T188.heap n0 Zc193 Ec192 g_b7 pf8_1 ne_b7_b8 pf188_0 pf188_1 pf188_2) hZ (own_w hw 36 rfl) (own_w hw 12 rfl) (by decide) (by decide)) q191a q191c (g := (mkF m 127 #[iv x1, iv x2, iv x3, lv x4, .second, lv x5, .second, lv x6, .second, iv (6 : Int32), iv x3, iv r1, iv r2, iv r3, iv r4, iv r5, iv r6, rv b7, .unset] [(.int r3), (.ref b7)])) rfl (by rw [hml]; rfl) (Steps.refl _) (argsL := [(.int r3)]) (rest := []) (lenOf own_pd7 rfl) rfl (by show 2 * 0 + _ ≤ _; exact Nat.le_of_eq rfl) (hb hby at_127) (fun _ _ => ⟨rfl, rfl, (by decide : 2 + 0 ≤ _), (by decide : 6 + 0 ≤ _)⟩)
    dsimp only [Pt.U, Pt.locs, Pt.cells, Pt.slots] at X191 l191 y191 z191 st191 hQ191
    subst l191 y191 z191
    obtain ⟨rfl, Nq191, K191, pf191_0, pf191_1, pf191_2⟩ := hQ191
    have N191 := Fr.app N188 Nq191
    have Ec195 : Exa Z T191.heap b7 oz0 := (Ec192.keep K191)
    have Zc196 : n0 ≤ T191.heap.size := (Nat.le_trans Zc193 K191.1)
    obtain ⟨cq194, kq194, q194a, q194b, q194c⟩ := isOf hZ rfl Ec195
    obtain ⟨_, _, ⟨T194, Lw194, kw194, nw194⟩, -, X194, ⟨Lc194, hQ194, l194, y194, z194⟩, st194⟩ := X191.virtualBack hx (y := (⟨oz0, "add", "(I)V"⟩ : MethodName)) (z := (⟨oz0, "add", "(I)V"⟩ : MethodName)) hown (mvT hZ (own_w hw 32 rfl)) (mvT hZ (own_w hw 33 rfl)) (notFace_of_selects (args := #[]) (mvT hZ (own_w hw 35 rfl))) (mvT hZ (own_w hw 35 rfl)) (mvT hZ (own_w hw 34 rfl)) (by decide) (backOf (W := 0) (rmA4 l Z a0 hw [] b7 r4 x3 r1 r2 r3 b8 k8 T191.heap n0 Zc196 Ec195 g_b7 ne_b7_b8 pf191_0 pf191_1 pf191_2) hZ (own_w hw 36 rfl) (own_w hw 12 rfl) (by decide) (by decide)) q194a q194c (g := (mkF m 140 #[iv x1, iv x2, iv x3, lv x4, .second, lv x5, .second, lv x6, .second, iv (6 : Int32), iv x3, iv r1, iv r2, iv r3, iv r4, iv r5, iv r6, rv b7, .unset] [(.int r4), (.ref b7)])) rfl (by rw [hml]; rfl) (Steps.refl _) (argsL := [(.int r4)]) (rest := []) (lenOf own_pd7 rfl) rfl (by show 2 * 0 + _ ≤ _; exact Nat.le_of_eq rfl) (hb hby at_140) (fun _ _ => ⟨rfl, rfl, (by decide : 2 + 1 ≤ _), (by decide : 6 + 8 ≤ _)⟩)
    dsimp only [Pt.U, Pt.locs, Pt.cells, Pt.slots] at X194 l194 y194 z194 st194 hQ194
    subst l194 y194 z194
    obtain ⟨b194, k194, rfl, Nq194, K194, pf194_0, pf194_1, pf194_2, pf194_3, pf194_4⟩ := hQ194
    have N194 := Fr.app N191 Nq194
    have ne_b7_b194 : b7 ≠ b194 := Nat.ne_of_lt (Nat.lt_of_lt_of_le Ec195.lt pf194_0)
    have ne_b8_b194 : b8 ≠ b194 := Nat.ne_of_lt (Nat.lt_of_lt_of_le pf191_2.lt pf194_0)
    have Ec198 : Exa Z T194.heap b7 oz0 := (Ec195.keep K194)
    have Zc199 : n0 ≤ T194.heap.size := (Nat.le_trans Zc196 K194.1)
    obtain ⟨cq197, kq197, q197a, q197b, q197c⟩ := isOf hZ rfl Ec198
    obtain ⟨_, _, ⟨T197, Lw197, kw197, nw197⟩, -, X197, ⟨Lc197, hQ197, l197, y197, z197⟩, st197⟩ := X194.virtualBack hx (y := (⟨oz0, "add", "(I)V"⟩ : MethodName)) (z := (⟨oz0, "add", "(I)V"⟩ : MethodName)) hown (mvT hZ (own_w hw 32 rfl)) (mvT hZ (own_w hw 33 rfl)) (notFace_of_selects (args := #[]) (mvT hZ (own_w hw 35 rfl))) (mvT hZ (own_w hw 35 rfl)) (mvT hZ (own_w hw 34 rfl)) (by decide) (backOf (W := 0) (rmA5 l Z a0 hw [] b7 r5 x3 r1 r2 r3 r4 b194 k194 T194.heap n0 Zc199 Ec198 g_b7 pf194_1 ne_b7_b194 pf194_2 pf194_3 pf194_4) hZ (own_w hw 36 rfl) (own_w hw 12 rfl) (by decide) (by decide)) q197a q197c (g := (mkF m 153 #[iv x1, iv x2, iv x3, lv x4, .second, lv x5, .second, lv x6, .second, iv (6 : Int32), iv x3, iv r1, iv r2, iv r3, iv r4, iv r5, iv r6, rv b7, .unset] [(.int r5), (.ref b7)])) rfl (by rw [hml]; rfl) (Steps.refl _) (argsL := [(.int r5)]) (rest := []) (lenOf own_pd7 rfl) rfl (by show 2 * 0 + _ ≤ _; exact Nat.le_of_eq rfl) (hb hby at_153) (fun _ _ => ⟨rfl, rfl, (by decide : 3 + 0 ≤ _), (by decide : 14 + 0 ≤ _)⟩)
    dsimp only [Pt.U, Pt.locs, Pt.cells, Pt.slots] at X197 l197 y197 z197 st197 hQ197
    subst l197 y197 z197
    obtain ⟨rfl, Nq197, K197, pf197_0, pf197_1, pf197_2⟩ := hQ197
    have N197 := Fr.app N194 Nq197
    have pre200 : ∀ tz, oS p e below T197 m 178 #[iv x1, iv x2, iv x3, lv x4, .second, lv x5, .second, lv x6, .second, iv (6 : Int32), iv x3, iv r1, iv r2, iv r3, iv r4, iv r5, iv r6, rv b7, .unset] [(.int x2), (.int x3)] tz → oS p e below T8 m 79 #[iv x1, iv x2, iv x3, lv x4, .second, lv x5, .second, lv x6, .second, iv (6 : Int32), iv x3, iv r1, iv r2, iv r3, iv r4, iv r5, iv r6, rv b7, .unset] [] tz := fun tz kt => by
      show oS p e below T8 m 79 #[iv x1, iv x2, iv x3, lv x4, .second, lv x5, .second, lv x6, .second, iv (6 : Int32), iv x3, iv r1, iv r2, iv r3, iv r4, iv r5, iv r6, rv b7, .unset] [] _
      refine XS.iload X8.here hx rfl (hb hby at_79) rfl ?_
      refine XS.ifNo X8.here hx rfl (hb hby at_81) rfl ((if0 _ _).trans (tlt (by decide : ((0 : Int32) < (6 : Int32)))).2.2.2) ?_
      refine XS.aload X8.here hx rfl (hb hby at_84) rfl rfl ?_
      refine XS.iload X8.here hx rfl (hb hby at_86) rfl ?_
      show oS p e below T8 m 88 #[iv x1, iv x2, iv x3, lv x4, .second, lv x5, .second, lv x6, .second, iv (6 : Int32), iv x3, iv r1, iv r2, iv r3, iv r4, iv r5, iv r6, rv b7, .unset] [(.int x3), (.ref b7)] _
      refine st182.trans ?_
      refine XS.iload X182.here hx rfl (hb hby at_91) rfl ?_
      refine XS.iconst X182.here hx rfl (hb hby at_93) ?_
      refine XS.icmpNo X182.here hx rfl (hb hby at_94) rfl (tlt (by decide : ((1 : Int32) < (6 : Int32)))).2.2.2 ?_
      show oS p e below T182 m 97 #[iv x1, iv x2, iv x3, lv x4, .second, lv x5, .second, lv x6, .second, iv (6 : Int32), iv x3, iv r1, iv r2, iv r3, iv r4, iv r5, iv r6, rv b7, .unset] [] _
      refine XS.aload X182.here hx rfl (hb hby at_97) rfl rfl ?_
      refine XS.iload X182.here hx rfl (hb hby at_99) rfl ?_
      show oS p e below T182 m 101 #[iv x1, iv x2, iv x3, lv x4, .second, lv x5, .second, lv x6, .second, iv (6 : Int32), iv x3, iv r1, iv r2, iv r3, iv r4, iv r5, iv r6, rv b7, .unset] [(.int r1), (.ref b7)] _
      refine st185.trans ?_
      refine XS.iload X185.here hx rfl (hb hby at_104) rfl ?_
      refine XS.iconst X185.here hx rfl (hb hby at_106) ?_
      refine XS.icmpNo X185.here hx rfl (hb hby at_107) rfl (tlt (by decide : ((2 : Int32) < (6 : Int32)))).2.2.2 ?_
      show oS p e below T185 m 110 #[iv x1, iv x2, iv x3, lv x4, .second, lv x5, .second, lv x6, .second, iv (6 : Int32), iv x3, iv r1, iv r2, iv r3, iv r4, iv r5, iv r6, rv b7, .unset] [] _
      refine XS.aload X185.here hx rfl (hb hby at_110) rfl rfl ?_
      refine XS.iload X185.here hx rfl (hb hby at_112) rfl ?_
      show oS p e below T185 m 114 #[iv x1, iv x2, iv x3, lv x4, .second, lv x5, .second, lv x6, .second, iv (6 : Int32), iv x3, iv r1, iv r2, iv r3, iv r4, iv r5, iv r6, rv b7, .unset] [(.int r2), (.ref b7)] _
      refine st188.trans ?_
      refine XS.iload X188.here hx rfl (hb hby at_117) rfl ?_
      refine XS.iconst X188.here hx rfl (hb hby at_119) ?_
      refine XS.icmpNo X188.here hx rfl (hb hby at_120) rfl (tlt (by decide : ((3 : Int32) < (6 : Int32)))).2.2.2 ?_
      show oS p e below T188 m 123 #[iv x1, iv x2, iv x3, lv x4, .second, lv x5, .second, lv x6, .second, iv (6 : Int32), iv x3, iv r1, iv r2, iv r3, iv r4, iv r5, iv r6, rv b7, .unset] [] _
      refine XS.aload X188.here hx rfl (hb hby at_123) rfl rfl ?_
      refine XS.iload X188.here hx rfl (hb hby at_125) rfl ?_
      show oS p e below T188 m 127 #[iv x1, iv x2, iv x3, lv x4, .second, lv x5, .second, lv x6, .second, iv (6 : Int32), iv x3, iv r1, iv r2, iv r3, iv r4, iv r5, iv r6, rv b7, .unset] [(.int r3), (.ref b7)] _
      refine st191.trans ?_
      refine XS.iload X191.here hx rfl (hb hby at_130) rfl ?_
      refine XS.iconst X191.here hx rfl (hb hby at_132) ?_
      refine XS.icmpNo X191.here hx rfl (hb hby at_133) rfl (tlt (by decide : ((4 : Int32) < (6 : Int32)))).2.2.2 ?_
      show oS p e below T191 m 136 #[iv x1, iv x2, iv x3, lv x4, .second, lv x5, .second, lv x6, .second, iv (6 : Int32), iv x3, iv r1, iv r2, iv r3, iv r4, iv r5, iv r6, rv b7, .unset] [] _
      refine XS.aload X191.here hx rfl (hb hby at_136) rfl rfl ?_
      refine XS.iload X191.here hx rfl (hb hby at_138) rfl ?_
      show oS p e below T191 m 140 #[iv x1, iv x2, iv x3, lv x4, .second, lv x5, .second, lv x6, .second, iv (6 : Int32), iv x3, iv r1, iv r2, iv r3, iv r4, iv r5, iv r6, rv b7, .unset] [(.int r4), (.ref b7)] _
      refine st194.trans ?_
      refine XS.iload X194.here hx rfl (hb hby at_143) rfl ?_
      refine XS.iconst X194.here hx rfl (hb hby at_145) ?_
      refine XS.icmpNo X194.here hx rfl (hb hby at_146) rfl (tlt (by decide : ((5 : Int32) < (6 : Int32)))).2.2.2 ?_
      show oS p e below T194 m 149 #[iv x1, iv x2, iv x3, lv x4, .second, lv x5, .second, lv x6, .second, iv (6 : Int32), iv x3, iv r1, iv r2, iv r3, iv r4, iv r5, iv r6, rv b7, .unset] [] _
      refine XS.aload X194.here hx rfl (hb hby at_149) rfl rfl ?_
      refine XS.iload X194.here hx rfl (hb hby at_151) rfl ?_
      show oS p e below T194 m 153 #[iv x1, iv x2, iv x3, lv x4, .second, lv x5, .second, lv x6, .second, iv (6 : Int32), iv x3, iv r1, iv r2, iv r3, iv r4, iv r5, iv r6, rv b7, .unset] [(.int r5), (.ref b7)] _
      refine st197.trans ?_
      refine XS.iload X197.here hx rfl (hb hby at_156) rfl ?_
      refine XS.bipush X197.here hx rfl (hb hby at_158) ?_
      refine XS.icmpYes X197.here hx rfl (pc0 := 160) (pc' := 170) rfl (hb hby at_160) rfl (flt (by decide : ¬ ((6 : Int32) < (6 : Int32)))).2.2.2 (by decide) (by decide) ?_
      show oS p e below T197 m 170 #[iv x1, iv x2, iv x3, lv x4, .second, lv x5, .second, lv x6, .second, iv (6 : Int32), iv x3, iv r1, iv r2, iv r3, iv r4, iv r5, iv r6, rv b7, .unset] [] _
      refine XS.iload X197.here hx rfl (hb hby at_170) rfl ?_
      refine XS.ifNo X197.here hx rfl (hb hby at_172) rfl ((if0 _ _).trans (tlt (by decide : ((0 : Int32) < (6 : Int32)))).2.2.2) ?_
      refine XS.iload X197.here hx rfl (hb hby at_175) rfl ?_
      refine XS.iloadN X197.here hx rfl (hb hby at_177) rfl ?_
      exact kt
    obtain ⟨v186, T203, Lj203, jv203, N203, X203, e203, st203⟩ := own_join (α := Int32) X197 N197 rfl (mkF m 178 #[iv x1, iv x2, iv x3, lv x4, .second, lv x5, .second, lv x6, .second, iv (6 : Int32), iv x3, iv r1, iv r2, iv r3, iv r4, iv r5, iv r6, rv b7, .unset] [(.int x2), (.int x3)]) (fun v => (mkF m 186 #[iv x1, iv x2, iv x3, lv x4, .second, lv x5, .second, lv x6, .second, iv (6 : Int32), iv x3, iv r1, iv r2, iv r3, iv r4, iv r5, iv r6, rv b7, .unset] [(.int v)])) (fun v => v = (if x2 < x3 then (0 : Int32) else (1 : Int32))) (by
        by_cases hc178 : x2 < x3
        · have pre201 : ∀ tz, oS p e below T197 m 186 #[iv x1, iv x2, iv x3, lv x4, .second, lv x5, .second, lv x6, .second, iv (6 : Int32), iv x3, iv r1, iv r2, iv r3, iv r4, iv r5, iv r6, rv b7, .unset] [(.int (0 : Int32))] tz → oS p e below T197 m 178 #[iv x1, iv x2, iv x3, lv x4, .second, lv x5, .second, lv x6, .second, iv (6 : Int32), iv x3, iv r1, iv r2, iv r3, iv r4, iv r5, iv r6, rv b7, .unset] [(.int x2), (.int x3)] tz := fun tz kt => by
            show oS p e below T197 m 178 #[iv x1, iv x2, iv x3, lv x4, .second, lv x5, .second, lv x6, .second, iv (6 : Int32), iv x3, iv r1, iv r2, iv r3, iv r4, iv r5, iv r6, rv b7, .unset] [(.int x2), (.int x3)] _
            refine XS.icmpYes X197.here hx rfl (pc0 := 178) (pc' := 185) rfl (hb hby at_178) rfl (tlt hc178).2.2.1 (by decide) (by decide) ?_
            refine XS.iconst X197.here hx rfl (hb hby at_185) ?_
            exact kt
          exact ⟨(0 : Int32), T197, _, (by rw [if_pos hc178]), N197, X197, rfl, fun tz kt => (pre201 _ kt)⟩
        · have pre202 : ∀ tz, oS p e below T197 m 186 #[iv x1, iv x2, iv x3, lv x4, .second, lv x5, .second, lv x6, .second, iv (6 : Int32), iv x3, iv r1, iv r2, iv r3, iv r4, iv r5, iv r6, rv b7, .unset] [(.int (1 : Int32))] tz → oS p e below T197 m 178 #[iv x1, iv x2, iv x3, lv x4, .second, lv x5, .second, lv x6, .second, iv (6 : Int32), iv x3, iv r1, iv r2, iv r3, iv r4, iv r5, iv r6, rv b7, .unset] [(.int x2), (.int x3)] tz := fun tz kt => by
            show oS p e below T197 m 178 #[iv x1, iv x2, iv x3, lv x4, .second, lv x5, .second, lv x6, .second, iv (6 : Int32), iv x3, iv r1, iv r2, iv r3, iv r4, iv r5, iv r6, rv b7, .unset] [(.int x2), (.int x3)] _
            refine XS.icmpNo X197.here hx rfl (hb hby at_178) rfl (flt hc178).2.2.1 ?_
            refine XS.iconst X197.here hx rfl (hb hby at_181) ?_
            refine XS.goto X197.here hx rfl (pc0 := 182) (pc' := 186) rfl (hb hby at_182) (by decide) (by decide) ?_
            exact kt
          exact ⟨(1 : Int32), T197, _, (by rw [if_neg hc178]), N197, X197, rfl, fun tz kt => (pre202 _ kt)⟩)
    have hv186 : v186 = (if x2 < x3 then (0 : Int32) else (1 : Int32)) := jv203
    have Zc205 : n0 ≤ T197.heap.size := (Nat.le_trans Zc199 K197.1)
    obtain ⟨_, _, ⟨T204, Lw204, kw204, nw204⟩, -, X204, ⟨Lc204, hQ204, l204, y204, z204⟩, st204⟩ := Jvm.LawKit.callS X203 hx (y := (⟨oz1, "one", "(Z)I"⟩ : MethodName)) hown (mvT hZ (own_w hw 22 rfl)) (mvT hZ (own_w hw 23 rfl)) (mvT hZ (own_w hw 2 rfl)) (mvT hZ (own_w hw 24 rfl)) (by decide) (backOf (W := 0) (rm5 l Z a0 hw [] v186 T197.heap n0 Zc205 ) hZ (own_w hw 24 rfl) (own_w hw 2 rfl) (by decide) (by decide)) (g := (mkF m 186 #[iv x1, iv x2, iv x3, lv x4, .second, lv x5, .second, lv x6, .second, iv (6 : Int32), iv x3, iv r1, iv r2, iv r3, iv r4, iv r5, iv r6, rv b7, .unset] [(.int v186)])) rfl (by rw [hml]; rfl) (argsL := [(.int v186)]) (rest := []) (lenOf own_pd5 rfl) rfl (by show 2 * 0 + _ ≤ _; exact Nat.le_of_eq rfl) (hb hby at_186) (fun _ _ => ⟨rfl, e203, (by decide : 3 + 0 ≤ _), (by decide : 14 + 0 ≤ _)⟩)
    dsimp only [Pt.U, Pt.locs, Pt.cells, Pt.slots] at X204 l204 y204 z204 st204 hQ204
    subst l204 y204 z204
    obtain ⟨rfl, Nq204, eh204⟩ := hQ204
    have N204 := Fr.app N203 Nq204
    have pre206 : ∀ tz, oS p e below T204 m 198 #[iv x1, iv x2, iv x3, lv x4, .second, lv x5, .second, lv x6, .second, iv (6 : Int32), iv x3, iv r1, iv r2, iv r3, iv r4, iv r5, iv r6, rv b7, .unset] [(.int x2), (.int r1), (.int (if v186 = (0 : Int32) then (0 : Int32) else (1 : Int32)))] tz → oS p e below T197 m 178 #[iv x1, iv x2, iv x3, lv x4, .second, lv x5, .second, lv x6, .second, iv (6 : Int32), iv x3, iv r1, iv r2, iv r3, iv r4, iv r5, iv r6, rv b7, .unset] [(.int x2), (.int x3)] tz := fun tz kt => by
      show oS p e below T197 m 178 #[iv x1, iv x2, iv x3, lv x4, .second, lv x5, .second, lv x6, .second, iv (6 : Int32), iv x3, iv r1, iv r2, iv r3, iv r4, iv r5, iv r6, rv b7, .unset] [(.int x2), (.int x3)] _
      refine st203 _ ?_
      show oS p e below T203 m 186 #[iv x1, iv x2, iv x3, lv x4, .second, lv x5, .second, lv x6, .second, iv (6 : Int32), iv x3, iv r1, iv r2, iv r3, iv r4, iv r5, iv r6, rv b7, .unset] [(.int v186)] _
      refine st204 _ ?_
      refine XS.iload X204.here hx rfl (hb hby at_189) rfl ?_
      refine XS.iconst X204.here hx rfl (hb hby at_191) ?_
      refine XS.icmpNo X204.here hx rfl (hb hby at_192) rfl (tlt (by decide : ((1 : Int32) < (6 : Int32)))).2.2.2 ?_
      show oS p e below T204 m 195 #[iv x1, iv x2, iv x3, lv x4, .second, lv x5, .second, lv x6, .second, iv (6 : Int32), iv x3, iv r1, iv r2, iv r3, iv r4, iv r5, iv r6, rv b7, .unset] [(.int (if v186 = (0 : Int32) then (0 : Int32) else (1 : Int32)))] _
      refine XS.iload X204.here hx rfl (hb hby at_195) rfl ?_
      refine XS.iloadN X204.here hx rfl (hb hby at_197) rfl ?_
      exact kt
    obtain ⟨v206, T209, Lj209, jv209, N209, X209, e209, st209⟩ := own_join (α := Int32) X204 N204 eh204 (mkF m 198 #[iv x1, iv x2, iv x3, lv x4, .second, lv x5, .second, lv x6, .second, iv (6 : Int32), iv x3, iv r1, iv r2, iv r3, iv r4, iv r5, iv r6, rv b7, .unset] [(.int x2), (.int r1), (.int (if v186 = (0 : Int32) then (0 : Int32) else (1 : Int32)))]) (fun v => (mkF m 206 #[iv x1, iv x2, iv x3, lv x4, .second, lv x5, .second, lv x6, .second, iv (6 : Int32), iv x3, iv r1, iv r2, iv r3, iv r4, iv r5, iv r6, rv b7, .unset] [(.int v), (.int (if v186 = (0 : Int32) then (0 : Int32) else (1 : Int32)))])) (fun v => v = (if x2 < r1 then (0 : Int32) else (1 : Int32))) (by
        by_cases hc198 : x2 < r1
        · have pre207 : ∀ tz, oS p e below T204 m 206 #[iv x1, iv x2, iv x3, lv x4, .second, lv x5, .second, lv x6, .second, iv (6 : Int32), iv x3, iv r1, iv r2, iv r3, iv r4, iv r5, iv r6, rv b7, .unset] [(.int (0 : Int32)), (.int (if v186 = (0 : Int32) then (0 : Int32) else (1 : Int32)))] tz → oS p e below T204 m 198 #[iv x1, iv x2, iv x3, lv x4, .second, lv x5, .second, lv x6, .second, iv (6 : Int32), iv x3, iv r1, iv r2, iv r3, iv r4, iv r5, iv r6, rv b7, .unset] [(.int x2), (.int r1), (.int (if v186 = (0 : Int32) then (0 : Int32) else (1 : Int32)))] tz := fun tz kt => by
            show oS p e below T204 m 198 #[iv x1, iv x2, iv x3, lv x4, .second, lv x5, .second, lv x6, .second, iv (6 : Int32), iv x3, iv r1, iv r2, iv r3, iv r4, iv r5, iv r6, rv b7, .unset] [(.int x2), (.int r1), (.int (if v186 = (0 : Int32) then (0 : Int32) else (1 : Int32)))] _
            refine XS.icmpYes X204.here hx rfl (pc0 := 198) (pc' := 205) rfl (hb hby at_198) rfl (tlt hc198).2.2.1 (by decide) (by decide) ?_
            refine XS.iconst X204.here hx rfl (hb hby at_205) ?_
            exact kt
          exact ⟨(0 : Int32), T204, _, (by rw [if_pos hc198]), N204, X204, eh204, fun tz kt => (pre207 _ kt)⟩
        · have pre208 : ∀ tz, oS p e below T204 m 206 #[iv x1, iv x2, iv x3, lv x4, .second, lv x5, .second, lv x6, .second, iv (6 : Int32), iv x3, iv r1, iv r2, iv r3, iv r4, iv r5, iv r6, rv b7, .unset] [(.int (1 : Int32)), (.int (if v186 = (0 : Int32) then (0 : Int32) else (1 : Int32)))] tz → oS p e below T204 m 198 #[iv x1, iv x2, iv x3, lv x4, .second, lv x5, .second, lv x6, .second, iv (6 : Int32), iv x3, iv r1, iv r2, iv r3, iv r4, iv r5, iv r6, rv b7, .unset] [(.int x2), (.int r1), (.int (if v186 = (0 : Int32) then (0 : Int32) else (1 : Int32)))] tz := fun tz kt => by
            show oS p e below T204 m 198 #[iv x1, iv x2, iv x3, lv x4, .second, lv x5, .second, lv x6, .second, iv (6 : Int32), iv x3, iv r1, iv r2, iv r3, iv r4, iv r5, iv r6, rv b7, .unset] [(.int x2), (.int r1), (.int (if v186 = (0 : Int32) then (0 : Int32) else (1 : Int32)))] _
            refine XS.icmpNo X204.here hx rfl (hb hby at_198) rfl (flt hc198).2.2.1 ?_
            refine XS.iconst X204.here hx rfl (hb hby at_201) ?_
            refine XS.goto X204.here hx rfl (pc0 := 202) (pc' := 206) rfl (hb hby at_202) (by decide) (by decide) ?_
            exact kt
          exact ⟨(1 : Int32), T204, _, (by rw [if_neg hc198]), N204, X204, eh204, fun tz kt => (pre208 _ kt)⟩)
    have hv206 : v206 = (if x2 < r1 then (0 : Int32) else (1 : Int32)) := jv209
    obtain ⟨_, _, ⟨T210, Lw210, kw210, nw210⟩, -, X210, ⟨Lc210, hQ210, l210, y210, z210⟩, st210⟩ := Jvm.LawKit.callS X209 hx (y := (⟨oz1, "one", "(Z)I"⟩ : MethodName)) hown (mvT hZ (own_w hw 22 rfl)) (mvT hZ (own_w hw 23 rfl)) (mvT hZ (own_w hw 2 rfl)) (mvT hZ (own_w hw 24 rfl)) (by decide) (backOf (W := 1) (rm5 l Z a0 hw [] v206 T197.heap n0 Zc205 ) hZ (own_w hw 24 rfl) (own_w hw 2 rfl) (by decide) (by decide)) (g := (mkF m 206 #[iv x1, iv x2, iv x3, lv x4, .second, lv x5, .second, lv x6, .second, iv (6 : Int32), iv x3, iv r1, iv r2, iv r3, iv r4, iv r5, iv r6, rv b7, .unset] [(.int v206), (.int (if v186 = (0 : Int32) then (0 : Int32) else (1 : Int32)))])) rfl (by rw [hml]; rfl) (argsL := [(.int v206)]) (rest := [(.int (if v186 = (0 : Int32) then (0 : Int32) else (1 : Int32)))]) (lenOf own_pd5 rfl) rfl (by show 2 * 0 + _ ≤ _; exact Nat.le_of_eq rfl) (hb hby at_206) (fun _ _ => ⟨rfl, e209, (by decide : 3 + 0 ≤ _), (by decide : 14 + 0 ≤ _)⟩)
    dsimp only [Pt.U, Pt.locs, Pt.cells, Pt.slots] at X210 l210 y210 z210 st210 hQ210
    subst l210 y210 z210
    obtain ⟨rfl, Nq210, eh210⟩ := hQ210
    have N210 := Fr.app N209 Nq210
    have pre211 : ∀ tz, oS p e below T210 m 219 #[iv x1, iv x2, iv x3, lv x4, .second, lv x5, .second, lv x6, .second, iv (6 : Int32), iv x3, iv r1, iv r2, iv r3, iv r4, iv r5, iv r6, rv b7, .unset] [(.int x2), (.int r2), (.int ((if v186 = (0 : Int32) then (0 : Int32) else (1 : Int32)) + (if v206 = (0 : Int32) then (0 : Int32) else (1 : Int32))))] tz → oS p e below T204 m 198 #[iv x1, iv x2, iv x3, lv x4, .second, lv x5, .second, lv x6, .second, iv (6 : Int32), iv x3, iv r1, iv r2, iv r3, iv r4, iv r5, iv r6, rv b7, .unset] [(.int x2), (.int r1), (.int (if v186 = (0 : Int32) then (0 : Int32) else (1 : Int32)))] tz := fun tz kt => by
      show oS p e below T204 m 198 #[iv x1, iv x2, iv x3, lv x4, .second, lv x5, .second, lv x6, .second, iv (6 : Int32), iv x3, iv r1, iv r2, iv r3, iv r4, iv r5, iv r6, rv b7, .unset] [(.int x2), (.int r1), (.int (if v186 = (0 : Int32) then (0 : Int32) else (1 : Int32)))] _
      refine st209 _ ?_
      show oS p e below T209 m 206 #[iv x1, iv x2, iv x3, lv x4, .second, lv x5, .second, lv x6, .second, iv (6 : Int32), iv x3, iv r1, iv r2, iv r3, iv r4, iv r5, iv r6, rv b7, .unset] [(.int v206), (.int (if v186 = (0 : Int32) then (0 : Int32) else (1 : Int32)))] _
      refine st210 _ ?_
      refine XS.iadd X210.here hx rfl (hb hby at_209) rfl ?_
      refine XS.iload X210.here hx rfl (hb hby at_210) rfl ?_
      refine XS.iconst X210.here hx rfl (hb hby at_212) ?_
      show oS p e below T210 m 213 #[iv x1, iv x2, iv x3, lv x4, .second, lv x5, .second, lv x6, .second, iv (6 : Int32), iv x3, iv r1, iv r2, iv r3, iv r4, iv r5, iv r6, rv b7, .unset] [(.int (2 : Int32)), (.int (6 : Int32)), (.int ((if v186 = (0 : Int32) then (0 : Int32) else (1 : Int32)) + (if v206 = (0 : Int32) then (0 : Int32) else (1 : Int32))))] _
      refine XS.icmpNo X210.here hx rfl (hb hby at_213) rfl (tlt (by decide : ((2 : Int32) < (6 : Int32)))).2.2.2 ?_
      refine XS.iload X210.here hx rfl (hb hby at_216) rfl ?_
      refine XS.iloadN X210.here hx rfl (hb hby at_218) rfl ?_
      exact kt
    obtain ⟨v227, T214, Lj214, jv214, N214, X214, e214, st214⟩ := own_join (α := Int32) X210 N210 eh210 (mkF m 219 #[iv x1, iv x2, iv x3, lv x4, .second, lv x5, .second, lv x6, .second, iv (6 : Int32), iv x3, iv r1, iv r2, iv r3, iv r4, iv r5, iv r6, rv b7, .unset] [(.int x2), (.int r2), (.int ((if v186 = (0 : Int32) then (0 : Int32) else (1 : Int32)) + (if v206 = (0 : Int32) then (0 : Int32) else (1 : Int32))))]) (fun v => (mkF m 227 #[iv x1, iv x2, iv x3, lv x4, .second, lv x5, .second, lv x6, .second, iv (6 : Int32), iv x3, iv r1, iv r2, iv r3, iv r4, iv r5, iv r6, rv b7, .unset] [(.int v), (.int ((if v186 = (0 : Int32) then (0 : Int32) else (1 : Int32)) + (if v206 = (0 : Int32) then (0 : Int32) else (1 : Int32))))])) (fun v => v = (if x2 < r2 then (0 : Int32) else (1 : Int32))) (by
        by_cases hc219 : x2 < r2
        · have pre212 : ∀ tz, oS p e below T210 m 227 #[iv x1, iv x2, iv x3, lv x4, .second, lv x5, .second, lv x6, .second, iv (6 : Int32), iv x3, iv r1, iv r2, iv r3, iv r4, iv r5, iv r6, rv b7, .unset] [(.int (0 : Int32)), (.int ((if v186 = (0 : Int32) then (0 : Int32) else (1 : Int32)) + (if v206 = (0 : Int32) then (0 : Int32) else (1 : Int32))))] tz → oS p e below T210 m 219 #[iv x1, iv x2, iv x3, lv x4, .second, lv x5, .second, lv x6, .second, iv (6 : Int32), iv x3, iv r1, iv r2, iv r3, iv r4, iv r5, iv r6, rv b7, .unset] [(.int x2), (.int r2), (.int ((if v186 = (0 : Int32) then (0 : Int32) else (1 : Int32)) + (if v206 = (0 : Int32) then (0 : Int32) else (1 : Int32))))] tz := fun tz kt => by
            show oS p e below T210 m 219 #[iv x1, iv x2, iv x3, lv x4, .second, lv x5, .second, lv x6, .second, iv (6 : Int32), iv x3, iv r1, iv r2, iv r3, iv r4, iv r5, iv r6, rv b7, .unset] [(.int x2), (.int r2), (.int ((if v186 = (0 : Int32) then (0 : Int32) else (1 : Int32)) + (if v206 = (0 : Int32) then (0 : Int32) else (1 : Int32))))] _
            refine XS.icmpYes X210.here hx rfl (pc0 := 219) (pc' := 226) rfl (hb hby at_219) rfl (tlt hc219).2.2.1 (by decide) (by decide) ?_
            refine XS.iconst X210.here hx rfl (hb hby at_226) ?_
            exact kt
          exact ⟨(0 : Int32), T210, _, (by rw [if_pos hc219]), N210, X210, eh210, fun tz kt => (pre212 _ kt)⟩
        · have pre213 : ∀ tz, oS p e below T210 m 227 #[iv x1, iv x2, iv x3, lv x4, .second, lv x5, .second, lv x6, .second, iv (6 : Int32), iv x3, iv r1, iv r2, iv r3, iv r4, iv r5, iv r6, rv b7, .unset] [(.int (1 : Int32)), (.int ((if v186 = (0 : Int32) then (0 : Int32) else (1 : Int32)) + (if v206 = (0 : Int32) then (0 : Int32) else (1 : Int32))))] tz → oS p e below T210 m 219 #[iv x1, iv x2, iv x3, lv x4, .second, lv x5, .second, lv x6, .second, iv (6 : Int32), iv x3, iv r1, iv r2, iv r3, iv r4, iv r5, iv r6, rv b7, .unset] [(.int x2), (.int r2), (.int ((if v186 = (0 : Int32) then (0 : Int32) else (1 : Int32)) + (if v206 = (0 : Int32) then (0 : Int32) else (1 : Int32))))] tz := fun tz kt => by
            show oS p e below T210 m 219 #[iv x1, iv x2, iv x3, lv x4, .second, lv x5, .second, lv x6, .second, iv (6 : Int32), iv x3, iv r1, iv r2, iv r3, iv r4, iv r5, iv r6, rv b7, .unset] [(.int x2), (.int r2), (.int ((if v186 = (0 : Int32) then (0 : Int32) else (1 : Int32)) + (if v206 = (0 : Int32) then (0 : Int32) else (1 : Int32))))] _
            refine XS.icmpNo X210.here hx rfl (hb hby at_219) rfl (flt hc219).2.2.1 ?_
            refine XS.iconst X210.here hx rfl (hb hby at_222) ?_
            refine XS.goto X210.here hx rfl (pc0 := 223) (pc' := 227) rfl (hb hby at_223) (by decide) (by decide) ?_
            exact kt
          exact ⟨(1 : Int32), T210, _, (by rw [if_neg hc219]), N210, X210, eh210, fun tz kt => (pre213 _ kt)⟩)
    have hv227 : v227 = (if x2 < r2 then (0 : Int32) else (1 : Int32)) := jv214
    obtain ⟨_, _, ⟨T215, Lw215, kw215, nw215⟩, -, X215, ⟨Lc215, hQ215, l215, y215, z215⟩, st215⟩ := Jvm.LawKit.callS X214 hx (y := (⟨oz1, "one", "(Z)I"⟩ : MethodName)) hown (mvT hZ (own_w hw 22 rfl)) (mvT hZ (own_w hw 23 rfl)) (mvT hZ (own_w hw 2 rfl)) (mvT hZ (own_w hw 24 rfl)) (by decide) (backOf (W := 1) (rm5 l Z a0 hw [] v227 T197.heap n0 Zc205 ) hZ (own_w hw 24 rfl) (own_w hw 2 rfl) (by decide) (by decide)) (g := (mkF m 227 #[iv x1, iv x2, iv x3, lv x4, .second, lv x5, .second, lv x6, .second, iv (6 : Int32), iv x3, iv r1, iv r2, iv r3, iv r4, iv r5, iv r6, rv b7, .unset] [(.int v227), (.int ((if v186 = (0 : Int32) then (0 : Int32) else (1 : Int32)) + (if v206 = (0 : Int32) then (0 : Int32) else (1 : Int32))))])) rfl (by rw [hml]; rfl) (argsL := [(.int v227)]) (rest := [(.int ((if v186 = (0 : Int32) then (0 : Int32) else (1 : Int32)) + (if v206 = (0 : Int32) then (0 : Int32) else (1 : Int32))))]) (lenOf own_pd5 rfl) rfl (by show 2 * 0 + _ ≤ _; exact Nat.le_of_eq rfl) (hb hby at_227) (fun _ _ => ⟨rfl, e214, (by decide : 3 + 0 ≤ _), (by decide : 14 + 0 ≤ _)⟩)
    dsimp only [Pt.U, Pt.locs, Pt.cells, Pt.slots] at X215 l215 y215 z215 st215 hQ215
    subst l215 y215 z215
    obtain ⟨rfl, Nq215, eh215⟩ := hQ215
    have N215 := Fr.app N214 Nq215
    have pre216 : ∀ tz, oS p e below T215 m 240 #[iv x1, iv x2, iv x3, lv x4, .second, lv x5, .second, lv x6, .second, iv (6 : Int32), iv x3, iv r1, iv r2, iv r3, iv r4, iv r5, iv r6, rv b7, .unset] [(.int x2), (.int r3), (.int (((if v186 = (0 : Int32) then (0 : Int32) else (1 : Int32)) + (if v206 = (0 : Int32) then (0 : Int32) else (1 : Int32))) + (if v227 = (0 : Int32) then (0 : Int32) else (1 : Int32))))] tz → oS p e below T210 m 219 #[iv x1, iv x2, iv x3, lv x4, .second, lv x5, .second, lv x6, .second, iv (6 : Int32), iv x3, iv r1, iv r2, iv r3, iv r4, iv r5, iv r6, rv b7, .unset] [(.int x2), (.int r2), (.int ((if v186 = (0 : Int32) then (0 : Int32) else (1 : Int32)) + (if v206 = (0 : Int32) then (0 : Int32) else (1 : Int32))))] tz := fun tz kt => by
      show oS p e below T210 m 219 #[iv x1, iv x2, iv x3, lv x4, .second, lv x5, .second, lv x6, .second, iv (6 : Int32), iv x3, iv r1, iv r2, iv r3, iv r4, iv r5, iv r6, rv b7, .unset] [(.int x2), (.int r2), (.int ((if v186 = (0 : Int32) then (0 : Int32) else (1 : Int32)) + (if v206 = (0 : Int32) then (0 : Int32) else (1 : Int32))))] _
      refine st214 _ ?_
      show oS p e below T214 m 227 #[iv x1, iv x2, iv x3, lv x4, .second, lv x5, .second, lv x6, .second, iv (6 : Int32), iv x3, iv r1, iv r2, iv r3, iv r4, iv r5, iv r6, rv b7, .unset] [(.int v227), (.int ((if v186 = (0 : Int32) then (0 : Int32) else (1 : Int32)) + (if v206 = (0 : Int32) then (0 : Int32) else (1 : Int32))))] _
      refine st215 _ ?_
      refine XS.iadd X215.here hx rfl (hb hby at_230) rfl ?_
      refine XS.iload X215.here hx rfl (hb hby at_231) rfl ?_
      refine XS.iconst X215.here hx rfl (hb hby at_233) ?_
      show oS p e below T215 m 234 #[iv x1, iv x2, iv x3, lv x4, .second, lv x5, .second, lv x6, .second, iv (6 : Int32), iv x3, iv r1, iv r2, iv r3, iv r4, iv r5, iv r6, rv b7, .unset] [(.int (3 : Int32)), (.int (6 : Int32)), (.int (((if v186 = (0 : Int32) then (0 : Int32) else (1 : Int32)) + (if v206 = (0 : Int32) then (0 : Int32) else (1 : Int32))) + (if v227 = (0 : Int32) then (0 : Int32) else (1 : Int32))))] _
      refine XS.icmpNo X215.here hx rfl (hb hby at_234) rfl (tlt (by decide : ((3 : Int32) < (6 : Int32)))).2.2.2 ?_
      refine XS.iload X215.here hx rfl (hb hby at_237) rfl ?_
      refine XS.iloadN X215.here hx rfl (hb hby at_239) rfl ?_
      exact kt
    obtain ⟨v248, T219, Lj219, jv219, N219, X219, e219, st219⟩ := own_join (α := Int32) X215 N215 eh215 (mkF m 240 #[iv x1, iv x2, iv x3, lv x4, .second, lv x5, .second, lv x6, .second, iv (6 : Int32), iv x3, iv r1, iv r2, iv r3, iv r4, iv r5, iv r6, rv b7, .unset] [(.int x2), (.int r3), (.int (((if v186 = (0 : Int32) then (0 : Int32) else (1 : Int32)) + (if v206 = (0 : Int32) then (0 : Int32) else (1 : Int32))) + (if v227 = (0 : Int32) then (0 : Int32) else (1 : Int32))))]) (fun v => (mkF m 248 #[iv x1, iv x2, iv x3, lv x4, .second, lv x5, .second, lv x6, .second, iv (6 : Int32), iv x3, iv r1, iv r2, iv r3, iv r4, iv r5, iv r6, rv b7, .unset] [(.int v), (.int (((if v186 = (0 : Int32) then (0 : Int32) else (1 : Int32)) + (if v206 = (0 : Int32) then (0 : Int32) else (1 : Int32))) + (if v227 = (0 : Int32) then (0 : Int32) else (1 : Int32))))])) (fun v => v = (if x2 < r3 then (0 : Int32) else (1 : Int32))) (by
        by_cases hc240 : x2 < r3
        · have pre217 : ∀ tz, oS p e below T215 m 248 #[iv x1, iv x2, iv x3, lv x4, .second, lv x5, .second, lv x6, .second, iv (6 : Int32), iv x3, iv r1, iv r2, iv r3, iv r4, iv r5, iv r6, rv b7, .unset] [(.int (0 : Int32)), (.int (((if v186 = (0 : Int32) then (0 : Int32) else (1 : Int32)) + (if v206 = (0 : Int32) then (0 : Int32) else (1 : Int32))) + (if v227 = (0 : Int32) then (0 : Int32) else (1 : Int32))))] tz → oS p e below T215 m 240 #[iv x1, iv x2, iv x3, lv x4, .second, lv x5, .second, lv x6, .second, iv (6 : Int32), iv x3, iv r1, iv r2, iv r3, iv r4, iv r5, iv r6, rv b7, .unset] [(.int x2), (.int r3), (.int (((if v186 = (0 : Int32) then (0 : Int32) else (1 : Int32)) + (if v206 = (0 : Int32) then (0 : Int32) else (1 : Int32))) + (if v227 = (0 : Int32) then (0 : Int32) else (1 : Int32))))] tz := fun tz kt => by
            show oS p e below T215 m 240 #[iv x1, iv x2, iv x3, lv x4, .second, lv x5, .second, lv x6, .second, iv (6 : Int32), iv x3, iv r1, iv r2, iv r3, iv r4, iv r5, iv r6, rv b7, .unset] [(.int x2), (.int r3), (.int (((if v186 = (0 : Int32) then (0 : Int32) else (1 : Int32)) + (if v206 = (0 : Int32) then (0 : Int32) else (1 : Int32))) + (if v227 = (0 : Int32) then (0 : Int32) else (1 : Int32))))] _
            refine XS.icmpYes X215.here hx rfl (pc0 := 240) (pc' := 247) rfl (hb hby at_240) rfl (tlt hc240).2.2.1 (by decide) (by decide) ?_
            refine XS.iconst X215.here hx rfl (hb hby at_247) ?_
            exact kt
          exact ⟨(0 : Int32), T215, _, (by rw [if_pos hc240]), N215, X215, eh215, fun tz kt => (pre217 _ kt)⟩
        · have pre218 : ∀ tz, oS p e below T215 m 248 #[iv x1, iv x2, iv x3, lv x4, .second, lv x5, .second, lv x6, .second, iv (6 : Int32), iv x3, iv r1, iv r2, iv r3, iv r4, iv r5, iv r6, rv b7, .unset] [(.int (1 : Int32)), (.int (((if v186 = (0 : Int32) then (0 : Int32) else (1 : Int32)) + (if v206 = (0 : Int32) then (0 : Int32) else (1 : Int32))) + (if v227 = (0 : Int32) then (0 : Int32) else (1 : Int32))))] tz → oS p e below T215 m 240 #[iv x1, iv x2, iv x3, lv x4, .second, lv x5, .second, lv x6, .second, iv (6 : Int32), iv x3, iv r1, iv r2, iv r3, iv r4, iv r5, iv r6, rv b7, .unset] [(.int x2), (.int r3), (.int (((if v186 = (0 : Int32) then (0 : Int32) else (1 : Int32)) + (if v206 = (0 : Int32) then (0 : Int32) else (1 : Int32))) + (if v227 = (0 : Int32) then (0 : Int32) else (1 : Int32))))] tz := fun tz kt => by
            show oS p e below T215 m 240 #[iv x1, iv x2, iv x3, lv x4, .second, lv x5, .second, lv x6, .second, iv (6 : Int32), iv x3, iv r1, iv r2, iv r3, iv r4, iv r5, iv r6, rv b7, .unset] [(.int x2), (.int r3), (.int (((if v186 = (0 : Int32) then (0 : Int32) else (1 : Int32)) + (if v206 = (0 : Int32) then (0 : Int32) else (1 : Int32))) + (if v227 = (0 : Int32) then (0 : Int32) else (1 : Int32))))] _
            refine XS.icmpNo X215.here hx rfl (hb hby at_240) rfl (flt hc240).2.2.1 ?_
            refine XS.iconst X215.here hx rfl (hb hby at_243) ?_
            refine XS.goto X215.here hx rfl (pc0 := 244) (pc' := 248) rfl (hb hby at_244) (by decide) (by decide) ?_
            exact kt
          exact ⟨(1 : Int32), T215, _, (by rw [if_neg hc240]), N215, X215, eh215, fun tz kt => (pre218 _ kt)⟩)
    have hv248 : v248 = (if x2 < r3 then (0 : Int32) else (1 : Int32)) := jv219
    obtain ⟨_, _, ⟨T220, Lw220, kw220, nw220⟩, -, X220, ⟨Lc220, hQ220, l220, y220, z220⟩, st220⟩ := Jvm.LawKit.callS X219 hx (y := (⟨oz1, "one", "(Z)I"⟩ : MethodName)) hown (mvT hZ (own_w hw 22 rfl)) (mvT hZ (own_w hw 23 rfl)) (mvT hZ (own_w hw 2 rfl)) (mvT hZ (own_w hw 24 rfl)) (by decide) (backOf (W := 1) (rm5 l Z a0 hw [] v248 T197.heap n0 Zc205 ) hZ (own_w hw 24 rfl) (own_w hw 2 rfl) (by decide) (by decide)) (g := (mkF m 248 #[iv x1, iv x2, iv x3, lv x4, .second, lv x5, .second, lv x6, .second, iv (6 : Int32), iv x3, iv r1, iv r2, iv r3, iv r4, iv r5, iv r6, rv b7, .unset] [(.int v248), (.int (((if v186 = (0 : Int32) then (0 : Int32) else (1 : Int32)) + (if v206 = (0 : Int32) then (0 : Int32) else (1 : Int32))) + (if v227 = (0 : Int32) then (0 : Int32) else (1 : Int32))))])) rfl (by rw [hml]; rfl) (argsL := [(.int v248)]) (rest := [(.int (((if v186 = (0 : Int32) then (0 : Int32) else (1 : Int32)) + (if v206 = (0 : Int32) then (0 : Int32) else (1 : Int32))) + (if v227 = (0 : Int32) then (0 : Int32) else (1 : Int32))))]) (lenOf own_pd5 rfl) rfl (by show 2 * 0 + _ ≤ _; exact Nat.le_of_eq rfl) (hb hby at_248) (fun _ _ => ⟨rfl, e219, (by decide : 3 + 0 ≤ _), (by decide : 14 + 0 ≤ _)⟩)
    dsimp only [Pt.U, Pt.locs, Pt.cells, Pt.slots] at X220 l220 y220 z220 st220 hQ220
    subst l220 y220 z220
    obtain ⟨rfl, Nq220, eh220⟩ := hQ220
    have N220 := Fr.app N219 Nq220
    have pre221 : ∀ tz, oS p e below T220 m 261 #[iv x1, iv x2, iv x3, lv x4, .second, lv x5, .second, lv x6, .second, iv (6 : Int32), iv x3, iv r1, iv r2, iv r3, iv r4, iv r5, iv r6, rv b7, .unset] [(.int x2), (.int r4), (.int ((((if v186 = (0 : Int32) then (0 : Int32) else (1 : Int32)) + (if v206 = (0 : Int32) then (0 : Int32) else (1 : Int32))) + (if v227 = (0 : Int32) then (0 : Int32) else (1 : Int32))) + (if v248 = (0 : Int32) then (0 : Int32) else (1 : Int32))))] tz → oS p e below T215 m 240 #[iv x1, iv x2, iv x3, lv x4, .second, lv x5, .second, lv x6, .second, iv (6 : Int32), iv x3, iv r1, iv r2, iv r3, iv r4, iv r5, iv r6, rv b7, .unset] [(.int x2), (.int r3), (.int (((if v186 = (0 : Int32) then (0 : Int32) else (1 : Int32)) + (if v206 = (0 : Int32) then (0 : Int32) else (1 : Int32))) + (if v227 = (0 : Int32) then (0 : Int32) else (1 : Int32))))] tz := fun tz kt => by
      show oS p e below T215 m 240 #[iv x1, iv x2, iv x3, lv x4, .second, lv x5, .second, lv x6, .second, iv (6 : Int32), iv x3, iv r1, iv r2, iv r3, iv r4, iv r5, iv r6, rv b7, .unset] [(.int x2), (.int r3), (.int (((if v186 = (0 : Int32) then (0 : Int32) else (1 : Int32)) + (if v206 = (0 : Int32) then (0 : Int32) else (1 : Int32))) + (if v227 = (0 : Int32) then (0 : Int32) else (1 : Int32))))] _
      refine st219 _ ?_
      show oS p e below T219 m 248 #[iv x1, iv x2, iv x3, lv x4, .second, lv x5, .second, lv x6, .second, iv (6 : Int32), iv x3, iv r1, iv r2, iv r3, iv r4, iv r5, iv r6, rv b7, .unset] [(.int v248), (.int (((if v186 = (0 : Int32) then (0 : Int32) else (1 : Int32)) + (if v206 = (0 : Int32) then (0 : Int32) else (1 : Int32))) + (if v227 = (0 : Int32) then (0 : Int32) else (1 : Int32))))] _
      refine st220 _ ?_
      refine XS.iadd X220.here hx rfl (hb hby at_251) rfl ?_
      refine XS.iload X220.here hx rfl (hb hby at_252) rfl ?_
      refine XS.iconst X220.here hx rfl (hb hby at_254) ?_
      show oS p e below T220 m 255 #[iv x1, iv x2, iv x3, lv x4, .second, lv x5, .second, lv x6, .second, iv (6 : Int32), iv x3, iv r1, iv r2, iv r3, iv r4, iv r5, iv r6, rv b7, .unset] [(.int (4 : Int32)), (.int (6 : Int32)), (.int ((((if v186 = (0 : Int32) then (0 : Int32) else (1 : Int32)) + (if v206 = (0 : Int32) then (0 : Int32) else (1 : Int32))) + (if v227 = (0 : Int32) then (0 : Int32) else (1 : Int32))) + (if v248 = (0 : Int32) then (0 : Int32) else (1 : Int32))))] _
      refine XS.icmpNo X220.here hx rfl (hb hby at_255) rfl (tlt (by decide : ((4 : Int32) < (6 : Int32)))).2.2.2 ?_
      refine XS.iload X220.here hx rfl (hb hby at_258) rfl ?_
      refine XS.iloadN X220.here hx rfl (hb hby at_260) rfl ?_
      exact kt
    obtain ⟨v269, T224, Lj224, jv224, N224, X224, e224, st224⟩ := own_join (α := Int32) X220 N220 eh220 (mkF m 261 #[iv x1, iv x2, iv x3, lv x4, .second, lv x5, .second, lv x6, .second, iv (6 : Int32), iv x3, iv r1, iv r2, iv r3, iv r4, iv r5, iv r6, rv b7, .unset] [(.int x2), (.int r4), (.int ((((if v186 = (0 : Int32) then (0 : Int32) else (1 : Int32)) + (if v206 = (0 : Int32) then (0 : Int32) else (1 : Int32))) + (if v227 = (0 : Int32) then (0 : Int32) else (1 : Int32))) + (if v248 = (0 : Int32) then (0 : Int32) else (1 : Int32))))]) (fun v => (mkF m 269 #[iv x1, iv x2, iv x3, lv x4, .second, lv x5, .second, lv x6, .second, iv (6 : Int32), iv x3, iv r1, iv r2, iv r3, iv r4, iv r5, iv r6, rv b7, .unset] [(.int v), (.int ((((if v186 = (0 : Int32) then (0 : Int32) else (1 : Int32)) + (if v206 = (0 : Int32) then (0 : Int32) else (1 : Int32))) + (if v227 = (0 : Int32) then (0 : Int32) else (1 : Int32))) + (if v248 = (0 : Int32) then (0 : Int32) else (1 : Int32))))])) (fun v => v = (if x2 < r4 then (0 : Int32) else (1 : Int32))) (by
        by_cases hc261 : x2 < r4
        · have pre222 : ∀ tz, oS p e below T220 m 269 #[iv x1, iv x2, iv x3, lv x4, .second, lv x5, .second, lv x6, .second, iv (6 : Int32), iv x3, iv r1, iv r2, iv r3, iv r4, iv r5, iv r6, rv b7, .unset] [(.int (0 : Int32)), (.int ((((if v186 = (0 : Int32) then (0 : Int32) else (1 : Int32)) + (if v206 = (0 : Int32) then (0 : Int32) else (1 : Int32))) + (if v227 = (0 : Int32) then (0 : Int32) else (1 : Int32))) + (if v248 = (0 : Int32) then (0 : Int32) else (1 : Int32))))] tz → oS p e below T220 m 261 #[iv x1, iv x2, iv x3, lv x4, .second, lv x5, .second, lv x6, .second, iv (6 : Int32), iv x3, iv r1, iv r2, iv r3, iv r4, iv r5, iv r6, rv b7, .unset] [(.int x2), (.int r4), (.int ((((if v186 = (0 : Int32) then (0 : Int32) else (1 : Int32)) + (if v206 = (0 : Int32) then (0 : Int32) else (1 : Int32))) + (if v227 = (0 : Int32) then (0 : Int32) else (1 : Int32))) + (if v248 = (0 : Int32) then (0 : Int32) else (1 : Int32))))] tz := fun tz kt => by
            show oS p e below T220 m 261 #[iv x1, iv x2, iv x3, lv x4, .second, lv x5, .second, lv x6, .second, iv (6 : Int32), iv x3, iv r1, iv r2, iv r3, iv r4, iv r5, iv r6, rv b7, .unset] [(.int x2), (.int r4), (.int ((((if v186 = (0 : Int32) then (0 : Int32) else (1 : Int32)) + (if v206 = (0 : Int32) then (0 : Int32) else (1 : Int32))) + (if v227 = (0 : Int32) then (0 : Int32) else (1 : Int32))) + (if v248 = (0 : Int32) then (0 : Int32) else (1 : Int32))))] _
            refine XS.icmpYes X220.here hx rfl (pc0 := 261) (pc' := 268) rfl (hb hby at_261) rfl (tlt hc261).2.2.1 (by decide) (by decide) ?_
            refine XS.iconst X220.here hx rfl (hb hby at_268) ?_
            exact kt
          exact ⟨(0 : Int32), T220, _, (by rw [if_pos hc261]), N220, X220, eh220, fun tz kt => (pre222 _ kt)⟩
        · have pre223 : ∀ tz, oS p e below T220 m 269 #[iv x1, iv x2, iv x3, lv x4, .second, lv x5, .second, lv x6, .second, iv (6 : Int32), iv x3, iv r1, iv r2, iv r3, iv r4, iv r5, iv r6, rv b7, .unset] [(.int (1 : Int32)), (.int ((((if v186 = (0 : Int32) then (0 : Int32) else (1 : Int32)) + (if v206 = (0 : Int32) then (0 : Int32) else (1 : Int32))) + (if v227 = (0 : Int32) then (0 : Int32) else (1 : Int32))) + (if v248 = (0 : Int32) then (0 : Int32) else (1 : Int32))))] tz → oS p e below T220 m 261 #[iv x1, iv x2, iv x3, lv x4, .second, lv x5, .second, lv x6, .second, iv (6 : Int32), iv x3, iv r1, iv r2, iv r3, iv r4, iv r5, iv r6, rv b7, .unset] [(.int x2), (.int r4), (.int ((((if v186 = (0 : Int32) then (0 : Int32) else (1 : Int32)) + (if v206 = (0 : Int32) then (0 : Int32) else (1 : Int32))) + (if v227 = (0 : Int32) then (0 : Int32) else (1 : Int32))) + (if v248 = (0 : Int32) then (0 : Int32) else (1 : Int32))))] tz := fun tz kt => by
            show oS p e below T220 m 261 #[iv x1, iv x2, iv x3, lv x4, .second, lv x5, .second, lv x6, .second, iv (6 : Int32), iv x3, iv r1, iv r2, iv r3, iv r4, iv r5, iv r6, rv b7, .unset] [(.int x2), (.int r4), (.int ((((if v186 = (0 : Int32) then (0 : Int32) else (1 : Int32)) + (if v206 = (0 : Int32) then (0 : Int32) else (1 : Int32))) + (if v227 = (0 : Int32) then (0 : Int32) else (1 : Int32))) + (if v248 = (0 : Int32) then (0 : Int32) else (1 : Int32))))] _
            refine XS.icmpNo X220.here hx rfl (hb hby at_261) rfl (flt hc261).2.2.1 ?_
            refine XS.iconst X220.here hx rfl (hb hby at_264) ?_
            refine XS.goto X220.here hx rfl (pc0 := 265) (pc' := 269) rfl (hb hby at_265) (by decide) (by decide) ?_
            exact kt
          exact ⟨(1 : Int32), T220, _, (by rw [if_neg hc261]), N220, X220, eh220, fun tz kt => (pre223 _ kt)⟩)
    have hv269 : v269 = (if x2 < r4 then (0 : Int32) else (1 : Int32)) := jv224
    obtain ⟨_, _, ⟨T225, Lw225, kw225, nw225⟩, -, X225, ⟨Lc225, hQ225, l225, y225, z225⟩, st225⟩ := Jvm.LawKit.callS X224 hx (y := (⟨oz1, "one", "(Z)I"⟩ : MethodName)) hown (mvT hZ (own_w hw 22 rfl)) (mvT hZ (own_w hw 23 rfl)) (mvT hZ (own_w hw 2 rfl)) (mvT hZ (own_w hw 24 rfl)) (by decide) (backOf (W := 1) (rm5 l Z a0 hw [] v269 T197.heap n0 Zc205 ) hZ (own_w hw 24 rfl) (own_w hw 2 rfl) (by decide) (by decide)) (g := (mkF m 269 #[iv x1, iv x2, iv x3, lv x4, .second, lv x5, .second, lv x6, .second, iv (6 : Int32), iv x3, iv r1, iv r2, iv r3, iv r4, iv r5, iv r6, rv b7, .unset] [(.int v269), (.int ((((if v186 = (0 : Int32) then (0 : Int32) else (1 : Int32)) + (if v206 = (0 : Int32) then (0 : Int32) else (1 : Int32))) + (if v227 = (0 : Int32) then (0 : Int32) else (1 : Int32))) + (if v248 = (0 : Int32) then (0 : Int32) else (1 : Int32))))])) rfl (by rw [hml]; rfl) (argsL := [(.int v269)]) (rest := [(.int ((((if v186 = (0 : Int32) then (0 : Int32) else (1 : Int32)) + (if v206 = (0 : Int32) then (0 : Int32) else (1 : Int32))) + (if v227 = (0 : Int32) then (0 : Int32) else (1 : Int32))) + (if v248 = (0 : Int32) then (0 : Int32) else (1 : Int32))))]) (lenOf own_pd5 rfl) rfl (by show 2 * 0 + _ ≤ _; exact Nat.le_of_eq rfl) (hb hby at_269) (fun _ _ => ⟨rfl, e224, (by decide : 3 + 0 ≤ _), (by decide : 14 + 0 ≤ _)⟩)
    dsimp only [Pt.U, Pt.locs, Pt.cells, Pt.slots] at X225 l225 y225 z225 st225 hQ225
    subst l225 y225 z225
    obtain ⟨rfl, Nq225, eh225⟩ := hQ225
    have N225 := Fr.app N224 Nq225
    have pre226 : ∀ tz, oS p e below T225 m 282 #[iv x1, iv x2, iv x3, lv x4, .second, lv x5, .second, lv x6, .second, iv (6 : Int32), iv x3, iv r1, iv r2, iv r3, iv r4, iv r5, iv r6, rv b7, .unset] [(.int x2), (.int r5), (.int (((((if v186 = (0 : Int32) then (0 : Int32) else (1 : Int32)) + (if v206 = (0 : Int32) then (0 : Int32) else (1 : Int32))) + (if v227 = (0 : Int32) then (0 : Int32) else (1 : Int32))) + (if v248 = (0 : Int32) then (0 : Int32) else (1 : Int32))) + (if v269 = (0 : Int32) then (0 : Int32) else (1 : Int32))))] tz → oS p e below T220 m 261 #[iv x1, iv x2, iv x3, lv x4, .second, lv x5, .second, lv x6, .second, iv (6 : Int32), iv x3, iv r1, iv r2, iv r3, iv r4, iv r5, iv r6, rv b7, .unset] [(.int x2), (.int r4), (.int ((((if v186 = (0 : Int32) then (0 : Int32) else (1 : Int32)) + (if v206 = (0 : Int32) then (0 : Int32) else (1 : Int32))) + (if v227 = (0 : Int32) then (0 : Int32) else (1 : Int32))) + (if v248 = (0 : Int32) then (0 : Int32) else (1 : Int32))))] tz := fun tz kt => by
      show oS p e below T220 m 261 #[iv x1, iv x2, iv x3, lv x4, .second, lv x5, .second, lv x6, .second, iv (6 : Int32), iv x3, iv r1, iv r2, iv r3, iv r4, iv r5, iv r6, rv b7, .unset] [(.int x2), (.int r4), (.int ((((if v186 = (0 : Int32) then (0 : Int32) else (1 : Int32)) + (if v206 = (0 : Int32) then (0 : Int32) else (1 : Int32))) + (if v227 = (0 : Int32) then (0 : Int32) else (1 : Int32))) + (if v248 = (0 : Int32) then (0 : Int32) else (1 : Int32))))] _
      refine st224 _ ?_
      show oS p e below T224 m 269 #[iv x1, iv x2, iv x3, lv x4, .second, lv x5, .second, lv x6, .second, iv (6 : Int32), iv x3, iv r1, iv r2, iv r3, iv r4, iv r5, iv r6, rv b7, .unset] [(.int v269), (.int ((((if v186 = (0 : Int32) then (0 : Int32) else (1 : Int32)) + (if v206 = (0 : Int32) then (0 : Int32) else (1 : Int32))) + (if v227 = (0 : Int32) then (0 : Int32) else (1 : Int32))) + (if v248 = (0 : Int32) then (0 : Int32) else (1 : Int32))))] _
      refine st225 _ ?_
      refine XS.iadd X225.here hx rfl (hb hby at_272) rfl ?_
      refine XS.iload X225.here hx rfl (hb hby at_273) rfl ?_
      refine XS.iconst X225.here hx rfl (hb hby at_275) ?_
      show oS p e below T225 m 276 #[iv x1, iv x2, iv x3, lv x4, .second, lv x5, .second, lv x6, .second, iv (6 : Int32), iv x3, iv r1, iv r2, iv r3, iv r4, iv r5, iv r6, rv b7, .unset] [(.int (5 : Int32)), (.int (6 : Int32)), (.int (((((if v186 = (0 : Int32) then (0 : Int32) else (1 : Int32)) + (if v206 = (0 : Int32) then (0 : Int32) else (1 : Int32))) + (if v227 = (0 : Int32) then (0 : Int32) else (1 : Int32))) + (if v248 = (0 : Int32) then (0 : Int32) else (1 : Int32))) + (if v269 = (0 : Int32) then (0 : Int32) else (1 : Int32))))] _
      refine XS.icmpNo X225.here hx rfl (hb hby at_276) rfl (tlt (by decide : ((5 : Int32) < (6 : Int32)))).2.2.2 ?_
      refine XS.iload X225.here hx rfl (hb hby at_279) rfl ?_
      refine XS.iloadN X225.here hx rfl (hb hby at_281) rfl ?_
      exact kt
    obtain ⟨v290, T229, Lj229, jv229, N229, X229, e229, st229⟩ := own_join (α := Int32) X225 N225 eh225 (mkF m 282 #[iv x1, iv x2, iv x3, lv x4, .second, lv x5, .second, lv x6, .second, iv (6 : Int32), iv x3, iv r1, iv r2, iv r3, iv r4, iv r5, iv r6, rv b7, .unset] [(.int x2), (.int r5), (.int (((((if v186 = (0 : Int32) then (0 : Int32) else (1 : Int32)) + (if v206 = (0 : Int32) then (0 : Int32) else (1 : Int32))) + (if v227 = (0 : Int32) then (0 : Int32) else (1 : Int32))) + (if v248 = (0 : Int32) then (0 : Int32) else (1 : Int32))) + (if v269 = (0 : Int32) then (0 : Int32) else (1 : Int32))))]) (fun v => (mkF m 290 #[iv x1, iv x2, iv x3, lv x4, .second, lv x5, .second, lv x6, .second, iv (6 : Int32), iv x3, iv r1, iv r2, iv r3, iv r4, iv r5, iv r6, rv b7, .unset] [(.int v), (.int (((((if v186 = (0 : Int32) then (0 : Int32) else (1 : Int32)) + (if v206 = (0 : Int32) then (0 : Int32) else (1 : Int32))) + (if v227 = (0 : Int32) then (0 : Int32) else (1 : Int32))) + (if v248 = (0 : Int32) then (0 : Int32) else (1 : Int32))) + (if v269 = (0 : Int32) then (0 : Int32) else (1 : Int32))))])) (fun v => v = (if x2 < r5 then (0 : Int32) else (1 : Int32))) (by
        by_cases hc282 : x2 < r5
        · have pre227 : ∀ tz, oS p e below T225 m 290 #[iv x1, iv x2, iv x3, lv x4, .second, lv x5, .second, lv x6, .second, iv (6 : Int32), iv x3, iv r1, iv r2, iv r3, iv r4, iv r5, iv r6, rv b7, .unset] [(.int (0 : Int32)), (.int (((((if v186 = (0 : Int32) then (0 : Int32) else (1 : Int32)) + (if v206 = (0 : Int32) then (0 : Int32) else (1 : Int32))) + (if v227 = (0 : Int32) then (0 : Int32) else (1 : Int32))) + (if v248 = (0 : Int32) then (0 : Int32) else (1 : Int32))) + (if v269 = (0 : Int32) then (0 : Int32) else (1 : Int32))))] tz → oS p e below T225 m 282 #[iv x1, iv x2, iv x3, lv x4, .second, lv x5, .second, lv x6, .second, iv (6 : Int32), iv x3, iv r1, iv r2, iv r3, iv r4, iv r5, iv r6, rv b7, .unset] [(.int x2), (.int r5), (.int (((((if v186 = (0 : Int32) then (0 : Int32) else (1 : Int32)) + (if v206 = (0 : Int32) then (0 : Int32) else (1 : Int32))) + (if v227 = (0 : Int32) then (0 : Int32) else (1 : Int32))) + (if v248 = (0 : Int32) then (0 : Int32) else (1 : Int32))) + (if v269 = (0 : Int32) then (0 : Int32) else (1 : Int32))))] tz := fun tz kt => by
            show oS p e below T225 m 282 #[iv x1, iv x2, iv x3, lv x4, .second, lv x5, .second, lv x6, .second, iv (6 : Int32), iv x3, iv r1, iv r2, iv r3, iv r4, iv r5, iv r6, rv b7, .unset] [(.int x2), (.int r5), (.int (((((if v186 = (0 : Int32) then (0 : Int32) else (1 : Int32)) + (if v206 = (0 : Int32) then (0 : Int32) else (1 : Int32))) + (if v227 = (0 : Int32) then (0 : Int32) else (1 : Int32))) + (if v248 = (0 : Int32) then (0 : Int32) else (1 : Int32))) + (if v269 = (0 : Int32) then (0 : Int32) else (1 : Int32))))] _
            refine XS.icmpYes X225.here hx rfl (pc0 := 282) (pc' := 289) rfl (hb hby at_282) rfl (tlt hc282).2.2.1 (by decide) (by decide) ?_
            refine XS.iconst X225.here hx rfl (hb hby at_289) ?_
            exact kt
          exact ⟨(0 : Int32), T225, _, (by rw [if_pos hc282]), N225, X225, eh225, fun tz kt => (pre227 _ kt)⟩
        · have pre228 : ∀ tz, oS p e below T225 m 290 #[iv x1, iv x2, iv x3, lv x4, .second, lv x5, .second, lv x6, .second, iv (6 : Int32), iv x3, iv r1, iv r2, iv r3, iv r4, iv r5, iv r6, rv b7, .unset] [(.int (1 : Int32)), (.int (((((if v186 = (0 : Int32) then (0 : Int32) else (1 : Int32)) + (if v206 = (0 : Int32) then (0 : Int32) else (1 : Int32))) + (if v227 = (0 : Int32) then (0 : Int32) else (1 : Int32))) + (if v248 = (0 : Int32) then (0 : Int32) else (1 : Int32))) + (if v269 = (0 : Int32) then (0 : Int32) else (1 : Int32))))] tz → oS p e below T225 m 282 #[iv x1, iv x2, iv x3, lv x4, .second, lv x5, .second, lv x6, .second, iv (6 : Int32), iv x3, iv r1, iv r2, iv r3, iv r4, iv r5, iv r6, rv b7, .unset] [(.int x2), (.int r5), (.int (((((if v186 = (0 : Int32) then (0 : Int32) else (1 : Int32)) + (if v206 = (0 : Int32) then (0 : Int32) else (1 : Int32))) + (if v227 = (0 : Int32) then (0 : Int32) else (1 : Int32))) + (if v248 = (0 : Int32) then (0 : Int32) else (1 : Int32))) + (if v269 = (0 : Int32) then (0 : Int32) else (1 : Int32))))] tz := fun tz kt => by
            show oS p e below T225 m 282 #[iv x1, iv x2, iv x3, lv x4, .second, lv x5, .second, lv x6, .second, iv (6 : Int32), iv x3, iv r1, iv r2, iv r3, iv r4, iv r5, iv r6, rv b7, .unset] [(.int x2), (.int r5), (.int (((((if v186 = (0 : Int32) then (0 : Int32) else (1 : Int32)) + (if v206 = (0 : Int32) then (0 : Int32) else (1 : Int32))) + (if v227 = (0 : Int32) then (0 : Int32) else (1 : Int32))) + (if v248 = (0 : Int32) then (0 : Int32) else (1 : Int32))) + (if v269 = (0 : Int32) then (0 : Int32) else (1 : Int32))))] _
            refine XS.icmpNo X225.here hx rfl (hb hby at_282) rfl (flt hc282).2.2.1 ?_
            refine XS.iconst X225.here hx rfl (hb hby at_285) ?_
            refine XS.goto X225.here hx rfl (pc0 := 286) (pc' := 290) rfl (hb hby at_286) (by decide) (by decide) ?_
            exact kt
          exact ⟨(1 : Int32), T225, _, (by rw [if_neg hc282]), N225, X225, eh225, fun tz kt => (pre228 _ kt)⟩)
    have hv290 : v290 = (if x2 < r5 then (0 : Int32) else (1 : Int32)) := jv229
    obtain ⟨_, _, ⟨T230, Lw230, kw230, nw230⟩, -, X230, ⟨Lc230, hQ230, l230, y230, z230⟩, st230⟩ := Jvm.LawKit.callS X229 hx (y := (⟨oz1, "one", "(Z)I"⟩ : MethodName)) hown (mvT hZ (own_w hw 22 rfl)) (mvT hZ (own_w hw 23 rfl)) (mvT hZ (own_w hw 2 rfl)) (mvT hZ (own_w hw 24 rfl)) (by decide) (backOf (W := 1) (rm5 l Z a0 hw [] v290 T197.heap n0 Zc205 ) hZ (own_w hw 24 rfl) (own_w hw 2 rfl) (by decide) (by decide)) (g := (mkF m 290 #[iv x1, iv x2, iv x3, lv x4, .second, lv x5, .second, lv x6, .second, iv (6 : Int32), iv x3, iv r1, iv r2, iv r3, iv r4, iv r5, iv r6, rv b7, .unset] [(.int v290), (.int (((((if v186 = (0 : Int32) then (0 : Int32) else (1 : Int32)) + (if v206 = (0 : Int32) then (0 : Int32) else (1 : Int32))) + (if v227 = (0 : Int32) then (0 : Int32) else (1 : Int32))) + (if v248 = (0 : Int32) then (0 : Int32) else (1 : Int32))) + (if v269 = (0 : Int32) then (0 : Int32) else (1 : Int32))))])) rfl (by rw [hml]; rfl) (argsL := [(.int v290)]) (rest := [(.int (((((if v186 = (0 : Int32) then (0 : Int32) else (1 : Int32)) + (if v206 = (0 : Int32) then (0 : Int32) else (1 : Int32))) + (if v227 = (0 : Int32) then (0 : Int32) else (1 : Int32))) + (if v248 = (0 : Int32) then (0 : Int32) else (1 : Int32))) + (if v269 = (0 : Int32) then (0 : Int32) else (1 : Int32))))]) (lenOf own_pd5 rfl) rfl (by show 2 * 0 + _ ≤ _; exact Nat.le_of_eq rfl) (hb hby at_290) (fun _ _ => ⟨rfl, e229, (by decide : 3 + 0 ≤ _), (by decide : 14 + 0 ≤ _)⟩)
    dsimp only [Pt.U, Pt.locs, Pt.cells, Pt.slots] at X230 l230 y230 z230 st230 hQ230
    subst l230 y230 z230
    obtain ⟨rfl, Nq230, eh230⟩ := hQ230
    have N230 := Fr.app N229 Nq230
    obtain ⟨_, _, ⟨T231, Lw231, kw231, nw231⟩, -, X231, ⟨Lc231, hQ231, l231, y231, z231⟩, st231⟩ := Jvm.LawKit.callS X230 hx (y := (⟨oz1, "one", "(Z)I"⟩ : MethodName)) hown (mvT hZ (own_w hw 22 rfl)) (mvT hZ (own_w hw 23 rfl)) (mvT hZ (own_w hw 2 rfl)) (mvT hZ (own_w hw 24 rfl)) (by decide) (backOf (W := 1) (rm5 l Z a0 hw [] (0 : Int32) T197.heap n0 Zc205 ) hZ (own_w hw 24 rfl) (own_w hw 2 rfl) (by decide) (by decide)) (g := (mkF m 312 #[iv x1, iv x2, iv x3, lv x4, .second, lv x5, .second, lv x6, .second, iv (6 : Int32), iv x3, iv r1, iv r2, iv r3, iv r4, iv r5, iv r6, rv b7, .unset] [(.int (0 : Int32)), (.int ((((((if v186 = (0 : Int32) then (0 : Int32) else (1 : Int32)) + (if v206 = (0 : Int32) then (0 : Int32) else (1 : Int32))) + (if v227 = (0 : Int32) then (0 : Int32) else (1 : Int32))) + (if v248 = (0 : Int32) then (0 : Int32) else (1 : Int32))) + (if v269 = (0 : Int32) then (0 : Int32) else (1 : Int32))) + (if v290 = (0 : Int32) then (0 : Int32) else (1 : Int32))))])) rfl (by rw [hml]; rfl) (argsL := [(.int (0 : Int32))]) (rest := [(.int ((((((if v186 = (0 : Int32) then (0 : Int32) else (1 : Int32)) + (if v206 = (0 : Int32) then (0 : Int32) else (1 : Int32))) + (if v227 = (0 : Int32) then (0 : Int32) else (1 : Int32))) + (if v248 = (0 : Int32) then (0 : Int32) else (1 : Int32))) + (if v269 = (0 : Int32) then (0 : Int32) else (1 : Int32))) + (if v290 = (0 : Int32) then (0 : Int32) else (1 : Int32))))]) (lenOf own_pd5 rfl) rfl (by show 2 * 0 + _ ≤ _; exact Nat.le_of_eq rfl) (hb hby at_312) (fun _ _ => ⟨rfl, eh230, (by decide : 3 + 0 ≤ _), (by decide : 14 + 0 ≤ _)⟩)
    dsimp only [Pt.U, Pt.locs, Pt.cells, Pt.slots] at X231 l231 y231 z231 st231 hQ231
    subst l231 y231 z231
    obtain ⟨rfl, Nq231, eh231⟩ := hQ231
    have N231 := Fr.app N230 Nq231
    obtain ⟨y316, hy316⟩ : ∃ z, z = (((((((if v186 = (0 : Int32) then (0 : Int32) else (1 : Int32)) + (if v206 = (0 : Int32) then (0 : Int32) else (1 : Int32))) + (if v227 = (0 : Int32) then (0 : Int32) else (1 : Int32))) + (if v248 = (0 : Int32) then (0 : Int32) else (1 : Int32))) + (if v269 = (0 : Int32) then (0 : Int32) else (1 : Int32))) + (if v290 = (0 : Int32) then (0 : Int32) else (1 : Int32))) + (0 : Int32)) := ⟨_, rfl⟩
    have Ec233 : Exa Z T197.heap b7 oz0 := (Ec198.keep K197)
    obtain ⟨cq232, kq232, q232a, q232b, q232c⟩ := isOf hZ eh231 Ec233
    obtain ⟨_, _, ⟨T232, Lw232, kw232, nw232⟩, -, X232, ⟨Lc232, hQ232, l232, y232, z232⟩, st232⟩ := X231.virtualBack hx (y := (⟨oz0, "countAtMost", "(I)I"⟩ : MethodName)) (z := (⟨oz0, "countAtMost", "(I)I"⟩ : MethodName)) hown (mvT hZ (own_w hw 25 rfl)) (mvT hZ (own_w hw 26 rfl)) (notFace_of_selects (args := #[]) (mvT hZ (own_w hw 28 rfl))) (mvT hZ (own_w hw 28 rfl)) (mvT hZ (own_w hw 27 rfl)) (by decide) (backOf (W := 0) (rmC6 l Z a0 hw [] b7 x2 x3 r1 r2 r3 r4 r5 b194 k194 T197.heap n0 Zc205 Ec233 pf197_0 pf197_1 pf197_2) hZ (own_w hw 29 rfl) (own_w hw 12 rfl) (by decide) (by decide)) q232a q232c (g := (mkF m 321 #[iv x1, iv x2, iv x3, lv x4, .second, lv x5, .second, lv x6, .second, iv (6 : Int32), iv x3, iv r1, iv r2, iv r3, iv r4, iv r5, iv r6, rv b7, iv y316] [(.int x2), (.ref b7)])) rfl (by rw [hml]; rfl) (Steps.refl _) (argsL := [(.int x2)]) (rest := []) (lenOf own_pd6 rfl) rfl (by show 2 * 0 + _ ≤ _; exact Nat.le_of_eq rfl) (hb hby at_321) (fun _ _ => ⟨rfl, eh231, (by decide : 3 + 0 ≤ _), (by decide : 14 + 0 ≤ _)⟩)
    dsimp only [Pt.U, Pt.locs, Pt.cells, Pt.slots] at X232 l232 y232 z232 st232 hQ232
    subst l232 y232 z232
    obtain ⟨rfl, Nq232, eh232⟩ := hQ232
    have N232 := Fr.app N231 Nq232
    have hc326 : (if x2 < r3 then (if x2 < r1 then (if x2 < x3 then (0 : Int32) else (1 : Int32)) else (if x2 < r2 then (2 : Int32) else (3 : Int32))) else (if x2 < r5 then (if x2 < r4 then (4 : Int32) else (5 : Int32)) else (6 : Int32))) = y316 := Classical.byContradiction fun hc326 => by
      subst hy316 hv290 hv269 hv248 hv227 hv206 hv186
      exact hc326 (own_cnt6 x2 x3 r1 r2 r3 r4 r5 pf1_0 pf2_0 pf3_0 pf4_0 pf5_0)
    have pre234 : ∀ tz, oS p e below T232 m 334 #[iv x1, iv x2, iv x3, lv x4, .second, lv x5, .second, lv x6, .second, iv (6 : Int32), iv x3, iv r1, iv r2, iv r3, iv r4, iv r5, iv r6, rv b7, iv y316] [(.int (1 : Int32))] tz → oS p e below T225 m 282 #[iv x1, iv x2, iv x3, lv x4, .second, lv x5, .second, lv x6, .second, iv (6 : Int32), iv x3, iv r1, iv r2, iv r3, iv r4, iv r5, iv r6, rv b7, .unset] [(.int x2), (.int r5), (.int (((((if v186 = (0 : Int32) then (0 : Int32) else (1 : Int32)) + (if v206 = (0 : Int32) then (0 : Int32) else (1 : Int32))) + (if v227 = (0 : Int32) then (0 : Int32) else (1 : Int32))) + (if v248 = (0 : Int32) then (0 : Int32) else (1 : Int32))) + (if v269 = (0 : Int32) then (0 : Int32) else (1 : Int32))))] tz := fun tz kt => by
      show oS p e below T225 m 282 #[iv x1, iv x2, iv x3, lv x4, .second, lv x5, .second, lv x6, .second, iv (6 : Int32), iv x3, iv r1, iv r2, iv r3, iv r4, iv r5, iv r6, rv b7, .unset] [(.int x2), (.int r5), (.int (((((if v186 = (0 : Int32) then (0 : Int32) else (1 : Int32)) + (if v206 = (0 : Int32) then (0 : Int32) else (1 : Int32))) + (if v227 = (0 : Int32) then (0 : Int32) else (1 : Int32))) + (if v248 = (0 : Int32) then (0 : Int32) else (1 : Int32))) + (if v269 = (0 : Int32) then (0 : Int32) else (1 : Int32))))] _
      refine st229 _ ?_
      show oS p e below T229 m 290 #[iv x1, iv x2, iv x3, lv x4, .second, lv x5, .second, lv x6, .second, iv (6 : Int32), iv x3, iv r1, iv r2, iv r3, iv r4, iv r5, iv r6, rv b7, .unset] [(.int v290), (.int (((((if v186 = (0 : Int32) then (0 : Int32) else (1 : Int32)) + (if v206 = (0 : Int32) then (0 : Int32) else (1 : Int32))) + (if v227 = (0 : Int32) then (0 : Int32) else (1 : Int32))) + (if v248 = (0 : Int32) then (0 : Int32) else (1 : Int32))) + (if v269 = (0 : Int32) then (0 : Int32) else (1 : Int32))))] _
      refine st230 _ ?_
      refine XS.iadd X230.here hx rfl (hb hby at_293) rfl ?_
      refine XS.iload X230.here hx rfl (hb hby at_294) rfl ?_
      refine XS.bipush X230.here hx rfl (hb hby at_296) ?_
      show oS p e below T230 m 298 #[iv x1, iv x2, iv x3, lv x4, .second, lv x5, .second, lv x6, .second, iv (6 : Int32), iv x3, iv r1, iv r2, iv r3, iv r4, iv r5, iv r6, rv b7, .unset] [(.int (6 : Int32)), (.int (6 : Int32)), (.int ((((((if v186 = (0 : Int32) then (0 : Int32) else (1 : Int32)) + (if v206 = (0 : Int32) then (0 : Int32) else (1 : Int32))) + (if v227 = (0 : Int32) then (0 : Int32) else (1 : Int32))) + (if v248 = (0 : Int32) then (0 : Int32) else (1 : Int32))) + (if v269 = (0 : Int32) then (0 : Int32) else (1 : Int32))) + (if v290 = (0 : Int32) then (0 : Int32) else (1 : Int32))))] _
      refine XS.icmpYes X230.here hx rfl (pc0 := 298) (pc' := 311) rfl (hb hby at_298) rfl (flt (by decide : ¬ ((6 : Int32) < (6 : Int32)))).2.2.2 (by decide) (by decide) ?_
      refine XS.iconst X230.here hx rfl (hb hby at_311) ?_
      show oS p e below T230 m 312 #[iv x1, iv x2, iv x3, lv x4, .second, lv x5, .second, lv x6, .second, iv (6 : Int32), iv x3, iv r1, iv r2, iv r3, iv r4, iv r5, iv r6, rv b7, .unset] [(.int (0 : Int32)), (.int ((((((if v186 = (0 : Int32) then (0 : Int32) else (1 : Int32)) + (if v206 = (0 : Int32) then (0 : Int32) else (1 : Int32))) + (if v227 = (0 : Int32) then (0 : Int32) else (1 : Int32))) + (if v248 = (0 : Int32) then (0 : Int32) else (1 : Int32))) + (if v269 = (0 : Int32) then (0 : Int32) else (1 : Int32))) + (if v290 = (0 : Int32) then (0 : Int32) else (1 : Int32))))] _
      refine st231 _ ?_
      rw [((if_pos (by decide : (0 : Int32) = (0 : Int32))) : (if (0 : Int32) = (0 : Int32) then (0 : Int32) else (1 : Int32)) = (0 : Int32))]
      show oS p e below T231 m 315 #[iv x1, iv x2, iv x3, lv x4, .second, lv x5, .second, lv x6, .second, iv (6 : Int32), iv x3, iv r1, iv r2, iv r3, iv r4, iv r5, iv r6, rv b7, .unset] [(.int (0 : Int32)), (.int ((((((if v186 = (0 : Int32) then (0 : Int32) else (1 : Int32)) + (if v206 = (0 : Int32) then (0 : Int32) else (1 : Int32))) + (if v227 = (0 : Int32) then (0 : Int32) else (1 : Int32))) + (if v248 = (0 : Int32) then (0 : Int32) else (1 : Int32))) + (if v269 = (0 : Int32) then (0 : Int32) else (1 : Int32))) + (if v290 = (0 : Int32) then (0 : Int32) else (1 : Int32))))] _
      refine XS.iadd X231.here hx rfl (hb hby at_315) rfl ?_
      refine XS.istore X231.here hx rfl (hb hby at_316) rfl (l' := #[iv x1, iv x2, iv x3, lv x4, .second, lv x5, .second, lv x6, .second, iv (6 : Int32), iv x3, iv r1, iv r2, iv r3, iv r4, iv r5, iv r6, rv b7, iv y316]) (by rw [hy316]; rfl) ?_
      refine XS.aload X231.here hx rfl (hb hby at_318) rfl rfl ?_
      refine XS.iloadN X231.here hx rfl (hb hby at_320) rfl ?_
      show oS p e below T231 m 321 #[iv x1, iv x2, iv x3, lv x4, .second, lv x5, .second, lv x6, .second, iv (6 : Int32), iv x3, iv r1, iv r2, iv r3, iv r4, iv r5, iv r6, rv b7, iv y316] [(.int x2), (.ref b7)] _
      refine st232.trans ?_
      refine XS.iload X232.here hx rfl (hb hby at_324) rfl ?_
      refine XS.icmpNo X232.here hx rfl (hb hby at_326) rfl (teq hc326).2 ?_
      refine XS.iconst X232.here hx rfl (hb hby at_329) ?_
      show oS p e below T232 m 330 #[iv x1, iv x2, iv x3, lv x4, .second, lv x5, .second, lv x6, .second, iv (6 : Int32), iv x3, iv r1, iv r2, iv r3, iv r4, iv r5, iv r6, rv b7, iv y316] [(.int (1 : Int32))] _
      refine XS.goto X232.here hx rfl (pc0 := 330) (pc' := 334) rfl (hb hby at_330) (by decide) (by decide) ?_
      exact kt
    obtain ⟨fs, hr, hrun, hended, hW, hsame⟩ := X232.leave (v := some (.int (1 : Int32))) (fun h => by rw [Bd.returns] at h; cases h)
    refine ⟨_, _, pre0 _ (pre10 _ (pre200 _ (pre206 _ (pre211 _ (pre216 _ (pre221 _ (pre226 _ (pre234 _ ?_)))))))), hrun, hended, _, _, rfl, ?_, ⟨_, rfl⟩, hW, hsame.mono (by decide) (by decide)⟩
    · show oS p e below T232 m 334 #[iv x1, iv x2, iv x3, lv x4, .second, lv x5, .second, lv x6, .second, iv (6 : Int32), iv x3, iv r1, iv r2, iv r3, iv r4, iv r5, iv r6, rv b7, iv y316] [(.int (1 : Int32))] _
      exact retN X232 hx (t := .boolean) Bd.returns (by simp) (hb hby at_334) hr
    · show Q0 Z x1 x2 x3 x4 x5 x6 h0 n0 _ T232.heap _
      rw [eh232]
      exact ⟨rfl, N232⟩
  · subst hn
    have Ec236 : Exa Z T8.heap b7 oz0 := (A7.keep K8)
    have Zc237 : n0 ≤ T8.heap.size := (Nat.le_trans Zc9 K8.1)
    obtain ⟨cq235, kq235, q235a, q235b, q235c⟩ := isOf hZ rfl Ec236
    obtain ⟨_, _, ⟨T235, Lw235, kw235, nw235⟩, -, X235, ⟨Lc235, hQ235, l235, y235, z235⟩, st235⟩ := X8.virtualBack hx (y := (⟨oz0, "add", "(I)V"⟩ : MethodName)) (z := (⟨oz0, "add", "(I)V"⟩ : MethodName)) hown (mvT hZ (own_w hw 32 rfl)) (mvT hZ (own_w hw 33 rfl)) (notFace_of_selects (args := #[]) (mvT hZ (own_w hw 35 rfl))) (mvT hZ (own_w hw 35 rfl)) (mvT hZ (own_w hw 34 rfl)) (by decide) (backOf (W := 0) (rmA0 l Z a0 hw [] b7 x3 b8 k8 T8.heap n0 Zc237 Ec236 g_b7 pf8_1 ne_b7_b8 pf8_3 pf8_2 pf8_4) hZ (own_w hw 36 rfl) (own_w hw 12 rfl) (by decide) (by decide)) q235a q235c (g := (mkF m 88 #[iv x1, iv x2, iv x3, lv x4, .second, lv x5, .second, lv x6, .second, iv (7 : Int32), iv x3, iv r1, iv r2, iv r3, iv r4, iv r5, iv r6, rv b7, .unset] [(.int x3), (.ref b7)])) rfl (by rw [hml]; rfl) (Steps.refl _) (argsL := [(.int x3)]) (rest := []) (lenOf own_pd7 rfl) rfl (by show 2 * 0 + _ ≤ _; exact Nat.le_of_eq rfl) (hb hby at_88) (fun _ _ => ⟨rfl, rfl, (by decide : 2 + 0 ≤ _), (by decide : 6 + 0 ≤ _)⟩)
    dsimp only [Pt.U, Pt.locs, Pt.cells, Pt.slots] at X235 l235 y235 z235 st235 hQ235
    subst l235 y235 z235
    obtain ⟨rfl, Nq235, K235, pf235_0, pf235_1, pf235_2⟩ := hQ235
    have N235 := Fr.app N8 Nq235
    have Ec239 : Exa Z T235.heap b7 oz0 := (Ec236.keep K235)
    have Zc240 : n0 ≤ T235.heap.size := (Nat.le_trans Zc237 K235.1)
    obtain ⟨cq238, kq238, q238a, q238b, q238c⟩ := isOf hZ rfl Ec239
    obtain ⟨_, _, ⟨T238, Lw238, kw238, nw238⟩, -, X238, ⟨Lc238, hQ238, l238, y238, z238⟩, st238⟩ := X235.virtualBack hx (y := (⟨oz0, "add", "(I)V"⟩ : MethodName)) (z := (⟨oz0, "add", "(I)V"⟩ : MethodName)) hown (mvT hZ (own_w hw 32 rfl)) (mvT hZ (own_w hw 33 rfl)) (notFace_of_selects (args := #[]) (mvT hZ (own_w hw 35 rfl))) (mvT hZ (own_w hw 35 rfl)) (mvT hZ (own_w hw 34 rfl)) (by decide) (backOf (W := 0) (rmA1 l Z a0 hw [] b7 r1 x3 b8 k8 T235.heap n0 Zc240 Ec239 g_b7 pf8_1 ne_b7_b8 pf235_0 pf235_1 pf235_2) hZ (own_w hw 36 rfl) (own_w hw 12 rfl) (by decide) (by decide)) q238a q238c (g := (mkF m 101 #[iv x1, iv x2, iv x3, lv x4, .second, lv x5, .second, lv x6, .second, iv (7 : Int32), iv x3, iv r1, iv r2, iv r3, iv r4, iv r5, iv r6, rv b7, .unset] [(.int r1), (.ref b7)])) rfl (by rw [hml]; rfl) (Steps.refl _) (argsL := [(.int r1)]) (rest := []) (lenOf own_pd7 rfl) rfl (by show 2 * 0 + _ ≤ _; exact Nat.le_of_eq rfl) (hb hby at_101) (fun _ _ => ⟨rfl, rfl, (by decide : 2 + 0 ≤ _), (by decide : 6 + 0 ≤ _)⟩)
    dsimp only [Pt.U, Pt.locs, Pt.cells, Pt.slots] at X238 l238 y238 z238 st238 hQ238
    subst l238 y238 z238
    obtain ⟨rfl, Nq238, K238, pf238_0, pf238_1, pf238_2⟩ := hQ238
    have N238 := Fr.app N235 Nq238
    have Ec242 : Exa Z T238.heap b7 oz0 := (Ec239.keep K238)
    have Zc243 : n0 ≤ T238.heap.size := (Nat.le_trans Zc240 K238.1)
    obtain ⟨cq241, kq241, q241a, q241b, q241c⟩ := isOf hZ rfl Ec242
    obtain ⟨_, _, ⟨T241, Lw241, kw241, nw241⟩, -, X241, ⟨Lc241, hQ241, l241, y241, z241⟩, st241⟩ := X238.virtualBack hx (y := (⟨oz0, "add", "(I)V"⟩ : MethodName)) (z := (⟨oz0, "add", "(I)V"⟩ : MethodName)) hown (mvT hZ (own_w hw 32 rfl)) (mvT hZ (own_w hw 33 rfl)) (notFace_of_selects (args := #[]) (mvT hZ (own_w hw 35 rfl))) (mvT hZ (own_w hw 35 rfl)) (mvT hZ (own_w hw 34 rfl)) (by decide) (backOf (W := 0) (rmA2 l Z a0 hw [] b7 r2 x3 r1 b8 k8 T238.heap n0 Zc243 Ec242 g_b7 pf8_1 ne_b7_b8 pf238_0 pf238_1 pf238_2) hZ (own_w hw 36 rfl) (own_w hw 12 rfl) (by decide) (by decide)) q241a q241c (g := (mkF m 114 #[iv x1, iv x2, iv x3, lv x4, .second, lv x5, .second, lv x6, .second, iv (7 : Int32), iv x3, iv r1, iv r2, iv r3, iv r4, iv r5, iv r6, rv b7, .unset] [(.int r2), (.ref b7)])) rfl (by rw [hml]; rfl) (Steps.refl _) (argsL := [(.int r2)]) (rest := []) (lenOf own_pd7 rfl) rfl (by show 2 * 0 + _ ≤ _; exact Nat.le_of_eq rfl) (hb hby at_114) (fun _ _ => ⟨rfl, rfl, (by decide : 2 + 0 ≤ _), (by decide : 6 + 0 ≤ _)⟩)
    dsimp only [Pt.U, Pt.locs, Pt.cells, Pt.slots] at X241 l241 y241 z241 st241 hQ241
    subst l241 y241 z241
    obtain ⟨rfl, Nq241, K241, pf241_0, pf241_1, pf241_2⟩ := hQ241
    have N241 := Fr.app N238 Nq241
    have Ec245 : Exa Z T241.heap b7 oz0 := (Ec242.keep K241)
    have Zc246 : n0 ≤ T241.heap.size := (Nat.le_trans Zc243 K241.1)
    obtain ⟨cq244, kq244, q244a, q244b, q244c⟩ := isOf hZ rfl Ec245
    obtain ⟨_, _, ⟨T244, Lw244, kw244, nw244⟩, -, X244, ⟨Lc244, hQ244, l244, y244, z244⟩, st244⟩ := X241.virtualBack hx (y := (⟨oz0, "add", "(I)V"⟩ : MethodName)) (z := (⟨oz0, "add", "(I)V"⟩ : MethodName)) hown (mvT hZ (own_w hw 32 rfl)) (mvT hZ (own_w hw 33 rfl)) (notFace_of_selects (args := #[]) (mvT hZ (own_w hw 35 rfl))) (mvT hZ (own_w hw 35 rfl)) (mvT hZ (own_w hw 34 rfl)) (by decide) (backOf (W := 0) (rmA3 l Z a0 hw [] b7 r3 x3 r1 r2 b8 k8 T241.heap n0 Zc246 Ec245 g_b7 pf8_1 ne_b7_b8 pf241_0 pf241_1 pf241_2) hZ (own_w hw 36 rfl) (own_w hw 12 rfl) (by decide) (by decide)) q244a q244c (g := (mkF m 127 #[iv x1, iv x2, iv x3, lv x4, .second, lv x5, .second, lv x6, .second, iv (7 : Int32), iv x3, iv r1, iv r2, iv r3, iv r4, iv r5, iv r6, rv b7, .unset] [(.int r3), (.ref b7)])) rfl (by rw [hml]; rfl) (Steps.refl _) (argsL := [(.int r3)]) (rest := []) (lenOf own_pd7 rfl) rfl (by show 2 * 0 + _ ≤ _; exact Nat.le_of_eq rfl) (hb hby at_127) (fun _ _ => ⟨rfl, rfl, (by decide : 2 + 0 ≤ _), (by decide : 6 + 0 ≤ _)⟩)
    dsimp only [Pt.U, Pt.locs, Pt.cells, Pt.slots] at X244 l244 y244 z244 st244 hQ244
    subst l244 y244 z244
    obtain ⟨rfl, Nq244, K244, pf244_0, pf244_1, pf244_2⟩ := hQ244
    have N244 := Fr.app N241 Nq244
    have Ec248 : Exa Z T244.heap b7 oz0 := (Ec245.keep K244)
    have Zc249 : n0 ≤ T244.heap.size := (Nat.le_trans Zc246 K244.1)
    obtain ⟨cq247, kq247, q247a, q247b, q247c⟩ := isOf hZ rfl Ec248
    obtain ⟨_, _, ⟨T247, Lw247, kw247, nw247⟩, -, X247, ⟨Lc247, hQ247, l247, y247, z247⟩, st247⟩ := X244.virtualBack hx (y := (⟨oz0, "add", "(I)V"⟩ : MethodName)) (z := (⟨oz0, "add", "(I)V"⟩ : MethodName)) hown (mvT hZ (own_w hw 32 rfl)) (mvT hZ (own_w hw 33 rfl)) (notFace_of_selects (args := #[]) (mvT hZ (own_w hw 35 rfl))) (mvT hZ (own_w hw 35 rfl)) (mvT hZ (own_w hw 34 rfl)) (by decide) (backOf (W := 0) (rmA4 l Z a0 hw [] b7 r4 x3 r1 r2 r3 b8 k8 T244.heap n0 Zc249 Ec248 g_b7 ne_b7_b8 pf244_0 pf244_1 pf244_2) hZ (own_w hw 36 rfl) (own_w hw 12 rfl) (by decide) (by decide)) q247a q247c (g := (mkF m 140 #[iv x1, iv x2, iv x3, lv x4, .second, lv x5, .second, lv x6, .second, iv (7 : Int32), iv x3, iv r1, iv r2, iv r3, iv r4, iv r5, iv r6, rv b7, .unset] [(.int r4), (.ref b7)])) rfl (by rw [hml]; rfl) (Steps.refl _) (argsL := [(.int r4)]) (rest := []) (lenOf own_pd7 rfl) rfl (by show 2 * 0 + _ ≤ _; exact Nat.le_of_eq rfl) (hb hby at_140) (fun _ _ => ⟨rfl, rfl, (by decide : 2 + 1 ≤ _), (by decide : 6 + 8 ≤ _)⟩)
    dsimp only [Pt.U, Pt.locs, Pt.cells, Pt.slots] at X247 l247 y247 z247 st247 hQ247
    subst l247 y247 z247
    obtain ⟨b247, k247, rfl, Nq247, K247, pf247_0, pf247_1, pf247_2, pf247_3, pf247_4⟩ := hQ247
    have N247 := Fr.app N244 Nq247
    have ne_b7_b247 : b7 ≠ b247 := Nat.ne_of_lt (Nat.lt_of_lt_of_le Ec248.lt pf247_0)
    have ne_b8_b247 : b8 ≠ b247 := Nat.ne_of_lt (Nat.lt_of_lt_of_le pf244_2.lt pf247_0)
    have Ec251 : Exa Z T247.heap b7 oz0 := (Ec248.keep K247)
    have Zc252 : n0 ≤ T247.heap.size := (Nat.le_trans Zc249 K247.1)
    obtain ⟨cq250, kq250, q250a, q250b, q250c⟩ := isOf hZ rfl Ec251
    obtain ⟨_, _, ⟨T250, Lw250, kw250, nw250⟩, -, X250, ⟨Lc250, hQ250, l250, y250, z250⟩, st250⟩ := X247.virtualBack hx (y := (⟨oz0, "add", "(I)V"⟩ : MethodName)) (z := (⟨oz0, "add", "(I)V"⟩ : MethodName)) hown (mvT hZ (own_w hw 32 rfl)) (mvT hZ (own_w hw 33 rfl)) (notFace_of_selects (args := #[]) (mvT hZ (own_w hw 35 rfl))) (mvT hZ (own_w hw 35 rfl)) (mvT hZ (own_w hw 34 rfl)) (by decide) (backOf (W := 0) (rmA5 l Z a0 hw [] b7 r5 x3 r1 r2 r3 r4 b247 k247 T247.heap n0 Zc252 Ec251 g_b7 pf247_1 ne_b7_b247 pf247_2 pf247_3 pf247_4) hZ (own_w hw 36 rfl) (own_w hw 12 rfl) (by decide) (by decide)) q250a q250c (g := (mkF m 153 #[iv x1, iv x2, iv x3, lv x4, .second, lv x5, .second, lv x6, .second, iv (7 : Int32), iv x3, iv r1, iv r2, iv r3, iv r4, iv r5, iv r6, rv b7, .unset] [(.int r5), (.ref b7)])) rfl (by rw [hml]; rfl) (Steps.refl _) (argsL := [(.int r5)]) (rest := []) (lenOf own_pd7 rfl) rfl (by show 2 * 0 + _ ≤ _; exact Nat.le_of_eq rfl) (hb hby at_153) (fun _ _ => ⟨rfl, rfl, (by decide : 3 + 0 ≤ _), (by decide : 14 + 0 ≤ _)⟩)
    dsimp only [Pt.U, Pt.locs, Pt.cells, Pt.slots] at X250 l250 y250 z250 st250 hQ250
    subst l250 y250 z250
    obtain ⟨rfl, Nq250, K250, pf250_0, pf250_1, pf250_2⟩ := hQ250
    have N250 := Fr.app N247 Nq250
    have Ec254 : Exa Z T250.heap b7 oz0 := (Ec251.keep K250)
    have Zc255 : n0 ≤ T250.heap.size := (Nat.le_trans Zc252 K250.1)
    obtain ⟨cq253, kq253, q253a, q253b, q253c⟩ := isOf hZ rfl Ec254
    obtain ⟨_, _, ⟨T253, Lw253, kw253, nw253⟩, -, X253, ⟨Lc253, hQ253, l253, y253, z253⟩, st253⟩ := X250.virtualBack hx (y := (⟨oz0, "add", "(I)V"⟩ : MethodName)) (z := (⟨oz0, "add", "(I)V"⟩ : MethodName)) hown (mvT hZ (own_w hw 32 rfl)) (mvT hZ (own_w hw 33 rfl)) (notFace_of_selects (args := #[]) (mvT hZ (own_w hw 35 rfl))) (mvT hZ (own_w hw 35 rfl)) (mvT hZ (own_w hw 34 rfl)) (by decide) (backOf (W := 0) (rmA6 l Z a0 hw [] b7 r6 x3 r1 r2 r3 r4 r5 b247 k247 T250.heap n0 Zc255 Ec254 g_b7 pf247_1 ne_b7_b247 pf250_0 pf250_1 pf250_2) hZ (own_w hw 36 rfl) (own_w hw 12 rfl) (by decide) (by decide)) q253a q253c (g := (mkF m 167 #[iv x1, iv x2, iv x3, lv x4, .second, lv x5, .second, lv x6, .second, iv (7 : Int32), iv x3, iv r1, iv r2, iv r3, iv r4, iv r5, iv r6, rv b7, .unset] [(.int r6), (.ref b7)])) rfl (by rw [hml]; rfl) (Steps.refl _) (argsL := [(.int r6)]) (rest := []) (lenOf own_pd7 rfl) rfl (by show 2 * 0 + _ ≤ _; exact Nat.le_of_eq rfl) (hb hby at_167) (fun _ _ => ⟨rfl, rfl, (by decide : 3 + 0 ≤ _), (by decide : 14 + 0 ≤ _)⟩)
    dsimp only [Pt.U, Pt.locs, Pt.cells, Pt.slots] at X253 l253 y253 z253 st253 hQ253
    subst l253 y253 z253
    obtain ⟨rfl, Nq253, K253, pf253_0, pf253_1, pf253_2⟩ := hQ253
    have N253 := Fr.app N250 Nq253
    have pre256 : ∀ tz, oS p e below T253 m 178 #[iv x1, iv x2, iv x3, lv x4, .second, lv x5, .second, lv x6, .second, iv (7 : Int32), iv x3, iv r1, iv r2, iv r3, iv r4, iv r5, iv r6, rv b7, .unset] [(.int x2), (.int x3)] tz → oS p e below T8 m 79 #[iv x1, iv x2, iv x3, lv x4, .second, lv x5, .second, lv x6, .second, iv (7 : Int32), iv x3, iv r1, iv r2, iv r3, iv r4, iv r5, iv r6, rv b7, .unset] [] tz := fun tz kt => by
      show oS p e below T8 m 79 #[iv x1, iv x2, iv x3, lv x4, .second, lv x5, .second, lv x6, .second, iv (7 : Int32), iv x3, iv r1, iv r2, iv r3, iv r4, iv r5, iv r6, rv b7, .unset] [] _
      refine XS.iload X8.here hx rfl (hb hby at_79) rfl ?_
      refine XS.ifNo X8.here hx rfl (hb hby at_81) rfl ((if0 _ _).trans (tlt (by decide : ((0 : Int32) < (7 : Int32)))).2.2.2) ?_
      refine XS.aload X8.here hx rfl (hb hby at_84) rfl rfl ?_
      refine XS.iload X8.here hx rfl (hb hby at_86) rfl ?_
      show oS p e below T8 m 88 #[iv x1, iv x2, iv x3, lv x4, .second, lv x5, .second, lv x6, .second, iv (7 : Int32), iv x3, iv r1, iv r2, iv r3, iv r4, iv r5, iv r6, rv b7, .unset] [(.int x3), (.ref b7)] _
      refine st235.trans ?_
      refine XS.iload X235.here hx rfl (hb hby at_91) rfl ?_
      refine XS.iconst X235.here hx rfl (hb hby at_93) ?_
      refine XS.icmpNo X235.here hx rfl (hb hby at_94) rfl (tlt (by decide : ((1 : Int32) < (7 : Int32)))).2.2.2 ?_
      show oS p e below T235 m 97 #[iv x1, iv x2, iv x3, lv x4, .second, lv x5, .second, lv x6, .second, iv (7 : Int32), iv x3, iv r1, iv r2, iv r3, iv r4, iv r5, iv r6, rv b7, .unset] [] _
      refine XS.aload X235.here hx rfl (hb hby at_97) rfl rfl ?_
      refine XS.iload X235.here hx rfl (hb hby at_99) rfl ?_
      show oS p e below T235 m 101 #[iv x1, iv x2, iv x3, lv x4, .second, lv x5, .second, lv x6, .second, iv (7 : Int32), iv x3, iv r1, iv r2, iv r3, iv r4, iv r5, iv r6, rv b7, .unset] [(.int r1), (.ref b7)] _
      refine st238.trans ?_
      refine XS.iload X238.here hx rfl (hb hby at_104) rfl ?_
      refine XS.iconst X238.here hx rfl (hb hby at_106) ?_
      refine XS.icmpNo X238.here hx rfl (hb hby at_107) rfl (tlt (by decide : ((2 : Int32) < (7 : Int32)))).2.2.2 ?_
      show oS p e below T238 m 110 #[iv x1, iv x2, iv x3, lv x4, .second, lv x5, .second, lv x6, .second, iv (7 : Int32), iv x3, iv r1, iv r2, iv r3, iv r4, iv r5, iv r6, rv b7, .unset] [] _
      refine XS.aload X238.here hx rfl (hb hby at_110) rfl rfl ?_
      refine XS.iload X238.here hx rfl (hb hby at_112) rfl ?_
      show oS p e below T238 m 114 #[iv x1, iv x2, iv x3, lv x4, .second, lv x5, .second, lv x6, .second, iv (7 : Int32), iv x3, iv r1, iv r2, iv r3, iv r4, iv r5, iv r6, rv b7, .unset] [(.int r2), (.ref b7)] _
      refine st241.trans ?_
      refine XS.iload X241.here hx rfl (hb hby at_117) rfl ?_
      refine XS.iconst X241.here hx rfl (hb hby at_119) ?_
      refine XS.icmpNo X241.here hx rfl (hb hby at_120) rfl (tlt (by decide : ((3 : Int32) < (7 : Int32)))).2.2.2 ?_
      show oS p e below T241 m 123 #[iv x1, iv x2, iv x3, lv x4, .second, lv x5, .second, lv x6, .second, iv (7 : Int32), iv x3, iv r1, iv r2, iv r3, iv r4, iv r5, iv r6, rv b7, .unset] [] _
      refine XS.aload X241.here hx rfl (hb hby at_123) rfl rfl ?_
      refine XS.iload X241.here hx rfl (hb hby at_125) rfl ?_
      show oS p e below T241 m 127 #[iv x1, iv x2, iv x3, lv x4, .second, lv x5, .second, lv x6, .second, iv (7 : Int32), iv x3, iv r1, iv r2, iv r3, iv r4, iv r5, iv r6, rv b7, .unset] [(.int r3), (.ref b7)] _
      refine st244.trans ?_
      refine XS.iload X244.here hx rfl (hb hby at_130) rfl ?_
      refine XS.iconst X244.here hx rfl (hb hby at_132) ?_
      refine XS.icmpNo X244.here hx rfl (hb hby at_133) rfl (tlt (by decide : ((4 : Int32) < (7 : Int32)))).2.2.2 ?_
      show oS p e below T244 m 136 #[iv x1, iv x2, iv x3, lv x4, .second, lv x5, .second, lv x6, .second, iv (7 : Int32), iv x3, iv r1, iv r2, iv r3, iv r4, iv r5, iv r6, rv b7, .unset] [] _
      refine XS.aload X244.here hx rfl (hb hby at_136) rfl rfl ?_
      refine XS.iload X244.here hx rfl (hb hby at_138) rfl ?_
      show oS p e below T244 m 140 #[iv x1, iv x2, iv x3, lv x4, .second, lv x5, .second, lv x6, .second, iv (7 : Int32), iv x3, iv r1, iv r2, iv r3, iv r4, iv r5, iv r6, rv b7, .unset] [(.int r4), (.ref b7)] _
      refine st247.trans ?_
      refine XS.iload X247.here hx rfl (hb hby at_143) rfl ?_
      refine XS.iconst X247.here hx rfl (hb hby at_145) ?_
      refine XS.icmpNo X247.here hx rfl (hb hby at_146) rfl (tlt (by decide : ((5 : Int32) < (7 : Int32)))).2.2.2 ?_
      show oS p e below T247 m 149 #[iv x1, iv x2, iv x3, lv x4, .second, lv x5, .second, lv x6, .second, iv (7 : Int32), iv x3, iv r1, iv r2, iv r3, iv r4, iv r5, iv r6, rv b7, .unset] [] _
      refine XS.aload X247.here hx rfl (hb hby at_149) rfl rfl ?_
      refine XS.iload X247.here hx rfl (hb hby at_151) rfl ?_
      show oS p e below T247 m 153 #[iv x1, iv x2, iv x3, lv x4, .second, lv x5, .second, lv x6, .second, iv (7 : Int32), iv x3, iv r1, iv r2, iv r3, iv r4, iv r5, iv r6, rv b7, .unset] [(.int r5), (.ref b7)] _
      refine st250.trans ?_
      refine XS.iload X250.here hx rfl (hb hby at_156) rfl ?_
      refine XS.bipush X250.here hx rfl (hb hby at_158) ?_
      refine XS.icmpNo X250.here hx rfl (hb hby at_160) rfl (tlt (by decide : ((6 : Int32) < (7 : Int32)))).2.2.2 ?_
      show oS p e below T250 m 163 #[iv x1, iv x2, iv x3, lv x4, .second, lv x5, .second, lv x6, .second, iv (7 : Int32), iv x3, iv r1, iv r2, iv r3, iv r4, iv r5, iv r6, rv b7, .unset] [] _
      refine XS.aload X250.here hx rfl (hb hby at_163) rfl rfl ?_
      refine XS.iload X250.here hx rfl (hb hby at_165) rfl ?_
      show oS p e below T250 m 167 #[iv x1, iv x2, iv x3, lv x4, .second, lv x5, .second, lv x6, .second, iv (7 : Int32), iv x3, iv r1, iv r2, iv r3, iv r4, iv r5, iv r6, rv b7, .unset] [(.int r6), (.ref b7)] _
      refine st253.trans ?_
      refine XS.iload X253.here hx rfl (hb hby at_170) rfl ?_
      refine XS.ifNo X253.here hx rfl (hb hby at_172) rfl ((if0 _ _).trans (tlt (by decide : ((0 : Int32) < (7 : Int32)))).2.2.2) ?_
      refine XS.iload X253.here hx rfl (hb hby at_175) rfl ?_
      show oS p e below T253 m 177 #[iv x1, iv x2, iv x3, lv x4, .second, lv x5, .second, lv x6, .second, iv (7 : Int32), iv x3, iv r1, iv r2, iv r3, iv r4, iv r5, iv r6, rv b7, .unset] [(.int x3)] _
      refine XS.iloadN X253.here hx rfl (hb hby at_177) rfl ?_
      exact kt
    obtain ⟨v186, T259, Lj259, jv259, N259, X259, e259, st259⟩ := own_join (α := Int32) X253 N253 rfl (mkF m 178 #[iv x1, iv x2, iv x3, lv x4, .second, lv x5, .second, lv x6, .second, iv (7 : Int32), iv x3, iv r1, iv r2, iv r3, iv r4, iv r5, iv r6, rv b7, .unset] [(.int x2), (.int x3)]) (fun v => (mkF m 186 #[iv x1, iv x2, iv x3, lv x4, .second, lv x5, .second, lv x6, .second, iv (7 : Int32), iv x3, iv r1, iv r2, iv r3, iv r4, iv r5, iv r6, rv b7, .unset] [(.int v)])) (fun v => v = (if x2 < x3 then (0 : Int32) else (1 : Int32))) (by
        by_cases hc178 : x2 < x3
        · have pre257 : ∀ tz, oS p e below T253 m 186 #[iv x1, iv x2, iv x3, lv x4, .second, lv x5, .second, lv x6, .second, iv (7 : Int32), iv x3, iv r1, iv r2, iv r3, iv r4, iv r5, iv r6, rv b7, .unset] [(.int (0 : Int32))] tz → oS p e below T253 m 178 #[iv x1, iv x2, iv x3, lv x4, .second, lv x5, .second, lv x6, .second, iv (7 : Int32), iv x3, iv r1, iv r2, iv r3, iv r4, iv r5, iv r6, rv b7, .unset] [(.int x2), (.int x3)] tz := fun tz kt => by
            show oS p e below T253 m 178 #[iv x1, iv x2, iv x3, lv x4, .second, lv x5, .second, lv x6, .second, iv (7 : Int32), iv x3, iv r1, iv r2, iv r3, iv r4, iv r5, iv r6, rv b7, .unset] [(.int x2), (.int x3)] _
            refine XS.icmpYes X253.here hx rfl (pc0 := 178) (pc' := 185) rfl (hb hby at_178) rfl (tlt hc178).2.2.1 (by decide) (by decide) ?_
            refine XS.iconst X253.here hx rfl (hb hby at_185) ?_
            exact kt
          exact ⟨(0 : Int32), T253, _, (by rw [if_pos hc178]), N253, X253, rfl, fun tz kt => (pre257 _ kt)⟩
        · have pre258 : ∀ tz, oS p e below T253 m 186 #[iv x1, iv x2, iv x3, lv x4, .second, lv x5, .second, lv x6, .second, iv (7 : Int32), iv x3, iv r1, iv r2, iv r3, iv r4, iv r5, iv r6, rv b7, .unset] [(.int (1 : Int32))] tz → oS p e below T253 m 178 #[iv x1, iv x2, iv x3, lv x4, .second, lv x5, .second, lv x6, .second, iv (7 : Int32), iv x3, iv r1, iv r2, iv r3, iv r4, iv r5, iv r6, rv b7, .unset] [(.int x2), (.int x3)] tz := fun tz kt => by
            show oS p e below T253 m 178 #[iv x1, iv x2, iv x3, lv x4, .second, lv x5, .second, lv x6, .second, iv (7 : Int32), iv x3, iv r1, iv r2, iv r3, iv r4, iv r5, iv r6, rv b7, .unset] [(.int x2), (.int x3)] _
            refine XS.icmpNo X253.here hx rfl (hb hby at_178) rfl (flt hc178).2.2.1 ?_
            refine XS.iconst X253.here hx rfl (hb hby at_181) ?_
            refine XS.goto X253.here hx rfl (pc0 := 182) (pc' := 186) rfl (hb hby at_182) (by decide) (by decide) ?_
            exact kt
          exact ⟨(1 : Int32), T253, _, (by rw [if_neg hc178]), N253, X253, rfl, fun tz kt => (pre258 _ kt)⟩)
    have hv186 : v186 = (if x2 < x3 then (0 : Int32) else (1 : Int32)) := jv259
    have Zc261 : n0 ≤ T253.heap.size := (Nat.le_trans Zc255 K253.1)
    obtain ⟨_, _, ⟨T260, Lw260, kw260, nw260⟩, -, X260, ⟨Lc260, hQ260, l260, y260, z260⟩, st260⟩ := Jvm.LawKit.callS X259 hx (y := (⟨oz1, "one", "(Z)I"⟩ : MethodName)) hown (mvT hZ (own_w hw 22 rfl)) (mvT hZ (own_w hw 23 rfl)) (mvT hZ (own_w hw 2 rfl)) (mvT hZ (own_w hw 24 rfl)) (by decide) (backOf (W := 0) (rm5 l Z a0 hw [] v186 T253.heap n0 Zc261 ) hZ (own_w hw 24 rfl) (own_w hw 2 rfl) (by decide) (by decide)) (g := (mkF m 186 #[iv x1, iv x2, iv x3, lv x4, .second, lv x5, .second, lv x6, .second, iv (7 : Int32), iv x3, iv r1, iv r2, iv r3, iv r4, iv r5, iv r6, rv b7, .unset] [(.int v186)])) rfl (by rw [hml]; rfl) (argsL := [(.int v186)]) (rest := []) (lenOf own_pd5 rfl) rfl (by show 2 * 0 + _ ≤ _; exact Nat.le_of_eq rfl) (hb hby at_186) (fun _ _ => ⟨rfl, e259, (by decide : 3 + 0 ≤ _), (by decide : 14 + 0 ≤ _)⟩)
    dsimp only [Pt.U, Pt.locs, Pt.cells, Pt.slots] at X260 l260 y260 z260 st260 hQ260
    subst l260 y260 z260
    obtain ⟨rfl, Nq260, eh260⟩ := hQ260
    have N260 := Fr.app N259 Nq260
    have pre262 : ∀ tz, oS p e below T260 m 198 #[iv x1, iv x2, iv x3, lv x4, .second, lv x5, .second, lv x6, .second, iv (7 : Int32), iv x3, iv r1, iv r2, iv r3, iv r4, iv r5, iv r6, rv b7, .unset] [(.int x2), (.int r1), (.int (if v186 = (0 : Int32) then (0 : Int32) else (1 : Int32)))] tz → oS p e below T253 m 178 #[iv x1, iv x2, iv x3, lv x4, .second, lv x5, .second, lv x6, .second, iv (7 : Int32), iv x3, iv r1, iv r2, iv r3, iv r4, iv r5, iv r6, rv b7, .unset] [(.int x2), (.int x3)] tz := fun tz kt => by
      show oS p e below T253 m 178 #[iv x1, iv x2, iv x3, lv x4, .second, lv x5, .second, lv x6, .second, iv (7 : Int32), iv x3, iv r1, iv r2, iv r3, iv r4, iv r5, iv r6, rv b7, .unset] [(.int x2), (.int x3)] _
      refine st259 _ ?_
      show oS p e below T259 m 186 #[iv x1, iv x2, iv x3, lv x4, .second, lv x5, .second, lv x6, .second, iv (7 : Int32), iv x3, iv r1, iv r2, iv r3, iv r4, iv r5, iv r6, rv b7, .unset] [(.int v186)] _
      refine st260 _ ?_
      refine XS.iload X260.here hx rfl (hb hby at_189) rfl ?_
      refine XS.iconst X260.here hx rfl (hb hby at_191) ?_
      refine XS.icmpNo X260.here hx rfl (hb hby at_192) rfl (tlt (by decide : ((1 : Int32) < (7 : Int32)))).2.2.2 ?_
      show oS p e below T260 m 195 #[iv x1, iv x2, iv x3, lv x4, .second, lv x5, .second, lv x6, .second, iv (7 : Int32), iv x3, iv r1, iv r2, iv r3, iv r4, iv r5, iv r6, rv b7, .unset] [(.int (if v186 = (0 : Int32) then (0 : Int32) else (1 : Int32)))] _
      refine XS.iload X260.here hx rfl (hb hby at_195) rfl ?_
      refine XS.iloadN X260.here hx rfl (hb hby at_197) rfl ?_
      exact kt
    obtain ⟨v206, T265, Lj265, jv265, N265, X265, e265, st265⟩ := own_join (α := Int32) X260 N260 eh260 (mkF m 198 #[iv x1, iv x2, iv x3, lv x4, .second, lv x5, .second, lv x6, .second, iv (7 : Int32), iv x3, iv r1, iv r2, iv r3, iv r4, iv r5, iv r6, rv b7, .unset] [(.int x2), (.int r1), (.int (if v186 = (0 : Int32) then (0 : Int32) else (1 : Int32)))]) (fun v => (mkF m 206 #[iv x1, iv x2, iv x3, lv x4, .second, lv x5, .second, lv x6, .second, iv (7 : Int32), iv x3, iv r1, iv r2, iv r3, iv r4, iv r5, iv r6, rv b7, .unset] [(.int v), (.int (if v186 = (0 : Int32) then (0 : Int32) else (1 : Int32)))])) (fun v => v = (if x2 < r1 then (0 : Int32) else (1 : Int32))) (by
        by_cases hc198 : x2 < r1
        · have pre263 : ∀ tz, oS p e below T260 m 206 #[iv x1, iv x2, iv x3, lv x4, .second, lv x5, .second, lv x6, .second, iv (7 : Int32), iv x3, iv r1, iv r2, iv r3, iv r4, iv r5, iv r6, rv b7, .unset] [(.int (0 : Int32)), (.int (if v186 = (0 : Int32) then (0 : Int32) else (1 : Int32)))] tz → oS p e below T260 m 198 #[iv x1, iv x2, iv x3, lv x4, .second, lv x5, .second, lv x6, .second, iv (7 : Int32), iv x3, iv r1, iv r2, iv r3, iv r4, iv r5, iv r6, rv b7, .unset] [(.int x2), (.int r1), (.int (if v186 = (0 : Int32) then (0 : Int32) else (1 : Int32)))] tz := fun tz kt => by
            show oS p e below T260 m 198 #[iv x1, iv x2, iv x3, lv x4, .second, lv x5, .second, lv x6, .second, iv (7 : Int32), iv x3, iv r1, iv r2, iv r3, iv r4, iv r5, iv r6, rv b7, .unset] [(.int x2), (.int r1), (.int (if v186 = (0 : Int32) then (0 : Int32) else (1 : Int32)))] _
            refine XS.icmpYes X260.here hx rfl (pc0 := 198) (pc' := 205) rfl (hb hby at_198) rfl (tlt hc198).2.2.1 (by decide) (by decide) ?_
            refine XS.iconst X260.here hx rfl (hb hby at_205) ?_
            exact kt
          exact ⟨(0 : Int32), T260, _, (by rw [if_pos hc198]), N260, X260, eh260, fun tz kt => (pre263 _ kt)⟩
        · have pre264 : ∀ tz, oS p e below T260 m 206 #[iv x1, iv x2, iv x3, lv x4, .second, lv x5, .second, lv x6, .second, iv (7 : Int32), iv x3, iv r1, iv r2, iv r3, iv r4, iv r5, iv r6, rv b7, .unset] [(.int (1 : Int32)), (.int (if v186 = (0 : Int32) then (0 : Int32) else (1 : Int32)))] tz → oS p e below T260 m 198 #[iv x1, iv x2, iv x3, lv x4, .second, lv x5, .second, lv x6, .second, iv (7 : Int32), iv x3, iv r1, iv r2, iv r3, iv r4, iv r5, iv r6, rv b7, .unset] [(.int x2), (.int r1), (.int (if v186 = (0 : Int32) then (0 : Int32) else (1 : Int32)))] tz := fun tz kt => by
            show oS p e below T260 m 198 #[iv x1, iv x2, iv x3, lv x4, .second, lv x5, .second, lv x6, .second, iv (7 : Int32), iv x3, iv r1, iv r2, iv r3, iv r4, iv r5, iv r6, rv b7, .unset] [(.int x2), (.int r1), (.int (if v186 = (0 : Int32) then (0 : Int32) else (1 : Int32)))] _
            refine XS.icmpNo X260.here hx rfl (hb hby at_198) rfl (flt hc198).2.2.1 ?_
            refine XS.iconst X260.here hx rfl (hb hby at_201) ?_
            refine XS.goto X260.here hx rfl (pc0 := 202) (pc' := 206) rfl (hb hby at_202) (by decide) (by decide) ?_
            exact kt
          exact ⟨(1 : Int32), T260, _, (by rw [if_neg hc198]), N260, X260, eh260, fun tz kt => (pre264 _ kt)⟩)
    have hv206 : v206 = (if x2 < r1 then (0 : Int32) else (1 : Int32)) := jv265
    obtain ⟨_, _, ⟨T266, Lw266, kw266, nw266⟩, -, X266, ⟨Lc266, hQ266, l266, y266, z266⟩, st266⟩ := Jvm.LawKit.callS X265 hx (y := (⟨oz1, "one", "(Z)I"⟩ : MethodName)) hown (mvT hZ (own_w hw 22 rfl)) (mvT hZ (own_w hw 23 rfl)) (mvT hZ (own_w hw 2 rfl)) (mvT hZ (own_w hw 24 rfl)) (by decide) (backOf (W := 1) (rm5 l Z a0 hw [] v206 T253.heap n0 Zc261 ) hZ (own_w hw 24 rfl) (own_w hw 2 rfl) (by decide) (by decide)) (g := (mkF m 206 #[iv x1, iv x2, iv x3, lv x4, .second, lv x5, .second, lv x6, .second, iv (7 : Int32), iv x3, iv r1, iv r2, iv r3, iv r4, iv r5, iv r6, rv b7, .unset] [(.int v206), (.int (if v186 = (0 : Int32) then (0 : Int32) else (1 : Int32)))])) rfl (by rw [hml]; rfl) (argsL := [(.int v206)]) (rest := [(.int (if v186 = (0 : Int32) then (0 : Int32) else (1 : Int32)))]) (lenOf own_pd5 rfl) rfl (by show 2 * 0 + _ ≤ _; exact Nat.le_of_eq rfl) (hb hby at_206) (fun _ _ => ⟨rfl, e265, (by decide : 3 + 0 ≤ _), (by decide : 14 + 0 ≤ _)⟩)
    dsimp only [Pt.U, Pt.locs, Pt.cells, Pt.slots] at X266 l266 y266 z266 st266 hQ266
    subst l266 y266 z266
    obtain ⟨rfl, Nq266, eh266⟩ := hQ266
    have N266 := Fr.app N265 Nq266
    have pre267 : ∀ tz, oS p e below T266 m 219 #[iv x1, iv x2, iv x3, lv x4, .second, lv x5, .second, lv x6, .second, iv (7 : Int32), iv x3, iv r1, iv r2, iv r3, iv r4, iv r5, iv r6, rv b7, .unset] [(.int x2), (.int r2), (.int ((if v186 = (0 : Int32) then (0 : Int32) else (1 : Int32)) + (if v206 = (0 : Int32) then (0 : Int32) else (1 : Int32))))] tz → oS p e below T260 m 198 #[iv x1, iv x2, iv x3, lv x4, .second, lv x5, .second, lv x6, .second, iv (7 : Int32), iv x3, iv r1, iv r2, iv r3, iv r4, iv r5, iv r6, rv b7, .unset] [(.int x2), (.int r1), (.int (if v186 = (0 : Int32) then (0 : Int32) else (1 : Int32)))] tz := fun tz kt => by
      show oS p e below T260 m 198 #[iv x1, iv x2, iv x3, lv x4, .second, lv x5, .second, lv x6, .second, iv (7 : Int32), iv x3, iv r1, iv r2, iv r3, iv r4, iv r5, iv r6, rv b7, .unset] [(.int x2), (.int r1), (.int (if v186 = (0 : Int32) then (0 : Int32) else (1 : Int32)))] _
      refine st265 _ ?_
      show oS p e below T265 m 206 #[iv x1, iv x2, iv x3, lv x4, .second, lv x5, .second, lv x6, .second, iv (7 : Int32), iv x3, iv r1, iv r2, iv r3, iv r4, iv r5, iv r6, rv b7, .unset] [(.int v206), (.int (if v186 = (0 : Int32) then (0 : Int32) else (1 : Int32)))] _
      refine st266 _ ?_
      refine XS.iadd X266.here hx rfl (hb hby at_209) rfl ?_
      refine XS.iload X266.here hx rfl (hb hby at_210) rfl ?_
      refine XS.iconst X266.here hx rfl (hb hby at_212) ?_
      show oS p e below T266 m 213 #[iv x1, iv x2, iv x3, lv x4, .second, lv x5, .second, lv x6, .second, iv (7 : Int32), iv x3, iv r1, iv r2, iv r3, iv r4, iv r5, iv r6, rv b7, .unset] [(.int (2 : Int32)), (.int (7 : Int32)), (.int ((if v186 = (0 : Int32) then (0 : Int32) else (1 : Int32)) + (if v206 = (0 : Int32) then (0 : Int32) else (1 : Int32))))] _
      refine XS.icmpNo X266.here hx rfl (hb hby at_213) rfl (tlt (by decide : ((2 : Int32) < (7 : Int32)))).2.2.2 ?_
      refine XS.iload X266.here hx rfl (hb hby at_216) rfl ?_
      refine XS.iloadN X266.here hx rfl (hb hby at_218) rfl ?_
      exact kt
    obtain ⟨v227, T270, Lj270, jv270, N270, X270, e270, st270⟩ := own_join (α := Int32) X266 N266 eh266 (mkF m 219 #[iv x1, iv x2, iv x3, lv x4, .second, lv x5, .second, lv x6, .second, iv (7 : Int32), iv x3, iv r1, iv r2, iv r3, iv r4, iv r5, iv r6, rv b7, .unset] [(.int x2), (.int r2), (.int ((if v186 = (0 : Int32) then (0 : Int32) else (1 : Int32)) + (if v206 = (0 : Int32) then (0 : Int32) else (1 : Int32))))]) (fun v => (mkF m 227 #[iv x1, iv x2, iv x3, lv x4, .second, lv x5, .second, lv x6, .second, iv (7 : Int32), iv x3, iv r1, iv r2, iv r3, iv r4, iv r5, iv r6, rv b7, .unset] [(.int v), (.int ((if v186 = (0 : Int32) then (0 : Int32) else (1 : Int32)) + (if v206 = (0 : Int32) then (0 : Int32) else (1 : Int32))))])) (fun v => v = (if x2 < r2 then (0 : Int32) else (1 : Int32))) (by
        by_cases hc219 : x2 < r2
        · have pre268 : ∀ tz, oS p e below T266 m 227 #[iv x1, iv x2, iv x3, lv x4, .second, lv x5, .second, lv x6, .second, iv (7 : Int32), iv x3, iv r1, iv r2, iv r3, iv r4, iv r5, iv r6, rv b7, .unset] [(.int (0 : Int32)), (.int ((if v186 = (0 : Int32) then (0 : Int32) else (1 : Int32)) + (if v206 = (0 : Int32) then (0 : Int32) else (1 : Int32))))] tz → oS p e below T266 m 219 #[iv x1, iv x2, iv x3, lv x4, .second, lv x5, .second, lv x6, .second, iv (7 : Int32), iv x3, iv r1, iv r2, iv r3, iv r4, iv r5, iv r6, rv b7, .unset] [(.int x2), (.int r2), (.int ((if v186 = (0 : Int32) then (0 : Int32) else (1 : Int32)) + (if v206 = (0 : Int32) then (0 : Int32) else (1 : Int32))))] tz := fun tz kt => by
            show oS p e below T266 m 219 #[iv x1, iv x2, iv x3, lv x4, .second, lv x5, .second, lv x6, .second, iv (7 : Int32), iv x3, iv r1, iv r2, iv r3, iv r4, iv r5, iv r6, rv b7, .unset] [(.int x2), (.int r2), (.int ((if v186 = (0 : Int32) then (0 : Int32) else (1 : Int32)) + (if v206 = (0 : Int32) then (0 : Int32) else (1 : Int32))))] _
            refine XS.icmpYes X266.here hx rfl (pc0 := 219) (pc' := 226) rfl (hb hby at_219) rfl (tlt hc219).2.2.1 (by decide) (by decide) ?_
            refine XS.iconst X266.here hx rfl (hb hby at_226) ?_
            exact kt
          exact ⟨(0 : Int32), T266, _, (by rw [if_pos hc219]), N266, X266, eh266, fun tz kt => (pre268 _ kt)⟩
        · have pre269 : ∀ tz, oS p e below T266 m 227 #[iv x1, iv x2, iv x3, lv x4, .second, lv x5, .second, lv x6, .second, iv (7 : Int32), iv x3, iv r1, iv r2, iv r3, iv r4, iv r5, iv r6, rv b7, .unset] [(.int (1 : Int32)), (.int ((if v186 = (0 : Int32) then (0 : Int32) else (1 : Int32)) + (if v206 = (0 : Int32) then (0 : Int32) else (1 : Int32))))] tz → oS p e below T266 m 219 #[iv x1, iv x2, iv x3, lv x4, .second, lv x5, .second, lv x6, .second, iv (7 : Int32), iv x3, iv r1, iv r2, iv r3, iv r4, iv r5, iv r6, rv b7, .unset] [(.int x2), (.int r2), (.int ((if v186 = (0 : Int32) then (0 : Int32) else (1 : Int32)) + (if v206 = (0 : Int32) then (0 : Int32) else (1 : Int32))))] tz := fun tz kt => by
            show oS p e below T266 m 219 #[iv x1, iv x2, iv x3, lv x4, .second, lv x5, .second, lv x6, .second, iv (7 : Int32), iv x3, iv r1, iv r2, iv r3, iv r4, iv r5, iv r6, rv b7, .unset] [(.int x2), (.int r2), (.int ((if v186 = (0 : Int32) then (0 : Int32) else (1 : Int32)) + (if v206 = (0 : Int32) then (0 : Int32) else (1 : Int32))))] _
            refine XS.icmpNo X266.here hx rfl (hb hby at_219) rfl (flt hc219).2.2.1 ?_
            refine XS.iconst X266.here hx rfl (hb hby at_222) ?_
            refine XS.goto X266.here hx rfl (pc0 := 223) (pc' := 227) rfl (hb hby at_223) (by decide) (by decide) ?_
            exact kt
          exact ⟨(1 : Int32), T266, _, (by rw [if_neg hc219]), N266, X266, eh266, fun tz kt => (pre269 _ kt)⟩)
    have hv227 : v227 = (if x2 < r2 then (0 : Int32) else (1 : Int32)) := jv270
    obtain ⟨_, _, ⟨T271, Lw271, kw271, nw271⟩, -, X271, ⟨Lc271, hQ271, l271, y271, z271⟩, st271⟩ := Jvm.LawKit.callS X270 hx (y := (⟨oz1, "one", "(Z)I"⟩ : MethodName)) hown (mvT hZ (own_w hw 22 rfl)) (mvT hZ (own_w hw 23 rfl)) (mvT hZ (own_w hw 2 rfl)) (mvT hZ (own_w hw 24 rfl)) (by decide) (backOf (W := 1) (rm5 l Z a0 hw [] v227 T253.heap n0 Zc261 ) hZ (own_w hw 24 rfl) (own_w hw 2 rfl) (by decide) (by decide)) (g := (mkF m 227 #[iv x1, iv x2, iv x3, lv x4, .second, lv x5, .second, lv x6, .second, iv (7 : Int32), iv x3, iv r1, iv r2, iv r3, iv r4, iv r5, iv r6, rv b7, .unset] [(.int v227), (.int ((if v186 = (0 : Int32) then (0 : Int32) else (1 : Int32)) + (if v206 = (0 : Int32) then (0 : Int32) else (1 : Int32))))])) rfl (by rw [hml]; rfl) (argsL := [(.int v227)]) (rest := [(.int ((if v186 = (0 : Int32) then (0 : Int32) else (1 : Int32)) + (if v206 = (0 : Int32) then (0 : Int32) else (1 : Int32))))]) (lenOf own_pd5 rfl) rfl (by show 2 * 0 + _ ≤ _; exact Nat.le_of_eq rfl) (hb hby at_227) (fun _ _ => ⟨rfl, e270, (by decide : 3 + 0 ≤ _), (by decide : 14 + 0 ≤ _)⟩)
    dsimp only [Pt.U, Pt.locs, Pt.cells, Pt.slots] at X271 l271 y271 z271 st271 hQ271
    subst l271 y271 z271
    obtain ⟨rfl, Nq271, eh271⟩ := hQ271
    have N271 := Fr.app N270 Nq271
    have pre272 : ∀ tz, oS p e below T271 m 240 #[iv x1, iv x2, iv x3, lv x4, .second, lv x5, .second, lv x6, .second, iv (7 : Int32), iv x3, iv r1, iv r2, iv r3, iv r4, iv r5, iv r6, rv b7, .unset] [(.int x2), (.int r3), (.int (((if v186 = (0 : Int32) then (0 : Int32) else (1 : Int32)) + (if v206 = (0 : Int32) then (0 : Int32) else (1 : Int32))) + (if v227 = (0 : Int32) then (0 : Int32) else (1 : Int32))))] tz → oS p e below T266 m 219 #[iv x1, iv x2, iv x3, lv x4, .second, lv x5, .second, lv x6, .second, iv (7 : Int32), iv x3, iv r1, iv r2, iv r3, iv r4, iv r5, iv r6, rv b7, .unset] [(.int x2), (.int r2), (.int ((if v186 = (0 : Int32) then (0 : Int32) else (1 : Int32)) + (if v206 = (0 : Int32) then (0 : Int32) else (1 : Int32))))] tz := fun tz kt => by
      show oS p e below T266 m 219 #[iv x1, iv x2, iv x3, lv x4, .second, lv x5, .second, lv x6, .second, iv (7 : Int32), iv x3, iv r1, iv r2, iv r3, iv r4, iv r5, iv r6, rv b7, .unset] [(.int x2), (.int r2), (.int ((if v186 = (0 : Int32) then (0 : Int32) else (1 : Int32)) + (if v206 = (0 : Int32) then (0 : Int32) else (1 : Int32))))] _
      refine st270 _ ?_
      show oS p e below T270 m 227 #[iv x1, iv x2, iv x3, lv x4, .second, lv x5, .second, lv x6, .second, iv (7 : Int32), iv x3, iv r1, iv r2, iv r3, iv r4, iv r5, iv r6, rv b7, .unset] [(.int v227), (.int ((if v186 = (0 : Int32) then (0 : Int32) else (1 : Int32)) + (if v206 = (0 : Int32) then (0 : Int32) else (1 : Int32))))] _
      refine st271 _ ?_
      refine XS.iadd X271.here hx rfl (hb hby at_230) rfl ?_
      refine XS.iload X271.here hx rfl (hb hby at_231) rfl ?_
      refine XS.iconst X271.here hx rfl (hb hby at_233) ?_
      show oS p e below T271 m 234 #[iv x1, iv x2, iv x3, lv x4, .second, lv x5, .second, lv x6, .second, iv (7 : Int32), iv x3, iv r1, iv r2, iv r3, iv r4, iv r5, iv r6, rv b7, .unset] [(.int (3 : Int32)), (.int (7 : Int32)), (.int (((if v186 = (0 : Int32) then (0 : Int32) else (1 : Int32)) + (if v206 = (0 : Int32) then (0 : Int32) else (1 : Int32))) + (if v227 = (0 : Int32) then (0 : Int32) else (1 : Int32))))] _
      refine XS.icmpNo X271.here hx rfl (hb hby at_234) rfl (tlt (by decide : ((3 : Int32) < (7 : Int32)))).2.2.2 ?_
      refine XS.iload X271.here hx rfl (hb hby at_237) rfl ?_
      refine XS.iloadN X271.here hx rfl (hb hby at_239) rfl ?_
      exact kt
    obtain ⟨v248, T275, Lj275, jv275, N275, X275, e275, st275⟩ := own_join (α := Int32) X271 N271 eh271 (mkF m 240 #[iv x1, iv x2, iv x3, lv x4, .second, lv x5, .second, lv x6, .second, iv (7 : Int32), iv x3, iv r1, iv r2, iv r3, iv r4, iv r5, iv r6, rv b7, .unset] [(.int x2), (.int r3), (.int (((if v186 = (0 : Int32) then (0 : Int32) else (1 : Int32)) + (if v206 = (0 : Int32) then (0 : Int32) else (1 : Int32))) + (if v227 = (0 : Int32) then (0 : Int32) else (1 : Int32))))]) (fun v => (mkF m 248 #[iv x1, iv x2, iv x3, lv x4, .second, lv x5, .second, lv x6, .second, iv (7 : Int32), iv x3, iv r1, iv r2, iv r3, iv r4, iv r5, iv r6, rv b7, .unset] [(.int v), (.int (((if v186 = (0 : Int32) then (0 : Int32) else (1 : Int32)) + (if v206 = (0 : Int32) then (0 : Int32) else (1 : Int32))) + (if v227 = (0 : Int32) then (0 : Int32) else (1 : Int32))))])) (fun v => v = (if x2 < r3 then (0 : Int32) else (1 : Int32))) (by
        by_cases hc240 : x2 < r3
        · have pre273 : ∀ tz, oS p e below T271 m 248 #[iv x1, iv x2, iv x3, lv x4, .second, lv x5, .second, lv x6, .second, iv (7 : Int32), iv x3, iv r1, iv r2, iv r3, iv r4, iv r5, iv r6, rv b7, .unset] [(.int (0 : Int32)), (.int (((if v186 = (0 : Int32) then (0 : Int32) else (1 : Int32)) + (if v206 = (0 : Int32) then (0 : Int32) else (1 : Int32))) + (if v227 = (0 : Int32) then (0 : Int32) else (1 : Int32))))] tz → oS p e below T271 m 240 #[iv x1, iv x2, iv x3, lv x4, .second, lv x5, .second, lv x6, .second, iv (7 : Int32), iv x3, iv r1, iv r2, iv r3, iv r4, iv r5, iv r6, rv b7, .unset] [(.int x2), (.int r3), (.int (((if v186 = (0 : Int32) then (0 : Int32) else (1 : Int32)) + (if v206 = (0 : Int32) then (0 : Int32) else (1 : Int32))) + (if v227 = (0 : Int32) then (0 : Int32) else (1 : Int32))))] tz := fun tz kt => by
            show oS p e below T271 m 240 #[iv x1, iv x2, iv x3, lv x4, .second, lv x5, .second, lv x6, .second, iv (7 : Int32), iv x3, iv r1, iv r2, iv r3, iv r4, iv r5, iv r6, rv b7, .unset] [(.int x2), (.int r3), (.int (((if v186 = (0 : Int32) then (0 : Int32) else (1 : Int32)) + (if v206 = (0 : Int32) then (0 : Int32) else (1 : Int32))) + (if v227 = (0 : Int32) then (0 : Int32) else (1 : Int32))))] _
            refine XS.icmpYes X271.here hx rfl (pc0 := 240) (pc' := 247) rfl (hb hby at_240) rfl (tlt hc240).2.2.1 (by decide) (by decide) ?_
            refine XS.iconst X271.here hx rfl (hb hby at_247) ?_
            exact kt
          exact ⟨(0 : Int32), T271, _, (by rw [if_pos hc240]), N271, X271, eh271, fun tz kt => (pre273 _ kt)⟩
        · have pre274 : ∀ tz, oS p e below T271 m 248 #[iv x1, iv x2, iv x3, lv x4, .second, lv x5, .second, lv x6, .second, iv (7 : Int32), iv x3, iv r1, iv r2, iv r3, iv r4, iv r5, iv r6, rv b7, .unset] [(.int (1 : Int32)), (.int (((if v186 = (0 : Int32) then (0 : Int32) else (1 : Int32)) + (if v206 = (0 : Int32) then (0 : Int32) else (1 : Int32))) + (if v227 = (0 : Int32) then (0 : Int32) else (1 : Int32))))] tz → oS p e below T271 m 240 #[iv x1, iv x2, iv x3, lv x4, .second, lv x5, .second, lv x6, .second, iv (7 : Int32), iv x3, iv r1, iv r2, iv r3, iv r4, iv r5, iv r6, rv b7, .unset] [(.int x2), (.int r3), (.int (((if v186 = (0 : Int32) then (0 : Int32) else (1 : Int32)) + (if v206 = (0 : Int32) then (0 : Int32) else (1 : Int32))) + (if v227 = (0 : Int32) then (0 : Int32) else (1 : Int32))))] tz := fun tz kt => by
            show oS p e below T271 m 240 #[iv x1, iv x2, iv x3, lv x4, .second, lv x5, .second, lv x6, .second, iv (7 : Int32), iv x3, iv r1, iv r2, iv r3, iv r4, iv r5, iv r6, rv b7, .unset] [(.int x2), (.int r3), (.int (((if v186 = (0 : Int32) then (0 : Int32) else (1 : Int32)) + (if v206 = (0 : Int32) then (0 : Int32) else (1 : Int32))) + (if v227 = (0 : Int32) then (0 : Int32) else (1 : Int32))))] _
            refine XS.icmpNo X271.here hx rfl (hb hby at_240) rfl (flt hc240).2.2.1 ?_
            refine XS.iconst X271.here hx rfl (hb hby at_243) ?_
            refine XS.goto X271.here hx rfl (pc0 := 244) (pc' := 248) rfl (hb hby at_244) (by decide) (by decide) ?_
            exact kt
          exact ⟨(1 : Int32), T271, _, (by rw [if_neg hc240]), N271, X271, eh271, fun tz kt => (pre274 _ kt)⟩)
    have hv248 : v248 = (if x2 < r3 then (0 : Int32) else (1 : Int32)) := jv275
    obtain ⟨_, _, ⟨T276, Lw276, kw276, nw276⟩, -, X276, ⟨Lc276, hQ276, l276, y276, z276⟩, st276⟩ := Jvm.LawKit.callS X275 hx (y := (⟨oz1, "one", "(Z)I"⟩ : MethodName)) hown (mvT hZ (own_w hw 22 rfl)) (mvT hZ (own_w hw 23 rfl)) (mvT hZ (own_w hw 2 rfl)) (mvT hZ (own_w hw 24 rfl)) (by decide) (backOf (W := 1) (rm5 l Z a0 hw [] v248 T253.heap n0 Zc261 ) hZ (own_w hw 24 rfl) (own_w hw 2 rfl) (by decide) (by decide)) (g := (mkF m 248 #[iv x1, iv x2, iv x3, lv x4, .second, lv x5, .second, lv x6, .second, iv (7 : Int32), iv x3, iv r1, iv r2, iv r3, iv r4, iv r5, iv r6, rv b7, .unset] [(.int v248), (.int (((if v186 = (0 : Int32) then (0 : Int32) else (1 : Int32)) + (if v206 = (0 : Int32) then (0 : Int32) else (1 : Int32))) + (if v227 = (0 : Int32) then (0 : Int32) else (1 : Int32))))])) rfl (by rw [hml]; rfl) (argsL := [(.int v248)]) (rest := [(.int (((if v186 = (0 : Int32) then (0 : Int32) else (1 : Int32)) + (if v206 = (0 : Int32) then (0 : Int32) else (1 : Int32))) + (if v227 = (0 : Int32) then (0 : Int32) else (1 : Int32))))]) (lenOf own_pd5 rfl) rfl (by show 2 * 0 + _ ≤ _; exact Nat.le_of_eq rfl) (hb hby at_248) (fun _ _ => ⟨rfl, e275, (by decide : 3 + 0 ≤ _), (by decide : 14 + 0 ≤ _)⟩)
    dsimp only [Pt.U, Pt.locs, Pt.cells, Pt.slots] at X276 l276 y276 z276 st276 hQ276
    subst l276 y276 z276
    obtain ⟨rfl, Nq276, eh276⟩ := hQ276
    have N276 := Fr.app N275 Nq276
    have pre277 : ∀ tz, oS p e below T276 m 261 #[iv x1, iv x2, iv x3, lv x4, .second, lv x5, .second, lv x6, .second, iv (7 : Int32), iv x3, iv r1, iv r2, iv r3, iv r4, iv r5, iv r6, rv b7, .unset] [(.int x2), (.int r4), (.int ((((if v186 = (0 : Int32) then (0 : Int32) else (1 : Int32)) + (if v206 = (0 : Int32) then (0 : Int32) else (1 : Int32))) + (if v227 = (0 : Int32) then (0 : Int32) else (1 : Int32))) + (if v248 = (0 : Int32) then (0 : Int32) else (1 : Int32))))] tz → oS p e below T271 m 240 #[iv x1, iv x2, iv x3, lv x4, .second, lv x5, .second, lv x6, .second, iv (7 : Int32), iv x3, iv r1, iv r2, iv r3, iv r4, iv r5, iv r6, rv b7, .unset] [(.int x2), (.int r3), (.int (((if v186 = (0 : Int32) then (0 : Int32) else (1 : Int32)) + (if v206 = (0 : Int32) then (0 : Int32) else (1 : Int32))) + (if v227 = (0 : Int32) then (0 : Int32) else (1 : Int32))))] tz := fun tz kt => by
      show oS p e below T271 m 240 #[iv x1, iv x2, iv x3, lv x4, .second, lv x5, .second, lv x6, .second, iv (7 : Int32), iv x3, iv r1, iv r2, iv r3, iv r4, iv r5, iv r6, rv b7, .unset] [(.int x2), (.int r3), (.int (((if v186 = (0 : Int32) then (0 : Int32) else (1 : Int32)) + (if v206 = (0 : Int32) then (0 : Int32) else (1 : Int32))) + (if v227 = (0 : Int32) then (0 : Int32) else (1 : Int32))))] _
      refine st275 _ ?_
      show oS p e below T275 m 248 #[iv x1, iv x2, iv x3, lv x4, .second, lv x5, .second, lv x6, .second, iv (7 : Int32), iv x3, iv r1, iv r2, iv r3, iv r4, iv r5, iv r6, rv b7, .unset] [(.int v248), (.int (((if v186 = (0 : Int32) then (0 : Int32) else (1 : Int32)) + (if v206 = (0 : Int32) then (0 : Int32) else (1 : Int32))) + (if v227 = (0 : Int32) then (0 : Int32) else (1 : Int32))))] _
      refine st276 _ ?_
      refine XS.iadd X276.here hx rfl (hb hby at_251) rfl ?_
      refine XS.iload X276.here hx rfl (hb hby at_252) rfl ?_
      refine XS.iconst X276.here hx rfl (hb hby at_254) ?_
      show oS p e below T276 m 255 #[iv x1, iv x2, iv x3, lv x4, .second, lv x5, .second, lv x6, .second, iv (7 : Int32), iv x3, iv r1, iv r2, iv r3, iv r4, iv r5, iv r6, rv b7, .unset] [(.int (4 : Int32)), (.int (7 : Int32)), (.int ((((if v186 = (0 : Int32) then (0 : Int32) else (1 : Int32)) + (if v206 = (0 : Int32) then (0 : Int32) else (1 : Int32))) + (if v227 = (0 : Int32) then (0 : Int32) else (1 : Int32))) + (if v248 = (0 : Int32) then (0 : Int32) else (1 : Int32))))] _
      refine XS.icmpNo X276.here hx rfl (hb hby at_255) rfl (tlt (by decide : ((4 : Int32) < (7 : Int32)))).2.2.2 ?_
      refine XS.iload X276.here hx rfl (hb hby at_258) rfl ?_
      refine XS.iloadN X276.here hx rfl (hb hby at_260) rfl ?_
      exact kt
    obtain ⟨v269, T280, Lj280, jv280, N280, X280, e280, st280⟩ := own_join (α := Int32) X276 N276 eh276 (mkF m 261 #[iv x1, iv x2, iv x3, lv x4, .second, lv x5, .second, lv x6, .second, iv (7 : Int32), iv x3, iv r1, iv r2, iv r3, iv r4, iv r5, iv r6, rv b7, .unset] [(.int x2), (.int r4), (.int ((((if v186 = (0 : Int32) then (0 : Int32) else (1 : Int32)) + (if v206 = (0 : Int32) then (0 : Int32) else (1 : Int32))) + (if v227 = (0 : Int32) then (0 : Int32) else (1 : Int32))) + (if v248 = (0 : Int32) then (0 : Int32) else (1 : Int32))))]) (fun v => (mkF m 269 #[iv x1, iv x2, iv x3, lv x4, .second, lv x5, .second, lv x6, .second, iv (7 : Int32), iv x3, iv r1, iv r2, iv r3, iv r4, iv r5, iv r6, rv b7, .unset] [(.int v), (.int ((((if v186 = (0 : Int32) then (0 : Int32) else (1 : Int32)) + (if v206 = (0 : Int32) then (0 : Int32) else (1 : Int32))) + (if v227 = (0 : Int32) then (0 : Int32) else (1 : Int32))) + (if v248 = (0 : Int32) then (0 : Int32) else (1 : Int32))))])) (fun v => v = (if x2 < r4 then (0 : Int32) else (1 : Int32))) (by
        by_cases hc261 : x2 < r4
        · have pre278 : ∀ tz, oS p e below T276 m 269 #[iv x1, iv x2, iv x3, lv x4, .second, lv x5, .second, lv x6, .second, iv (7 : Int32), iv x3, iv r1, iv r2, iv r3, iv r4, iv r5, iv r6, rv b7, .unset] [(.int (0 : Int32)), (.int ((((if v186 = (0 : Int32) then (0 : Int32) else (1 : Int32)) + (if v206 = (0 : Int32) then (0 : Int32) else (1 : Int32))) + (if v227 = (0 : Int32) then (0 : Int32) else (1 : Int32))) + (if v248 = (0 : Int32) then (0 : Int32) else (1 : Int32))))] tz → oS p e below T276 m 261 #[iv x1, iv x2, iv x3, lv x4, .second, lv x5, .second, lv x6, .second, iv (7 : Int32), iv x3, iv r1, iv r2, iv r3, iv r4, iv r5, iv r6, rv b7, .unset] [(.int x2), (.int r4), (.int ((((if v186 = (0 : Int32) then (0 : Int32) else (1 : Int32)) + (if v206 = (0 : Int32) then (0 : Int32) else (1 : Int32))) + (if v227 = (0 : Int32) then (0 : Int32) else (1 : Int32))) + (if v248 = (0 : Int32) then (0 : Int32) else (1 : Int32))))] tz := fun tz kt => by
            show oS p e below T276 m 261 #[iv x1, iv x2, iv x3, lv x4, .second, lv x5, .second, lv x6, .second, iv (7 : Int32), iv x3, iv r1, iv r2, iv r3, iv r4, iv r5, iv r6, rv b7, .unset] [(.int x2), (.int r4), (.int ((((if v186 = (0 : Int32) then (0 : Int32) else (1 : Int32)) + (if v206 = (0 : Int32) then (0 : Int32) else (1 : Int32))) + (if v227 = (0 : Int32) then (0 : Int32) else (1 : Int32))) + (if v248 = (0 : Int32) then (0 : Int32) else (1 : Int32))))] _
            refine XS.icmpYes X276.here hx rfl (pc0 := 261) (pc' := 268) rfl (hb hby at_261) rfl (tlt hc261).2.2.1 (by decide) (by decide) ?_
            refine XS.iconst X276.here hx rfl (hb hby at_268) ?_
            exact kt
          exact ⟨(0 : Int32), T276, _, (by rw [if_pos hc261]), N276, X276, eh276, fun tz kt => (pre278 _ kt)⟩
        · have pre279 : ∀ tz, oS p e below T276 m 269 #[iv x1, iv x2, iv x3, lv x4, .second, lv x5, .second, lv x6, .second, iv (7 : Int32), iv x3, iv r1, iv r2, iv r3, iv r4, iv r5, iv r6, rv b7, .unset] [(.int (1 : Int32)), (.int ((((if v186 = (0 : Int32) then (0 : Int32) else (1 : Int32)) + (if v206 = (0 : Int32) then (0 : Int32) else (1 : Int32))) + (if v227 = (0 : Int32) then (0 : Int32) else (1 : Int32))) + (if v248 = (0 : Int32) then (0 : Int32) else (1 : Int32))))] tz → oS p e below T276 m 261 #[iv x1, iv x2, iv x3, lv x4, .second, lv x5, .second, lv x6, .second, iv (7 : Int32), iv x3, iv r1, iv r2, iv r3, iv r4, iv r5, iv r6, rv b7, .unset] [(.int x2), (.int r4), (.int ((((if v186 = (0 : Int32) then (0 : Int32) else (1 : Int32)) + (if v206 = (0 : Int32) then (0 : Int32) else (1 : Int32))) + (if v227 = (0 : Int32) then (0 : Int32) else (1 : Int32))) + (if v248 = (0 : Int32) then (0 : Int32) else (1 : Int32))))] tz := fun tz kt => by
            show oS p e below T276 m 261 #[iv x1, iv x2, iv x3, lv x4, .second, lv x5, .second, lv x6, .second, iv (7 : Int32), iv x3, iv r1, iv r2, iv r3, iv r4, iv r5, iv r6, rv b7, .unset] [(.int x2), (.int r4), (.int ((((if v186 = (0 : Int32) then (0 : Int32) else (1 : Int32)) + (if v206 = (0 : Int32) then (0 : Int32) else (1 : Int32))) + (if v227 = (0 : Int32) then (0 : Int32) else (1 : Int32))) + (if v248 = (0 : Int32) then (0 : Int32) else (1 : Int32))))] _
            refine XS.icmpNo X276.here hx rfl (hb hby at_261) rfl (flt hc261).2.2.1 ?_
            refine XS.iconst X276.here hx rfl (hb hby at_264) ?_
            refine XS.goto X276.here hx rfl (pc0 := 265) (pc' := 269) rfl (hb hby at_265) (by decide) (by decide) ?_
            exact kt
          exact ⟨(1 : Int32), T276, _, (by rw [if_neg hc261]), N276, X276, eh276, fun tz kt => (pre279 _ kt)⟩)
    have hv269 : v269 = (if x2 < r4 then (0 : Int32) else (1 : Int32)) := jv280
    obtain ⟨_, _, ⟨T281, Lw281, kw281, nw281⟩, -, X281, ⟨Lc281, hQ281, l281, y281, z281⟩, st281⟩ := Jvm.LawKit.callS X280 hx (y := (⟨oz1, "one", "(Z)I"⟩ : MethodName)) hown (mvT hZ (own_w hw 22 rfl)) (mvT hZ (own_w hw 23 rfl)) (mvT hZ (own_w hw 2 rfl)) (mvT hZ (own_w hw 24 rfl)) (by decide) (backOf (W := 1) (rm5 l Z a0 hw [] v269 T253.heap n0 Zc261 ) hZ (own_w hw 24 rfl) (own_w hw 2 rfl) (by decide) (by decide)) (g := (mkF m 269 #[iv x1, iv x2, iv x3, lv x4, .second, lv x5, .second, lv x6, .second, iv (7 : Int32), iv x3, iv r1, iv r2, iv r3, iv r4, iv r5, iv r6, rv b7, .unset] [(.int v269), (.int ((((if v186 = (0 : Int32) then (0 : Int32) else (1 : Int32)) + (if v206 = (0 : Int32) then (0 : Int32) else (1 : Int32))) + (if v227 = (0 : Int32) then (0 : Int32) else (1 : Int32))) + (if v248 = (0 : Int32) then (0 : Int32) else (1 : Int32))))])) rfl (by rw [hml]; rfl) (argsL := [(.int v269)]) (rest := [(.int ((((if v186 = (0 : Int32) then (0 : Int32) else (1 : Int32)) + (if v206 = (0 : Int32) then (0 : Int32) else (1 : Int32))) + (if v227 = (0 : Int32) then (0 : Int32) else (1 : Int32))) + (if v248 = (0 : Int32) then (0 : Int32) else (1 : Int32))))]) (lenOf own_pd5 rfl) rfl (by show 2 * 0 + _ ≤ _; exact Nat.le_of_eq rfl) (hb hby at_269) (fun _ _ => ⟨rfl, e280, (by decide : 3 + 0 ≤ _), (by decide : 14 + 0 ≤ _)⟩)
    dsimp only [Pt.U, Pt.locs, Pt.cells, Pt.slots] at X281 l281 y281 z281 st281 hQ281
    subst l281 y281 z281
    obtain ⟨rfl, Nq281, eh281⟩ := hQ281
    have N281 := Fr.app N280 Nq281
    have pre282 : ∀ tz, oS p e below T281 m 282 #[iv x1, iv x2, iv x3, lv x4, .second, lv x5, .second, lv x6, .second, iv (7 : Int32), iv x3, iv r1, iv r2, iv r3, iv r4, iv r5, iv r6, rv b7, .unset] [(.int x2), (.int r5), (.int (((((if v186 = (0 : Int32) then (0 : Int32) else (1 : Int32)) + (if v206 = (0 : Int32) then (0 : Int32) else (1 : Int32))) + (if v227 = (0 : Int32) then (0 : Int32) else (1 : Int32))) + (if v248 = (0 : Int32) then (0 : Int32) else (1 : Int32))) + (if v269 = (0 : Int32) then (0 : Int32) else (1 : Int32))))] tz → oS p e below T276 m 261 #[iv x1, iv x2, iv x3, lv x4, .second, lv x5, .second, lv x6, .second, iv (7 : Int32), iv x3, iv r1, iv r2, iv r3, iv r4, iv r5, iv r6, rv b7, .unset] [(.int x2), (.int r4), (.int ((((if v186 = (0 : Int32) then (0 : Int32) else (1 : Int32)) + (if v206 = (0 : Int32) then (0 : Int32) else (1 : Int32))) + (if v227 = (0 : Int32) then (0 : Int32) else (1 : Int32))) + (if v248 = (0 : Int32) then (0 : Int32) else (1 : Int32))))] tz := fun tz kt => by
      show oS p e below T276 m 261 #[iv x1, iv x2, iv x3, lv x4, .second, lv x5, .second, lv x6, .second, iv (7 : Int32), iv x3, iv r1, iv r2, iv r3, iv r4, iv r5, iv r6, rv b7, .unset] [(.int x2), (.int r4), (.int ((((if v186 = (0 : Int32) then (0 : Int32) else (1 : Int32)) + (if v206 = (0 : Int32) then (0 : Int32) else (1 : Int32))) + (if v227 = (0 : Int32) then (0 : Int32) else (1 : Int32))) + (if v248 = (0 : Int32) then (0 : Int32) else (1 : Int32))))] _
      refine st280 _ ?_
      show oS p e below T280 m 269 #[iv x1, iv x2, iv x3, lv x4, .second, lv x5, .second, lv x6, .second, iv (7 : Int32), iv x3, iv r1, iv r2, iv r3, iv r4, iv r5, iv r6, rv b7, .unset] [(.int v269), (.int ((((if v186 = (0 : Int32) then (0 : Int32) else (1 : Int32)) + (if v206 = (0 : Int32) then (0 : Int32) else (1 : Int32))) + (if v227 = (0 : Int32) then (0 : Int32) else (1 : Int32))) + (if v248 = (0 : Int32) then (0 : Int32) else (1 : Int32))))] _
      refine st281 _ ?_
      refine XS.iadd X281.here hx rfl (hb hby at_272) rfl ?_
      refine XS.iload X281.here hx rfl (hb hby at_273) rfl ?_
      refine XS.iconst X281.here hx rfl (hb hby at_275) ?_
      show oS p e below T281 m 276 #[iv x1, iv x2, iv x3, lv x4, .second, lv x5, .second, lv x6, .second, iv (7 : Int32), iv x3, iv r1, iv r2, iv r3, iv r4, iv r5, iv r6, rv b7, .unset] [(.int (5 : Int32)), (.int (7 : Int32)), (.int (((((if v186 = (0 : Int32) then (0 : Int32) else (1 : Int32)) + (if v206 = (0 : Int32) then (0 : Int32) else (1 : Int32))) + (if v227 = (0 : Int32) then (0 : Int32) else (1 : Int32))) + (if v248 = (0 : Int32) then (0 : Int32) else (1 : Int32))) + (if v269 = (0 : Int32) then (0 : Int32) else (1 : Int32))))] _
      refine XS.icmpNo X281.here hx rfl (hb hby at_276) rfl (tlt (by decide : ((5 : Int32) < (7 : Int32)))).2.2.2 ?_
      refine XS.iload X281.here hx rfl (hb hby at_279) rfl ?_
      refine XS.iloadN X281.here hx rfl (hb hby at_281) rfl ?_
      exact kt
    obtain ⟨v290, T285, Lj285, jv285, N285, X285, e285, st285⟩ := own_join (α := Int32) X281 N281 eh281 (mkF m 282 #[iv x1, iv x2, iv x3, lv x4, .second, lv x5, .second, lv x6, .second, iv (7 : Int32), iv x3, iv r1, iv r2, iv r3, iv r4, iv r5, iv r6, rv b7, .unset] [(.int x2), (.int r5), (.int (((((if v186 = (0 : Int32) then (0 : Int32) else (1 : Int32)) + (if v206 = (0 : Int32) then (0 : Int32) else (1 : Int32))) + (if v227 = (0 : Int32) then (0 : Int32) else (1 : Int32))) + (if v248 = (0 : Int32) then (0 : Int32) else (1 : Int32))) + (if v269 = (0 : Int32) then (0 : Int32) else (1 : Int32))))]) (fun v => (mkF m 290 #[iv x1, iv x2, iv x3, lv x4, .second, lv x5, .second, lv x6, .second, iv (7 : Int32), iv x3, iv r1, iv r2, iv r3, iv r4, iv r5, iv r6, rv b7, .unset] [(.int v), (.int (((((if v186 = (0 : Int32) then (0 : Int32) else (1 : Int32)) + (if v206 = (0 : Int32) then (0 : Int32) else (1 : Int32))) + (if v227 = (0 : Int32) then (0 : Int32) else (1 : Int32))) + (if v248 = (0 : Int32) then (0 : Int32) else (1 : Int32))) + (if v269 = (0 : Int32) then (0 : Int32) else (1 : Int32))))])) (fun v => v = (if x2 < r5 then (0 : Int32) else (1 : Int32))) (by
        by_cases hc282 : x2 < r5
        · have pre283 : ∀ tz, oS p e below T281 m 290 #[iv x1, iv x2, iv x3, lv x4, .second, lv x5, .second, lv x6, .second, iv (7 : Int32), iv x3, iv r1, iv r2, iv r3, iv r4, iv r5, iv r6, rv b7, .unset] [(.int (0 : Int32)), (.int (((((if v186 = (0 : Int32) then (0 : Int32) else (1 : Int32)) + (if v206 = (0 : Int32) then (0 : Int32) else (1 : Int32))) + (if v227 = (0 : Int32) then (0 : Int32) else (1 : Int32))) + (if v248 = (0 : Int32) then (0 : Int32) else (1 : Int32))) + (if v269 = (0 : Int32) then (0 : Int32) else (1 : Int32))))] tz → oS p e below T281 m 282 #[iv x1, iv x2, iv x3, lv x4, .second, lv x5, .second, lv x6, .second, iv (7 : Int32), iv x3, iv r1, iv r2, iv r3, iv r4, iv r5, iv r6, rv b7, .unset] [(.int x2), (.int r5), (.int (((((if v186 = (0 : Int32) then (0 : Int32) else (1 : Int32)) + (if v206 = (0 : Int32) then (0 : Int32) else (1 : Int32))) + (if v227 = (0 : Int32) then (0 : Int32) else (1 : Int32))) + (if v248 = (0 : Int32) then (0 : Int32) else (1 : Int32))) + (if v269 = (0 : Int32) then (0 : Int32) else (1 : Int32))))] tz := fun tz kt => by
            show oS p e below T281 m 282 #[iv x1, iv x2, iv x3, lv x4, .second, lv x5, .second, lv x6, .second, iv (7 : Int32), iv x3, iv r1, iv r2, iv r3, iv r4, iv r5, iv r6, rv b7, .unset] [(.int x2), (.int r5), (.int (((((if v186 = (0 : Int32) then (0 : Int32) else (1 : Int32)) + (if v206 = (0 : Int32) then (0 : Int32) else (1 : Int32))) + (if v227 = (0 : Int32) then (0 : Int32) else (1 : Int32))) + (if v248 = (0 : Int32) then (0 : Int32) else (1 : Int32))) + (if v269 = (0 : Int32) then (0 : Int32) else (1 : Int32))))] _
            refine XS.icmpYes X281.here hx rfl (pc0 := 282) (pc' := 289) rfl (hb hby at_282) rfl (tlt hc282).2.2.1 (by decide) (by decide) ?_
            refine XS.iconst X281.here hx rfl (hb hby at_289) ?_
            exact kt
          exact ⟨(0 : Int32), T281, _, (by rw [if_pos hc282]), N281, X281, eh281, fun tz kt => (pre283 _ kt)⟩
        · have pre284 : ∀ tz, oS p e below T281 m 290 #[iv x1, iv x2, iv x3, lv x4, .second, lv x5, .second, lv x6, .second, iv (7 : Int32), iv x3, iv r1, iv r2, iv r3, iv r4, iv r5, iv r6, rv b7, .unset] [(.int (1 : Int32)), (.int (((((if v186 = (0 : Int32) then (0 : Int32) else (1 : Int32)) + (if v206 = (0 : Int32) then (0 : Int32) else (1 : Int32))) + (if v227 = (0 : Int32) then (0 : Int32) else (1 : Int32))) + (if v248 = (0 : Int32) then (0 : Int32) else (1 : Int32))) + (if v269 = (0 : Int32) then (0 : Int32) else (1 : Int32))))] tz → oS p e below T281 m 282 #[iv x1, iv x2, iv x3, lv x4, .second, lv x5, .second, lv x6, .second, iv (7 : Int32), iv x3, iv r1, iv r2, iv r3, iv r4, iv r5, iv r6, rv b7, .unset] [(.int x2), (.int r5), (.int (((((if v186 = (0 : Int32) then (0 : Int32) else (1 : Int32)) + (if v206 = (0 : Int32) then (0 : Int32) else (1 : Int32))) + (if v227 = (0 : Int32) then (0 : Int32) else (1 : Int32))) + (if v248 = (0 : Int32) then (0 : Int32) else (1 : Int32))) + (if v269 = (0 : Int32) then (0 : Int32) else (1 : Int32))))] tz := fun tz kt => by
            show oS p e below T281 m 282 #[iv x1, iv x2, iv x3, lv x4, .second, lv x5, .second, lv x6, .second, iv (7 : Int32), iv x3, iv r1, iv r2, iv r3, iv r4, iv r5, iv r6, rv b7, .unset] [(.int x2), (.int r5), (.int (((((if v186 = (0 : Int32) then (0 : Int32) else (1 : Int32)) + (if v206 = (0 : Int32) then (0 : Int32) else (1 : Int32))) + (if v227 = (0 : Int32) then (0 : Int32) else (1 : Int32))) + (if v248 = (0 : Int32) then (0 : Int32) else (1 : Int32))) + (if v269 = (0 : Int32) then (0 : Int32) else (1 : Int32))))] _
            refine XS.icmpNo X281.here hx rfl (hb hby at_282) rfl (flt hc282).2.2.1 ?_
            refine XS.iconst X281.here hx rfl (hb hby at_285) ?_
            refine XS.goto X281.here hx rfl (pc0 := 286) (pc' := 290) rfl (hb hby at_286) (by decide) (by decide) ?_
            exact kt
          exact ⟨(1 : Int32), T281, _, (by rw [if_neg hc282]), N281, X281, eh281, fun tz kt => (pre284 _ kt)⟩)
    have hv290 : v290 = (if x2 < r5 then (0 : Int32) else (1 : Int32)) := jv285
    obtain ⟨_, _, ⟨T286, Lw286, kw286, nw286⟩, -, X286, ⟨Lc286, hQ286, l286, y286, z286⟩, st286⟩ := Jvm.LawKit.callS X285 hx (y := (⟨oz1, "one", "(Z)I"⟩ : MethodName)) hown (mvT hZ (own_w hw 22 rfl)) (mvT hZ (own_w hw 23 rfl)) (mvT hZ (own_w hw 2 rfl)) (mvT hZ (own_w hw 24 rfl)) (by decide) (backOf (W := 1) (rm5 l Z a0 hw [] v290 T253.heap n0 Zc261 ) hZ (own_w hw 24 rfl) (own_w hw 2 rfl) (by decide) (by decide)) (g := (mkF m 290 #[iv x1, iv x2, iv x3, lv x4, .second, lv x5, .second, lv x6, .second, iv (7 : Int32), iv x3, iv r1, iv r2, iv r3, iv r4, iv r5, iv r6, rv b7, .unset] [(.int v290), (.int (((((if v186 = (0 : Int32) then (0 : Int32) else (1 : Int32)) + (if v206 = (0 : Int32) then (0 : Int32) else (1 : Int32))) + (if v227 = (0 : Int32) then (0 : Int32) else (1 : Int32))) + (if v248 = (0 : Int32) then (0 : Int32) else (1 : Int32))) + (if v269 = (0 : Int32) then (0 : Int32) else (1 : Int32))))])) rfl (by rw [hml]; rfl) (argsL := [(.int v290)]) (rest := [(.int (((((if v186 = (0 : Int32) then (0 : Int32) else (1 : Int32)) + (if v206 = (0 : Int32) then (0 : Int32) else (1 : Int32))) + (if v227 = (0 : Int32) then (0 : Int32) else (1 : Int32))) + (if v248 = (0 : Int32) then (0 : Int32) else (1 : Int32))) + (if v269 = (0 : Int32) then (0 : Int32) else (1 : Int32))))]) (lenOf own_pd5 rfl) rfl (by show 2 * 0 + _ ≤ _; exact Nat.le_of_eq rfl) (hb hby at_290) (fun _ _ => ⟨rfl, e285, (by decide : 3 + 0 ≤ _), (by decide : 14 + 0 ≤ _)⟩)
    dsimp only [Pt.U, Pt.locs, Pt.cells, Pt.slots] at X286 l286 y286 z286 st286 hQ286
    subst l286 y286 z286
    obtain ⟨rfl, Nq286, eh286⟩ := hQ286
    have N286 := Fr.app N285 Nq286
    have pre287 : ∀ tz, oS p e below T286 m 304 #[iv x1, iv x2, iv x3, lv x4, .second, lv x5, .second, lv x6, .second, iv (7 : Int32), iv x3, iv r1, iv r2, iv r3, iv r4, iv r5, iv r6, rv b7, .unset] [(.int x2), (.int r6), (.int ((((((if v186 = (0 : Int32) then (0 : Int32) else (1 : Int32)) + (if v206 = (0 : Int32) then (0 : Int32) else (1 : Int32))) + (if v227 = (0 : Int32) then (0 : Int32) else (1 : Int32))) + (if v248 = (0 : Int32) then (0 : Int32) else (1 : Int32))) + (if v269 = (0 : Int32) then (0 : Int32) else (1 : Int32))) + (if v290 = (0 : Int32) then (0 : Int32) else (1 : Int32))))] tz → oS p e below T281 m 282 #[iv x1, iv x2, iv x3, lv x4, .second, lv x5, .second, lv x6, .second, iv (7 : Int32), iv x3, iv r1, iv r2, iv r3, iv r4, iv r5, iv r6, rv b7, .unset] [(.int x2), (.int r5), (.int (((((if v186 = (0 : Int32) then (0 : Int32) else (1 : Int32)) + (if v206 = (0 : Int32) then (0 : Int32) else (1 : Int32))) + (if v227 = (0 : Int32) then (0 : Int32) else (1 : Int32))) + (if v248 = (0 : Int32) then (0 : Int32) else (1 : Int32))) + (if v269 = (0 : Int32) then (0 : Int32) else (1 : Int32))))] tz := fun tz kt => by
      show oS p e below T281 m 282 #[iv x1, iv x2, iv x3, lv x4, .second, lv x5, .second, lv x6, .second, iv (7 : Int32), iv x3, iv r1, iv r2, iv r3, iv r4, iv r5, iv r6, rv b7, .unset] [(.int x2), (.int r5), (.int (((((if v186 = (0 : Int32) then (0 : Int32) else (1 : Int32)) + (if v206 = (0 : Int32) then (0 : Int32) else (1 : Int32))) + (if v227 = (0 : Int32) then (0 : Int32) else (1 : Int32))) + (if v248 = (0 : Int32) then (0 : Int32) else (1 : Int32))) + (if v269 = (0 : Int32) then (0 : Int32) else (1 : Int32))))] _
      refine st285 _ ?_
      show oS p e below T285 m 290 #[iv x1, iv x2, iv x3, lv x4, .second, lv x5, .second, lv x6, .second, iv (7 : Int32), iv x3, iv r1, iv r2, iv r3, iv r4, iv r5, iv r6, rv b7, .unset] [(.int v290), (.int (((((if v186 = (0 : Int32) then (0 : Int32) else (1 : Int32)) + (if v206 = (0 : Int32) then (0 : Int32) else (1 : Int32))) + (if v227 = (0 : Int32) then (0 : Int32) else (1 : Int32))) + (if v248 = (0 : Int32) then (0 : Int32) else (1 : Int32))) + (if v269 = (0 : Int32) then (0 : Int32) else (1 : Int32))))] _
      refine st286 _ ?_
      refine XS.iadd X286.here hx rfl (hb hby at_293) rfl ?_
      refine XS.iload X286.here hx rfl (hb hby at_294) rfl ?_
      refine XS.bipush X286.here hx rfl (hb hby at_296) ?_
      show oS p e below T286 m 298 #[iv x1, iv x2, iv x3, lv x4, .second, lv x5, .second, lv x6, .second, iv (7 : Int32), iv x3, iv r1, iv r2, iv r3, iv r4, iv r5, iv r6, rv b7, .unset] [(.int (6 : Int32)), (.int (7 : Int32)), (.int ((((((if v186 = (0 : Int32) then (0 : Int32) else (1 : Int32)) + (if v206 = (0 : Int32) then (0 : Int32) else (1 : Int32))) + (if v227 = (0 : Int32) then (0 : Int32) else (1 : Int32))) + (if v248 = (0 : Int32) then (0 : Int32) else (1 : Int32))) + (if v269 = (0 : Int32) then (0 : Int32) else (1 : Int32))) + (if v290 = (0 : Int32) then (0 : Int32) else (1 : Int32))))] _
      refine XS.icmpNo X286.here hx rfl (hb hby at_298) rfl (tlt (by decide : ((6 : Int32) < (7 : Int32)))).2.2.2 ?_
      refine XS.iload X286.here hx rfl (hb hby at_301) rfl ?_
      refine XS.iloadN X286.here hx rfl (hb hby at_303) rfl ?_
      exact kt
    obtain ⟨v312, T290, Lj290, jv290, N290, X290, e290, st290⟩ := own_join (α := Int32) X286 N286 eh286 (mkF m 304 #[iv x1, iv x2, iv x3, lv x4, .second, lv x5, .second, lv x6, .second, iv (7 : Int32), iv x3, iv r1, iv r2, iv r3, iv r4, iv r5, iv r6, rv b7, .unset] [(.int x2), (.int r6), (.int ((((((if v186 = (0 : Int32) then (0 : Int32) else (1 : Int32)) + (if v206 = (0 : Int32) then (0 : Int32) else (1 : Int32))) + (if v227 = (0 : Int32) then (0 : Int32) else (1 : Int32))) + (if v248 = (0 : Int32) then (0 : Int32) else (1 : Int32))) + (if v269 = (0 : Int32) then (0 : Int32) else (1 : Int32))) + (if v290 = (0 : Int32) then (0 : Int32) else (1 : Int32))))]) (fun v => (mkF m 312 #[iv x1, iv x2, iv x3, lv x4, .second, lv x5, .second, lv x6, .second, iv (7 : Int32), iv x3, iv r1, iv r2, iv r3, iv r4, iv r5, iv r6, rv b7, .unset] [(.int v), (.int ((((((if v186 = (0 : Int32) then (0 : Int32) else (1 : Int32)) + (if v206 = (0 : Int32) then (0 : Int32) else (1 : Int32))) + (if v227 = (0 : Int32) then (0 : Int32) else (1 : Int32))) + (if v248 = (0 : Int32) then (0 : Int32) else (1 : Int32))) + (if v269 = (0 : Int32) then (0 : Int32) else (1 : Int32))) + (if v290 = (0 : Int32) then (0 : Int32) else (1 : Int32))))])) (fun v => v = (if x2 < r6 then (0 : Int32) else (1 : Int32))) (by
        by_cases hc304 : x2 < r6
        · have pre288 : ∀ tz, oS p e below T286 m 312 #[iv x1, iv x2, iv x3, lv x4, .second, lv x5, .second, lv x6, .second, iv (7 : Int32), iv x3, iv r1, iv r2, iv r3, iv r4, iv r5, iv r6, rv b7, .unset] [(.int (0 : Int32)), (.int ((((((if v186 = (0 : Int32) then (0 : Int32) else (1 : Int32)) + (if v206 = (0 : Int32) then (0 : Int32) else (1 : Int32))) + (if v227 = (0 : Int32) then (0 : Int32) else (1 : Int32))) + (if v248 = (0 : Int32) then (0 : Int32) else (1 : Int32))) + (if v269 = (0 : Int32) then (0 : Int32) else (1 : Int32))) + (if v290 = (0 : Int32) then (0 : Int32) else (1 : Int32))))] tz → oS p e below T286 m 304 #[iv x1, iv x2, iv x3, lv x4, .second, lv x5, .second, lv x6, .second, iv (7 : Int32), iv x3, iv r1, iv r2, iv r3, iv r4, iv r5, iv r6, rv b7, .unset] [(.int x2), (.int r6), (.int ((((((if v186 = (0 : Int32) then (0 : Int32) else (1 : Int32)) + (if v206 = (0 : Int32) then (0 : Int32) else (1 : Int32))) + (if v227 = (0 : Int32) then (0 : Int32) else (1 : Int32))) + (if v248 = (0 : Int32) then (0 : Int32) else (1 : Int32))) + (if v269 = (0 : Int32) then (0 : Int32) else (1 : Int32))) + (if v290 = (0 : Int32) then (0 : Int32) else (1 : Int32))))] tz := fun tz kt => by
            show oS p e below T286 m 304 #[iv x1, iv x2, iv x3, lv x4, .second, lv x5, .second, lv x6, .second, iv (7 : Int32), iv x3, iv r1, iv r2, iv r3, iv r4, iv r5, iv r6, rv b7, .unset] [(.int x2), (.int r6), (.int ((((((if v186 = (0 : Int32) then (0 : Int32) else (1 : Int32)) + (if v206 = (0 : Int32) then (0 : Int32) else (1 : Int32))) + (if v227 = (0 : Int32) then (0 : Int32) else (1 : Int32))) + (if v248 = (0 : Int32) then (0 : Int32) else (1 : Int32))) + (if v269 = (0 : Int32) then (0 : Int32) else (1 : Int32))) + (if v290 = (0 : Int32) then (0 : Int32) else (1 : Int32))))] _
            refine XS.icmpYes X286.here hx rfl (pc0 := 304) (pc' := 311) rfl (hb hby at_304) rfl (tlt hc304).2.2.1 (by decide) (by decide) ?_
            refine XS.iconst X286.here hx rfl (hb hby at_311) ?_
            exact kt
          exact ⟨(0 : Int32), T286, _, (by rw [if_pos hc304]), N286, X286, eh286, fun tz kt => (pre288 _ kt)⟩
        · have pre289 : ∀ tz, oS p e below T286 m 312 #[iv x1, iv x2, iv x3, lv x4, .second, lv x5, .second, lv x6, .second, iv (7 : Int32), iv x3, iv r1, iv r2, iv r3, iv r4, iv r5, iv r6, rv b7, .unset] [(.int (1 : Int32)), (.int ((((((if v186 = (0 : Int32) then (0 : Int32) else (1 : Int32)) + (if v206 = (0 : Int32) then (0 : Int32) else (1 : Int32))) + (if v227 = (0 : Int32) then (0 : Int32) else (1 : Int32))) + (if v248 = (0 : Int32) then (0 : Int32) else (1 : Int32))) + (if v269 = (0 : Int32) then (0 : Int32) else (1 : Int32))) + (if v290 = (0 : Int32) then (0 : Int32) else (1 : Int32))))] tz → oS p e below T286 m 304 #[iv x1, iv x2, iv x3, lv x4, .second, lv x5, .second, lv x6, .second, iv (7 : Int32), iv x3, iv r1, iv r2, iv r3, iv r4, iv r5, iv r6, rv b7, .unset] [(.int x2), (.int r6), (.int ((((((if v186 = (0 : Int32) then (0 : Int32) else (1 : Int32)) + (if v206 = (0 : Int32) then (0 : Int32) else (1 : Int32))) + (if v227 = (0 : Int32) then (0 : Int32) else (1 : Int32))) + (if v248 = (0 : Int32) then (0 : Int32) else (1 : Int32))) + (if v269 = (0 : Int32) then (0 : Int32) else (1 : Int32))) + (if v290 = (0 : Int32) then (0 : Int32) else (1 : Int32))))] tz := fun tz kt => by
            show oS p e below T286 m 304 #[iv x1, iv x2, iv x3, lv x4, .second, lv x5, .second, lv x6, .second, iv (7 : Int32), iv x3, iv r1, iv r2, iv r3, iv r4, iv r5, iv r6, rv b7, .unset] [(.int x2), (.int r6), (.int ((((((if v186 = (0 : Int32) then (0 : Int32) else (1 : Int32)) + (if v206 = (0 : Int32) then (0 : Int32) else (1 : Int32))) + (if v227 = (0 : Int32) then (0 : Int32) else (1 : Int32))) + (if v248 = (0 : Int32) then (0 : Int32) else (1 : Int32))) + (if v269 = (0 : Int32) then (0 : Int32) else (1 : Int32))) + (if v290 = (0 : Int32) then (0 : Int32) else (1 : Int32))))] _
            refine XS.icmpNo X286.here hx rfl (hb hby at_304) rfl (flt hc304).2.2.1 ?_
            refine XS.iconst X286.here hx rfl (hb hby at_307) ?_
            refine XS.goto X286.here hx rfl (pc0 := 308) (pc' := 312) rfl (hb hby at_308) (by decide) (by decide) ?_
            exact kt
          exact ⟨(1 : Int32), T286, _, (by rw [if_neg hc304]), N286, X286, eh286, fun tz kt => (pre289 _ kt)⟩)
    have hv312 : v312 = (if x2 < r6 then (0 : Int32) else (1 : Int32)) := jv290
    obtain ⟨_, _, ⟨T291, Lw291, kw291, nw291⟩, -, X291, ⟨Lc291, hQ291, l291, y291, z291⟩, st291⟩ := Jvm.LawKit.callS X290 hx (y := (⟨oz1, "one", "(Z)I"⟩ : MethodName)) hown (mvT hZ (own_w hw 22 rfl)) (mvT hZ (own_w hw 23 rfl)) (mvT hZ (own_w hw 2 rfl)) (mvT hZ (own_w hw 24 rfl)) (by decide) (backOf (W := 1) (rm5 l Z a0 hw [] v312 T253.heap n0 Zc261 ) hZ (own_w hw 24 rfl) (own_w hw 2 rfl) (by decide) (by decide)) (g := (mkF m 312 #[iv x1, iv x2, iv x3, lv x4, .second, lv x5, .second, lv x6, .second, iv (7 : Int32), iv x3, iv r1, iv r2, iv r3, iv r4, iv r5, iv r6, rv b7, .unset] [(.int v312), (.int ((((((if v186 = (0 : Int32) then (0 : Int32) else (1 : Int32)) + (if v206 = (0 : Int32) then (0 : Int32) else (1 : Int32))) + (if v227 = (0 : Int32) then (0 : Int32) else (1 : Int32))) + (if v248 = (0 : Int32) then (0 : Int32) else (1 : Int32))) + (if v269 = (0 : Int32) then (0 : Int32) else (1 : Int32))) + (if v290 = (0 : Int32) then (0 : Int32) else (1 : Int32))))])) rfl (by rw [hml]; rfl) (argsL := [(.int v312)]) (rest := [(.int ((((((if v186 = (0 : Int32) then (0 : Int32) else (1 : Int32)) + (if v206 = (0 : Int32) then (0 : Int32) else (1 : Int32))) + (if v227 = (0 : Int32) then (0 : Int32) else (1 : Int32))) + (if v248 = (0 : Int32) then (0 : Int32) else (1 : Int32))) + (if v269 = (0 : Int32) then (0 : Int32) else (1 : Int32))) + (if v290 = (0 : Int32) then (0 : Int32) else (1 : Int32))))]) (lenOf own_pd5 rfl) rfl (by show 2 * 0 + _ ≤ _; exact Nat.le_of_eq rfl) (hb hby at_312) (fun _ _ => ⟨rfl, e290, (by decide : 3 + 0 ≤ _), (by decide : 14 + 0 ≤ _)⟩)
    dsimp only [Pt.U, Pt.locs, Pt.cells, Pt.slots] at X291 l291 y291 z291 st291 hQ291
    subst l291 y291 z291
    obtain ⟨rfl, Nq291, eh291⟩ := hQ291
    have N291 := Fr.app N290 Nq291
    obtain ⟨y316, hy316⟩ : ∃ z, z = (((((((if v186 = (0 : Int32) then (0 : Int32) else (1 : Int32)) + (if v206 = (0 : Int32) then (0 : Int32) else (1 : Int32))) + (if v227 = (0 : Int32) then (0 : Int32) else (1 : Int32))) + (if v248 = (0 : Int32) then (0 : Int32) else (1 : Int32))) + (if v269 = (0 : Int32) then (0 : Int32) else (1 : Int32))) + (if v290 = (0 : Int32) then (0 : Int32) else (1 : Int32))) + (if v312 = (0 : Int32) then (0 : Int32) else (1 : Int32))) := ⟨_, rfl⟩
    have Ec293 : Exa Z T253.heap b7 oz0 := (Ec254.keep K253)
    obtain ⟨cq292, kq292, q292a, q292b, q292c⟩ := isOf hZ eh291 Ec293
    obtain ⟨_, _, ⟨T292, Lw292, kw292, nw292⟩, -, X292, ⟨Lc292, hQ292, l292, y292, z292⟩, st292⟩ := X291.virtualBack hx (y := (⟨oz0, "countAtMost", "(I)I"⟩ : MethodName)) (z := (⟨oz0, "countAtMost", "(I)I"⟩ : MethodName)) hown (mvT hZ (own_w hw 25 rfl)) (mvT hZ (own_w hw 26 rfl)) (notFace_of_selects (args := #[]) (mvT hZ (own_w hw 28 rfl))) (mvT hZ (own_w hw 28 rfl)) (mvT hZ (own_w hw 27 rfl)) (by decide) (backOf (W := 0) (rmC7 l Z a0 hw [] b7 x2 x3 r1 r2 r3 r4 r5 r6 b247 k247 T253.heap n0 Zc261 Ec293 pf253_0 pf253_1 pf253_2) hZ (own_w hw 29 rfl) (own_w hw 12 rfl) (by decide) (by decide)) q292a q292c (g := (mkF m 321 #[iv x1, iv x2, iv x3, lv x4, .second, lv x5, .second, lv x6, .second, iv (7 : Int32), iv x3, iv r1, iv r2, iv r3, iv r4, iv r5, iv r6, rv b7, iv y316] [(.int x2), (.ref b7)])) rfl (by rw [hml]; rfl) (Steps.refl _) (argsL := [(.int x2)]) (rest := []) (lenOf own_pd6 rfl) rfl (by show 2 * 0 + _ ≤ _; exact Nat.le_of_eq rfl) (hb hby at_321) (fun _ _ => ⟨rfl, eh291, (by decide : 3 + 0 ≤ _), (by decide : 14 + 0 ≤ _)⟩)
    dsimp only [Pt.U, Pt.locs, Pt.cells, Pt.slots] at X292 l292 y292 z292 st292 hQ292
    subst l292 y292 z292
    obtain ⟨rfl, Nq292, eh292⟩ := hQ292
    have N292 := Fr.app N291 Nq292
    have hc326 : (if x2 < r3 then (if x2 < r1 then (if x2 < x3 then (0 : Int32) else (1 : Int32)) else (if x2 < r2 then (2 : Int32) else (3 : Int32))) else (if x2 < r5 then (if x2 < r4 then (4 : Int32) else (5 : Int32)) else (if x2 < r6 then (6 : Int32) else (7 : Int32)))) = y316 := Classical.byContradiction fun hc326 => by
      subst hy316 hv312 hv290 hv269 hv248 hv227 hv206 hv186
      exact hc326 (own_cnt7 x2 x3 r1 r2 r3 r4 r5 r6 pf1_0 pf2_0 pf3_0 pf4_0 pf5_0 pf6_0)
    have pre294 : ∀ tz, oS p e below T292 m 334 #[iv x1, iv x2, iv x3, lv x4, .second, lv x5, .second, lv x6, .second, iv (7 : Int32), iv x3, iv r1, iv r2, iv r3, iv r4, iv r5, iv r6, rv b7, iv y316] [(.int (1 : Int32))] tz → oS p e below T286 m 304 #[iv x1, iv x2, iv x3, lv x4, .second, lv x5, .second, lv x6, .second, iv (7 : Int32), iv x3, iv r1, iv r2, iv r3, iv r4, iv r5, iv r6, rv b7, .unset] [(.int x2), (.int r6), (.int ((((((if v186 = (0 : Int32) then (0 : Int32) else (1 : Int32)) + (if v206 = (0 : Int32) then (0 : Int32) else (1 : Int32))) + (if v227 = (0 : Int32) then (0 : Int32) else (1 : Int32))) + (if v248 = (0 : Int32) then (0 : Int32) else (1 : Int32))) + (if v269 = (0 : Int32) then (0 : Int32) else (1 : Int32))) + (if v290 = (0 : Int32) then (0 : Int32) else (1 : Int32))))] tz := fun tz kt => by
      show oS p e below T286 m 304 #[iv x1, iv x2, iv x3, lv x4, .second, lv x5, .second, lv x6, .second, iv (7 : Int32), iv x3, iv r1, iv r2, iv r3, iv r4, iv r5, iv r6, rv b7, .unset] [(.int x2), (.int r6), (.int ((((((if v186 = (0 : Int32) then (0 : Int32) else (1 : Int32)) + (if v206 = (0 : Int32) then (0 : Int32) else (1 : Int32))) + (if v227 = (0 : Int32) then (0 : Int32) else (1 : Int32))) + (if v248 = (0 : Int32) then (0 : Int32) else (1 : Int32))) + (if v269 = (0 : Int32) then (0 : Int32) else (1 : Int32))) + (if v290 = (0 : Int32) then (0 : Int32) else (1 : Int32))))] _
      refine st290 _ ?_
      show oS p e below T290 m 312 #[iv x1, iv x2, iv x3, lv x4, .second, lv x5, .second, lv x6, .second, iv (7 : Int32), iv x3, iv r1, iv r2, iv r3, iv r4, iv r5, iv r6, rv b7, .unset] [(.int v312), (.int ((((((if v186 = (0 : Int32) then (0 : Int32) else (1 : Int32)) + (if v206 = (0 : Int32) then (0 : Int32) else (1 : Int32))) + (if v227 = (0 : Int32) then (0 : Int32) else (1 : Int32))) + (if v248 = (0 : Int32) then (0 : Int32) else (1 : Int32))) + (if v269 = (0 : Int32) then (0 : Int32) else (1 : Int32))) + (if v290 = (0 : Int32) then (0 : Int32) else (1 : Int32))))] _
      refine st291 _ ?_
      refine XS.iadd X291.here hx rfl (hb hby at_315) rfl ?_
      refine XS.istore X291.here hx rfl (hb hby at_316) rfl (l' := #[iv x1, iv x2, iv x3, lv x4, .second, lv x5, .second, lv x6, .second, iv (7 : Int32), iv x3, iv r1, iv r2, iv r3, iv r4, iv r5, iv r6, rv b7, iv y316]) (by rw [hy316]; rfl) ?_
      refine XS.aload X291.here hx rfl (hb hby at_318) rfl rfl ?_
      show oS p e below T291 m 320 #[iv x1, iv x2, iv x3, lv x4, .second, lv x5, .second, lv x6, .second, iv (7 : Int32), iv x3, iv r1, iv r2, iv r3, iv r4, iv r5, iv r6, rv b7, iv y316] [(.ref b7)] _
      refine XS.iloadN X291.here hx rfl (hb hby at_320) rfl ?_
      show oS p e below T291 m 321 #[iv x1, iv x2, iv x3, lv x4, .second, lv x5, .second, lv x6, .second, iv (7 : Int32), iv x3, iv r1, iv r2, iv r3, iv r4, iv r5, iv r6, rv b7, iv y316] [(.int x2), (.ref b7)] _
      refine st292.trans ?_
      refine XS.iload X292.here hx rfl (hb hby at_324) rfl ?_
      refine XS.icmpNo X292.here hx rfl (hb hby at_326) rfl (teq hc326).2 ?_
      refine XS.iconst X292.here hx rfl (hb hby at_329) ?_
      show oS p e below T292 m 330 #[iv x1, iv x2, iv x3, lv x4, .second, lv x5, .second, lv x6, .second, iv (7 : Int32), iv x3, iv r1, iv r2, iv r3, iv r4, iv r5, iv r6, rv b7, iv y316] [(.int (1 : Int32))] _
      refine XS.goto X292.here hx rfl (pc0 := 330) (pc' := 334) rfl (hb hby at_330) (by decide) (by decide) ?_
      exact kt
    obtain ⟨fs, hr, hrun, hended, hW, hsame⟩ := X292.leave (v := some (.int (1 : Int32))) (fun h => by rw [Bd.returns] at h; cases h)
    refine ⟨_, _, pre0 _ (pre10 _ (pre256 _ (pre262 _ (pre267 _ (pre272 _ (pre277 _ (pre282 _ (pre287 _ (pre294 _ ?_))))))))), hrun, hended, _, _, rfl, ?_, ⟨_, rfl⟩, hW, hsame.mono (by decide) (by decide)⟩
    · show oS p e below T292 m 334 #[iv x1, iv x2, iv x3, lv x4, .second, lv x5, .second, lv x6, .second, iv (7 : Int32), iv x3, iv r1, iv r2, iv r3, iv r4, iv r5, iv r6, rv b7, iv y316] [(.int (1 : Int32))] _
      exact retN X292 hx (t := .boolean) Bd.returns (by simp) (hb hby at_334) hr
    · show Q0 Z x1 x2 x3 x4 x5 x6 h0 n0 _ T292.heap _
      rw [eh292]
      exact ⟨rfl, N292⟩
set_option maxRecDepth 65536 in
set_option maxHeartbeats 40000000 in
theorem comes_1 {Post : Tables → Env → Array Value → State → Outcome → State → Prop} (hpost : ∀ tb e args s v u, (limb_1_1.after args s (.returned v) u = true ∧ limb_1_2.after args s (.returned v) u = true ∧ True) → FrameEnd s (.returned v) u (Jvm.fieldLocs frame_1_writes args s ++ Jvm.arrayLocs frame_1_arrays args s ++ Jvm.staticLocs frame_1_statics s) 16 128 → Post tb e args s (.returned v) u) :
    ArmFor flags0 classFile x code maxLocals ret World_1 tables_1 room_1 Calls_1 rest_1 Pre_1 Post := by
  intro l hfl _ _ p e ha hc hk s m args below hf hA hF happ hP
  obtain ⟨hcalls, hrest, hpre⟩ := hP
  obtain ⟨-, -, -, hnamed, -, -, -, hat⟩ := (Spec.applies_iff hf).mp happ
  obtain ⟨hg, hn⟩ := and_e (Cond.before_iff.mp (show (Jvm.Cond.and given_1 narrow_1).before args s = true from hpre))
  obtain ⟨gc, gr0⟩ := and_e hg
  obtain ⟨ga0, gr1⟩ := and_e gr0
  obtain ⟨ga1, gr2⟩ := and_e gr1
  obtain ⟨ga2, gr3⟩ := and_e gr2
  obtain ⟨ga3, gr4⟩ := and_e gr3
  obtain ⟨ga4, gr5⟩ := and_e gr4
  have ga5 := gr5
  obtain ⟨w0, w1, w2, w3, w4, w5, rfl⟩ : ∃ w0 w1 w2 w3 w4 w5 : Value, args = #[w0, w1, w2, w3, w4, w5] := by
    have hs : args.size = 6 := by simpa [Cond.value, given_1] using gc
    obtain ⟨L⟩ := args
    match L, hs with
    | [w0, w1, w2, w3, w4, w5], _ => exact ⟨w0, w1, w2, w3, w4, w5, rfl⟩
  have hw := fun d (hd : d ∈ tables_1) => atoms_spec (ws := Jvm.Cond.code x code maxLocals ret :: tables_1) hat d (List.mem_cons_of_mem _ hd)
  obtain ⟨i0, ei0⟩ := is_v ga0
  obtain rfl : w0 = (.int i0) := Option.some.inj ei0
  obtain ⟨i1, ei1⟩ := is_v ga1
  obtain rfl : w1 = (.int i1) := Option.some.inj ei1
  obtain ⟨i2, ei2⟩ := is_v ga2
  obtain rfl : w2 = (.int i2) := Option.some.inj ei2
  obtain ⟨i3, ei3⟩ := isL_v ga3
  obtain rfl : w3 = (.long i3) := Option.some.inj ei3
  obtain ⟨i4, ei4⟩ := isL_v ga4
  obtain rfl : w4 = (.long i4) := Option.some.inj ei4
  obtain ⟨i5, ei5⟩ := isL_v ga5
  obtain rfl : w5 = (.long i5) := Option.some.inj ei5
  obtain ⟨n, o, h1, h2, h3, _, L, rfl, ⟨rfl, N⟩, hq⟩ := rm0 l s _ hw tables_1 i0 i1 i2 i3 i4 i5 s.heap s.heap.size (Nat.le_refl _)  p e ha hc hk s m _ below hf ((Spec.applies_iff_loose hf).mp happ).1 ⟨rfl, State.Warmed39.refl s, rfl⟩ trivial
  refine ⟨n, _, h1, h2, h3, hpost _ _ _ _ _ _ ⟨Cond.after_iff.mpr rfl, Cond.after_iff.mpr (eq_i res_at (Term.int_eval (1)) rfl), trivial⟩ ⟨hq.1, hq.2.1, (hq.2.2.sift fun y hy => Or.inr (N y hy)).mono (by decide) (by decide)⟩⟩
theorem main_1_1 : Claimed_1_1 := comes_1 fun _ _ _ _ _ _ h hF => ⟨h.1, hF⟩
theorem main_1_2 : Claimed_1_2 := comes_1 fun _ _ _ _ _ _ h hF => ⟨h.2.1, hF⟩
end Jvm.Pilot.@@N@@
namespace Jvm.Pilot.@@N@@
open Jvm Jvm.ClassFile Sem Op Lib Jvm.Free Jvm.Stand Jvm.Pilot.@@N@@.Jvm.D
/-! MADE BY PROGRAM (witnessworld.py) out of the Statement's table words and the real class files: 12 classes; the members and pool entries that the words name. The judged class is class 1, her method 3. -/
namespace start1
open Jvm.ClassFile
def u (s : String) : CpInfo := .utf8 (stringToUtf16 s)
/-- a pool by its gaps: so many unusable entries, then the entry; so many at the end -/
def gap : Nat → List CpInfo → List CpInfo
  | 0, r => r
  | n + 1, r => .unusable :: gap n r
def poolList (es : List (Nat × CpInfo)) (last : Nat) : List CpInfo := es.foldr (fun e r => gap e.1 (e.2 :: r)) (gap last [])
def pool (es : List (Nat × CpInfo)) (last : Nat) : Array CpInfo := ⟨poolList es last⟩
def fileOf (pool : Array CpInfo) (this : Nat) (attrs : Array Attribute := #[]) (ms : Array MethodInfo := #[]) (fl : Nat := 33) (sup : Nat := 0) (ifs : Array Nat := #[]) (fds : Array FieldInfo := #[]) : ClassFile where
  minorVersion := 0
  majorVersion := 65
  constantPool := pool
  accessFlags := fl
  thisClass := this
  superClass := sup
  interfaces := ifs
  fields := fds
  methods := ms
  attributes := attrs
def plain (name : String) (sup : Option ClassId) : Class where
  name := name
  kind := .ordinary
  loader := none
  accessFlags := 33
  super := sup
  interfaces := #[]
  cf := none
  fields := #[]
  methods := #[]
  instanceTypes := #[]
  staticTypes := #[]
  resolved := #[]
  callSites := []
  init := .initialized
  statics := none
  mirror := none

def pool0 : Array CpInfo := pool [(5, u "<init>"), (0, u "()V"), (1, .class_ 10), (1, u "java/lang/Object")] 113

def k0c0 : Code := { maxStack := 0, maxLocals := 1, code := object_method_1_code, exceptionTable := #[], attributes := #[] }
def k0m0 : Method := { name := "<init>", desc := "()V", sig := { parameters := [], returnType := none }, accessFlags := 1, code := some k0c0 }
/-- java/lang/Object -/
def k0 : Class := { plain "java/lang/Object" none with
  accessFlags := 33
  interfaces := #[]
  cf := some (fileOf pool0 8 #[] #[{ accessFlags := 1, nameIndex := 5, descriptorIndex := 6, attributes := #[] }] 33 0 #[] #[])
  fields := #[]
  methods := #[k0m0]
  instanceTypes := #[]
  staticTypes := #[]
  resolved := Array.replicate 124 none
  statics := none }

def pool1 : Array CpInfo := pool [(2, .class_ 4), (0, .nameAndType 5 6), (0, u "java/lang/Object"), (0, u "<init>"), (0, u "()V"), (0, .long 4294967295), (3, .long 2147483647), (1, .methodref 14 15), (0, .class_ 16), (0, .nameAndType 17 18), (0, u "java/lang/Math"), (0, u "min"), (0, u "(JJ)J"), (0, .methodref 20 21), (0, .class_ 22), (0, .nameAndType 23 24), (0, u "com/example/lockstep/lockstep/IntListCountAtMostPinLaw"), (0, u "next"), (0, u "(IJ)I"), (0, .class_ 26), (0, u "com/example/lockstep/lockstep/IntList"), (0, .methodref 25 3), (0, .methodref 25 29), (0, .nameAndType 30 31), (0, u "add"), (0, u "(I)V"), (0, .methodref 20 33), (0, .nameAndType 34 35), (0, u "one"), (0, u "(Z)I"), (0, .methodref 25 37), (0, .nameAndType 38 39), (0, u "countAtMost"), (0, u "(I)I"), (3, u "law"), (0, u "(IIIJJJ)Z")] 2

def k1m0 : Method := { name := "<init>", desc := "()V", sig := { parameters := [], returnType := none }, accessFlags := 1, code := none }
def k1c1 : Code := { maxStack := 6, maxLocals := 5, code := method_2_code, exceptionTable := #[], attributes := #[] }
def k1m1 : Method := { name := "next", desc := "(IJ)I", sig := { parameters := [.int, .long], returnType := some .int }, accessFlags := 10, code := some k1c1 }
def k1c2 : Code := { maxStack := 1, maxLocals := 1, code := method_3_code, exceptionTable := #[], attributes := #[] }
def k1m2 : Method := { name := "one", desc := "(Z)I", sig := { parameters := [.boolean], returnType := some .int }, accessFlags := 10, code := some k1c2 }
def k1c3 : Code := { maxStack := 4, maxLocals := 19, code := code, exceptionTable := #[], attributes := #[] }
def k1m3 : Method := { name := "law", desc := "(IIIJJJ)Z", sig := { parameters := [.int, .int, .int, .long, .long, .long], returnType := some .boolean }, accessFlags := 9, code := some k1c3 }
/-- com/example/lockstep/lockstep/IntListCountAtMostPinLaw -/
def k1 : Class := { plain "com/example/lockstep/lockstep/IntListCountAtMostPinLaw" (some 0) with
  accessFlags := 49
  interfaces := #[]
  cf := some (fileOf pool1 20 #[] #[{ accessFlags := 1, nameIndex := 5, descriptorIndex := 6, attributes := #[] }, { accessFlags := 10, nameIndex := 23, descriptorIndex := 24, attributes := #[] }, { accessFlags := 10, nameIndex := 34, descriptorIndex := 35, attributes := #[] }, { accessFlags := 9, nameIndex := 43, descriptorIndex := 44, attributes := #[] }] 49 2 #[] #[])
  fields := #[]
  methods := #[k1m0, k1m1, k1m2, k1m3]
  instanceTypes := #[]
  staticTypes := #[]
  resolved := Array.replicate 47 none
  statics := none }

def pool2 : Array CpInfo := pool [(1, .class_ 2), (0, u "java/lang/Math"), (1, .class_ 6), (1, u "java/lang/Object"), (0, u "<init>"), (0, u "()V"), (89, .class_ 100), (1, u "java/lang/Math$RandomNumberGeneratorHolder"), (20, u "(JJ)J"), (50, u "negativeZeroFloatBits"), (0, u "J"), (2, u "negativeZeroDoubleBits"), (24, u "min"), (43, u "$assertionsDisabled"), (0, u "Z"), (88, u "(II)I"), (2, u "twoToTheDoubleScaleDown"), (0, u "D"), (4, u "twoToTheDoubleScaleUp"), (9, u "E"), (3, u "PI"), (2, u "TAU"), (2, u "DEGREES_TO_RADIANS"), (0, u "RADIANS_TO_DEGREES")] 94

def k2m0 : Method := { name := "<init>", desc := "()V", sig := { parameters := [], returnType := none }, accessFlags := 2, code := none }
def k2c1 : Code := { maxStack := 2, maxLocals := 2, code := jdk_29_method_69_code, exceptionTable := #[], attributes := #[] }
def k2m1 : Method := { name := "min", desc := "(II)I", sig := { parameters := [.int, .int], returnType := some .int }, accessFlags := 9, code := some k2c1 }
def k2c2 : Code := { maxStack := 4, maxLocals := 4, code := jdk_29_method_70_code, exceptionTable := #[], attributes := #[] }
def k2m2 : Method := { name := "min", desc := "(JJ)J", sig := { parameters := [.long, .long], returnType := some .long }, accessFlags := 9, code := some k2c2 }
/-- java/lang/Math -/
def k2 : Class := { plain "java/lang/Math" (some 0) with
  accessFlags := 49
  interfaces := #[]
  cf := some (fileOf pool2 1 #[.nestMembers #[98]] #[{ accessFlags := 2, nameIndex := 7, descriptorIndex := 8, attributes := #[] }, { accessFlags := 9, nameIndex := 201, descriptorIndex := 335, attributes := #[] }, { accessFlags := 9, nameIndex := 201, descriptorIndex := 121, attributes := #[] }] 49 4 #[] #[{ accessFlags := 25, nameIndex := 354, descriptorIndex := 339, attributes := #[] }, { accessFlags := 25, nameIndex := 358, descriptorIndex := 339, attributes := #[] }, { accessFlags := 25, nameIndex := 361, descriptorIndex := 339, attributes := #[] }, { accessFlags := 26, nameIndex := 364, descriptorIndex := 339, attributes := #[] }, { accessFlags := 26, nameIndex := 365, descriptorIndex := 339, attributes := #[] }, { accessFlags := 26, nameIndex := 172, descriptorIndex := 173, attributes := #[] }, { accessFlags := 26, nameIndex := 176, descriptorIndex := 173, attributes := #[] }, { accessFlags := 8, nameIndex := 344, descriptorIndex := 339, attributes := #[] }, { accessFlags := 8, nameIndex := 338, descriptorIndex := 339, attributes := #[] }, { accessFlags := 4120, nameIndex := 245, descriptorIndex := 246, attributes := #[] }])
  fields := #[{ name := "E", type := .double, accessFlags := 25, slot := 0, constantValue := 0 }, { name := "PI", type := .double, accessFlags := 25, slot := 1, constantValue := 0 }, { name := "TAU", type := .double, accessFlags := 25, slot := 2, constantValue := 0 }, { name := "DEGREES_TO_RADIANS", type := .double, accessFlags := 26, slot := 3, constantValue := 0 }, { name := "RADIANS_TO_DEGREES", type := .double, accessFlags := 26, slot := 4, constantValue := 0 }, { name := "negativeZeroFloatBits", type := .long, accessFlags := 26, slot := 5, constantValue := 0 }, { name := "negativeZeroDoubleBits", type := .long, accessFlags := 26, slot := 6, constantValue := 0 }, { name := "twoToTheDoubleScaleUp", type := .double, accessFlags := 8, slot := 7, constantValue := 0 }, { name := "twoToTheDoubleScaleDown", type := .double, accessFlags := 8, slot := 8, constantValue := 0 }, { name := "$assertionsDisabled", type := .boolean, accessFlags := 4120, slot := 9, constantValue := 0 }]
  methods := #[k2m0, k2m1, k2m2]
  instanceTypes := #[]
  staticTypes := #[.double, .double, .double, .double, .double, .long, .long, .double, .double, .boolean]
  resolved := Array.replicate 460 none
  statics := none }

def pool3 : Array CpInfo := pool [(1, .methodref 2 3), (0, .class_ 4), (0, .nameAndType 5 6), (0, u "java/lang/Object"), (0, u "<init>"), (0, u "()V"), (0, .fieldref 8 9), (0, .class_ 10), (0, .nameAndType 11 12), (0, u "com/example/lockstep/lockstep/IntList"), (0, u "values"), (0, u "[I"), (0, .fieldref 8 14), (0, .nameAndType 15 16), (0, u "size"), (0, u "I"), (0, .methodref 18 19), (0, .class_ 20), (0, .nameAndType 21 22), (0, u "java/util/Arrays"), (0, u "copyOf"), (0, u "([II)[I"), (14, u "add"), (0, u "(I)V"), (4, u "(I)I"), (5, u "countAtMost")] 4

def k3c0 : Code := { maxStack := 2, maxLocals := 1, code := prog_30_method_1_code, exceptionTable := #[], attributes := #[] }
def k3m0 : Method := { name := "<init>", desc := "()V", sig := { parameters := [], returnType := none }, accessFlags := 1, code := some k3c0 }
def k3c1 : Code := { maxStack := 5, maxLocals := 2, code := prog_30_method_2_code, exceptionTable := #[], attributes := #[] }
def k3m1 : Method := { name := "add", desc := "(I)V", sig := { parameters := [.int], returnType := none }, accessFlags := 1, code := some k3c1 }
def k3c2 : Code := { maxStack := 2, maxLocals := 5, code := prog_30_method_9_code, exceptionTable := #[], attributes := #[] }
def k3m2 : Method := { name := "countAtMost", desc := "(I)I", sig := { parameters := [.int], returnType := some .int }, accessFlags := 1, code := some k3c2 }
/-- com/example/lockstep/lockstep/IntList -/
def k3 : Class := { plain "com/example/lockstep/lockstep/IntList" (some 0) with
  accessFlags := 49
  interfaces := #[]
  cf := some (fileOf pool3 8 #[] #[{ accessFlags := 1, nameIndex := 5, descriptorIndex := 6, attributes := #[] }, { accessFlags := 1, nameIndex := 37, descriptorIndex := 38, attributes := #[] }, { accessFlags := 1, nameIndex := 49, descriptorIndex := 43, attributes := #[] }] 49 2 #[] #[{ accessFlags := 2, nameIndex := 11, descriptorIndex := 12, attributes := #[] }, { accessFlags := 2, nameIndex := 15, descriptorIndex := 16, attributes := #[] }])
  fields := #[{ name := "values", type := (.array .int), accessFlags := 2, slot := 0, constantValue := 0 }, { name := "size", type := .int, accessFlags := 2, slot := 1, constantValue := 0 }]
  methods := #[k3m0, k3m1, k3m2]
  instanceTypes := #[(.array .int), .int]
  staticTypes := #[]
  resolved := Array.replicate 54 none
  statics := none }

def pool4 : Array CpInfo := pool [(2, .class_ 4), (1, u "java/lang/Object"), (0, u "<init>"), (0, u "()V"), (7, .class_ 16), (1, u "java/util/Arrays"), (57, .class_ 76), (1, u "java/util/Arrays$NaturalOrder"), (36, .class_ 115), (1, u "java/util/Arrays$LegacyMergeSort"), (1, u "Z"), (32, .methodref 151 152), (0, .class_ 153), (0, .nameAndType 154 155), (0, u "java/lang/System"), (0, u "arraycopy"), (0, u "(Ljava/lang/Object;ILjava/lang/Object;II)V"), (146, u "copyOf"), (1, .methodref 305 306), (0, .class_ 307), (0, .nameAndType 308 309), (0, u "java/lang/Math"), (0, u "min"), (0, u "(II)I"), (65, .class_ 376), (0, u "java/util/Arrays$ArrayList"), (68, u "$assertionsDisabled"), (269, u "MIN_ARRAY_SORT_GRAN"), (0, u "I"), (2, u "INSERTIONSORT_THRESHOLD"), (151, u "([II)[I"), (103, .class_ 976), (0, u "java/util/Arrays$ArrayItr")] 52

def k4m0 : Method := { name := "<init>", desc := "()V", sig := { parameters := [], returnType := none }, accessFlags := 2, code := none }
def k4c1 : Code := { maxStack := 6, maxLocals := 3, code := jdk_65_method_123_code, exceptionTable := #[], attributes := #[] }
def k4m1 : Method := { name := "copyOf", desc := "([II)[I", sig := { parameters := [(.array .int), .int], returnType := some (.array .int) }, accessFlags := 9, code := some k4c1 }
/-- java/util/Arrays -/
def k4 : Class := { plain "java/util/Arrays" (some 0) with
  accessFlags := 49
  interfaces := #[]
  cf := some (fileOf pool4 14 #[.nestMembers #[975, 375, 113, 74]] #[{ accessFlags := 2, nameIndex := 5, descriptorIndex := 6, attributes := #[] }, { accessFlags := 9, nameIndex := 302, descriptorIndex := 871, attributes := #[] }] 49 2 #[] #[{ accessFlags := 26, nameIndex := 715, descriptorIndex := 716, attributes := #[] }, { accessFlags := 26, nameIndex := 719, descriptorIndex := 716, attributes := #[] }, { accessFlags := 4120, nameIndex := 445, descriptorIndex := 117, attributes := #[] }])
  fields := #[{ name := "MIN_ARRAY_SORT_GRAN", type := .int, accessFlags := 26, slot := 0, constantValue := 0 }, { name := "INSERTIONSORT_THRESHOLD", type := .int, accessFlags := 26, slot := 1, constantValue := 0 }, { name := "$assertionsDisabled", type := .boolean, accessFlags := 4120, slot := 2, constantValue := 0 }]
  methods := #[k4m0, k4m1]
  instanceTypes := #[]
  staticTypes := #[.int, .int, .boolean]
  resolved := Array.replicate 1029 none
  statics := none }

def pool5 : Array CpInfo := pool [(2, .class_ 4), (1, u "java/lang/Object"), (0, u "<init>"), (0, u "()V"), (1, .class_ 10), (1, u "java/lang/System"), (0, u "allowSecurityManager"), (0, u "I"), (16, u "cons"), (0, u "Ljava/io/Console;"), (77, .class_ 110), (1, u "java/lang/System$CallersHolder"), (43, u "initialErrStream"), (0, u "Ljava/io/PrintStream;"), (19, u "security"), (0, u "Ljava/lang/SecurityManager;"), (31, .class_ 209), (0, u "java/lang/System$1"), (7, u "props"), (0, u "Ljava/util/Properties;"), (2, u "lineSeparator"), (0, u "Ljava/lang/String;"), (96, .class_ 321), (1, u "java/lang/System$LoggerFinder"), (5, .class_ 328), (0, u "java/lang/System$Logger"), (67, u "err"), (2, u "out"), (91, u "notSupportedJnuEncoding"), (15, u "in"), (17, u "initialIn"), (0, u "Ljava/io/InputStream;"), (35, u "bootLayer"), (0, u "Ljava/lang/ModuleLayer;"), (99, .class_ 664), (0, u "java/lang/System$2"), (9, u "NEVER"), (2, u "MAYBE"), (49, u "arraycopy"), (0, u "(Ljava/lang/Object;ILjava/lang/Object;II)V"), (72, .class_ 802), (0, u "java/lang/System$Logger$Level")] 31

def k5m0 : Method := { name := "<init>", desc := "()V", sig := { parameters := [], returnType := none }, accessFlags := 2, code := none }
def k5m1 : Method := { name := "arraycopy", desc := "(Ljava/lang/Object;ILjava/lang/Object;II)V", sig := { parameters := [(.object "java/lang/Object"), .int, (.object "java/lang/Object"), .int, .int], returnType := none }, accessFlags := 265, code := none }
/-- java/lang/System -/
def k5 : Class := { plain "java/lang/System" (some 0) with
  accessFlags := 49
  interfaces := #[]
  cf := some (fileOf pool5 8 #[.nestMembers #[319, 327, 801, 108, 663, 208]] #[{ accessFlags := 2, nameIndex := 5, descriptorIndex := 6, attributes := #[] }, { accessFlags := 265, nameIndex := 727, descriptorIndex := 728, attributes := #[] }] 49 2 #[] #[{ accessFlags := 25, nameIndex := 507, descriptorIndex := 526, attributes := #[] }, { accessFlags := 25, nameIndex := 399, descriptorIndex := 155, attributes := #[] }, { accessFlags := 25, nameIndex := 396, descriptorIndex := 155, attributes := #[] }, { accessFlags := 10, nameIndex := 525, descriptorIndex := 526, attributes := #[] }, { accessFlags := 26, nameIndex := 674, descriptorIndex := 12, attributes := #[] }, { accessFlags := 26, nameIndex := 677, descriptorIndex := 12, attributes := #[] }, { accessFlags := 10, nameIndex := 11, descriptorIndex := 12, attributes := #[] }, { accessFlags := 74, nameIndex := 175, descriptorIndex := 176, attributes := #[] }, { accessFlags := 10, nameIndex := 491, descriptorIndex := 222, attributes := #[] }, { accessFlags := 74, nameIndex := 29, descriptorIndex := 30, attributes := #[] }, { accessFlags := 74, nameIndex := 154, descriptorIndex := 155, attributes := #[] }, { accessFlags := 10, nameIndex := 217, descriptorIndex := 218, attributes := #[] }, { accessFlags := 10, nameIndex := 221, descriptorIndex := 222, attributes := #[] }, { accessFlags := 8, nameIndex := 562, descriptorIndex := 563, attributes := #[] }])
  fields := #[{ name := "in", type := (.object "java/io/InputStream"), accessFlags := 25, slot := 0, constantValue := 0 }, { name := "out", type := (.object "java/io/PrintStream"), accessFlags := 25, slot := 1, constantValue := 0 }, { name := "err", type := (.object "java/io/PrintStream"), accessFlags := 25, slot := 2, constantValue := 0 }, { name := "initialIn", type := (.object "java/io/InputStream"), accessFlags := 10, slot := 3, constantValue := 0 }, { name := "NEVER", type := .int, accessFlags := 26, slot := 4, constantValue := 0 }, { name := "MAYBE", type := .int, accessFlags := 26, slot := 5, constantValue := 0 }, { name := "allowSecurityManager", type := .int, accessFlags := 10, slot := 6, constantValue := 0 }, { name := "security", type := (.object "java/lang/SecurityManager"), accessFlags := 74, slot := 7, constantValue := 0 }, { name := "notSupportedJnuEncoding", type := (.object "java/lang/String"), accessFlags := 10, slot := 8, constantValue := 0 }, { name := "cons", type := (.object "java/io/Console"), accessFlags := 74, slot := 9, constantValue := 0 }, { name := "initialErrStream", type := (.object "java/io/PrintStream"), accessFlags := 74, slot := 10, constantValue := 0 }, { name := "props", type := (.object "java/util/Properties"), accessFlags := 10, slot := 11, constantValue := 0 }, { name := "lineSeparator", type := (.object "java/lang/String"), accessFlags := 10, slot := 12, constantValue := 0 }, { name := "bootLayer", type := (.object "java/lang/ModuleLayer"), accessFlags := 8, slot := 13, constantValue := 0 }]
  methods := #[k5m0, k5m1]
  instanceTypes := #[]
  staticTypes := #[(.object "java/io/InputStream"), (.object "java/io/PrintStream"), (.object "java/io/PrintStream"), (.object "java/io/InputStream"), .int, .int, .int, (.object "java/lang/SecurityManager"), (.object "java/lang/String"), (.object "java/io/Console"), (.object "java/io/PrintStream"), (.object "java/util/Properties"), (.object "java/lang/String"), (.object "java/lang/ModuleLayer")]
  resolved := Array.replicate 834 none
  statics := none }

def pool6 : Array CpInfo := pool [(1, u "java/lang/Cloneable"), (0, .class_ 1), (0, u "java/lang/Object"), (0, .class_ 3)] 3

/-- java/lang/Cloneable -/
def k6 : Class := { plain "java/lang/Cloneable" (some 0) with
  accessFlags := 1537
  interfaces := #[]
  cf := some (fileOf pool6 2 #[] #[] 1537 4 #[] #[])
  fields := #[]
  methods := #[]
  instanceTypes := #[]
  staticTypes := #[]
  resolved := Array.replicate 8 none
  statics := none }

def pool7 : Array CpInfo := pool [(1, u "java/io/Serializable"), (0, .class_ 1), (0, u "java/lang/Object"), (0, .class_ 3)] 3

/-- java/io/Serializable -/
def k7 : Class := { plain "java/io/Serializable" (some 0) with
  accessFlags := 1537
  interfaces := #[]
  cf := some (fileOf pool7 2 #[] #[] 1537 4 #[] #[])
  fields := #[]
  methods := #[]
  instanceTypes := #[]
  staticTypes := #[]
  resolved := Array.replicate 8 none
  statics := none }

/-- the primitive byte -/
def k8 : Class := { plain "byte" none with kind := .primitive 'B', accessFlags := 0x411 }
/-- [B -/
def k9 : Class := { plain "[B" (some 0) with kind := .array 8 .byte, interfaces := #[6, 7], accessFlags := 1041 }

/-- the primitive int -/
def k10 : Class := { plain "int" none with kind := .primitive 'I', accessFlags := 0x411 }
/-- [I -/
def k11 : Class := { plain "[I" (some 0) with kind := .array 10 .int, interfaces := #[6, 7], accessFlags := 1041 }

def heap : Heap := #[]
def classes : Array Class := #[k0, k1, k2, k3, k4, k5, k6, k7, k8, k9, k10, k11]
def interned : List (Array UInt16 × Addr) := []
def slotsUsed : Nat := 0
def theMethod : MethodId := ⟨1, 3⟩
def args0 : Array Value := #[.int 5, .int 6, .int 7, .long 8, .long 9, .long 10]
def aboutOver (below : List Frame) : State where
  vm := { classes := classes, interned := interned.toArray }
  heap := heap
  slotsUsed := slotsUsed
  threads := #[{ frames := .invoking theMethod args0 :: below }]
def below0 : List Frame := [.native { method := ⟨0, 0⟩, args := #[] }]
def about1 : State := aboutOver below0
def p0 : Program := .bare "" "" ""
def e0 : Env := launch0.env 0 0 0
theorem w_frames : about1.frames = Frame.invoking theMethod args0 :: below0 := rfl
set_option maxRecDepth 65536 in
theorem w_args : argsFit about1.vm theMethod args0 = true := by decide +kernel
set_option maxRecDepth 65536 in
theorem w_heap : heapFits about1 = true := by decide +kernel
set_option maxRecDepth 65536 in
theorem w_runnable : about1.curStatus? = some .runnable := by decide +kernel
set_option maxRecDepth 65536 in
theorem w_alone : about1.alone = true := by decide +kernel
set_option maxRecDepth 65536 in
theorem w_named : about1.methodNamed? x = some theMethod := by decide +kernel
set_option maxRecDepth 65536 in
theorem w_hears : about1.hears theMethod below0 = true := by decide +kernel
set_option maxRecDepth 65536 in
theorem w_ripe : about1.ripe theMethod args0 below0 = true := by decide +kernel
theorem w_running : about1.status = .running := rfl
set_option maxRecDepth 65536 in
theorem w_room : about1.hasRoom e0.platform room_1 = true :=
  launch0.hasRoom_least _ room_1 (by decide +kernel) (by decide +kernel) (by decide +kernel) (by decide +kernel) (by decide +kernel) (by decide +kernel)
theorem allAtoms_all (ts : List Jvm.Cond) (a : Array Jvm.Value) (st : Jvm.State) : (allAtoms ts).before a st = ts.all (fun c => c.before a st) := by
  induction ts with
  | nil => rfl
  | cons c t ih =>
    show (Jvm.Cond.and c (allAtoms t)).before a st = _
    rw [Jvm.Cond.before_and, ih, List.all_cons]
def words1 : List Jvm.Cond := Jvm.Cond.code x code maxLocals ret :: tables_1
/-- a 'code' word, met by the world's own term for the bytes: nothing is compared byte by byte -/
theorem code_word {y : MethodName} {bytes : ByteArray} {mx : Nat} {rt : Option FieldType} {a : Array Value} {s : State} {m : MethodId} {meth : Method} {c : Code} (h1 : s.methodNamed? y = some m) (h2 : s.vm.method? m = some meth) (h3 : meth.code = some c) (h4 : c.code = bytes)
    (h5 : (c.maxLocals == mx && c.exceptionTable.isEmpty && decide (c.maxStack ≤ mostOperands) && decide (meth.sig.returnType = rt) && !meth.locks && decide (parseMethodDescriptor y.desc = some meth.sig)) = true) : (Jvm.Cond.code y bytes mx rt).before a s = true := by
  simp only [Bool.and_eq_true, beq_iff_eq, Bool.not_eq_true', decide_eq_true_eq] at h5
  obtain ⟨⟨⟨⟨⟨g1, g2⟩, g3⟩, g4⟩, g5⟩, g6⟩ := h5
  simp [Cond.before, Cond.holds, Cond.value, h1, h2, h3, h4, g1, g2, g3, g4, g5, g6]
def isCode : Jvm.Cond → Bool
  | .code _ _ _ _ => true
  | _ => false
theorem all_split {L : List Jvm.Cond} {P : Jvm.Cond → Bool} (h1 : L.all (fun c => isCode c || P c) = true) (h2 : ∀ c ∈ L.filter isCode, P c = true) : L.all P = true := by
  refine List.all_eq_true.mpr fun c hc => ?_
  have h := List.all_eq_true.mp h1 c hc
  rcases Bool.eq_false_or_eq_true (isCode c) with hi | hi
  · exact h2 c (List.mem_filter.mpr ⟨hc, hi⟩)
  · simpa [hi] using h
set_option maxRecDepth 65536 in
theorem w_c0 : (Jvm.Cond.code x code maxLocals ret).before args0 about1 = true := code_word (m := ⟨1, 3⟩) (meth := k1m3) (c := k1c3) (by decide +kernel) rfl rfl rfl (by decide +kernel)
set_option maxRecDepth 65536 in
theorem w_c1 : (Jvm.Cond.code ({ cls := "com/example/lockstep/lockstep/IntListCountAtMostPinLaw", name := "next", desc := "(IJ)I" } : Jvm.MethodName) method_2_code (5 : Nat) (Option.some Jvm.ClassFile.FieldType.int)).before args0 about1 = true := code_word (m := ⟨1, 1⟩) (meth := k1m1) (c := k1c1) (by decide +kernel) rfl rfl rfl (by decide +kernel)
set_option maxRecDepth 65536 in
theorem w_c2 : (Jvm.Cond.code ({ cls := "java/lang/Math", name := "min", desc := "(JJ)J" } : Jvm.MethodName) jdk_29_method_70_code (4 : Nat) (Option.some Jvm.ClassFile.FieldType.long)).before args0 about1 = true := code_word (m := ⟨2, 2⟩) (meth := k2m2) (c := k2c2) (by decide +kernel) rfl rfl rfl (by decide +kernel)
set_option maxRecDepth 65536 in
theorem w_c3 : (Jvm.Cond.code ({ cls := "com/example/lockstep/lockstep/IntList", name := "<init>", desc := "()V" } : Jvm.MethodName) prog_30_method_1_code (1 : Nat) (Option.none : Option Jvm.ClassFile.FieldType)).before args0 about1 = true := code_word (m := ⟨3, 0⟩) (meth := k3m0) (c := k3c0) (by decide +kernel) rfl rfl rfl (by decide +kernel)
set_option maxRecDepth 65536 in
theorem w_c4 : (Jvm.Cond.code ({ cls := "java/lang/Object", name := "<init>", desc := "()V" } : Jvm.MethodName) object_method_1_code (1 : Nat) (Option.none : Option Jvm.ClassFile.FieldType)).before args0 about1 = true := code_word (m := ⟨0, 0⟩) (meth := k0m0) (c := k0c0) (by decide +kernel) rfl rfl rfl (by decide +kernel)
set_option maxRecDepth 65536 in
theorem w_c5 : (Jvm.Cond.code ({ cls := "com/example/lockstep/lockstep/IntListCountAtMostPinLaw", name := "one", desc := "(Z)I" } : Jvm.MethodName) method_3_code (1 : Nat) (Option.some Jvm.ClassFile.FieldType.int)).before args0 about1 = true := code_word (m := ⟨1, 2⟩) (meth := k1m2) (c := k1c2) (by decide +kernel) rfl rfl rfl (by decide +kernel)
set_option maxRecDepth 65536 in
theorem w_c6 : (Jvm.Cond.code ({ cls := "com/example/lockstep/lockstep/IntList", name := "countAtMost", desc := "(I)I" } : Jvm.MethodName) prog_30_method_9_code (5 : Nat) (Option.some Jvm.ClassFile.FieldType.int)).before args0 about1 = true := code_word (m := ⟨3, 2⟩) (meth := k3m2) (c := k3c2) (by decide +kernel) rfl rfl rfl (by decide +kernel)
set_option maxRecDepth 65536 in
theorem w_c7 : (Jvm.Cond.code ({ cls := "com/example/lockstep/lockstep/IntList", name := "add", desc := "(I)V" } : Jvm.MethodName) prog_30_method_2_code (2 : Nat) (Option.none : Option Jvm.ClassFile.FieldType)).before args0 about1 = true := code_word (m := ⟨3, 1⟩) (meth := k3m1) (c := k3c1) (by decide +kernel) rfl rfl rfl (by decide +kernel)
set_option maxRecDepth 65536 in
theorem w_c8 : (Jvm.Cond.code ({ cls := "java/util/Arrays", name := "copyOf", desc := "([II)[I" } : Jvm.MethodName) jdk_65_method_123_code (3 : Nat) (Option.some (Jvm.ClassFile.FieldType.array Jvm.ClassFile.FieldType.int))).before args0 about1 = true := code_word (m := ⟨4, 1⟩) (meth := k4m1) (c := k4c1) (by decide +kernel) rfl rfl rfl (by decide +kernel)
set_option maxRecDepth 65536 in
theorem w_c9 : (Jvm.Cond.code ({ cls := "java/lang/Math", name := "min", desc := "(II)I" } : Jvm.MethodName) jdk_29_method_69_code (2 : Nat) (Option.some Jvm.ClassFile.FieldType.int)).before args0 about1 = true := code_word (m := ⟨2, 1⟩) (meth := k2m1) (c := k2c1) (by decide +kernel) rfl rfl rfl (by decide +kernel)
def codes1 : List Jvm.Cond := [Jvm.Cond.code x code maxLocals ret, Jvm.Cond.code ({ cls := "com/example/lockstep/lockstep/IntListCountAtMostPinLaw", name := "next", desc := "(IJ)I" } : Jvm.MethodName) method_2_code (5 : Nat) (Option.some Jvm.ClassFile.FieldType.int), Jvm.Cond.code ({ cls := "java/lang/Math", name := "min", desc := "(JJ)J" } : Jvm.MethodName) jdk_29_method_70_code (4 : Nat) (Option.some Jvm.ClassFile.FieldType.long), Jvm.Cond.code ({ cls := "com/example/lockstep/lockstep/IntList", name := "<init>", desc := "()V" } : Jvm.MethodName) prog_30_method_1_code (1 : Nat) (Option.none : Option Jvm.ClassFile.FieldType), Jvm.Cond.code ({ cls := "java/lang/Object", name := "<init>", desc := "()V" } : Jvm.MethodName) object_method_1_code (1 : Nat) (Option.none : Option Jvm.ClassFile.FieldType), Jvm.Cond.code ({ cls := "com/example/lockstep/lockstep/IntListCountAtMostPinLaw", name := "one", desc := "(Z)I" } : Jvm.MethodName) method_3_code (1 : Nat) (Option.some Jvm.ClassFile.FieldType.int), Jvm.Cond.code ({ cls := "com/example/lockstep/lockstep/IntList", name := "countAtMost", desc := "(I)I" } : Jvm.MethodName) prog_30_method_9_code (5 : Nat) (Option.some Jvm.ClassFile.FieldType.int), Jvm.Cond.code ({ cls := "com/example/lockstep/lockstep/IntList", name := "add", desc := "(I)V" } : Jvm.MethodName) prog_30_method_2_code (2 : Nat) (Option.none : Option Jvm.ClassFile.FieldType), Jvm.Cond.code ({ cls := "java/util/Arrays", name := "copyOf", desc := "([II)[I" } : Jvm.MethodName) jdk_65_method_123_code (3 : Nat) (Option.some (Jvm.ClassFile.FieldType.array Jvm.ClassFile.FieldType.int)), Jvm.Cond.code ({ cls := "java/lang/Math", name := "min", desc := "(II)I" } : Jvm.MethodName) jdk_29_method_69_code (2 : Nat) (Option.some Jvm.ClassFile.FieldType.int)]
set_option maxRecDepth 65536 in
theorem codes_eq : words1.filter isCode = codes1 := rfl
theorem w_codes : ∀ c ∈ words1.filter isCode, c.before args0 about1 = true := by
  rw [codes_eq]
  intro c hc
  simp only [codes1, List.mem_cons, List.not_mem_nil, or_false] at hc
  rcases hc with rfl | rfl | rfl | rfl | rfl | rfl | rfl | rfl | rfl | rfl
  · exact w_c0
  · exact w_c1
  · exact w_c2
  · exact w_c3
  · exact w_c4
  · exact w_c5
  · exact w_c6
  · exact w_c7
  · exact w_c8
  · exact w_c9
set_option maxRecDepth 65536 in
theorem w_t1 : (words1.take 24).all (fun c => isCode c || c.before args0 about1) = true := by decide +kernel
set_option maxRecDepth 65536 in
theorem w_t2 : ((words1.drop 24).take 24).all (fun c => isCode c || c.before args0 about1) = true := by decide +kernel
set_option maxRecDepth 65536 in
theorem w_t3 : ((words1.drop 24).drop 24).all (fun c => isCode c || c.before args0 about1) = true := by decide +kernel
theorem w_tables : (allAtoms (Jvm.Cond.code x code maxLocals ret :: tables_1)).before args0 about1 = true := by
  rw [allAtoms_all]
  show words1.all (fun c => c.before args0 about1) = true
  refine all_split ?_ w_codes
  rw [← List.take_append_drop 24 words1, List.all_append, w_t1, ← List.take_append_drop 24 (words1.drop 24), List.all_append, w_t2, w_t3]
  rfl
set_option maxRecDepth 65536 in
theorem w_case : (Jvm.Cond.and given_1 narrow_1).before args0 about1 = true := by decide +kernel
theorem w_applies : (headSpec (Jvm.Cond.code x code maxLocals ret :: tables_1) room_1).applies x e0.platform about1 = true :=
  (Spec.applies_iff w_frames).mpr ⟨w_running, w_runnable, w_alone, w_named, w_hears, w_ripe, w_room, w_tables⟩
theorem atStart : AtStart classFile x code maxLocals ret World_1 tables_1 room_1 Calls_1 rest_1 Pre_1 launch0 p0 e0 about1 theMethod args0 below0 :=
  ⟨lists_1, trivial, launch0.admits_env _ _ _, launch0.least_env, fairChoices_fair.cas, fairChoices_fair.clock, w_frames, w_args, w_heap, w_applies, trivial, trivial, w_case⟩
end start1
theorem witness_1 : WitnessClaimed_1 := ⟨start1.p0, start1.e0, start1.about1, start1.theMethod, start1.args0, start1.below0, start1.atStart⟩
end Jvm.Pilot.@@N@@
