import JvmDerived
import JvmDerived.Pilot.@@N@@Statement
import JvmDerived.Pilot.@@N@@Code
set_option linter.unusedVariables false
set_option linter.unusedSimpArgs false
namespace Jvm.Pilot.@@N@@
open Jvm Jvm.ClassFile Sem Op Lib Jvm.Free Jvm.Stand Jvm.LawKit Jvm.RoadKit Bundle Jvm.Pilot.@@N@@.Jvm.D
theorem own_w {a0 : Array Value} {Z : State} (hw : ∀ d ∈ tables_1, d.before a0 Z = true) (i : Nat) {d : Jvm.Cond} (h : tables_1[i]? = some d) : d.before a0 Z = true := hw _ (List.mem_of_getElem? h)
abbrev oS (p : Program) (e : Env) (b : List Frame) (T : State) (m : MethodId) (pc : Nat) (L : Array Slot) (S : List Value) (t : State) : Prop := Steps p.tables e b (T.setTop (mkF m pc L S)) t
abbrev lv (x : Int64) : Slot := .val (.long x)
theorem own_join {α : Type} {p : Program} {l : Launch} {e : Env} {R : Room} {s : State} {m : MethodId} {args : Array Value} {below : List Frame} {meth : Method} {c : Code} {T : State} {locs : List Loc} {cells slots n0 : Nat} {h : Heap}
    (_ : Stand p l e R s m args below meth c T locs cells slots) (_ : Fr n0 locs) (_ : T.heap = h) (A : JFrame) (B : α → JFrame) (P : α → Prop)
    (k : ∃ (v : α) (T' : State) (locs' : List Loc), P v ∧ Fr n0 locs' ∧ Stand p l e R s m args below meth c T' locs' cells slots ∧ T'.heap = h ∧ ∀ t, Steps p.tables e below (T'.setTop (B v)) t → Steps p.tables e below (T.setTop A) t) :
    ∃ (v : α) (T' : State) (locs' : List Loc), P v ∧ Fr n0 locs' ∧ Stand p l e R s m args below meth c T' locs' cells slots ∧ T'.heap = h ∧ ∀ t, Steps p.tables e below (T'.setTop (B v)) t → Steps p.tables e below (T.setTop A) t := k
theorem own_joinH {α : Type} {p : Program} {l : Launch} {e : Env} {R : Room} {s : State} {m : MethodId} {args : Array Value} {below : List Frame} {meth : Method} {c : Code} {T : State} {locs : List Loc} {cells slots n0 : Nat} {h : Heap}
    (_ : Stand p l e R s m args below meth c T locs cells slots) (_ : Fr n0 locs) (_ : T.heap = h) (A : JFrame) (B : α → JFrame) (P : α → Heap → Prop)
    (k : ∃ (v : α) (T' : State) (h' : Heap) (locs' : List Loc), P v h' ∧ Fr n0 locs' ∧ Stand p l e R s m args below meth c T' locs' cells slots ∧ T'.heap = h' ∧ ∀ t, Steps p.tables e below (T'.setTop (B v)) t → Steps p.tables e below (T.setTop A) t) :
    ∃ (v : α) (T' : State) (h' : Heap) (locs' : List Loc), P v h' ∧ Fr n0 locs' ∧ Stand p l e R s m args below meth c T' locs' cells slots ∧ T'.heap = h' ∧ ∀ t, Steps p.tables e below (T'.setTop (B v)) t → Steps p.tables e below (T.setTop A) t := k
theorem own_selp {s Z : State} {a0 args : Array Value} {y : MethodName} {n : Nat} (hZ : Z.Warmed39 s.vm) (wi : (Cond.instantiable y.cls n).before a0 Z = true) (wp : (Cond.privateMethod y).before a0 Z = true) (wm : (Cond.instanceMethod y).before a0 Z = true)
    (hy : y.cls ≠ "java/lang/invoke/MethodHandle" ∧ y.cls ≠ "java/lang/invoke/VarHandle") : (Cond.selects y.cls y y).before args s = true := by
  have wi' : (Cond.instantiable y.cls n).before args s = true := mvT hZ wi
  obtain ⟨c, k, h1, h2, h3, h4, -⟩ := Cond.instantiable_spec wi'
  exact Stand.selects_self_of_private h1 h2 (Bool.or_eq_false_iff.mp h4).1 (Cond.privateMethod_at (mvP hZ wp (args := #[]))) (mvT hZ wm) hy
theorem own_sec (x : Int64) : ¬ ((x &&& (4294967295 : Int64)) < (0 : Int64)) ∧ ¬ ((4294967295 : Int64) < (x &&& (4294967295 : Int64))) := by
  have h := c_maskL x 4294967295 32 (by decide) (by decide)
  have e0 : (0 : Int64).toInt = 0 := rfl
  have e1 : (4294967295 : Int64).toInt = 4294967295 := rfl
  rw [Int64.lt_iff_toInt_lt, Int64.lt_iff_toInt_lt, e0, e1]
  omega
theorem own_sec2 (c : Prop) [Decidable c] (x v : Int64) (hv : v = (if c then (x &&& (4294967295 : Int64)) else (0 : Int64))) : ¬ (v < (0 : Int64)) ∧ ¬ ((4294967295 : Int64) < v) := by
  subst hv
  by_cases h : c
  · rw [if_pos h]; exact own_sec x
  · rw [if_neg h]; decide
theorem own_lt (x : Int64) (h : ¬ x = (9223372036854775807 : Int64)) : x < (9223372036854775807 : Int64) := by
  have r := rng64 x
  have e : (9223372036854775807 : Int64).toInt = 9223372036854775807 := rfl
  rw [← Int64.toInt_inj, e] at h
  rw [Int64.lt_iff_toInt_lt, e]
  omega
theorem d1_0 : decode prog_16_method_1_code 0 = .ok (.aload_n 0, 1) := by decide +kernel
theorem d1_1 : decode prog_16_method_1_code 1 = .ok (.invokespecial 1, 3) := by decide +kernel
theorem d1_4 : decode prog_16_method_1_code 4 = .ok (.lload_n 1, 1) := by decide +kernel
theorem d1_5 : decode prog_16_method_1_code 5 = .ok (.lconst 0, 1) := by decide +kernel
theorem d1_6 : decode prog_16_method_1_code 6 = .ok (.lcmp, 1) := by decide +kernel
theorem d1_7 : decode prog_16_method_1_code 7 = .ok (.ifCond .lt 11, 3) := by decide +kernel
theorem d1_10 : decode prog_16_method_1_code 10 = .ok (.lload_n 1, 1) := by decide +kernel
theorem d1_11 : decode prog_16_method_1_code 11 = .ok (.ldc2_w 9, 3) := by decide +kernel
theorem d1_14 : decode prog_16_method_1_code 14 = .ok (.lcmp, 1) := by decide +kernel
theorem d1_15 : decode prog_16_method_1_code 15 = .ok (.ifCond .le 17, 3) := by decide +kernel
theorem d1_32 : decode prog_16_method_1_code 32 = .ok (.aload_n 0, 1) := by decide +kernel
theorem d1_33 : decode prog_16_method_1_code 33 = .ok (.lload_n 1, 1) := by decide +kernel
theorem d1_34 : decode prog_16_method_1_code 34 = .ok (.putfield 20, 3) := by decide +kernel
theorem d1_37 : decode prog_16_method_1_code 37 = .ok (.aload_n 0, 1) := by decide +kernel
theorem d1_38 : decode prog_16_method_1_code 38 = .ok (.aload_n 3, 1) := by decide +kernel
theorem d1_39 : decode prog_16_method_1_code 39 = .ok (.putfield 24, 3) := by decide +kernel
theorem d1_42 : decode prog_16_method_1_code 42 = .ok (.aload_n 0, 1) := by decide +kernel
theorem d1_43 : decode prog_16_method_1_code 43 = .ok (.lload_n 1, 1) := by decide +kernel
theorem d1_44 : decode prog_16_method_1_code 44 = .ok (.lconst 0, 1) := by decide +kernel
theorem d1_45 : decode prog_16_method_1_code 45 = .ok (.lcmp, 1) := by decide +kernel
theorem d1_46 : decode prog_16_method_1_code 46 = .ok (.ifCond .ne 9, 3) := by decide +kernel
theorem d1_49 : decode prog_16_method_1_code 49 = .ok (.ldc2_w 30, 3) := by decide +kernel
theorem d1_52 : decode prog_16_method_1_code 52 = .ok (.goto 5, 3) := by decide +kernel
theorem d1_55 : decode prog_16_method_1_code 55 = .ok (.lload 4, 2) := by decide +kernel
theorem d1_57 : decode prog_16_method_1_code 57 = .ok (.putfield 32, 3) := by decide +kernel
theorem d1_60 : decode prog_16_method_1_code 60 = .ok (.return_, 1) := by decide +kernel
theorem own_pn0 : plainName "com/example/holdfast/holdfast/repository/Lease" = true := by first | (simp [plainName, overriddenIn]; done) | decide +kernel
theorem ef1 (m : MethodId) (o : Addr) (x1 : Int64) (x2 : Addr) (x3 : Int64) : entryFrame m #[(.ref o), (.long x1), (.ref x2), (.long x3)] 6 = mkF m 0 #[rv o, lv x1, .second, rv x2, lv x3, .second] [] := by first | (simp [entryFrame, mkF, argsToLocals, Value.category]; done) | rfl
def Q1 (Z : State) (o : Addr) (x1 : Int64) (x2 : Addr) (x3 : Int64) (w_m_nSeconds_o : Value) (w_m_sToken_o : Value) (w_m_nExpiresAt_o : Value) (h0 : Heap) (n0 : Nat) (v : Option Value) (h : Heap) (L : List Loc) : Prop := v = none ∧ Fr n0 L ∧ Keep h0 h [o] ∧ Exa Z h o "com/example/holdfast/holdfast/repository/Lease" ∧ Fld Z h o "com/example/holdfast/holdfast/repository/Lease" "m_nSeconds" "J" (.long x1) ∧ Fld Z h o "com/example/holdfast/holdfast/repository/Lease" "m_sToken" "Ljava/lang/String;" (.ref x2) ∧ Fld Z h o "com/example/holdfast/holdfast/repository/Lease" "m_nExpiresAt" "J" (.long (if x1 = (0 : Int64) then (9223372036854775807 : Int64) else x3))
set_option maxRecDepth 65536 in
set_option maxHeartbeats 40000000 in
theorem rm1 (l : Launch) (Z : State) (a0 : Array Value) (hw : ∀ d ∈ tables_1, d.before a0 Z = true) (ws : List Jvm.Cond) (o : Addr) (x1 : Int64) (x2 : Addr) (x3 : Int64) (w_m_nSeconds_o : Value) (w_m_sToken_o : Value) (w_m_nExpiresAt_o : Value) (h0 : Heap) (n0 : Nat) (Z0 : n0 ≤ h0.size) (k1 : ¬ (x1 < (0 : Int64))) (k2 : ¬ ((4294967295 : Int64) < x1)) (E_o : Exa Z h0 o "com/example/holdfast/holdfast/repository/Lease") (F_m_nSeconds_o : Fld Z h0 o "com/example/holdfast/holdfast/repository/Lease" "m_nSeconds" "J" w_m_nSeconds_o) (g_o : n0 ≤ o) (F_m_sToken_o : Fld Z h0 o "com/example/holdfast/holdfast/repository/Lease" "m_sToken" "Ljava/lang/String;" w_m_sToken_o) (F_m_nExpiresAt_o : Fld Z h0 o "com/example/holdfast/holdfast/repository/Lease" "m_nExpiresAt" "J" w_m_nExpiresAt_o) :
    MetFree l (⟨"com/example/holdfast/holdfast/repository/Lease", "<init>", "(JLjava/lang/String;J)V"⟩ : MethodName) (head1 (Jvm.Cond.code (⟨"com/example/holdfast/holdfast/repository/Lease", "<init>", "(JLjava/lang/String;J)V"⟩ : MethodName) prog_16_method_1_code 6 none :: ws) ({ frames := 1, cells := 0, slots := 0, locals := 12 } : Room)) (fun a U => a = #[(.ref o), (.long x1), (.ref x2), (.long x3)] ∧ Z.Warmed39 U.vm ∧ U.heap = h0) (fun _ _ _ _ _ => True) (fun _ U oc U' => ∃ v L, oc = .returned v ∧ Q1 Z o x1 x2 x3 w_m_nSeconds_o w_m_sToken_o w_m_nExpiresAt_o h0 n0 v U'.heap L ∧ FrameEnd U oc U' L ({ frames := 1, cells := 0, slots := 0, locals := 12 } : Room).cells ({ frames := 1, cells := 0, slots := 0, locals := 12 } : Room).slots) := by
  refine MetFree.of_bodySF (plainFor_of_name own_pn0) hisR ?_
  intro p e s m args below meth c s₁ Bd hml0 hP hK
  obtain ⟨rfl, hZ, hh⟩ := hP
  have hx := Bd.exec
  have hby := Bd.bytes
  have hml : c.maxLocals = 6 := hml0
  have hown : s.vm.findClass "com/example/holdfast/holdfast/repository/Lease" = some m.cls := findClass_of_methodNamed Bd.named
  have hnm := (name_of_methodNamed Bd.named Bd.method).1
  have X0 : Stand p l e ({ frames := 1, cells := 0, slots := 0, locals := 12 } : Room) s m #[(.ref o), (.long x1), (.ref x2), (.long x3)] below meth c s₁ [] 0 0 := Stand.of_body Bd
  have e0 : s₁.heap = h0 := by rw [← hh, Bd.state]; rfl
  have N0 := Fr.nil n0
  have pre0 : ∀ t, Steps p.tables e below (s₁.setTop (mkF m 0 #[rv o, lv x1, .second, rv x2, lv x3, .second] [])) t → Steps p.tables e below (s₁.setTop (entryFrame m #[(.ref o), (.long x1), (.ref x2), (.long x3)] 6)) t := fun t k => castTop (ef1 m o x1 x2 x3) k
  obtain ⟨T1, X1, e1, st1⟩ := initO X0 hx hZ hown (own_w hw 15 rfl) (own_w hw 16 rfl) (own_w hw 17 rfl) e0 (g := (mkF m 1 #[rv o, lv x1, .second, rv x2, lv x3, .second] [(.ref o)])) rfl (by rw [hml]; rfl) rfl (hb hby d1_1) (by decide) (W := 0) (by show 2 * 0 + _ ≤ _; exact Nat.le_of_eq rfl) (by decide)
  have hc7 : ¬ (x1 < (0 : Int64)) := id fun hc7 => by
    exact k1 hc7
  have hc15 : ¬ ((4294967295 : Int64) < x1) := id fun hc15 => by
    exact k2 hc15
  obtain ⟨T2, h2, X2, e2, W2, st2⟩ := putF X1 hx hZ hown (host := "") (Or.inl (own_w hw 19 rfl)) Via.refl e1 F_m_nSeconds_o E_o (Or.inr ⟨(own_w hw 20 rfl), rfl, hnm⟩) (own_w hw 2 rfl) (ty := .long) (by decide) rfl rfl (g := (mkF m 34 #[rv o, lv x1, .second, rv x2, lv x3, .second] [(.long x1), (.ref o)])) rfl rfl (hb hby d1_34)
  have Fw2 : Fld Z h2 o "com/example/holdfast/holdfast/repository/Lease" "m_nSeconds" "J" (.long x1) := F_m_nSeconds_o.same W2
  have N2 := Fr.snoc X2 N0 g_o
  have Ec3 : Exa Z h2 o "com/example/holdfast/holdfast/repository/Lease" := (E_o.wr W2)
  have Fc4 : Fld Z h2 o "com/example/holdfast/holdfast/repository/Lease" "m_sToken" "Ljava/lang/String;" w_m_sToken_o := (F_m_sToken_o.other W2 (Or.inr (slot_ne (Or.inr (own_w hw 22 rfl)) (Or.inr (own_w hw 20 rfl)) (by decide) (t := (.object "java/lang/String")) (t' := .long) (by decide) (by decide))))
  obtain ⟨T5, h5, X5, e5, W5, st5⟩ := putF X2 hx hZ hown (host := "") (Or.inl (own_w hw 21 rfl)) Via.refl e2 Fc4 Ec3 (Or.inr ⟨(own_w hw 22 rfl), rfl, hnm⟩) (own_w hw 2 rfl) (ty := (.object "java/lang/String")) (by decide) rfl rfl (g := (mkF m 39 #[rv o, lv x1, .second, rv x2, lv x3, .second] [(.ref x2), (.ref o)])) rfl rfl (hb hby d1_39)
  have Fw5 : Fld Z h5 o "com/example/holdfast/holdfast/repository/Lease" "m_sToken" "Ljava/lang/String;" (.ref x2) := Fc4.same W5
  have N5 := Fr.snoc X5 N2 g_o
  have pre6 : ∀ tz, oS p e below T5 m 46 #[rv o, lv x1, .second, rv x2, lv x3, .second] [(.int (lcmpW x1 (0 : Int64))), (.ref o)] tz → oS p e below s₁ m 0 #[rv o, lv x1, .second, rv x2, lv x3, .second] [] tz := fun tz kt => by
    show oS p e below s₁ m 0 #[rv o, lv x1, .second, rv x2, lv x3, .second] [] _
    refine XS.aloadN X0.here hx rfl (hb hby d1_0) rfl rfl ?_
    show oS p e below s₁ m 1 #[rv o, lv x1, .second, rv x2, lv x3, .second] [(.ref o)] _
    refine st1 _ ?_
    refine XS.lloadN X1.here hx rfl (hb hby d1_4) rfl ?_
    refine XS.lconst X1.here hx rfl (hb hby d1_5) ?_
    refine XS.lcmp X1.here hx rfl (hb hby d1_6) rfl ?_
    show oS p e below T1 m 7 #[rv o, lv x1, .second, rv x2, lv x3, .second] [(.int (lcmpW x1 (0 : Int64)))] _
    refine XS.ifNo X1.here hx rfl (hb hby d1_7) rfl ((if0 _ _).trans (flt (fun q => hc7 ((lw_lt x1 (0 : Int64)).mp q))).1) ?_
    refine XS.lloadN X1.here hx rfl (hb hby d1_10) rfl ?_
    refine X1.ldc2Long hx hown (mvT hZ (own_w hw 18 rfl)) (g := (mkF m 11 #[rv o, lv x1, .second, rv x2, lv x3, .second] [(.long x1)])) rfl (hb hby d1_11) _ ?_
    refine XS.lcmp X1.here hx rfl (hb hby d1_14) rfl ?_
    show oS p e below T1 m 15 #[rv o, lv x1, .second, rv x2, lv x3, .second] [(.int (lcmpW x1 (4294967295 : Int64)))] _
    refine XS.ifYes X1.here hx rfl (pc0 := 15) (pc' := 32) rfl (hb hby d1_15) rfl ((if0 _ _).trans (flt (fun q => hc15 ((lw_gt x1 (4294967295 : Int64)).mp q))).2.2.2) (by decide) (by decide) ?_
    refine XS.aloadN X1.here hx rfl (hb hby d1_32) rfl rfl ?_
    refine XS.lloadN X1.here hx rfl (hb hby d1_33) rfl ?_
    show oS p e below T1 m 34 #[rv o, lv x1, .second, rv x2, lv x3, .second] [(.long x1), (.ref o)] _
    refine st2 _ ?_
    refine XS.aloadN X2.here hx rfl (hb hby d1_37) rfl rfl ?_
    refine XS.aloadN X2.here hx rfl (hb hby d1_38) rfl rfl ?_
    show oS p e below T2 m 39 #[rv o, lv x1, .second, rv x2, lv x3, .second] [(.ref x2), (.ref o)] _
    refine st5 _ ?_
    refine XS.aloadN X5.here hx rfl (hb hby d1_42) rfl rfl ?_
    refine XS.lloadN X5.here hx rfl (hb hby d1_43) rfl ?_
    refine XS.lconst X5.here hx rfl (hb hby d1_44) ?_
    show oS p e below T5 m 45 #[rv o, lv x1, .second, rv x2, lv x3, .second] [(.long (0 : Int64)), (.long x1), (.ref o)] _
    refine XS.lcmp X5.here hx rfl (hb hby d1_45) rfl ?_
    exact kt
  obtain ⟨v57, T9, Lj9, jv9, N9, X9, e9, st9⟩ := own_join (α := Int64) X5 N5 e5 (mkF m 46 #[rv o, lv x1, .second, rv x2, lv x3, .second] [(.int (lcmpW x1 (0 : Int64))), (.ref o)]) (fun v => (mkF m 57 #[rv o, lv x1, .second, rv x2, lv x3, .second] [(.long v), (.ref o)])) (fun v => v = (if x1 = (0 : Int64) then (9223372036854775807 : Int64) else x3)) (by
      by_cases hc46 : x1 = (0 : Int64)
      · have pre7 : ∀ tz, oS p e below T5 m 57 #[rv o, lv x1, .second, rv x2, lv x3, .second] [(.long (9223372036854775807 : Int64)), (.ref o)] tz → oS p e below T5 m 46 #[rv o, lv x1, .second, rv x2, lv x3, .second] [(.int (lcmpW x1 (0 : Int64))), (.ref o)] tz := fun tz kt => by
          show oS p e below T5 m 46 #[rv o, lv x1, .second, rv x2, lv x3, .second] [(.int (lcmpW x1 (0 : Int64))), (.ref o)] _
          refine XS.ifNo X5.here hx rfl (hb hby d1_46) rfl ((if0 _ _).trans (teq ((lw_eq x1 (0 : Int64)).mpr hc46)).2) ?_
          refine X5.ldc2Long hx hown (mvT hZ (own_w hw 30 rfl)) (g := (mkF m 49 #[rv o, lv x1, .second, rv x2, lv x3, .second] [(.ref o)])) rfl (hb hby d1_49) _ ?_
          refine XS.goto X5.here hx rfl (pc0 := 52) (pc' := 57) rfl (hb hby d1_52) (by decide) (by decide) ?_
          exact kt
        exact ⟨(9223372036854775807 : Int64), T5, _, (by rw [if_pos hc46]), N5, X5, e5, fun tz kt => (pre7 _ kt)⟩
      · have pre8 : ∀ tz, oS p e below T5 m 57 #[rv o, lv x1, .second, rv x2, lv x3, .second] [(.long x3), (.ref o)] tz → oS p e below T5 m 46 #[rv o, lv x1, .second, rv x2, lv x3, .second] [(.int (lcmpW x1 (0 : Int64))), (.ref o)] tz := fun tz kt => by
          show oS p e below T5 m 46 #[rv o, lv x1, .second, rv x2, lv x3, .second] [(.int (lcmpW x1 (0 : Int64))), (.ref o)] _
          refine XS.ifYes X5.here hx rfl (pc0 := 46) (pc' := 55) rfl (hb hby d1_46) rfl ((if0 _ _).trans (feq (fun q => hc46 ((lw_eq x1 (0 : Int64)).mp q))).2) (by decide) (by decide) ?_
          refine XS.lload X5.here hx rfl (hb hby d1_55) rfl ?_
          exact kt
        exact ⟨x3, T5, _, (by rw [if_neg hc46]), N5, X5, e5, fun tz kt => (pre8 _ kt)⟩)
  have hv57 : v57 = (if x1 = (0 : Int64) then (9223372036854775807 : Int64) else x3) := jv9
  have Ec10 : Exa Z h5 o "com/example/holdfast/holdfast/repository/Lease" := (Ec3.wr W5)
  have Fc11 : Fld Z h5 o "com/example/holdfast/holdfast/repository/Lease" "m_nExpiresAt" "J" w_m_nExpiresAt_o := ((F_m_nExpiresAt_o.other W2 (Or.inr (slot_ne (Or.inr (own_w hw 24 rfl)) (Or.inr (own_w hw 20 rfl)) (by decide) (t := .long) (t' := .long) (by decide) (by decide)))).other W5 (Or.inr (slot_ne (Or.inr (own_w hw 24 rfl)) (Or.inr (own_w hw 22 rfl)) (by decide) (t := .long) (t' := (.object "java/lang/String")) (by decide) (by decide))))
  obtain ⟨T12, h12, X12, e12, W12, st12⟩ := putF X9 hx hZ hown (host := "") (Or.inl (own_w hw 23 rfl)) Via.refl e9 Fc11 Ec10 (Or.inr ⟨(own_w hw 24 rfl), rfl, hnm⟩) (own_w hw 2 rfl) (ty := .long) (by decide) rfl rfl (g := (mkF m 57 #[rv o, lv x1, .second, rv x2, lv x3, .second] [(.long v57), (.ref o)])) rfl rfl (hb hby d1_57)
  have Fw12 : Fld Z h12 o "com/example/holdfast/holdfast/repository/Lease" "m_nExpiresAt" "J" (.long v57) := Fc11.same W12
  have N12 := Fr.snoc X12 N9 g_o
  have pre13 : ∀ tz, oS p e below T12 m 60 #[rv o, lv x1, .second, rv x2, lv x3, .second] [] tz → oS p e below T5 m 46 #[rv o, lv x1, .second, rv x2, lv x3, .second] [(.int (lcmpW x1 (0 : Int64))), (.ref o)] tz := fun tz kt => by
    show oS p e below T5 m 46 #[rv o, lv x1, .second, rv x2, lv x3, .second] [(.int (lcmpW x1 (0 : Int64))), (.ref o)] _
    refine st9 _ ?_
    show oS p e below T9 m 57 #[rv o, lv x1, .second, rv x2, lv x3, .second] [(.long v57), (.ref o)] _
    refine st12 _ ?_
    exact kt
  have Ec14 : Exa Z h12 o "com/example/holdfast/holdfast/repository/Lease" := (Ec10.wr W12)
  have KP15 : Keep h0 h12 [o] := ((((Keep.refl h0 [o]).wr W2 (Or.inl (List.mem_of_getElem? (i := 0) rfl))).wr W5 (Or.inl (List.mem_of_getElem? (i := 0) rfl))).wr W12 (Or.inl (List.mem_of_getElem? (i := 0) rfl)))
  have Fc16 : Fld Z h12 o "com/example/holdfast/holdfast/repository/Lease" "m_nSeconds" "J" (.long x1) := ((Fw2.other W5 (Or.inr (slot_ne (Or.inr (own_w hw 20 rfl)) (Or.inr (own_w hw 22 rfl)) (by decide) (t := .long) (t' := (.object "java/lang/String")) (by decide) (by decide)))).other W12 (Or.inr (slot_ne (Or.inr (own_w hw 20 rfl)) (Or.inr (own_w hw 24 rfl)) (by decide) (t := .long) (t' := .long) (by decide) (by decide))))
  have Fc17 : Fld Z h12 o "com/example/holdfast/holdfast/repository/Lease" "m_sToken" "Ljava/lang/String;" (.ref x2) := (Fw5.other W12 (Or.inr (slot_ne (Or.inr (own_w hw 22 rfl)) (Or.inr (own_w hw 24 rfl)) (by decide) (t := (.object "java/lang/String")) (t' := .long) (by decide) (by decide))))
  obtain ⟨fs, hr, hrun, hended, hW, hsame⟩ := X12.leave (v := none) (fun _ => rfl)
  refine ⟨_, _, pre0 _ (pre6 _ (pre13 _ ?_)), hrun, hended, _, _, rfl, ?_, ⟨_, rfl⟩, hW, hsame.mono (by decide) (by decide)⟩
  · show oS p e below T12 m 60 #[rv o, lv x1, .second, rv x2, lv x3, .second] [] _
    exact X12.returnOut hx Bd.returns (hb hby d1_60) hr
  · show Q1 Z o x1 x2 x3 w_m_nSeconds_o w_m_sToken_o w_m_nExpiresAt_o h0 n0 _ T12.heap _
    rw [e12]
    exact ⟨(by subst hv57; first | rfl | simp only []), N12, KP15, Ec14, Fc16, Fc17, (by subst hv57; exact Fw12)⟩
theorem d3_0 : decode prog_16_method_8_code 0 = .ok (.aload_n 0, 1) := by decide +kernel
theorem d3_1 : decode prog_16_method_8_code 1 = .ok (.getfield 32, 3) := by decide +kernel
theorem d3_4 : decode prog_16_method_8_code 4 = .ok (.lload_n 1, 1) := by decide +kernel
theorem d3_5 : decode prog_16_method_8_code 5 = .ok (.lcmp, 1) := by decide +kernel
theorem d3_6 : decode prog_16_method_8_code 6 = .ok (.ifCond .gt 7, 3) := by decide +kernel
theorem d3_9 : decode prog_16_method_8_code 9 = .ok (.iconst 1, 1) := by decide +kernel
theorem d3_10 : decode prog_16_method_8_code 10 = .ok (.goto 4, 3) := by decide +kernel
theorem d3_13 : decode prog_16_method_8_code 13 = .ok (.iconst 0, 1) := by decide +kernel
theorem d3_14 : decode prog_16_method_8_code 14 = .ok (.ireturn, 1) := by decide +kernel
theorem ef3 (m : MethodId) (o : Addr) (x1 : Int64) : entryFrame m #[(.ref o), (.long x1)] 3 = mkF m 0 #[rv o, lv x1, .second] [] := by first | (simp [entryFrame, mkF, argsToLocals, Value.category]; done) | rfl
def Q3 (Z : State) (o : Addr) (x1 : Int64) (w_m_nExpiresAt_o : Int64) (h0 : Heap) (n0 : Nat) (v : Option Value) (h : Heap) (L : List Loc) : Prop := v = some (.int (if x1 < w_m_nExpiresAt_o then (0 : Int32) else (1 : Int32))) ∧ Fr n0 L ∧ h = h0
set_option maxRecDepth 65536 in
set_option maxHeartbeats 40000000 in
theorem rm3 (l : Launch) (Z : State) (a0 : Array Value) (hw : ∀ d ∈ tables_1, d.before a0 Z = true) (ws : List Jvm.Cond) (o : Addr) (x1 : Int64) (w_m_nExpiresAt_o : Int64) (h0 : Heap) (n0 : Nat) (Z0 : n0 ≤ h0.size) (F_m_nExpiresAt_o : Fld Z h0 o "com/example/holdfast/holdfast/repository/Lease" "m_nExpiresAt" "J" (.long w_m_nExpiresAt_o)) :
    MetFree l (⟨"com/example/holdfast/holdfast/repository/Lease", "hasRunOut", "(J)Z"⟩ : MethodName) (head1 (Jvm.Cond.code (⟨"com/example/holdfast/holdfast/repository/Lease", "hasRunOut", "(J)Z"⟩ : MethodName) prog_16_method_8_code 3 (some .boolean) :: ws) ({ frames := 0, cells := 0, slots := 0, locals := 0 } : Room)) (fun a U => a = #[(.ref o), (.long x1)] ∧ Z.Warmed39 U.vm ∧ U.heap = h0) (fun _ _ _ _ _ => True) (fun _ U oc U' => ∃ v L, oc = .returned v ∧ Q3 Z o x1 w_m_nExpiresAt_o h0 n0 v U'.heap L ∧ FrameEnd U oc U' L ({ frames := 0, cells := 0, slots := 0, locals := 0 } : Room).cells ({ frames := 0, cells := 0, slots := 0, locals := 0 } : Room).slots) := by
  refine MetFree.of_bodySF (plainFor_of_name own_pn0) hisR ?_
  intro p e s m args below meth c s₁ Bd hml0 hP hK
  obtain ⟨rfl, hZ, hh⟩ := hP
  have hx := Bd.exec
  have hby := Bd.bytes
  have hml : c.maxLocals = 3 := hml0
  have hown : s.vm.findClass "com/example/holdfast/holdfast/repository/Lease" = some m.cls := findClass_of_methodNamed Bd.named
  have hnm := (name_of_methodNamed Bd.named Bd.method).1
  have X0 : Stand p l e ({ frames := 0, cells := 0, slots := 0, locals := 0 } : Room) s m #[(.ref o), (.long x1)] below meth c s₁ [] 0 0 := Stand.of_body Bd
  have e0 : s₁.heap = h0 := by rw [← hh, Bd.state]; rfl
  have N0 := Fr.nil n0
  have pre0 : ∀ t, Steps p.tables e below (s₁.setTop (mkF m 0 #[rv o, lv x1, .second] [])) t → Steps p.tables e below (s₁.setTop (entryFrame m #[(.ref o), (.long x1)] 3)) t := fun t k => castTop (ef3 m o x1) k
  obtain ⟨T1, X1, e1, st1⟩ := getF X0 hx hZ hown (host := "") (Or.inl (own_w hw 23 rfl)) Via.refl e0 F_m_nExpiresAt_o (g := (mkF m 1 #[rv o, lv x1, .second] [(.ref o)])) rfl rfl (hb hby d3_1)
  have pre2 : ∀ tz, oS p e below T1 m 6 #[rv o, lv x1, .second] [(.int (lcmpW w_m_nExpiresAt_o x1))] tz → oS p e below s₁ m 0 #[rv o, lv x1, .second] [] tz := fun tz kt => by
    show oS p e below s₁ m 0 #[rv o, lv x1, .second] [] _
    refine XS.aloadN X0.here hx rfl (hb hby d3_0) rfl rfl ?_
    show oS p e below s₁ m 1 #[rv o, lv x1, .second] [(.ref o)] _
    refine st1 _ ?_
    refine XS.lloadN X1.here hx rfl (hb hby d3_4) rfl ?_
    refine XS.lcmp X1.here hx rfl (hb hby d3_5) rfl ?_
    exact kt
  by_cases hc6 : x1 < w_m_nExpiresAt_o
  · have pre3 : ∀ tz, oS p e below T1 m 14 #[rv o, lv x1, .second] [(.int (0 : Int32))] tz → oS p e below T1 m 6 #[rv o, lv x1, .second] [(.int (lcmpW w_m_nExpiresAt_o x1))] tz := fun tz kt => by
      show oS p e below T1 m 6 #[rv o, lv x1, .second] [(.int (lcmpW w_m_nExpiresAt_o x1))] _
      refine XS.ifYes X1.here hx rfl (pc0 := 6) (pc' := 13) rfl (hb hby d3_6) rfl ((if0 _ _).trans (tlt ((lw_gt w_m_nExpiresAt_o x1).mpr hc6)).2.2.1) (by decide) (by decide) ?_
      refine XS.iconst X1.here hx rfl (hb hby d3_13) ?_
      exact kt
    obtain ⟨fs, hr, hrun, hended, hW, hsame⟩ := X1.leave (v := some (.int (0 : Int32))) (fun h => by rw [Bd.returns] at h; cases h)
    refine ⟨_, _, pre0 _ (pre2 _ (pre3 _ ?_)), hrun, hended, _, _, rfl, ?_, ⟨_, rfl⟩, hW, hsame.mono (by decide) (by decide)⟩
    · show oS p e below T1 m 14 #[rv o, lv x1, .second] [(.int (0 : Int32))] _
      exact retN X1 hx (t := .boolean) Bd.returns (by simp) (hb hby d3_14) hr
    · show Q3 Z o x1 w_m_nExpiresAt_o h0 n0 _ T1.heap _
      rw [e1]
      exact ⟨(by first | rfl | simp only [if_pos hc6]), N0, rfl⟩
  · have pre4 : ∀ tz, oS p e below T1 m 14 #[rv o, lv x1, .second] [(.int (1 : Int32))] tz → oS p e below T1 m 6 #[rv o, lv x1, .second] [(.int (lcmpW w_m_nExpiresAt_o x1))] tz := fun tz kt => by
      show oS p e below T1 m 6 #[rv o, lv x1, .second] [(.int (lcmpW w_m_nExpiresAt_o x1))] _
      refine XS.ifNo X1.here hx rfl (hb hby d3_6) rfl ((if0 _ _).trans (flt (fun q => hc6 ((lw_gt w_m_nExpiresAt_o x1).mp q))).2.2.1) ?_
      refine XS.iconst X1.here hx rfl (hb hby d3_9) ?_
      refine XS.goto X1.here hx rfl (pc0 := 10) (pc' := 14) rfl (hb hby d3_10) (by decide) (by decide) ?_
      exact kt
    obtain ⟨fs, hr, hrun, hended, hW, hsame⟩ := X1.leave (v := some (.int (1 : Int32))) (fun h => by rw [Bd.returns] at h; cases h)
    refine ⟨_, _, pre0 _ (pre2 _ (pre4 _ ?_)), hrun, hended, _, _, rfl, ?_, ⟨_, rfl⟩, hW, hsame.mono (by decide) (by decide)⟩
    · show oS p e below T1 m 14 #[rv o, lv x1, .second] [(.int (1 : Int32))] _
      exact retN X1 hx (t := .boolean) Bd.returns (by simp) (hb hby d3_14) hr
    · show Q3 Z o x1 w_m_nExpiresAt_o h0 n0 _ T1.heap _
      rw [e1]
      exact ⟨(by first | rfl | simp only [if_neg hc6]), N0, rfl⟩
theorem own_pd0 : parseMethodDescriptor "(JLjava/lang/String;J)V" = some ⟨[.long, (.object "java/lang/String"), .long], none⟩ := by decide +kernel
theorem own_pd1 : parseMethodDescriptor "(J)Z" = some ⟨[.long], some .boolean⟩ := by decide +kernel
theorem own_pn1 : plainName "com/example/holdfast/holdfast/repository/LeaseHasRunOutPinLaw" = true := by first | (simp [plainName, overriddenIn]; done) | decide +kernel
theorem ef0 (m : MethodId) (x1 : Int64) (x2 : Int64) (x3 : Int64) (x4 : Int32) : entryFrame m #[(.long x1), (.long x2), (.long x3), (.int x4)] maxLocals = mkF m 0 #[lv x1, .second, lv x2, .second, lv x3, .second, iv x4, .unset, .unset, .unset, .unset, .unset, .unset, .unset] [] := by first | (simp [entryFrame, mkF, argsToLocals, Value.category, maxLocals]; done) | rfl
def Q0 (Z : State) (x1 : Int64) (x2 : Int64) (x3 : Int64) (x4 : Int32) (h0 : Heap) (n0 : Nat) (v : Option Value) (h : Heap) (L : List Loc) : Prop := v = some (.int (1 : Int32)) ∧ Fr n0 L
set_option maxRecDepth 65536 in
set_option maxHeartbeats 40000000 in
theorem rm0 (l : Launch) (Z : State) (a0 : Array Value) (hw : ∀ d ∈ tables_1, d.before a0 Z = true) (ws : List Jvm.Cond) (x1 : Int64) (x2 : Int64) (x3 : Int64) (x4 : Int32) (h0 : Heap) (n0 : Nat) (Z0 : n0 ≤ h0.size) :
    MetFree l x (head1 (Jvm.Cond.code x code maxLocals ret :: ws) room_1) (fun a U => a = #[(.long x1), (.long x2), (.long x3), (.int x4)] ∧ Z.Warmed39 U.vm ∧ U.heap = h0) (fun _ _ _ _ _ => True) (fun _ U oc U' => ∃ v L, oc = .returned v ∧ Q0 Z x1 x2 x3 x4 h0 n0 v U'.heap L ∧ ReturnedEndW U oc U' L room_1.cells room_1.slots) := by
  refine MetFree.of_bodySF (plainFor_of_name own_pn1) hisR ?_
  intro p e s m args below meth c s₁ Bd hml0 hP hK
  obtain ⟨rfl, hZ, hh⟩ := hP
  have hx := Bd.exec
  have hby := Bd.bytes
  have hml : c.maxLocals = 14 := hml0
  have hown : s.vm.findClass "com/example/holdfast/holdfast/repository/LeaseHasRunOutPinLaw" = some m.cls := findClass_of_methodNamed Bd.named
  have hnm := (name_of_methodNamed Bd.named Bd.method).1
  have X0 : Stand p l e room_1 s m #[(.long x1), (.long x2), (.long x3), (.int x4)] below meth c s₁ [] 0 0 := Stand.of_body Bd
  have e0 : s₁.heap = h0 := by rw [← hh, Bd.state]; rfl
  have N0 := Fr.nil n0
  have pre0 : ∀ t, Steps p.tables e below (s₁.setTop (mkF m 0 #[lv x1, .second, lv x2, .second, lv x3, .second, iv x4, .unset, .unset, .unset, .unset, .unset, .unset, .unset] [])) t → Steps p.tables e below (s₁.setTop (entryFrame m #[(.long x1), (.long x2), (.long x3), (.int x4)] maxLocals)) t := fun t k => castTop (ef0 m x1 x2 x3 x4) k
  have pre1 : ∀ tz, oS p e below s₁ m 4 #[lv x1, .second, lv x2, .second, lv x3, .second, iv x4, .unset, .unset, .unset, .unset, .unset, .unset, .unset] [(.int (x4 &&& (1 : Int32)))] tz → oS p e below s₁ m 0 #[lv x1, .second, lv x2, .second, lv x3, .second, iv x4, .unset, .unset, .unset, .unset, .unset, .unset, .unset] [] tz := fun tz kt => by
    show oS p e below s₁ m 0 #[lv x1, .second, lv x2, .second, lv x3, .second, iv x4, .unset, .unset, .unset, .unset, .unset, .unset, .unset] [] _
    refine XS.iload X0.here hx rfl (hb hby at_0) rfl ?_
    refine XS.iconst X0.here hx rfl (hb hby at_2) ?_
    refine XS.iand X0.here hx rfl (hb hby at_3) rfl ?_
    exact kt
  obtain ⟨v16, T4, Lj4, jv4, N4, X4, e4, st4⟩ := own_join (α := Int64) X0 N0 e0 (mkF m 4 #[lv x1, .second, lv x2, .second, lv x3, .second, iv x4, .unset, .unset, .unset, .unset, .unset, .unset, .unset] [(.int (x4 &&& (1 : Int32)))]) (fun v => (mkF m 16 #[lv x1, .second, lv x2, .second, lv x3, .second, iv x4, .unset, .unset, .unset, .unset, .unset, .unset, .unset] [(.long v)])) (fun v => v = (if (x4 &&& (1 : Int32)) = (0 : Int32) then (x1 &&& (4294967295 : Int64)) else (0 : Int64))) (by
      by_cases hc4 : (x4 &&& (1 : Int32)) = (0 : Int32)
      · have pre2 : ∀ tz, oS p e below s₁ m 16 #[lv x1, .second, lv x2, .second, lv x3, .second, iv x4, .unset, .unset, .unset, .unset, .unset, .unset, .unset] [(.long (x1 &&& (4294967295 : Int64)))] tz → oS p e below s₁ m 4 #[lv x1, .second, lv x2, .second, lv x3, .second, iv x4, .unset, .unset, .unset, .unset, .unset, .unset, .unset] [(.int (x4 &&& (1 : Int32)))] tz := fun tz kt => by
          show oS p e below s₁ m 4 #[lv x1, .second, lv x2, .second, lv x3, .second, iv x4, .unset, .unset, .unset, .unset, .unset, .unset, .unset] [(.int (x4 &&& (1 : Int32)))] _
          refine XS.ifYes X0.here hx rfl (pc0 := 4) (pc' := 11) rfl (hb hby at_4) rfl ((if0 _ _).trans (teq hc4).1) (by decide) (by decide) ?_
          refine XS.lloadN X0.here hx rfl (hb hby at_11) rfl ?_
          refine X0.ldc2Long hx hown (mvT hZ (own_w hw 0 rfl)) (g := (mkF m 12 #[lv x1, .second, lv x2, .second, lv x3, .second, iv x4, .unset, .unset, .unset, .unset, .unset, .unset, .unset] [(.long x1)])) rfl (hb hby at_12) _ ?_
          refine XS.land X0.here hx rfl (hb hby at_15) rfl ?_
          exact kt
        exact ⟨(x1 &&& (4294967295 : Int64)), s₁, _, (by rw [if_pos hc4]), N0, X0, e0, fun tz kt => (pre2 _ kt)⟩
      · have pre3 : ∀ tz, oS p e below s₁ m 16 #[lv x1, .second, lv x2, .second, lv x3, .second, iv x4, .unset, .unset, .unset, .unset, .unset, .unset, .unset] [(.long (0 : Int64))] tz → oS p e below s₁ m 4 #[lv x1, .second, lv x2, .second, lv x3, .second, iv x4, .unset, .unset, .unset, .unset, .unset, .unset, .unset] [(.int (x4 &&& (1 : Int32)))] tz := fun tz kt => by
          show oS p e below s₁ m 4 #[lv x1, .second, lv x2, .second, lv x3, .second, iv x4, .unset, .unset, .unset, .unset, .unset, .unset, .unset] [(.int (x4 &&& (1 : Int32)))] _
          refine XS.ifNo X0.here hx rfl (hb hby at_4) rfl ((if0 _ _).trans (feq hc4).1) ?_
          refine XS.lconst X0.here hx rfl (hb hby at_7) ?_
          refine XS.goto X0.here hx rfl (pc0 := 8) (pc' := 16) rfl (hb hby at_8) (by decide) (by decide) ?_
          exact kt
        exact ⟨(0 : Int64), s₁, _, (by rw [if_neg hc4]), N0, X0, e0, fun tz kt => (pre3 _ kt)⟩)
  have hv16 : v16 = (if (x4 &&& (1 : Int32)) = (0 : Int32) then (x1 &&& (4294967295 : Int64)) else (0 : Int64)) := jv4
  obtain ⟨y24, hy24⟩ : ∃ z, z = ((x4 >>> ((1 : Int32) &&& 31)) &&& (3 : Int32)) := ⟨_, rfl⟩
  have pre5 : ∀ tz, oS p e below T4 m 28 #[lv x1, .second, lv x2, .second, lv x3, .second, iv x4, lv v16, .second, iv y24, .unset, .unset, .unset, .unset] [(.int y24)] tz → oS p e below s₁ m 4 #[lv x1, .second, lv x2, .second, lv x3, .second, iv x4, .unset, .unset, .unset, .unset, .unset, .unset, .unset] [(.int (x4 &&& (1 : Int32)))] tz := fun tz kt => by
    show oS p e below s₁ m 4 #[lv x1, .second, lv x2, .second, lv x3, .second, iv x4, .unset, .unset, .unset, .unset, .unset, .unset, .unset] [(.int (x4 &&& (1 : Int32)))] _
    refine st4 _ ?_
    refine XS.lstore X4.here hx rfl (hb hby at_16) rfl (l' := #[lv x1, .second, lv x2, .second, lv x3, .second, iv x4, lv v16, .second, .unset, .unset, .unset, .unset, .unset]) rfl ?_
    refine XS.iload X4.here hx rfl (hb hby at_18) rfl ?_
    refine XS.iconst X4.here hx rfl (hb hby at_20) ?_
    show oS p e below T4 m 21 #[lv x1, .second, lv x2, .second, lv x3, .second, iv x4, lv v16, .second, .unset, .unset, .unset, .unset, .unset] [(.int (1 : Int32)), (.int x4)] _
    refine XS.ishr X4.here hx rfl (hb hby at_21) rfl ?_
    refine XS.iconst X4.here hx rfl (hb hby at_22) ?_
    refine XS.iand X4.here hx rfl (hb hby at_23) rfl ?_
    refine XS.istore X4.here hx rfl (hb hby at_24) rfl (l' := #[lv x1, .second, lv x2, .second, lv x3, .second, iv x4, lv v16, .second, iv y24, .unset, .unset, .unset, .unset]) (by rw [hy24]; rfl) ?_
    show oS p e below T4 m 26 #[lv x1, .second, lv x2, .second, lv x3, .second, iv x4, lv v16, .second, iv y24, .unset, .unset, .unset, .unset] [] _
    refine XS.iload X4.here hx rfl (hb hby at_26) rfl ?_
    exact kt
  obtain ⟨v69, T12, Lj12, jv12, N12, X12, e12, st12⟩ := own_join (α := Int64) X4 N4 e4 (mkF m 28 #[lv x1, .second, lv x2, .second, lv x3, .second, iv x4, lv v16, .second, iv y24, .unset, .unset, .unset, .unset] [(.int y24)]) (fun v => (mkF m 69 #[lv x1, .second, lv x2, .second, lv x3, .second, iv x4, lv v16, .second, iv y24, lv v, .second, .unset, .unset] [])) (fun v => v = (if y24 = (0 : Int32) then x3 else (if y24 = (1 : Int32) then (x2 - (1 : Int64)) else (if y24 = (2 : Int32) then x2 else (x2 + (1 : Int64)))))) (by
      by_cases hc28 : y24 = (0 : Int32)
      · have pre6 : ∀ tz, oS p e below T4 m 69 #[lv x1, .second, lv x2, .second, lv x3, .second, iv x4, lv v16, .second, iv y24, lv x3, .second, .unset, .unset] [] tz → oS p e below T4 m 28 #[lv x1, .second, lv x2, .second, lv x3, .second, iv x4, lv v16, .second, iv y24, .unset, .unset, .unset, .unset] [(.int y24)] tz := fun tz kt => by
          show oS p e below T4 m 28 #[lv x1, .second, lv x2, .second, lv x3, .second, iv x4, lv v16, .second, iv y24, .unset, .unset, .unset, .unset] [(.int y24)] _
          refine XS.ifNo X4.here hx rfl (hb hby at_28) rfl ((if0 _ _).trans (teq hc28).2) ?_
          refine XS.lload X4.here hx rfl (hb hby at_31) rfl ?_
          refine XS.lstore X4.here hx rfl (hb hby at_33) rfl (l' := #[lv x1, .second, lv x2, .second, lv x3, .second, iv x4, lv v16, .second, iv y24, lv x3, .second, .unset, .unset]) rfl ?_
          refine XS.goto X4.here hx rfl (pc0 := 35) (pc' := 69) rfl (hb hby at_35) (by decide) (by decide) ?_
          exact kt
        exact ⟨x3, T4, _, (by rw [if_pos hc28]), N4, X4, e4, fun tz kt => (pre6 _ kt)⟩
      · have pre7 : ∀ tz, oS p e below T4 m 41 #[lv x1, .second, lv x2, .second, lv x3, .second, iv x4, lv v16, .second, iv y24, .unset, .unset, .unset, .unset] [(.int (1 : Int32)), (.int y24)] tz → oS p e below T4 m 28 #[lv x1, .second, lv x2, .second, lv x3, .second, iv x4, lv v16, .second, iv y24, .unset, .unset, .unset, .unset] [(.int y24)] tz := fun tz kt => by
          show oS p e below T4 m 28 #[lv x1, .second, lv x2, .second, lv x3, .second, iv x4, lv v16, .second, iv y24, .unset, .unset, .unset, .unset] [(.int y24)] _
          refine XS.ifYes X4.here hx rfl (pc0 := 28) (pc' := 38) rfl (hb hby at_28) rfl ((if0 _ _).trans (feq hc28).2) (by decide) (by decide) ?_
          refine XS.iload X4.here hx rfl (hb hby at_38) rfl ?_
          refine XS.iconst X4.here hx rfl (hb hby at_40) ?_
          exact kt
        by_cases hc41 : y24 = (1 : Int32)
        · have pre8 : ∀ tz, oS p e below T4 m 69 #[lv x1, .second, lv x2, .second, lv x3, .second, iv x4, lv v16, .second, iv y24, lv (x2 - (1 : Int64)), .second, .unset, .unset] [] tz → oS p e below T4 m 41 #[lv x1, .second, lv x2, .second, lv x3, .second, iv x4, lv v16, .second, iv y24, .unset, .unset, .unset, .unset] [(.int (1 : Int32)), (.int y24)] tz := fun tz kt => by
            show oS p e below T4 m 41 #[lv x1, .second, lv x2, .second, lv x3, .second, iv x4, lv v16, .second, iv y24, .unset, .unset, .unset, .unset] [(.int (1 : Int32)), (.int y24)] _
            refine XS.icmpNo X4.here hx rfl (hb hby at_41) rfl (teq hc41).2 ?_
            refine XS.lloadN X4.here hx rfl (hb hby at_44) rfl ?_
            refine XS.lconst X4.here hx rfl (hb hby at_45) ?_
            refine XS.lsub X4.here hx rfl (hb hby at_46) rfl ?_
            show oS p e below T4 m 47 #[lv x1, .second, lv x2, .second, lv x3, .second, iv x4, lv v16, .second, iv y24, .unset, .unset, .unset, .unset] [(.long (x2 - (1 : Int64)))] _
            refine XS.lstore X4.here hx rfl (hb hby at_47) rfl (l' := #[lv x1, .second, lv x2, .second, lv x3, .second, iv x4, lv v16, .second, iv y24, lv (x2 - (1 : Int64)), .second, .unset, .unset]) rfl ?_
            refine XS.goto X4.here hx rfl (pc0 := 49) (pc' := 69) rfl (hb hby at_49) (by decide) (by decide) ?_
            exact kt
          exact ⟨(x2 - (1 : Int64)), T4, _, (by rw [if_neg hc28, if_pos hc41]), N4, X4, e4, fun tz kt => (pre7 _ (pre8 _ kt))⟩
        · have pre9 : ∀ tz, oS p e below T4 m 55 #[lv x1, .second, lv x2, .second, lv x3, .second, iv x4, lv v16, .second, iv y24, .unset, .unset, .unset, .unset] [(.int (2 : Int32)), (.int y24)] tz → oS p e below T4 m 41 #[lv x1, .second, lv x2, .second, lv x3, .second, iv x4, lv v16, .second, iv y24, .unset, .unset, .unset, .unset] [(.int (1 : Int32)), (.int y24)] tz := fun tz kt => by
            show oS p e below T4 m 41 #[lv x1, .second, lv x2, .second, lv x3, .second, iv x4, lv v16, .second, iv y24, .unset, .unset, .unset, .unset] [(.int (1 : Int32)), (.int y24)] _
            refine XS.icmpYes X4.here hx rfl (pc0 := 41) (pc' := 52) rfl (hb hby at_41) rfl (feq hc41).2 (by decide) (by decide) ?_
            refine XS.iload X4.here hx rfl (hb hby at_52) rfl ?_
            refine XS.iconst X4.here hx rfl (hb hby at_54) ?_
            exact kt
          by_cases hc55 : y24 = (2 : Int32)
          · have pre10 : ∀ tz, oS p e below T4 m 69 #[lv x1, .second, lv x2, .second, lv x3, .second, iv x4, lv v16, .second, iv y24, lv x2, .second, .unset, .unset] [] tz → oS p e below T4 m 55 #[lv x1, .second, lv x2, .second, lv x3, .second, iv x4, lv v16, .second, iv y24, .unset, .unset, .unset, .unset] [(.int (2 : Int32)), (.int y24)] tz := fun tz kt => by
              show oS p e below T4 m 55 #[lv x1, .second, lv x2, .second, lv x3, .second, iv x4, lv v16, .second, iv y24, .unset, .unset, .unset, .unset] [(.int (2 : Int32)), (.int y24)] _
              refine XS.icmpNo X4.here hx rfl (hb hby at_55) rfl (teq hc55).2 ?_
              refine XS.lloadN X4.here hx rfl (hb hby at_58) rfl ?_
              refine XS.lstore X4.here hx rfl (hb hby at_59) rfl (l' := #[lv x1, .second, lv x2, .second, lv x3, .second, iv x4, lv v16, .second, iv y24, lv x2, .second, .unset, .unset]) rfl ?_
              refine XS.goto X4.here hx rfl (pc0 := 61) (pc' := 69) rfl (hb hby at_61) (by decide) (by decide) ?_
              exact kt
            exact ⟨x2, T4, _, (by rw [if_neg hc28, if_neg hc41, if_pos hc55]), N4, X4, e4, fun tz kt => (pre7 _ (pre9 _ (pre10 _ kt)))⟩
          · have pre11 : ∀ tz, oS p e below T4 m 69 #[lv x1, .second, lv x2, .second, lv x3, .second, iv x4, lv v16, .second, iv y24, lv (x2 + (1 : Int64)), .second, .unset, .unset] [] tz → oS p e below T4 m 55 #[lv x1, .second, lv x2, .second, lv x3, .second, iv x4, lv v16, .second, iv y24, .unset, .unset, .unset, .unset] [(.int (2 : Int32)), (.int y24)] tz := fun tz kt => by
              show oS p e below T4 m 55 #[lv x1, .second, lv x2, .second, lv x3, .second, iv x4, lv v16, .second, iv y24, .unset, .unset, .unset, .unset] [(.int (2 : Int32)), (.int y24)] _
              refine XS.icmpYes X4.here hx rfl (pc0 := 55) (pc' := 64) rfl (hb hby at_55) rfl (feq hc55).2 (by decide) (by decide) ?_
              refine XS.lloadN X4.here hx rfl (hb hby at_64) rfl ?_
              refine XS.lconst X4.here hx rfl (hb hby at_65) ?_
              refine XS.ladd X4.here hx rfl (hb hby at_66) rfl ?_
              show oS p e below T4 m 67 #[lv x1, .second, lv x2, .second, lv x3, .second, iv x4, lv v16, .second, iv y24, .unset, .unset, .unset, .unset] [(.long (x2 + (1 : Int64)))] _
              refine XS.lstore X4.here hx rfl (hb hby at_67) rfl (l' := #[lv x1, .second, lv x2, .second, lv x3, .second, iv x4, lv v16, .second, iv y24, lv (x2 + (1 : Int64)), .second, .unset, .unset]) rfl ?_
              exact kt
            exact ⟨(x2 + (1 : Int64)), T4, _, (by rw [if_neg hc28, if_neg hc41, if_neg hc55]), N4, X4, e4, fun tz kt => (pre7 _ (pre9 _ (pre11 _ kt)))⟩)
  have hv69 : v69 = (if y24 = (0 : Int32) then x3 else (if y24 = (1 : Int32) then (x2 - (1 : Int64)) else (if y24 = (2 : Int32) then x2 else (x2 + (1 : Int64))))) := jv12
  obtain ⟨T13, h13, X13, e13, E13, A13, D13, -, st13⟩ := newO X12 hx hZ hown (own_w hw 1 rfl) (own_w hw 2 rfl) (own_w hw 3 rfl) e12 (g := (mkF m 69 #[lv x1, .second, lv x2, .second, lv x3, .second, iv x4, lv v16, .second, iv y24, lv v69, .second, .unset, .unset] [])) rfl (hb hby at_69) (by decide) (by decide)
  obtain ⟨b13, g13⟩ : ∃ z, z = h0.size := ⟨_, rfl⟩
  rw [← g13] at A13 D13 st13
  have g_b13 : n0 ≤ b13 := Nat.le_trans Z0 (Nat.le_of_eq g13.symm)
  have F_m_nSeconds_b13 : Fld Z h13 b13 "com/example/holdfast/holdfast/repository/Lease" "m_nSeconds" "J" (.long (0 : Int64)) := D13 (Or.inr (own_w hw 20 rfl)) (ty := .long) (by decide)
  have F_m_sToken_b13 : Fld Z h13 b13 "com/example/holdfast/holdfast/repository/Lease" "m_sToken" "Ljava/lang/String;" .null := D13 (Or.inr (own_w hw 22 rfl)) (ty := (.object "java/lang/String")) (by decide)
  have F_m_nExpiresAt_b13 : Fld Z h13 b13 "com/example/holdfast/holdfast/repository/Lease" "m_nExpiresAt" "J" (.long (0 : Int64)) := D13 (Or.inr (own_w hw 24 rfl)) (ty := .long) (by decide)
  have Zc14 : n0 ≤ h13.size := (Nat.le_trans Z0 E13.1)
  have pre15 : ∀ tz, oS p e below T13 m 75 #[lv x1, .second, lv x2, .second, lv x3, .second, iv x4, lv v16, .second, iv y24, lv v69, .second, .unset, .unset] [(.long v16), (.ref b13), (.ref b13)] tz → oS p e below T4 m 28 #[lv x1, .second, lv x2, .second, lv x3, .second, iv x4, lv v16, .second, iv y24, .unset, .unset, .unset, .unset] [(.int y24)] tz := fun tz kt => by
    show oS p e below T4 m 28 #[lv x1, .second, lv x2, .second, lv x3, .second, iv x4, lv v16, .second, iv y24, .unset, .unset, .unset, .unset] [(.int y24)] _
    refine st12 _ ?_
    show oS p e below T12 m 69 #[lv x1, .second, lv x2, .second, lv x3, .second, iv x4, lv v16, .second, iv y24, lv v69, .second, .unset, .unset] [] _
    refine st13 _ ?_
    refine XS.dup X13.here hx rfl (hb hby at_72) rfl rfl ?_
    refine XS.lload X13.here hx rfl (hb hby at_73) rfl ?_
    exact kt
  have wS16 : ∀ a ∈ Bundle.stringAtoms, a.before a0 Z = true := fun a ha => by
    simp only [Bundle.stringAtoms, List.mem_cons, List.not_mem_nil, or_false] at ha
    rcases ha with rfl | rfl | rfl | rfl | rfl | rfl | rfl
    · exact (own_w hw 5 rfl)
    · exact (own_w hw 6 rfl)
    · exact (own_w hw 7 rfl)
    · exact (own_w hw 8 rfl)
    · exact (own_w hw 9 rfl)
    · exact (own_w hw 10 rfl)
    · exact (own_w hw 11 rfl)
  obtain ⟨sa16, T16, h16, k16, X16, e16, E16, hS16, hk16, hZ, hown, st16⟩ := ldcS (s := s) (vm0 := s.vm) X13 hx hZ hown (own_w hw 4 rfl) wS16 e13 (k0 := 0) (State.WarmedH.since (State.WarmedH.refl s) 0) (Nat.zero_le _) (g := (mkF m 75 #[lv x1, .second, lv x2, .second, lv x3, .second, iv x4, lv v16, .second, iv y24, lv v69, .second, .unset, .unset] [(.long v16), (.ref b13), (.ref b13)])) rfl (hb hby at_75) (n := 4) (by decide) (by decide) (by decide) (by decide)
  have hp17_k1 : ¬ (v16 < (0 : Int64)) := (own_sec2 _ _ _ hv16).1
  have hp17_k2 : ¬ ((4294967295 : Int64) < v16) := (own_sec2 _ _ _ hv16).2
  have Ec18 : Exa Z h16 b13 "com/example/holdfast/holdfast/repository/Lease" := (A13.ext E16)
  have Fc19 : Fld Z h16 b13 "com/example/holdfast/holdfast/repository/Lease" "m_nSeconds" "J" (.long (0 : Int64)) := (F_m_nSeconds_b13.ext E16)
  have Fc20 : Fld Z h16 b13 "com/example/holdfast/holdfast/repository/Lease" "m_sToken" "Ljava/lang/String;" .null := (F_m_sToken_b13.ext E16)
  have Fc21 : Fld Z h16 b13 "com/example/holdfast/holdfast/repository/Lease" "m_nExpiresAt" "J" (.long (0 : Int64)) := (F_m_nExpiresAt_b13.ext E16)
  have Zc22 : n0 ≤ h16.size := (Nat.le_trans Zc14 E16.1)
  obtain ⟨_, _, ⟨T17, Lw17, kw17, nw17⟩, -, X17, ⟨Lc17, hQ17, l17, y17, z17⟩, st17⟩ := X16.specialBack hx (y := (⟨"com/example/holdfast/holdfast/repository/Lease", "<init>", "(JLjava/lang/String;J)V"⟩ : MethodName)) rfl hown (mvT hZ (own_w hw 12 rfl)) (mvT hZ (own_w hw 13 rfl)) (mvT hZ (own_w hw 14 rfl)) (by decide) (backOf (W := 1) (rm1 l Z a0 hw [] b13 v16 sa16 x2 (.long (0 : Int64)) .null (.long (0 : Int64)) h16 n0 Zc22 hp17_k1 hp17_k2 Ec18 Fc19 g_b13 Fc20 Fc21) hZ (own_w hw 14 rfl) (own_w hw 3 rfl) (by decide) (by decide)) (g := (mkF m 78 #[lv x1, .second, lv x2, .second, lv x3, .second, iv x4, lv v16, .second, iv y24, lv v69, .second, .unset, .unset] [(.long x2), (.ref sa16), (.long v16), (.ref b13), (.ref b13)])) rfl (by rw [hml]; rfl) (Steps.refl _) (a := b13) (argsL := [(.long v16), (.ref sa16), (.long x2)]) (rest := [(.ref b13)]) (lenOf own_pd0 rfl) rfl (by show 2 * 0 + _ ≤ _; exact Nat.le_of_eq rfl) (hb hby at_78) (fun _ _ => ⟨rfl, e16, (by decide : 3 + 0 ≤ _), (by decide : 11 + 0 ≤ _)⟩)
  dsimp only [Pt.U, Pt.locs, Pt.cells, Pt.slots] at X17 l17 y17 z17 st17 hQ17
  subst l17 y17 z17
  obtain ⟨rfl, Nq17, K17, pf17_0, pf17_1, pf17_2, pf17_3⟩ := hQ17
  have N17 := Fr.app N12 Nq17
  have Zc24 : n0 ≤ T17.heap.size := (Nat.le_trans Zc22 K17.1)
  obtain ⟨cq23, kq23, q23a, q23b, q23c⟩ := isOf hZ rfl pf17_0
  obtain ⟨_, _, ⟨T23, Lw23, kw23, nw23⟩, -, X23, ⟨Lc23, hQ23, l23, y23, z23⟩, st23⟩ := X17.virtualBack hx (y := (⟨"com/example/holdfast/holdfast/repository/Lease", "hasRunOut", "(J)Z"⟩ : MethodName)) (z := (⟨"com/example/holdfast/holdfast/repository/Lease", "hasRunOut", "(J)Z"⟩ : MethodName)) hown (mvT hZ (own_w hw 25 rfl)) (mvT hZ (own_w hw 26 rfl)) (notFace_of_selects (args := #[]) (mvT hZ (own_w hw 28 rfl))) (mvT hZ (own_w hw 28 rfl)) (mvT hZ (own_w hw 27 rfl)) (by decide) (backOf (W := 0) (rm3 l Z a0 hw [] b13 v69 (if v16 = (0 : Int64) then (9223372036854775807 : Int64) else x2) T17.heap n0 Zc24 pf17_3) hZ (own_w hw 29 rfl) (own_w hw 3 rfl) (by decide) (by decide)) q23a q23c (g := (mkF m 87 #[lv x1, .second, lv x2, .second, lv x3, .second, iv x4, lv v16, .second, iv y24, lv v69, .second, rv b13, .unset] [(.long v69), (.ref b13)])) rfl (by rw [hml]; rfl) (Steps.refl _) (argsL := [(.long v69)]) (rest := []) (lenOf own_pd1 rfl) rfl (by show 2 * 0 + _ ≤ _; exact Nat.le_of_eq rfl) (hb hby at_87) (fun _ _ => ⟨rfl, rfl, (by decide : 3 + 0 ≤ _), (by decide : 11 + 0 ≤ _)⟩)
  dsimp only [Pt.U, Pt.locs, Pt.cells, Pt.slots] at X23 l23 y23 z23 st23 hQ23
  subst l23 y23 z23
  obtain ⟨rfl, Nq23, eh23⟩ := hQ23
  have N23 := Fr.app N17 Nq23
  obtain ⟨y90, hy90⟩ : ∃ z, z = (if v69 < (if v16 = (0 : Int64) then (9223372036854775807 : Int64) else x2) then (0 : Int32) else (1 : Int32)) := ⟨_, rfl⟩
  have pre25 : ∀ tz, oS p e below T23 m 96 #[lv x1, .second, lv x2, .second, lv x3, .second, iv x4, lv v16, .second, iv y24, lv v69, .second, rv b13, iv y90] [(.int (lcmpW v16 (0 : Int64)))] tz → oS p e below T13 m 75 #[lv x1, .second, lv x2, .second, lv x3, .second, iv x4, lv v16, .second, iv y24, lv v69, .second, .unset, .unset] [(.long v16), (.ref b13), (.ref b13)] tz := fun tz kt => by
    show oS p e below T13 m 75 #[lv x1, .second, lv x2, .second, lv x3, .second, iv x4, lv v16, .second, iv y24, lv v69, .second, .unset, .unset] [(.long v16), (.ref b13), (.ref b13)] _
    refine st16 _ ?_
    refine XS.lloadN X16.here hx rfl (hb hby at_77) rfl ?_
    show oS p e below T16 m 78 #[lv x1, .second, lv x2, .second, lv x3, .second, iv x4, lv v16, .second, iv y24, lv v69, .second, .unset, .unset] [(.long x2), (.ref sa16), (.long v16), (.ref b13), (.ref b13)] _
    refine st17.trans ?_
    refine XS.astore X17.here hx rfl (hb hby at_81) rfl rfl (l' := #[lv x1, .second, lv x2, .second, lv x3, .second, iv x4, lv v16, .second, iv y24, lv v69, .second, rv b13, .unset]) rfl ?_
    refine XS.aload X17.here hx rfl (hb hby at_83) rfl rfl ?_
    refine XS.lload X17.here hx rfl (hb hby at_85) rfl ?_
    show oS p e below T17 m 87 #[lv x1, .second, lv x2, .second, lv x3, .second, iv x4, lv v16, .second, iv y24, lv v69, .second, rv b13, .unset] [(.long v69), (.ref b13)] _
    refine st23.trans ?_
    refine XS.istore X23.here hx rfl (hb hby at_90) rfl (l' := #[lv x1, .second, lv x2, .second, lv x3, .second, iv x4, lv v16, .second, iv y24, lv v69, .second, rv b13, iv y90]) (by rw [hy90]; rfl) ?_
    refine XS.lload X23.here hx rfl (hb hby at_92) rfl ?_
    refine XS.lconst X23.here hx rfl (hb hby at_94) ?_
    show oS p e below T23 m 95 #[lv x1, .second, lv x2, .second, lv x3, .second, iv x4, lv v16, .second, iv y24, lv v69, .second, rv b13, iv y90] [(.long (0 : Int64)), (.long v16)] _
    refine XS.lcmp X23.here hx rfl (hb hby at_95) rfl ?_
    exact kt
  by_cases hc96 : v16 = (0 : Int64)
  · have pre26 : ∀ tz, oS p e below T23 m 105 #[lv x1, .second, lv x2, .second, lv x3, .second, iv x4, lv v16, .second, iv y24, lv v69, .second, rv b13, iv y90] [(.int (lcmpW v69 (9223372036854775807 : Int64)))] tz → oS p e below T23 m 96 #[lv x1, .second, lv x2, .second, lv x3, .second, iv x4, lv v16, .second, iv y24, lv v69, .second, rv b13, iv y90] [(.int (lcmpW v16 (0 : Int64)))] tz := fun tz kt => by
      show oS p e below T23 m 96 #[lv x1, .second, lv x2, .second, lv x3, .second, iv x4, lv v16, .second, iv y24, lv v69, .second, rv b13, iv y90] [(.int (lcmpW v16 (0 : Int64)))] _
      refine XS.ifNo X23.here hx rfl (hb hby at_96) rfl ((if0 _ _).trans (teq ((lw_eq v16 (0 : Int64)).mpr hc96)).2) ?_
      refine XS.lload X23.here hx rfl (hb hby at_99) rfl ?_
      refine X23.ldc2Long hx hown (mvT hZ (own_w hw 31 rfl)) (g := (mkF m 101 #[lv x1, .second, lv x2, .second, lv x3, .second, iv x4, lv v16, .second, iv y24, lv v69, .second, rv b13, iv y90] [(.long v69)])) rfl (hb hby at_101) _ ?_
      refine XS.lcmp X23.here hx rfl (hb hby at_104) rfl ?_
      exact kt
    by_cases hc105 : v69 = (9223372036854775807 : Int64)
    · have pre27 : ∀ tz, oS p e below T23 m 109 #[lv x1, .second, lv x2, .second, lv x3, .second, iv x4, lv v16, .second, iv y24, lv v69, .second, rv b13, iv y90] [(.int (1 : Int32))] tz → oS p e below T23 m 105 #[lv x1, .second, lv x2, .second, lv x3, .second, iv x4, lv v16, .second, iv y24, lv v69, .second, rv b13, iv y90] [(.int (lcmpW v69 (9223372036854775807 : Int64)))] tz := fun tz kt => by
        show oS p e below T23 m 105 #[lv x1, .second, lv x2, .second, lv x3, .second, iv x4, lv v16, .second, iv y24, lv v69, .second, rv b13, iv y90] [(.int (lcmpW v69 (9223372036854775807 : Int64)))] _
        refine XS.ifNo X23.here hx rfl (hb hby at_105) rfl ((if0 _ _).trans (teq ((lw_eq v69 (9223372036854775807 : Int64)).mpr hc105)).2) ?_
        refine XS.iconst X23.here hx rfl (hb hby at_108) ?_
        exact kt
      have Yc28 : k16 ≤ T17.heap.size := (Nat.le_trans hk16 K17.1)
      obtain ⟨fs, hr, hrun, hended, hRE⟩ := X23.leaveW (s := s) hS16 (by rw [eh23]; exact Yc28) (v := some (.int (1 : Int32))) (fun h => by rw [Bd.returns] at h; cases h)
      refine ⟨_, _, pre0 _ (pre1 _ (pre5 _ (pre15 _ (pre25 _ (pre26 _ (pre27 _ ?_)))))), hrun, hended, _, _, rfl, ?_, ⟨_, rfl⟩, hRE.2.1, hRE.2.2.1, hRE.2.2.2.mono (by decide) (by decide)⟩
      · show oS p e below T23 m 109 #[lv x1, .second, lv x2, .second, lv x3, .second, iv x4, lv v16, .second, iv y24, lv v69, .second, rv b13, iv y90] [(.int (1 : Int32))] _
        exact retN X23 hx (t := .boolean) Bd.returns (by simp) (hb hby at_109) hr
      · show Q0 Z x1 x2 x3 x4 h0 n0 _ T23.heap _
        rw [eh23]
        exact ⟨rfl, N23⟩
    · have hc112 : y90 = (0 : Int32) := Classical.byContradiction fun hc112 => by
        rw [hy90, if_pos hc96, if_pos (own_lt _ hc105)] at hc112; exact hc112 rfl
      have pre29 : ∀ tz, oS p e below T23 m 120 #[lv x1, .second, lv x2, .second, lv x3, .second, iv x4, lv v16, .second, iv y24, lv v69, .second, rv b13, iv y90] [(.int (1 : Int32))] tz → oS p e below T23 m 105 #[lv x1, .second, lv x2, .second, lv x3, .second, iv x4, lv v16, .second, iv y24, lv v69, .second, rv b13, iv y90] [(.int (lcmpW v69 (9223372036854775807 : Int64)))] tz := fun tz kt => by
        show oS p e below T23 m 105 #[lv x1, .second, lv x2, .second, lv x3, .second, iv x4, lv v16, .second, iv y24, lv v69, .second, rv b13, iv y90] [(.int (lcmpW v69 (9223372036854775807 : Int64)))] _
        refine XS.ifYes X23.here hx rfl (pc0 := 105) (pc' := 110) rfl (hb hby at_105) rfl ((if0 _ _).trans (feq (fun q => hc105 ((lw_eq v69 (9223372036854775807 : Int64)).mp q))).2) (by decide) (by decide) ?_
        refine XS.iload X23.here hx rfl (hb hby at_110) rfl ?_
        refine XS.ifNo X23.here hx rfl (hb hby at_112) rfl ((if0 _ _).trans (teq hc112).2) ?_
        refine XS.iconst X23.here hx rfl (hb hby at_115) ?_
        show oS p e below T23 m 116 #[lv x1, .second, lv x2, .second, lv x3, .second, iv x4, lv v16, .second, iv y24, lv v69, .second, rv b13, iv y90] [(.int (1 : Int32))] _
        refine XS.goto X23.here hx rfl (pc0 := 116) (pc' := 120) rfl (hb hby at_116) (by decide) (by decide) ?_
        exact kt
      have Yc30 : k16 ≤ T17.heap.size := (Nat.le_trans hk16 K17.1)
      obtain ⟨fs, hr, hrun, hended, hRE⟩ := X23.leaveW (s := s) hS16 (by rw [eh23]; exact Yc30) (v := some (.int (1 : Int32))) (fun h => by rw [Bd.returns] at h; cases h)
      refine ⟨_, _, pre0 _ (pre1 _ (pre5 _ (pre15 _ (pre25 _ (pre26 _ (pre29 _ ?_)))))), hrun, hended, _, _, rfl, ?_, ⟨_, rfl⟩, hRE.2.1, hRE.2.2.1, hRE.2.2.2.mono (by decide) (by decide)⟩
      · show oS p e below T23 m 120 #[lv x1, .second, lv x2, .second, lv x3, .second, iv x4, lv v16, .second, iv y24, lv v69, .second, rv b13, iv y90] [(.int (1 : Int32))] _
        exact retN X23 hx (t := .boolean) Bd.returns (by simp) (hb hby at_120) hr
      · show Q0 Z x1 x2 x3 x4 h0 n0 _ T23.heap _
        rw [eh23]
        exact ⟨rfl, N23⟩
  · have pre31 : ∀ tz, oS p e below T23 m 127 #[lv x1, .second, lv x2, .second, lv x3, .second, iv x4, lv v16, .second, iv y24, lv v69, .second, rv b13, iv y90] [(.int (lcmpW x2 v69)), (.int y90)] tz → oS p e below T23 m 96 #[lv x1, .second, lv x2, .second, lv x3, .second, iv x4, lv v16, .second, iv y24, lv v69, .second, rv b13, iv y90] [(.int (lcmpW v16 (0 : Int64)))] tz := fun tz kt => by
      show oS p e below T23 m 96 #[lv x1, .second, lv x2, .second, lv x3, .second, iv x4, lv v16, .second, iv y24, lv v69, .second, rv b13, iv y90] [(.int (lcmpW v16 (0 : Int64)))] _
      refine XS.ifYes X23.here hx rfl (pc0 := 96) (pc' := 121) rfl (hb hby at_96) rfl ((if0 _ _).trans (feq (fun q => hc96 ((lw_eq v16 (0 : Int64)).mp q))).2) (by decide) (by decide) ?_
      refine XS.iload X23.here hx rfl (hb hby at_121) rfl ?_
      refine XS.lloadN X23.here hx rfl (hb hby at_123) rfl ?_
      refine XS.lload X23.here hx rfl (hb hby at_124) rfl ?_
      show oS p e below T23 m 126 #[lv x1, .second, lv x2, .second, lv x3, .second, iv x4, lv v16, .second, iv y24, lv v69, .second, rv b13, iv y90] [(.long v69), (.long x2), (.int y90)] _
      refine XS.lcmp X23.here hx rfl (hb hby at_126) rfl ?_
      exact kt
    obtain ⟨v135, T34, Lj34, jv34, N34, X34, e34, st34⟩ := own_join (α := Int32) X23 N23 eh23 (mkF m 127 #[lv x1, .second, lv x2, .second, lv x3, .second, iv x4, lv v16, .second, iv y24, lv v69, .second, rv b13, iv y90] [(.int (lcmpW x2 v69)), (.int y90)]) (fun v => (mkF m 135 #[lv x1, .second, lv x2, .second, lv x3, .second, iv x4, lv v16, .second, iv y24, lv v69, .second, rv b13, iv y90] [(.int v), (.int y90)])) (fun v => v = (if v69 < x2 then (0 : Int32) else (1 : Int32))) (by
        by_cases hc127 : v69 < x2
        · have pre32 : ∀ tz, oS p e below T23 m 135 #[lv x1, .second, lv x2, .second, lv x3, .second, iv x4, lv v16, .second, iv y24, lv v69, .second, rv b13, iv y90] [(.int (0 : Int32)), (.int y90)] tz → oS p e below T23 m 127 #[lv x1, .second, lv x2, .second, lv x3, .second, iv x4, lv v16, .second, iv y24, lv v69, .second, rv b13, iv y90] [(.int (lcmpW x2 v69)), (.int y90)] tz := fun tz kt => by
            show oS p e below T23 m 127 #[lv x1, .second, lv x2, .second, lv x3, .second, iv x4, lv v16, .second, iv y24, lv v69, .second, rv b13, iv y90] [(.int (lcmpW x2 v69)), (.int y90)] _
            refine XS.ifYes X23.here hx rfl (pc0 := 127) (pc' := 134) rfl (hb hby at_127) rfl ((if0 _ _).trans (tlt ((lw_gt x2 v69).mpr hc127)).2.2.1) (by decide) (by decide) ?_
            refine XS.iconst X23.here hx rfl (hb hby at_134) ?_
            exact kt
          exact ⟨(0 : Int32), T23, _, (by rw [if_pos hc127]), N23, X23, eh23, fun tz kt => (pre32 _ kt)⟩
        · have pre33 : ∀ tz, oS p e below T23 m 135 #[lv x1, .second, lv x2, .second, lv x3, .second, iv x4, lv v16, .second, iv y24, lv v69, .second, rv b13, iv y90] [(.int (1 : Int32)), (.int y90)] tz → oS p e below T23 m 127 #[lv x1, .second, lv x2, .second, lv x3, .second, iv x4, lv v16, .second, iv y24, lv v69, .second, rv b13, iv y90] [(.int (lcmpW x2 v69)), (.int y90)] tz := fun tz kt => by
            show oS p e below T23 m 127 #[lv x1, .second, lv x2, .second, lv x3, .second, iv x4, lv v16, .second, iv y24, lv v69, .second, rv b13, iv y90] [(.int (lcmpW x2 v69)), (.int y90)] _
            refine XS.ifNo X23.here hx rfl (hb hby at_127) rfl ((if0 _ _).trans (flt (fun q => hc127 ((lw_gt x2 v69).mp q))).2.2.1) ?_
            refine XS.iconst X23.here hx rfl (hb hby at_130) ?_
            refine XS.goto X23.here hx rfl (pc0 := 131) (pc' := 135) rfl (hb hby at_131) (by decide) (by decide) ?_
            exact kt
          exact ⟨(1 : Int32), T23, _, (by rw [if_neg hc127]), N23, X23, eh23, fun tz kt => (pre33 _ kt)⟩)
    have hv135 : v135 = (if v69 < x2 then (0 : Int32) else (1 : Int32)) := jv34
    have hc135 : y90 = v135 := Classical.byContradiction fun hc135 => by
      rw [hy90, hv135, if_neg hc96] at hc135; exact hc135 rfl
    have pre35 : ∀ tz, oS p e below T34 m 143 #[lv x1, .second, lv x2, .second, lv x3, .second, iv x4, lv v16, .second, iv y24, lv v69, .second, rv b13, iv y90] [(.int (1 : Int32))] tz → oS p e below T23 m 127 #[lv x1, .second, lv x2, .second, lv x3, .second, iv x4, lv v16, .second, iv y24, lv v69, .second, rv b13, iv y90] [(.int (lcmpW x2 v69)), (.int y90)] tz := fun tz kt => by
      show oS p e below T23 m 127 #[lv x1, .second, lv x2, .second, lv x3, .second, iv x4, lv v16, .second, iv y24, lv v69, .second, rv b13, iv y90] [(.int (lcmpW x2 v69)), (.int y90)] _
      refine st34 _ ?_
      refine XS.icmpNo X34.here hx rfl (hb hby at_135) rfl (teq hc135).2 ?_
      refine XS.iconst X34.here hx rfl (hb hby at_138) ?_
      refine XS.goto X34.here hx rfl (pc0 := 139) (pc' := 143) rfl (hb hby at_139) (by decide) (by decide) ?_
      exact kt
    have Yc36 : k16 ≤ T17.heap.size := (Nat.le_trans hk16 K17.1)
    obtain ⟨fs, hr, hrun, hended, hRE⟩ := X34.leaveW (s := s) hS16 (by rw [e34]; exact Yc36) (v := some (.int (1 : Int32))) (fun h => by rw [Bd.returns] at h; cases h)
    refine ⟨_, _, pre0 _ (pre1 _ (pre5 _ (pre15 _ (pre25 _ (pre31 _ (pre35 _ ?_)))))), hrun, hended, _, _, rfl, ?_, ⟨_, rfl⟩, hRE.2.1, hRE.2.2.1, hRE.2.2.2.mono (by decide) (by decide)⟩
    · show oS p e below T34 m 143 #[lv x1, .second, lv x2, .second, lv x3, .second, iv x4, lv v16, .second, iv y24, lv v69, .second, rv b13, iv y90] [(.int (1 : Int32))] _
      exact retN X34 hx (t := .boolean) Bd.returns (by simp) (hb hby at_143) hr
    · show Q0 Z x1 x2 x3 x4 h0 n0 _ T34.heap _
      rw [e34]
      exact ⟨rfl, N34⟩
set_option maxRecDepth 65536 in
set_option maxHeartbeats 40000000 in
theorem comes_1 {Post : Tables → Env → Array Value → State → Outcome → State → Prop} (hpost : ∀ tb e args s v u, (limb_1_1.after args s (.returned v) u = true ∧ limb_1_2.after args s (.returned v) u = true ∧ True) → ReturnedEndW s (.returned v) u (Jvm.fieldLocs frame_1_writes args s ++ Jvm.arrayLocs frame_1_arrays args s ++ Jvm.staticLocs frame_1_statics s) 16 1152 → Post tb e args s (.returned v) u) :
    ArmFor flags0 classFile x code maxLocals ret World_1 tables_1 room_1 Calls_1 rest_1 Pre_1 Post := by
  intro l hfl _ _ p e ha hc hk s m args below hf hA hF happ hP
  obtain ⟨hcalls, hrest, hpre⟩ := hP
  obtain ⟨-, -, -, hnamed, -, -, -, hat⟩ := (Spec.applies_iff hf).mp happ
  obtain ⟨hg, hn⟩ := and_e (Cond.before_iff.mp (show (Jvm.Cond.and given_1 narrow_1).before args s = true from hpre))
  obtain ⟨gc, gr0⟩ := and_e hg
  obtain ⟨ga0, gr1⟩ := and_e gr0
  obtain ⟨ga1, gr2⟩ := and_e gr1
  obtain ⟨ga2, gr3⟩ := and_e gr2
  have ga3 := gr3
  obtain ⟨w0, w1, w2, w3, rfl⟩ : ∃ w0 w1 w2 w3 : Value, args = #[w0, w1, w2, w3] := by
    have hs : args.size = 4 := by simpa [Cond.value, given_1] using gc
    obtain ⟨L⟩ := args
    match L, hs with
    | [w0, w1, w2, w3], _ => exact ⟨w0, w1, w2, w3, rfl⟩
  have hw := fun d (hd : d ∈ tables_1) => atoms_spec (ws := Jvm.Cond.code x code maxLocals ret :: tables_1) hat d (List.mem_cons_of_mem _ hd)
  obtain ⟨i0, ei0⟩ := isL_v ga0
  obtain rfl : w0 = (.long i0) := Option.some.inj ei0
  obtain ⟨i1, ei1⟩ := isL_v ga1
  obtain rfl : w1 = (.long i1) := Option.some.inj ei1
  obtain ⟨i2, ei2⟩ := isL_v ga2
  obtain rfl : w2 = (.long i2) := Option.some.inj ei2
  obtain ⟨i3, ei3⟩ := is_v ga3
  obtain rfl : w3 = (.int i3) := Option.some.inj ei3
  obtain ⟨n, o, h1, h2, h3, _, L, rfl, ⟨rfl, N⟩, hq⟩ := rm0 l s _ hw tables_1 i0 i1 i2 i3 s.heap s.heap.size (Nat.le_refl _)  p e ha hc hk s m _ below hf ((Spec.applies_iff_loose hf).mp happ).1 ⟨rfl, State.Warmed39.refl s, rfl⟩ trivial
  refine ⟨n, _, h1, h2, h3, hpost _ _ _ _ _ _ ⟨Cond.after_iff.mpr rfl, Cond.after_iff.mpr (eq_i res_at (Term.int_eval (1)) rfl), trivial⟩ ⟨hq.1, hq.2.1, hq.2.2.1, (hq.2.2.2.sift fun y hy => Or.inr (N y hy)).mono (by decide) (by decide)⟩⟩
theorem main_1_1 : Claimed_1_1 := comes_1 fun _ _ _ _ _ _ h hF => ⟨h.1, hF⟩
theorem main_1_2 : Claimed_1_2 := comes_1 fun _ _ _ _ _ _ h hF => ⟨h.2.1, hF⟩
end Jvm.Pilot.@@N@@
namespace Jvm.Pilot.@@N@@
open Jvm Jvm.ClassFile Sem Op Lib Jvm.Free Jvm.Stand Jvm.Pilot.@@N@@.Jvm.D
/-! MADE BY PROGRAM (witnessworld.py) out of the Statement's table words and the real class files: 14 classes; the members and pool entries that the words name. The judged class is class 1, her method 1. -/
namespace start1
open Jvm.ClassFile
def u (s : String) : CpInfo := .utf8 (stringToUtf16 s)
/-- a pool by its gaps: so many unusable entries, then the entry; so many at the end -/
def gap : Nat → List CpInfo → List CpInfo
  | 0, r => r
  | n + 1, r => .unusable :: gap n r
def poolList (es : List (Nat × CpInfo)) (last : Nat) : List CpInfo := es.foldr (fun e r => gap e.1 (e.2 :: r)) (gap last [])
def pool (es : List (Nat × CpInfo)) (last : Nat) : Array CpInfo := ⟨poolList es last⟩
def fileOf (pool : Array CpInfo) (this : Nat) (attrs : Array Attribute := #[]) (ms : Array MethodInfo := #[]) (fl : Nat := 33) (sup : Nat := 0) (ifs : Array Nat := #[]) (fds : Array FieldInfo := #[]) : ClassFile where
  minorVersion := 0
  majorVersion := 65
  constantPool := pool
  accessFlags := fl
  thisClass := this
  superClass := sup
  interfaces := ifs
  fields := fds
  methods := ms
  attributes := attrs
def plain (name : String) (sup : Option ClassId) : Class where
  name := name
  kind := .ordinary
  loader := none
  accessFlags := 33
  super := sup
  interfaces := #[]
  cf := none
  fields := #[]
  methods := #[]
  instanceTypes := #[]
  staticTypes := #[]
  resolved := #[]
  callSites := []
  init := .initialized
  statics := none
  mirror := none

def pool0 : Array CpInfo := pool [(5, u "<init>"), (0, u "()V"), (1, .class_ 10), (1, u "java/lang/Object")] 113

def k0c0 : Code := { maxStack := 0, maxLocals := 1, code := object_method_1_code, exceptionTable := #[], attributes := #[] }
def k0m0 : Method := { name := "<init>", desc := "()V", sig := { parameters := [], returnType := none }, accessFlags := 1, code := some k0c0 }
/-- java/lang/Object -/
def k0 : Class := { plain "java/lang/Object" none with
  accessFlags := 33
  interfaces := #[]
  cf := some (fileOf pool0 8 #[] #[{ accessFlags := 1, nameIndex := 5, descriptorIndex := 6, attributes := #[] }] 33 0 #[] #[])
  fields := #[]
  methods := #[k0m0]
  instanceTypes := #[]
  staticTypes := #[]
  resolved := Array.replicate 124 none
  statics := none }

def pool1 : Array CpInfo := pool [(2, .class_ 4), (1, u "java/lang/Object"), (0, u "<init>"), (0, u "()V"), (0, .class_ 8), (0, u "com/example/holdfast/holdfast/repository/Lease"), (0, .long 4294967295), (1, .string 12), (0, u "t"), (0, .methodref 7 14), (0, .nameAndType 5 15), (0, u "(JLjava/lang/String;J)V"), (0, .methodref 7 17), (0, .nameAndType 18 19), (0, u "hasRunOut"), (0, u "(J)Z"), (2, .long 9223372036854775807), (1, .class_ 25), (0, u "com/example/holdfast/holdfast/repository/LeaseHasRunOutPinLaw"), (2, u "law"), (0, u "(JJJI)Z")] 3

def k1m0 : Method := { name := "<init>", desc := "()V", sig := { parameters := [], returnType := none }, accessFlags := 1, code := none }
def k1c1 : Code := { maxStack := 7, maxLocals := 14, code := code, exceptionTable := #[], attributes := #[] }
def k1m1 : Method := { name := "law", desc := "(JJJI)Z", sig := { parameters := [.long, .long, .long, .int], returnType := some .boolean }, accessFlags := 9, code := some k1c1 }
/-- com/example/holdfast/holdfast/repository/LeaseHasRunOutPinLaw -/
def k1 : Class := { plain "com/example/holdfast/holdfast/repository/LeaseHasRunOutPinLaw" (some 0) with
  accessFlags := 49
  interfaces := #[]
  cf := some (fileOf pool1 24 #[] #[{ accessFlags := 1, nameIndex := 5, descriptorIndex := 6, attributes := #[] }, { accessFlags := 9, nameIndex := 28, descriptorIndex := 29, attributes := #[] }] 49 2 #[] #[])
  fields := #[]
  methods := #[k1m0, k1m1]
  instanceTypes := #[]
  staticTypes := #[]
  resolved := Array.replicate 33 none
  statics := none }

def pool2 : Array CpInfo := pool [(1, .methodref 2 3), (0, .class_ 4), (0, .nameAndType 5 6), (0, u "java/lang/Object"), (0, u "<init>"), (0, u "()V"), (0, .class_ 8), (0, u "com/example/holdfast/holdfast/repository/Lease"), (0, .long 4294967295), (10, .fieldref 7 21), (0, .nameAndType 22 23), (0, u "m_nSeconds"), (0, u "J"), (0, .fieldref 7 25), (0, .nameAndType 26 27), (0, u "m_sToken"), (0, u "Ljava/lang/String;"), (2, .long 9223372036854775807), (1, .fieldref 7 33), (0, .nameAndType 34 23), (0, u "m_nExpiresAt"), (19, u "(JLjava/lang/String;J)V"), (6, u "INFINITE"), (3, u "MAX_SECONDS"), (0, u "MILLIS_PER_SECOND"), (14, u "hasRunOut"), (0, u "(J)Z")] 21

def k2c0 : Code := { maxStack := 5, maxLocals := 6, code := prog_16_method_1_code, exceptionTable := #[], attributes := #[] }
def k2m0 : Method := { name := "<init>", desc := "(JLjava/lang/String;J)V", sig := { parameters := [.long, (.object "java/lang/String"), .long], returnType := none }, accessFlags := 1, code := some k2c0 }
def k2c1 : Code := { maxStack := 4, maxLocals := 3, code := prog_16_method_8_code, exceptionTable := #[], attributes := #[] }
def k2m1 : Method := { name := "hasRunOut", desc := "(J)Z", sig := { parameters := [.long], returnType := some .boolean }, accessFlags := 0, code := some k2c1 }
/-- com/example/holdfast/holdfast/repository/Lease -/
def k2 : Class := { plain "com/example/holdfast/holdfast/repository/Lease" (some 0) with
  accessFlags := 49
  interfaces := #[]
  cf := some (fileOf pool2 7 #[] #[{ accessFlags := 1, nameIndex := 5, descriptorIndex := 54, attributes := #[] }, { accessFlags := 0, nameIndex := 81, descriptorIndex := 82, attributes := #[] }] 49 2 #[] #[{ accessFlags := 25, nameIndex := 61, descriptorIndex := 23, attributes := #[] }, { accessFlags := 25, nameIndex := 65, descriptorIndex := 23, attributes := #[] }, { accessFlags := 26, nameIndex := 66, descriptorIndex := 23, attributes := #[] }, { accessFlags := 18, nameIndex := 22, descriptorIndex := 23, attributes := #[] }, { accessFlags := 18, nameIndex := 26, descriptorIndex := 27, attributes := #[] }, { accessFlags := 18, nameIndex := 34, descriptorIndex := 23, attributes := #[] }])
  fields := #[{ name := "INFINITE", type := .long, accessFlags := 25, slot := 0, constantValue := 0 }, { name := "MAX_SECONDS", type := .long, accessFlags := 25, slot := 1, constantValue := 0 }, { name := "MILLIS_PER_SECOND", type := .long, accessFlags := 26, slot := 2, constantValue := 0 }, { name := "m_nSeconds", type := .long, accessFlags := 18, slot := 0, constantValue := 0 }, { name := "m_sToken", type := (.object "java/lang/String"), accessFlags := 18, slot := 1, constantValue := 0 }, { name := "m_nExpiresAt", type := .long, accessFlags := 18, slot := 2, constantValue := 0 }]
  methods := #[k2m0, k2m1]
  instanceTypes := #[.long, (.object "java/lang/String"), .long]
  staticTypes := #[.long, .long, .long]
  resolved := Array.replicate 104 none
  statics := none }

def pool3 : Array CpInfo := pool [(1, .class_ 2), (0, u "java/io/Serializable"), (0, .class_ 4), (0, u "java/lang/Object")] 2

/-- java/io/Serializable -/
def k3 : Class := { plain "java/io/Serializable" (some 0) with
  accessFlags := 1537
  interfaces := #[]
  cf := some (fileOf pool3 1 #[] #[] 1537 3 #[] #[])
  fields := #[]
  methods := #[]
  instanceTypes := #[]
  staticTypes := #[]
  resolved := Array.replicate 7 none
  statics := none }

def pool4 : Array CpInfo := pool [(1, .class_ 2), (0, u "java/lang/Comparable"), (0, .class_ 4), (0, u "java/lang/Object")] 7

/-- java/lang/Comparable -/
def k4 : Class := { plain "java/lang/Comparable" (some 0) with
  accessFlags := 1537
  interfaces := #[]
  cf := some (fileOf pool4 1 #[] #[] 1537 3 #[] #[])
  fields := #[]
  methods := #[]
  instanceTypes := #[]
  staticTypes := #[]
  resolved := Array.replicate 12 none
  statics := none }

def pool5 : Array CpInfo := pool [(2, .class_ 4), (1, u "java/lang/CharSequence"), (42, .class_ 48), (0, u "java/lang/CharSequence$1CodePointIterator"), (10, .class_ 60), (0, u "java/lang/CharSequence$1CharIterator"), (5, .class_ 67), (0, u "java/lang/Object")] 63

/-- java/lang/CharSequence -/
def k5 : Class := { plain "java/lang/CharSequence" (some 0) with
  accessFlags := 1537
  interfaces := #[]
  cf := some (fileOf pool5 2 #[.nestMembers #[47, 59]] #[] 1537 66 #[] #[])
  fields := #[]
  methods := #[]
  instanceTypes := #[]
  staticTypes := #[]
  resolved := Array.replicate 131 none
  statics := none }

def pool6 : Array CpInfo := pool [(1, .class_ 2), (0, u "java/lang/constant/Constable"), (0, .class_ 4), (0, u "java/lang/Object")] 6

/-- java/lang/constant/Constable -/
def k6 : Class := { plain "java/lang/constant/Constable" (some 0) with
  accessFlags := 1537
  interfaces := #[]
  cf := some (fileOf pool6 1 #[] #[] 1537 3 #[] #[])
  fields := #[]
  methods := #[]
  instanceTypes := #[]
  staticTypes := #[]
  resolved := Array.replicate 11 none
  statics := none }

def pool7 : Array CpInfo := pool [(1, .class_ 2), (0, u "java/lang/constant/ConstantDesc"), (0, .class_ 4), (0, u "java/lang/Object")] 32

/-- java/lang/constant/ConstantDesc -/
def k7 : Class := { plain "java/lang/constant/ConstantDesc" (some 0) with
  accessFlags := 1537
  interfaces := #[]
  cf := some (fileOf pool7 1 #[] #[] 1537 3 #[] #[])
  fields := #[]
  methods := #[]
  instanceTypes := #[]
  staticTypes := #[]
  resolved := Array.replicate 37 none
  statics := none }

def pool8 : Array CpInfo := pool [(2, .class_ 4), (1, u "java/lang/Object"), (0, u "<init>"), (0, u "()V"), (3, .class_ 12), (1, u "java/lang/String"), (0, u "value"), (0, u "[B"), (2, u "coder"), (0, u "B"), (2, u "hash"), (0, u "I"), (2, u "hashIsZero"), (0, u "Z"), (13, u "COMPACT_STRINGS"), (534, .class_ 576), (0, u "java/lang/CharSequence"), (22, u "CASE_INSENSITIVE_ORDER"), (0, u "Ljava/util/Comparator;"), (500, u "serialPersistentFields"), (0, u "[Ljava/io/ObjectStreamField;"), (0, .class_ 1104), (0, u "java/lang/String$CaseInsensitiveComparator"), (1, .class_ 1107), (0, u "java/io/Serializable"), (0, .class_ 1109), (0, u "java/lang/Comparable"), (0, .class_ 1111), (0, u "java/lang/constant/Constable"), (0, .class_ 1113), (0, u "java/lang/constant/ConstantDesc"), (2, u "serialVersionUID"), (0, u "J"), (3, u "REPL"), (0, u "C"), (2, u "LATIN1"), (1, u "UTF16")] 323

def k8m0 : Method := { name := "<init>", desc := "()V", sig := { parameters := [], returnType := none }, accessFlags := 1, code := none }
/-- java/lang/String -/
def k8 : Class := { plain "java/lang/String" (some 0) with
  accessFlags := 49
  interfaces := #[3, 4, 5, 6, 7]
  cf := some (fileOf pool8 10 #[.nestMembers #[1103]] #[{ accessFlags := 1, nameIndex := 5, descriptorIndex := 6, attributes := #[] }] 49 2 #[1106, 1108, 575, 1110, 1112] #[{ accessFlags := 18, nameIndex := 13, descriptorIndex := 14, attributes := #[] }, { accessFlags := 18, nameIndex := 17, descriptorIndex := 18, attributes := #[] }, { accessFlags := 2, nameIndex := 21, descriptorIndex := 22, attributes := #[] }, { accessFlags := 2, nameIndex := 25, descriptorIndex := 26, attributes := #[] }, { accessFlags := 26, nameIndex := 1116, descriptorIndex := 1117, attributes := #[] }, { accessFlags := 24, nameIndex := 40, descriptorIndex := 26, attributes := #[] }, { accessFlags := 26, nameIndex := 1101, descriptorIndex := 1102, attributes := #[] }, { accessFlags := 26, nameIndex := 1121, descriptorIndex := 1122, attributes := #[] }, { accessFlags := 25, nameIndex := 599, descriptorIndex := 600, attributes := #[] }, { accessFlags := 24, nameIndex := 1125, descriptorIndex := 18, attributes := #[] }, { accessFlags := 24, nameIndex := 1127, descriptorIndex := 18, attributes := #[] }])
  fields := #[{ name := "value", type := (.array .byte), accessFlags := 18, slot := 0, constantValue := 0 }, { name := "coder", type := .byte, accessFlags := 18, slot := 1, constantValue := 0 }, { name := "hash", type := .int, accessFlags := 2, slot := 2, constantValue := 0 }, { name := "hashIsZero", type := .boolean, accessFlags := 2, slot := 3, constantValue := 0 }, { name := "serialVersionUID", type := .long, accessFlags := 26, slot := 0, constantValue := 0 }, { name := "COMPACT_STRINGS", type := .boolean, accessFlags := 24, slot := 1, constantValue := 0 }, { name := "serialPersistentFields", type := (.array (.object "java/io/ObjectStreamField")), accessFlags := 26, slot := 2, constantValue := 0 }, { name := "REPL", type := .char, accessFlags := 26, slot := 3, constantValue := 0 }, { name := "CASE_INSENSITIVE_ORDER", type := (.object "java/util/Comparator"), accessFlags := 25, slot := 4, constantValue := 0 }, { name := "LATIN1", type := .byte, accessFlags := 24, slot := 5, constantValue := 0 }, { name := "UTF16", type := .byte, accessFlags := 24, slot := 6, constantValue := 0 }]
  methods := #[k8m0]
  instanceTypes := #[(.array .byte), .byte, .int, .boolean]
  staticTypes := #[.long, .boolean, (.array (.object "java/io/ObjectStreamField")), .char, (.object "java/util/Comparator"), .byte, .byte]
  resolved := Array.replicate 1451 none
  statics := none }

def pool9 : Array CpInfo := pool [(1, u "java/lang/Cloneable"), (0, .class_ 1), (0, u "java/lang/Object"), (0, .class_ 3)] 3

/-- java/lang/Cloneable -/
def k9 : Class := { plain "java/lang/Cloneable" (some 0) with
  accessFlags := 1537
  interfaces := #[]
  cf := some (fileOf pool9 2 #[] #[] 1537 4 #[] #[])
  fields := #[]
  methods := #[]
  instanceTypes := #[]
  staticTypes := #[]
  resolved := Array.replicate 8 none
  statics := none }

/-- the primitive byte -/
def k10 : Class := { plain "byte" none with kind := .primitive 'B', accessFlags := 0x411 }
/-- [B -/
def k11 : Class := { plain "[B" (some 0) with kind := .array 10 .byte, interfaces := #[9, 3], accessFlags := 1041 }

/-- the primitive int -/
def k12 : Class := { plain "int" none with kind := .primitive 'I', accessFlags := 0x411 }
/-- [I -/
def k13 : Class := { plain "[I" (some 0) with kind := .array 12 .int, interfaces := #[9, 3], accessFlags := 1041 }

def heap : Heap := #[]
def classes : Array Class := #[k0, k1, k2, k3, k4, k5, k6, k7, k8, k9, k10, k11, k12, k13]
def interned : List (Array UInt16 × Addr) := []
def slotsUsed : Nat := 0
def theMethod : MethodId := ⟨1, 1⟩
def args0 : Array Value := #[.long 5, .long 6, .long 7, .int 8]
def aboutOver (below : List Frame) : State where
  vm := { classes := classes, interned := interned.toArray }
  heap := heap
  slotsUsed := slotsUsed
  threads := #[{ frames := .invoking theMethod args0 :: below }]
def below0 : List Frame := [.native { method := ⟨0, 0⟩, args := #[] }]
def about1 : State := aboutOver below0
def p0 : Program := .bare "" "" ""
def e0 : Env := launch0.env 0 0 0
theorem w_frames : about1.frames = Frame.invoking theMethod args0 :: below0 := rfl
set_option maxRecDepth 65536 in
theorem w_args : argsFit about1.vm theMethod args0 = true := by decide +kernel
set_option maxRecDepth 65536 in
theorem w_heap : heapFits about1 = true := by decide +kernel
set_option maxRecDepth 65536 in
theorem w_runnable : about1.curStatus? = some .runnable := by decide +kernel
set_option maxRecDepth 65536 in
theorem w_alone : about1.alone = true := by decide +kernel
set_option maxRecDepth 65536 in
theorem w_named : about1.methodNamed? x = some theMethod := by decide +kernel
set_option maxRecDepth 65536 in
theorem w_hears : about1.hears theMethod below0 = true := by decide +kernel
set_option maxRecDepth 65536 in
theorem w_ripe : about1.ripe theMethod args0 below0 = true := by decide +kernel
theorem w_running : about1.status = .running := rfl
set_option maxRecDepth 65536 in
theorem w_room : about1.hasRoom e0.platform room_1 = true :=
  launch0.hasRoom_least _ room_1 (by decide +kernel) (by decide +kernel) (by decide +kernel) (by decide +kernel) (by decide +kernel) (by decide +kernel)
theorem allAtoms_all (ts : List Jvm.Cond) (a : Array Jvm.Value) (st : Jvm.State) : (allAtoms ts).before a st = ts.all (fun c => c.before a st) := by
  induction ts with
  | nil => rfl
  | cons c t ih =>
    show (Jvm.Cond.and c (allAtoms t)).before a st = _
    rw [Jvm.Cond.before_and, ih, List.all_cons]
def words1 : List Jvm.Cond := Jvm.Cond.code x code maxLocals ret :: tables_1
/-- a 'code' word, met by the world's own term for the bytes: nothing is compared byte by byte -/
theorem code_word {y : MethodName} {bytes : ByteArray} {mx : Nat} {rt : Option FieldType} {a : Array Value} {s : State} {m : MethodId} {meth : Method} {c : Code} (h1 : s.methodNamed? y = some m) (h2 : s.vm.method? m = some meth) (h3 : meth.code = some c) (h4 : c.code = bytes)
    (h5 : (c.maxLocals == mx && c.exceptionTable.isEmpty && decide (c.maxStack ≤ mostOperands) && decide (meth.sig.returnType = rt) && !meth.locks && decide (parseMethodDescriptor y.desc = some meth.sig)) = true) : (Jvm.Cond.code y bytes mx rt).before a s = true := by
  simp only [Bool.and_eq_true, beq_iff_eq, Bool.not_eq_true', decide_eq_true_eq] at h5
  obtain ⟨⟨⟨⟨⟨g1, g2⟩, g3⟩, g4⟩, g5⟩, g6⟩ := h5
  simp [Cond.before, Cond.holds, Cond.value, h1, h2, h3, h4, g1, g2, g3, g4, g5, g6]
def isCode : Jvm.Cond → Bool
  | .code _ _ _ _ => true
  | _ => false
theorem all_split {L : List Jvm.Cond} {P : Jvm.Cond → Bool} (h1 : L.all (fun c => isCode c || P c) = true) (h2 : ∀ c ∈ L.filter isCode, P c = true) : L.all P = true := by
  refine List.all_eq_true.mpr fun c hc => ?_
  have h := List.all_eq_true.mp h1 c hc
  rcases Bool.eq_false_or_eq_true (isCode c) with hi | hi
  · exact h2 c (List.mem_filter.mpr ⟨hc, hi⟩)
  · simpa [hi] using h
set_option maxRecDepth 65536 in
theorem w_c0 : (Jvm.Cond.code x code maxLocals ret).before args0 about1 = true := code_word (m := ⟨1, 1⟩) (meth := k1m1) (c := k1c1) (by decide +kernel) rfl rfl rfl (by decide +kernel)
set_option maxRecDepth 65536 in
theorem w_c1 : (Jvm.Cond.code ({ cls := "com/example/holdfast/holdfast/repository/Lease", name := "<init>", desc := "(JLjava/lang/String;J)V" } : Jvm.MethodName) prog_16_method_1_code (6 : Nat) (Option.none : Option Jvm.ClassFile.FieldType)).before args0 about1 = true := code_word (m := ⟨2, 0⟩) (meth := k2m0) (c := k2c0) (by decide +kernel) rfl rfl rfl (by decide +kernel)
set_option maxRecDepth 65536 in
theorem w_c2 : (Jvm.Cond.code ({ cls := "java/lang/Object", name := "<init>", desc := "()V" } : Jvm.MethodName) object_method_1_code (1 : Nat) (Option.none : Option Jvm.ClassFile.FieldType)).before args0 about1 = true := code_word (m := ⟨0, 0⟩) (meth := k0m0) (c := k0c0) (by decide +kernel) rfl rfl rfl (by decide +kernel)
set_option maxRecDepth 65536 in
theorem w_c3 : (Jvm.Cond.code ({ cls := "com/example/holdfast/holdfast/repository/Lease", name := "hasRunOut", desc := "(J)Z" } : Jvm.MethodName) prog_16_method_8_code (3 : Nat) (Option.some Jvm.ClassFile.FieldType.boolean)).before args0 about1 = true := code_word (m := ⟨2, 1⟩) (meth := k2m1) (c := k2c1) (by decide +kernel) rfl rfl rfl (by decide +kernel)
def codes1 : List Jvm.Cond := [Jvm.Cond.code x code maxLocals ret, Jvm.Cond.code ({ cls := "com/example/holdfast/holdfast/repository/Lease", name := "<init>", desc := "(JLjava/lang/String;J)V" } : Jvm.MethodName) prog_16_method_1_code (6 : Nat) (Option.none : Option Jvm.ClassFile.FieldType), Jvm.Cond.code ({ cls := "java/lang/Object", name := "<init>", desc := "()V" } : Jvm.MethodName) object_method_1_code (1 : Nat) (Option.none : Option Jvm.ClassFile.FieldType), Jvm.Cond.code ({ cls := "com/example/holdfast/holdfast/repository/Lease", name := "hasRunOut", desc := "(J)Z" } : Jvm.MethodName) prog_16_method_8_code (3 : Nat) (Option.some Jvm.ClassFile.FieldType.boolean)]
set_option maxRecDepth 65536 in
theorem codes_eq : words1.filter isCode = codes1 := rfl
theorem w_codes : ∀ c ∈ words1.filter isCode, c.before args0 about1 = true := by
  rw [codes_eq]
  intro c hc
  simp only [codes1, List.mem_cons, List.not_mem_nil, or_false] at hc
  rcases hc with rfl | rfl | rfl | rfl
  · exact w_c0
  · exact w_c1
  · exact w_c2
  · exact w_c3
set_option maxRecDepth 65536 in
theorem w_t1 : (words1.take 24).all (fun c => isCode c || c.before args0 about1) = true := by decide +kernel
set_option maxRecDepth 65536 in
theorem w_t2 : (words1.drop 24).all (fun c => isCode c || c.before args0 about1) = true := by decide +kernel
theorem w_tables : (allAtoms (Jvm.Cond.code x code maxLocals ret :: tables_1)).before args0 about1 = true := by
  rw [allAtoms_all]
  show words1.all (fun c => c.before args0 about1) = true
  refine all_split ?_ w_codes
  rw [← List.take_append_drop 24 words1, List.all_append, w_t1, w_t2]
  rfl
set_option maxRecDepth 65536 in
theorem w_case : (Jvm.Cond.and given_1 narrow_1).before args0 about1 = true := by decide +kernel
theorem w_applies : (headSpec (Jvm.Cond.code x code maxLocals ret :: tables_1) room_1).applies x e0.platform about1 = true :=
  (Spec.applies_iff w_frames).mpr ⟨w_running, w_runnable, w_alone, w_named, w_hears, w_ripe, w_room, w_tables⟩
theorem atStart : AtStart classFile x code maxLocals ret World_1 tables_1 room_1 Calls_1 rest_1 Pre_1 launch0 p0 e0 about1 theMethod args0 below0 :=
  ⟨lists_1, trivial, launch0.admits_env _ _ _, launch0.least_env, fairChoices_fair.cas, fairChoices_fair.clock, w_frames, w_args, w_heap, w_applies, trivial, trivial, w_case⟩
end start1
theorem witness_1 : WitnessClaimed_1 := ⟨start1.p0, start1.e0, start1.about1, start1.theMethod, start1.args0, start1.below0, start1.atStart⟩
end Jvm.Pilot.@@N@@
