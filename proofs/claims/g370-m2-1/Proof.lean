import JvmDerived
import JvmDerived.Pilot.@@N@@Statement
import JvmDerived.Pilot.@@N@@Code
set_option linter.unusedVariables false
set_option linter.unusedSimpArgs false
namespace Jvm.Pilot.@@N@@
open Jvm Jvm.ClassFile Sem Op Lib Jvm.Free Jvm.Stand Jvm.LawKit Jvm.RoadKit Bundle Jvm.Pilot.@@N@@.Jvm.D
theorem own_w {a0 : Array Value} {Z : State} (hw : ∀ d ∈ tables_1, d.before a0 Z = true) (i : Nat) {d : Jvm.Cond} (h : tables_1[i]? = some d) : d.before a0 Z = true := hw _ (List.mem_of_getElem? h)
abbrev oS (p : Program) (e : Env) (b : List Frame) (T : State) (m : MethodId) (pc : Nat) (L : Array Slot) (S : List Value) (t : State) : Prop := Steps p.tables e b (T.setTop (mkF m pc L S)) t
abbrev lv (x : Int64) : Slot := .val (.long x)
theorem own_join {α : Type} {p : Program} {l : Launch} {e : Env} {R : Room} {s : State} {m : MethodId} {args : Array Value} {below : List Frame} {meth : Method} {c : Code} {T : State} {locs : List Loc} {cells slots n0 : Nat} {h : Heap}
    (_ : Stand p l e R s m args below meth c T locs cells slots) (_ : Fr n0 locs) (_ : T.heap = h) (A : JFrame) (B : α → JFrame) (P : α → Prop)
    (k : ∃ (v : α) (T' : State) (locs' : List Loc), P v ∧ Fr n0 locs' ∧ Stand p l e R s m args below meth c T' locs' cells slots ∧ T'.heap = h ∧ ∀ t, Steps p.tables e below (T'.setTop (B v)) t → Steps p.tables e below (T.setTop A) t) :
    ∃ (v : α) (T' : State) (locs' : List Loc), P v ∧ Fr n0 locs' ∧ Stand p l e R s m args below meth c T' locs' cells slots ∧ T'.heap = h ∧ ∀ t, Steps p.tables e below (T'.setTop (B v)) t → Steps p.tables e below (T.setTop A) t := k
theorem own_joinH {α : Type} {p : Program} {l : Launch} {e : Env} {R : Room} {s : State} {m : MethodId} {args : Array Value} {below : List Frame} {meth : Method} {c : Code} {T : State} {locs : List Loc} {cells slots n0 : Nat} {h : Heap}
    (_ : Stand p l e R s m args below meth c T locs cells slots) (_ : Fr n0 locs) (_ : T.heap = h) (A : JFrame) (B : α → JFrame) (P : α → Heap → Prop)
    (k : ∃ (v : α) (T' : State) (h' : Heap) (locs' : List Loc), P v h' ∧ Fr n0 locs' ∧ Stand p l e R s m args below meth c T' locs' cells slots ∧ T'.heap = h' ∧ ∀ t, Steps p.tables e below (T'.setTop (B v)) t → Steps p.tables e below (T.setTop A) t) :
    ∃ (v : α) (T' : State) (h' : Heap) (locs' : List Loc), P v h' ∧ Fr n0 locs' ∧ Stand p l e R s m args below meth c T' locs' cells slots ∧ T'.heap = h' ∧ ∀ t, Steps p.tables e below (T'.setTop (B v)) t → Steps p.tables e below (T.setTop A) t := k
theorem own_selp {s Z : State} {a0 args : Array Value} {y : MethodName} {n : Nat} (hZ : Z.Warmed39 s.vm) (wi : (Cond.instantiable y.cls n).before a0 Z = true) (wp : (Cond.privateMethod y).before a0 Z = true) (wm : (Cond.instanceMethod y).before a0 Z = true)
    (hy : y.cls ≠ "java/lang/invoke/MethodHandle" ∧ y.cls ≠ "java/lang/invoke/VarHandle") : (Cond.selects y.cls y y).before args s = true := by
  have wi' : (Cond.instantiable y.cls n).before args s = true := mvT hZ wi
  obtain ⟨c, k, h1, h2, h3, h4, -⟩ := Cond.instantiable_spec wi'
  exact Stand.selects_self_of_private h1 h2 (Bool.or_eq_false_iff.mp h4).1 (Cond.privateMethod_at (mvP hZ wp (args := #[]))) (mvT hZ wm) hy
theorem own_sec (x : Int64) : ¬ ((x &&& (4294967295 : Int64)) < (0 : Int64)) ∧ ¬ ((4294967295 : Int64) < (x &&& (4294967295 : Int64))) := by
  have h := c_maskL x 4294967295 32 (by decide) (by decide)
  have e0 : (0 : Int64).toInt = 0 := rfl
  have e1 : (4294967295 : Int64).toInt = 4294967295 := rfl
  rw [Int64.lt_iff_toInt_lt, Int64.lt_iff_toInt_lt, e0, e1]
  omega
theorem own_sec2 (c d : Prop) [Decidable c] [Decidable d] (x v : Int64) (hv : v = (if c then (if d then (x &&& (4294967295 : Int64)) else (1 : Int64)) else (0 : Int64))) : ¬ (v < (0 : Int64)) ∧ ¬ ((4294967295 : Int64) < v) := by
  subst hv
  by_cases h : c
  · rw [if_pos h]
    by_cases h2 : d
    · rw [if_pos h2]; exact own_sec x
    · rw [if_neg h2]; decide
  · rw [if_neg h]; decide
theorem own_ch (x : Int32) : ¬ ((255 : Int32) < ((x &&& (255 : Int32)).toUInt32.toUInt16.toUInt32.toInt32)) := by
  have h1 := c_mask x 255 8 (by decide) (by decide)
  have h2 := c_i2c (x &&& 255)
  have e : (255 : Int32).toInt = 255 := rfl
  rw [Int32.lt_iff_toInt_lt, e]
  omega
theorem d2_0 : decode jdk_43_method_3_code 0 = .ok (.iload_n 0, 1) := by decide +kernel
theorem d2_1 : decode jdk_43_method_3_code 1 = .ok (.sipush 255, 3) := by decide +kernel
theorem d2_4 : decode jdk_43_method_3_code 4 = .ok (.if_icmp .gt 7, 3) := by decide +kernel
theorem d2_7 : decode jdk_43_method_3_code 7 = .ok (.iconst 1, 1) := by decide +kernel
theorem d2_8 : decode jdk_43_method_3_code 8 = .ok (.goto 4, 3) := by decide +kernel
theorem d2_12 : decode jdk_43_method_3_code 12 = .ok (.ireturn, 1) := by decide +kernel
theorem own_pn0 : plainName "java/lang/StringLatin1" = true := by first | (simp [plainName, overriddenIn]; done) | decide +kernel
theorem ef2 (m : MethodId) (x1 : Int32) : entryFrame m #[(.int x1)] 1 = mkF m 0 #[iv x1] [] := by first | (simp [entryFrame, mkF, argsToLocals, Value.category]; done) | rfl
def Q2 (Z : State) (x1 : Int32) (h0 : Heap) (n0 : Nat) (v : Option Value) (h : Heap) (L : List Loc) : Prop := v = some (.int (1 : Int32)) ∧ Fr n0 L ∧ h = h0
set_option maxRecDepth 65536 in
set_option maxHeartbeats 40000000 in
theorem rm2 (l : Launch) (Z : State) (a0 : Array Value) (hw : ∀ d ∈ tables_1, d.before a0 Z = true) (ws : List Jvm.Cond) (x1 : Int32) (h0 : Heap) (n0 : Nat) (Z0 : n0 ≤ h0.size) (h1 : ¬ ((255 : Int32) < x1)) :
    MetFree l (⟨"java/lang/StringLatin1", "canEncode", "(C)Z"⟩ : MethodName) (head1 (Jvm.Cond.code (⟨"java/lang/StringLatin1", "canEncode", "(C)Z"⟩ : MethodName) jdk_43_method_3_code 1 (some .boolean) :: ws) ({ frames := 0, cells := 0, slots := 0, locals := 0 } : Room)) (fun a U => a = #[(.int x1)] ∧ Z.Warmed39 U.vm ∧ U.heap = h0) (fun _ _ _ _ _ => True) (fun _ U oc U' => ∃ v L, oc = .returned v ∧ Q2 Z x1 h0 n0 v U'.heap L ∧ FrameEnd U oc U' L ({ frames := 0, cells := 0, slots := 0, locals := 0 } : Room).cells ({ frames := 0, cells := 0, slots := 0, locals := 0 } : Room).slots) := by
  refine MetFree.of_bodySF (plainFor_of_name own_pn0) hisR ?_
  intro p e s m args below meth c s₁ Bd hml0 hP hK
  obtain ⟨rfl, hZ, hh⟩ := hP
  have hx := Bd.exec
  have hby := Bd.bytes
  have hml : c.maxLocals = 1 := hml0
  have hown : s.vm.findClass "java/lang/StringLatin1" = some m.cls := findClass_of_methodNamed Bd.named
  have hnm := (name_of_methodNamed Bd.named Bd.method).1
  have X0 : Stand p l e ({ frames := 0, cells := 0, slots := 0, locals := 0 } : Room) s m #[(.int x1)] below meth c s₁ [] 0 0 := Stand.of_body Bd
  have e0 : s₁.heap = h0 := by rw [← hh, Bd.state]; rfl
  have N0 := Fr.nil n0
  have pre0 : ∀ t, Steps p.tables e below (s₁.setTop (mkF m 0 #[iv x1] [])) t → Steps p.tables e below (s₁.setTop (entryFrame m #[(.int x1)] 1)) t := fun t k => castTop (ef2 m x1) k
  have hc4 : ¬ ((255 : Int32) < x1) := id fun hc4 => by
    exact h1 hc4
  have pre1 : ∀ tz, oS p e below s₁ m 12 #[iv x1] [(.int (1 : Int32))] tz → oS p e below s₁ m 0 #[iv x1] [] tz := fun tz kt => by
    show oS p e below s₁ m 0 #[iv x1] [] _
    refine XS.iloadN X0.here hx rfl (hb hby d2_0) rfl ?_
    refine XS.sipush X0.here hx rfl (hb hby d2_1) ?_
    refine XS.icmpNo X0.here hx rfl (hb hby d2_4) rfl (flt hc4).2.2.1 ?_
    refine XS.iconst X0.here hx rfl (hb hby d2_7) ?_
    show oS p e below s₁ m 8 #[iv x1] [(.int (1 : Int32))] _
    refine XS.goto X0.here hx rfl (pc0 := 8) (pc' := 12) rfl (hb hby d2_8) (by decide) (by decide) ?_
    exact kt
  obtain ⟨fs, hr, hrun, hended, hW, hsame⟩ := X0.leave (v := some (.int (1 : Int32))) (fun h => by rw [Bd.returns] at h; cases h)
  refine ⟨_, _, pre0 _ (pre1 _ ?_), hrun, hended, _, _, rfl, ?_, ⟨_, rfl⟩, hW, hsame.mono (by decide) (by decide)⟩
  · show oS p e below s₁ m 12 #[iv x1] [(.int (1 : Int32))] _
    exact retN X0 hx (t := .boolean) Bd.returns (by simp) (hb hby d2_12) hr
  · show Q2 Z x1 h0 n0 _ s₁.heap _
    rw [e0]
    exact ⟨rfl, N0, rfl⟩
theorem d3_0 : decode jdk_43_method_46_code 0 = .ok (.iconst 1, 1) := by decide +kernel
theorem d3_1 : decode jdk_43_method_46_code 1 = .ok (.newarray .byte, 2) := by decide +kernel
theorem d3_3 : decode jdk_43_method_46_code 3 = .ok (.dup, 1) := by decide +kernel
theorem d3_4 : decode jdk_43_method_46_code 4 = .ok (.iconst 0, 1) := by decide +kernel
theorem d3_5 : decode jdk_43_method_46_code 5 = .ok (.iload_n 0, 1) := by decide +kernel
theorem d3_6 : decode jdk_43_method_46_code 6 = .ok (.i2b, 1) := by decide +kernel
theorem d3_7 : decode jdk_43_method_46_code 7 = .ok (.bastore, 1) := by decide +kernel
theorem d3_8 : decode jdk_43_method_46_code 8 = .ok (.areturn, 1) := by decide +kernel
theorem ef3 (m : MethodId) (x1 : Int32) : entryFrame m #[(.int x1)] 1 = mkF m 0 #[iv x1] [] := by first | (simp [entryFrame, mkF, argsToLocals, Value.category]; done) | rfl
def Q3 (Z : State) (x1 : Int32) (h0 : Heap) (n0 : Nat) (v : Option Value) (h : Heap) (L : List Loc) : Prop := ∃ (b : Addr), v = some (.ref b) ∧ Fr n0 L ∧ Keep h0 h [] ∧ h0.size ≤ b ∧ n0 ≤ b
set_option maxRecDepth 65536 in
set_option maxHeartbeats 40000000 in
theorem rm3 (l : Launch) (Z : State) (a0 : Array Value) (hw : ∀ d ∈ tables_1, d.before a0 Z = true) (ws : List Jvm.Cond) (x1 : Int32) (h0 : Heap) (n0 : Nat) (Z0 : n0 ≤ h0.size) :
    MetFree l (⟨"java/lang/StringLatin1", "toBytes", "(C)[B"⟩ : MethodName) (head1 (Jvm.Cond.code (⟨"java/lang/StringLatin1", "toBytes", "(C)[B"⟩ : MethodName) jdk_43_method_46_code 1 (some (.array .byte)) :: ws) ({ frames := 0, cells := 1, slots := 1, locals := 0 } : Room)) (fun a U => a = #[(.int x1)] ∧ Z.Warmed39 U.vm ∧ U.heap = h0) (fun _ _ _ _ _ => True) (fun _ U oc U' => ∃ v L, oc = .returned v ∧ Q3 Z x1 h0 n0 v U'.heap L ∧ FrameEnd U oc U' L ({ frames := 0, cells := 1, slots := 1, locals := 0 } : Room).cells ({ frames := 0, cells := 1, slots := 1, locals := 0 } : Room).slots) := by
  refine MetFree.of_bodySF (plainFor_of_name own_pn0) hisR ?_
  intro p e s m args below meth c s₁ Bd hml0 hP hK
  obtain ⟨rfl, hZ, hh⟩ := hP
  have hx := Bd.exec
  have hby := Bd.bytes
  have hml : c.maxLocals = 1 := hml0
  have hown : s.vm.findClass "java/lang/StringLatin1" = some m.cls := findClass_of_methodNamed Bd.named
  have hnm := (name_of_methodNamed Bd.named Bd.method).1
  have X0 : Stand p l e ({ frames := 0, cells := 1, slots := 1, locals := 0 } : Room) s m #[(.int x1)] below meth c s₁ [] 0 0 := Stand.of_body Bd
  have e0 : s₁.heap = h0 := by rw [← hh, Bd.state]; rfl
  have N0 := Fr.nil n0
  have pre0 : ∀ t, Steps p.tables e below (s₁.setTop (mkF m 0 #[iv x1] [])) t → Steps p.tables e below (s₁.setTop (entryFrame m #[(.int x1)] 1)) t := fun t k => castTop (ef3 m x1) k
  obtain ⟨T1, h1, kk1, X1, e1, E1, A1, st1⟩ := newP X0 hx hZ (own_w hw 14 rfl) e0 (g := (mkF m 1 #[iv x1] [(.int (1 : Int32))])) rfl (hb hby d3_1) rfl (by decide) (cap := 1) (by decide) (by decide) (by decide) (by decide)
  obtain ⟨b1, g1⟩ : ∃ z, z = h0.size := ⟨_, rfl⟩
  rw [← g1] at A1 st1
  have g_b1 : n0 ≤ b1 := Nat.le_trans Z0 (Nat.le_of_eq g1.symm)
  have sz_b1 : h0.size ≤ b1 := Nat.le_trans (Keep.refl h0 []).1 (Nat.le_of_eq g1.symm)
  have V_b1 : Arv Z h1 b1 kk1 .byte (1 : Int32) [(.int (0 : Int32))] (.int (0 : Int32)) := (Arv.new A1 (by decide)).pad (pad_rep [] (.int (0 : Int32)) 1)
  obtain ⟨cl2, Ar2, qk2, Sz2, Ng2, Hs2, Gt2⟩ := V_b1
  have hin2 : ¬ ((0 : Int32) < 0 ∨ cl2.slots.size ≤ ((0 : Int32)).toNatClampNeg) := inb_of Sz2 ⟨by decide, by decide⟩
  obtain ⟨T3, h3, X3, e3, W3, st3⟩ := stB X1 hx hZ e1 Ar2 (j := (0 : Int32)) hin2 (g := (mkF m 7 #[iv x1] [(.int (x1.toInt8.toInt32)), (.int (0 : Int32)), (.ref b1), (.ref b1)])) rfl rfl (hb hby d3_7)
  have Va3 : Arv Z h3 b1 kk1 .byte (1 : Int32) [(.int (nar .byte (x1.toInt8.toInt32)))] (.int (0 : Int32)) := Arv.set Ar2 qk2 Sz2 Ng2 Hs2 Gt2 (fits_nar_byte _) W3 0 rfl (Nat.le_of_ble_eq_true rfl)
  have N3 := Fr.snoc X3 N0 g_b1
  have pre4 : ∀ tz, oS p e below T3 m 8 #[iv x1] [(.ref b1)] tz → oS p e below s₁ m 0 #[iv x1] [] tz := fun tz kt => by
    show oS p e below s₁ m 0 #[iv x1] [] _
    refine XS.iconst X0.here hx rfl (hb hby d3_0) ?_
    show oS p e below s₁ m 1 #[iv x1] [(.int (1 : Int32))] _
    refine st1 _ ?_
    refine XS.dup X1.here hx rfl (hb hby d3_3) rfl rfl ?_
    refine XS.iconst X1.here hx rfl (hb hby d3_4) ?_
    refine XS.iloadN X1.here hx rfl (hb hby d3_5) rfl ?_
    show oS p e below T1 m 6 #[iv x1] [(.int x1), (.int (0 : Int32)), (.ref b1), (.ref b1)] _
    refine XS.i2b X1.here hx rfl (hb hby d3_6) rfl ?_
    show oS p e below T1 m 7 #[iv x1] [(.int (x1.toInt8.toInt32)), (.int (0 : Int32)), (.ref b1), (.ref b1)] _
    refine st3 _ ?_
    exact kt
  have KP5 : Keep h0 h3 [] := (((Keep.refl h0 []).ext E1).wr W3 (Or.inr sz_b1))
  obtain ⟨fs, hr, hrun, hended, hW, hsame⟩ := X3.leave (v := some (.ref b1)) (fun h => by rw [Bd.returns] at h; cases h)
  refine ⟨_, _, pre0 _ (pre4 _ ?_), hrun, hended, _, _, rfl, ?_, ⟨_, rfl⟩, hW, hsame.mono (by decide) (by decide)⟩
  · show oS p e below T3 m 8 #[iv x1] [(.ref b1)] _
    exact retOut X3 hx Bd.returns rfl (Or.inr (Or.inr (Or.inr (Or.inr ⟨rfl, rfl, rfl⟩)))) (hb hby d3_8) hr
  · show Q3 Z x1 h0 n0 _ T3.heap _
    rw [e3]
    exact ⟨b1, rfl, N3, KP5, sz_b1, g_b1⟩
theorem d4_0 : decode jdk_42_method_151_code 0 = .ok (.aload_n 0, 1) := by decide +kernel
theorem d4_1 : decode jdk_42_method_151_code 1 = .ok (.invokespecial 1, 3) := by decide +kernel
theorem d4_4 : decode jdk_42_method_151_code 4 = .ok (.aload_n 0, 1) := by decide +kernel
theorem d4_5 : decode jdk_42_method_151_code 5 = .ok (.aload_n 1, 1) := by decide +kernel
theorem d4_6 : decode jdk_42_method_151_code 6 = .ok (.putfield 9, 3) := by decide +kernel
theorem d4_9 : decode jdk_42_method_151_code 9 = .ok (.aload_n 0, 1) := by decide +kernel
theorem d4_10 : decode jdk_42_method_151_code 10 = .ok (.iload_n 2, 1) := by decide +kernel
theorem d4_11 : decode jdk_42_method_151_code 11 = .ok (.putfield 15, 3) := by decide +kernel
theorem d4_14 : decode jdk_42_method_151_code 14 = .ok (.return_, 1) := by decide +kernel
theorem own_pn1 : plainName "java/lang/String" = true := by first | (simp [plainName, overriddenIn]; done) | decide +kernel
theorem ef4 (m : MethodId) (o : Addr) (x1 : Addr) (x2 : Int32) : entryFrame m #[(.ref o), (.ref x1), (.int x2)] 3 = mkF m 0 #[rv o, rv x1, iv x2] [] := by first | (simp [entryFrame, mkF, argsToLocals, Value.category]; done) | rfl
def Q4 (Z : State) (o : Addr) (x1 : Addr) (x2 : Int32) (w_value_o : Value) (w_coder_o : Value) (h0 : Heap) (n0 : Nat) (v : Option Value) (h : Heap) (L : List Loc) : Prop := v = none ∧ Fr n0 L ∧ Keep h0 h [o]
set_option maxRecDepth 65536 in
set_option maxHeartbeats 40000000 in
theorem rm4 (l : Launch) (Z : State) (a0 : Array Value) (hw : ∀ d ∈ tables_1, d.before a0 Z = true) (ws : List Jvm.Cond) (o : Addr) (x1 : Addr) (x2 : Int32) (w_value_o : Value) (w_coder_o : Value) (h0 : Heap) (n0 : Nat) (Z0 : n0 ≤ h0.size) (E_o : Exa Z h0 o "java/lang/String") (F_value_o : Fld Z h0 o "java/lang/String" "value" "[B" w_value_o) (g_o : n0 ≤ o) (F_coder_o : Fld Z h0 o "java/lang/String" "coder" "B" w_coder_o) :
    MetFree l (⟨"java/lang/String", "<init>", "([BB)V"⟩ : MethodName) (head1 (Jvm.Cond.code (⟨"java/lang/String", "<init>", "([BB)V"⟩ : MethodName) jdk_42_method_151_code 3 none :: ws) ({ frames := 1, cells := 0, slots := 0, locals := 12 } : Room)) (fun a U => a = #[(.ref o), (.ref x1), (.int x2)] ∧ Z.Warmed39 U.vm ∧ U.heap = h0) (fun _ _ _ _ _ => True) (fun _ U oc U' => ∃ v L, oc = .returned v ∧ Q4 Z o x1 x2 w_value_o w_coder_o h0 n0 v U'.heap L ∧ FrameEnd U oc U' L ({ frames := 1, cells := 0, slots := 0, locals := 12 } : Room).cells ({ frames := 1, cells := 0, slots := 0, locals := 12 } : Room).slots) := by
  refine MetFree.of_bodySF (plainFor_of_name own_pn1) hisR ?_
  intro p e s m args below meth c s₁ Bd hml0 hP hK
  obtain ⟨rfl, hZ, hh⟩ := hP
  have hx := Bd.exec
  have hby := Bd.bytes
  have hml : c.maxLocals = 3 := hml0
  have hown : s.vm.findClass "java/lang/String" = some m.cls := findClass_of_methodNamed Bd.named
  have hnm := (name_of_methodNamed Bd.named Bd.method).1
  have X0 : Stand p l e ({ frames := 1, cells := 0, slots := 0, locals := 12 } : Room) s m #[(.ref o), (.ref x1), (.int x2)] below meth c s₁ [] 0 0 := Stand.of_body Bd
  have e0 : s₁.heap = h0 := by rw [← hh, Bd.state]; rfl
  have N0 := Fr.nil n0
  have pre0 : ∀ t, Steps p.tables e below (s₁.setTop (mkF m 0 #[rv o, rv x1, iv x2] [])) t → Steps p.tables e below (s₁.setTop (entryFrame m #[(.ref o), (.ref x1), (.int x2)] 3)) t := fun t k => castTop (ef4 m o x1 x2) k
  obtain ⟨T1, X1, e1, st1⟩ := initO X0 hx hZ hown (own_w hw 19 rfl) (own_w hw 20 rfl) (own_w hw 21 rfl) e0 (g := (mkF m 1 #[rv o, rv x1, iv x2] [(.ref o)])) rfl (by rw [hml]; rfl) rfl (hb hby d4_1) (by decide) (W := 0) (by show 2 * 0 + _ ≤ _; exact Nat.le_of_eq rfl) (by decide)
  obtain ⟨T2, h2, X2, e2, W2, st2⟩ := putF X1 hx hZ hown (host := "") (Or.inl (own_w hw 22 rfl)) Via.refl e1 F_value_o E_o (Or.inr ⟨(own_w hw 23 rfl), rfl, hnm⟩) (own_w hw 10 rfl) (ty := (.array .byte)) (by decide) rfl rfl (g := (mkF m 6 #[rv o, rv x1, iv x2] [(.ref x1), (.ref o)])) rfl rfl (hb hby d4_6)
  have Fw2 : Fld Z h2 o "java/lang/String" "value" "[B" (.ref x1) := F_value_o.same W2
  have N2 := Fr.snoc X2 N0 g_o
  have Ec3 : Exa Z h2 o "java/lang/String" := (E_o.wr W2)
  have Fc4 : Fld Z h2 o "java/lang/String" "coder" "B" w_coder_o := (F_coder_o.other W2 (Or.inr (slot_ne (Or.inr (own_w hw 25 rfl)) (Or.inr (own_w hw 23 rfl)) (by decide) (t := .byte) (t' := (.array .byte)) (by decide) (by decide))))
  obtain ⟨T5, h5, X5, e5, W5, st5⟩ := putFN X2 hx hZ hown (own_w hw 24 rfl) Via.refl e2 Fc4 Ec3 (Or.inr ⟨(own_w hw 25 rfl), rfl, hnm⟩) (own_w hw 10 rfl) (ty := .byte) (v' := (.int (nar .byte x2))) (by decide) rfl (fits_nar_byte _) (g := (mkF m 11 #[rv o, rv x1, iv x2] [(.int x2), (.ref o)])) rfl rfl (hb hby d4_11)
  have Fw5 : Fld Z h5 o "java/lang/String" "coder" "B" (.int (nar .byte x2)) := Fc4.same W5
  have N5 := Fr.snoc X5 N2 g_o
  have pre6 : ∀ tz, oS p e below T5 m 14 #[rv o, rv x1, iv x2] [] tz → oS p e below s₁ m 0 #[rv o, rv x1, iv x2] [] tz := fun tz kt => by
    show oS p e below s₁ m 0 #[rv o, rv x1, iv x2] [] _
    refine XS.aloadN X0.here hx rfl (hb hby d4_0) rfl rfl ?_
    show oS p e below s₁ m 1 #[rv o, rv x1, iv x2] [(.ref o)] _
    refine st1 _ ?_
    refine XS.aloadN X1.here hx rfl (hb hby d4_4) rfl rfl ?_
    refine XS.aloadN X1.here hx rfl (hb hby d4_5) rfl rfl ?_
    show oS p e below T1 m 6 #[rv o, rv x1, iv x2] [(.ref x1), (.ref o)] _
    refine st2 _ ?_
    refine XS.aloadN X2.here hx rfl (hb hby d4_9) rfl rfl ?_
    refine XS.iloadN X2.here hx rfl (hb hby d4_10) rfl ?_
    show oS p e below T2 m 11 #[rv o, rv x1, iv x2] [(.int x2), (.ref o)] _
    refine st5 _ ?_
    exact kt
  have KP7 : Keep h0 h5 [o] := (((Keep.refl h0 [o]).wr W2 (Or.inl (List.mem_of_getElem? (i := 0) rfl))).wr W5 (Or.inl (List.mem_of_getElem? (i := 0) rfl)))
  obtain ⟨fs, hr, hrun, hended, hW, hsame⟩ := X5.leave (v := none) (fun _ => rfl)
  refine ⟨_, _, pre0 _ (pre6 _ ?_), hrun, hended, _, _, rfl, ?_, ⟨_, rfl⟩, hW, hsame.mono (by decide) (by decide)⟩
  · show oS p e below T5 m 14 #[rv o, rv x1, iv x2] [] _
    exact X5.returnOut hx Bd.returns (hb hby d4_14) hr
  · show Q4 Z o x1 x2 w_value_o w_coder_o h0 n0 _ T5.heap _
    rw [e5]
    exact ⟨rfl, N5, KP7⟩
theorem own_pd0 : parseMethodDescriptor "(C)Z" = some ⟨[.char], some .boolean⟩ := by decide +kernel
theorem own_pd1 : parseMethodDescriptor "(C)[B" = some ⟨[.char], some (.array .byte)⟩ := by decide +kernel
theorem own_pd2 : parseMethodDescriptor "([BB)V" = some ⟨[(.array .byte), .byte], none⟩ := by decide +kernel
theorem d1_0 : decode jdk_42_method_139_code 0 = .ok (.getstatic 38, 3) := by decide +kernel
theorem d1_3 : decode jdk_42_method_139_code 3 = .ok (.ifCond .eq 23, 3) := by decide +kernel
theorem d1_6 : decode jdk_42_method_139_code 6 = .ok (.iload_n 0, 1) := by decide +kernel
theorem d1_7 : decode jdk_42_method_139_code 7 = .ok (.invokestatic 1015, 3) := by decide +kernel
theorem d1_10 : decode jdk_42_method_139_code 10 = .ok (.ifCond .eq 16, 3) := by decide +kernel
theorem d1_13 : decode jdk_42_method_139_code 13 = .ok (.new 10, 3) := by decide +kernel
theorem d1_16 : decode jdk_42_method_139_code 16 = .ok (.dup, 1) := by decide +kernel
theorem d1_17 : decode jdk_42_method_139_code 17 = .ok (.iload_n 0, 1) := by decide +kernel
theorem d1_18 : decode jdk_42_method_139_code 18 = .ok (.invokestatic 1018, 3) := by decide +kernel
theorem d1_21 : decode jdk_42_method_139_code 21 = .ok (.iconst 0, 1) := by decide +kernel
theorem d1_22 : decode jdk_42_method_139_code 22 = .ok (.invokespecial 209, 3) := by decide +kernel
theorem d1_25 : decode jdk_42_method_139_code 25 = .ok (.areturn, 1) := by decide +kernel
theorem ef1 (m : MethodId) (x1 : Int32) : entryFrame m #[(.int x1)] 1 = mkF m 0 #[iv x1] [] := by first | (simp [entryFrame, mkF, argsToLocals, Value.category]; done) | rfl
def Q1 (Z : State) (x1 : Int32) (w_COMPACT_STRINGS : Int32) (h0 : Heap) (n0 : Nat) (v : Option Value) (h : Heap) (L : List Loc) : Prop := ∃ (b : Addr), v = some (.ref b) ∧ Fr n0 L ∧ Keep h0 h [] ∧ h0.size ≤ b ∧ n0 ≤ b
set_option maxRecDepth 65536 in
set_option maxHeartbeats 40000000 in
theorem rm1 (l : Launch) (Z : State) (a0 : Array Value) (hw : ∀ d ∈ tables_1, d.before a0 Z = true) (ws : List Jvm.Cond) (x1 : Int32) (w_COMPACT_STRINGS : Int32) (h0 : Heap) (n0 : Nat) (Z0 : n0 ≤ h0.size) (h1 : ¬ ((255 : Int32) < x1)) (S_COMPACT_STRINGS : Sta Z h0 "java/lang/String" "COMPACT_STRINGS" "Z" (.int w_COMPACT_STRINGS)) (h2 : ¬ (w_COMPACT_STRINGS = (0 : Int32))) :
    MetFree l (⟨"java/lang/String", "valueOf", "(C)Ljava/lang/String;"⟩ : MethodName) (head1 (Jvm.Cond.code (⟨"java/lang/String", "valueOf", "(C)Ljava/lang/String;"⟩ : MethodName) jdk_42_method_139_code 1 (some (.object "java/lang/String")) :: ws) ({ frames := 2, cells := 2, slots := 5, locals := 27 } : Room)) (fun a U => a = #[(.int x1)] ∧ Z.Warmed39 U.vm ∧ U.heap = h0) (fun _ _ _ _ _ => True) (fun _ U oc U' => ∃ v L, oc = .returned v ∧ Q1 Z x1 w_COMPACT_STRINGS h0 n0 v U'.heap L ∧ FrameEnd U oc U' L ({ frames := 2, cells := 2, slots := 5, locals := 27 } : Room).cells ({ frames := 2, cells := 2, slots := 5, locals := 27 } : Room).slots) := by
  refine MetFree.of_bodySF (plainFor_of_name own_pn1) hisR ?_
  intro p e s m args below meth c s₁ Bd hml0 hP hK
  obtain ⟨rfl, hZ, hh⟩ := hP
  have hx := Bd.exec
  have hby := Bd.bytes
  have hml : c.maxLocals = 1 := hml0
  have hown : s.vm.findClass "java/lang/String" = some m.cls := findClass_of_methodNamed Bd.named
  have hnm := (name_of_methodNamed Bd.named Bd.method).1
  have X0 : Stand p l e ({ frames := 2, cells := 2, slots := 5, locals := 27 } : Room) s m #[(.int x1)] below meth c s₁ [] 0 0 := Stand.of_body Bd
  have e0 : s₁.heap = h0 := by rw [← hh, Bd.state]; rfl
  have N0 := Fr.nil n0
  have pre0 : ∀ t, Steps p.tables e below (s₁.setTop (mkF m 0 #[iv x1] [])) t → Steps p.tables e below (s₁.setTop (entryFrame m #[(.int x1)] 1)) t := fun t k => castTop (ef1 m x1) k
  obtain ⟨T1, X1, e1, st1⟩ := getS2 X0 hx hZ hown (host := "") (Or.inl (own_w hw 4 rfl)) Via.refl e0 S_COMPACT_STRINGS (g := (mkF m 0 #[iv x1] [])) rfl (hb hby d1_0)
  have hc3 : ¬ (w_COMPACT_STRINGS = (0 : Int32)) := id fun hc3 => by
    exact h2 hc3
  have hp2_h1 : ¬ ((255 : Int32) < x1) := (by assumption)
  obtain ⟨_, _, ⟨T2, Lw2, kw2, nw2⟩, -, X2, ⟨Lc2, hQ2, l2, y2, z2⟩, st2⟩ := Jvm.LawKit.callS X1 hx (y := (⟨"java/lang/StringLatin1", "canEncode", "(C)Z"⟩ : MethodName)) hown (mvT hZ (own_w hw 5 rfl)) (mvT hZ (own_w hw 6 rfl)) (mvT hZ (own_w hw 7 rfl)) (mvT hZ (own_w hw 8 rfl)) (by decide) (backOf (W := 0) (rm2 l Z a0 hw [] x1 h0 n0 Z0 hp2_h1) hZ (own_w hw 8 rfl) (own_w hw 7 rfl) (by decide) (by decide)) (g := (mkF m 7 #[iv x1] [(.int x1)])) rfl (by rw [hml]; rfl) (argsL := [(.int x1)]) (rest := []) (lenOf own_pd0 rfl) rfl (by show 2 * 0 + _ ≤ _; exact Nat.le_of_eq rfl) (hb hby d1_7) (fun _ _ => ⟨rfl, e1, (by decide : 0 + 0 ≤ _), (by decide : 0 + 0 ≤ _)⟩)
  dsimp only [Pt.U, Pt.locs, Pt.cells, Pt.slots] at X2 l2 y2 z2 st2 hQ2
  subst l2 y2 z2
  obtain ⟨rfl, Nq2, eh2⟩ := hQ2
  have N2 := Fr.app N0 Nq2
  obtain ⟨T3, h3, X3, e3, E3, A3, D3, -, st3⟩ := newO X2 hx hZ hown (own_w hw 9 rfl) (own_w hw 10 rfl) (own_w hw 2 rfl) eh2 (g := (mkF m 13 #[iv x1] [])) rfl (hb hby d1_13) (by decide) (by decide)
  obtain ⟨b3, g3⟩ : ∃ z, z = h0.size := ⟨_, rfl⟩
  rw [← g3] at A3 D3 st3
  have g_b3 : n0 ≤ b3 := Nat.le_trans Z0 (Nat.le_of_eq g3.symm)
  have sz_b3 : h0.size ≤ b3 := Nat.le_trans (Keep.refl h0 []).1 (Nat.le_of_eq g3.symm)
  have F_value_b3 : Fld Z h3 b3 "java/lang/String" "value" "[B" .null := D3 (Or.inr (own_w hw 23 rfl)) (ty := (.array .byte)) (by decide)
  have F_coder_b3 : Fld Z h3 b3 "java/lang/String" "coder" "B" (.int (0 : Int32)) := D3 (Or.inr (own_w hw 25 rfl)) (ty := .byte) (by decide)
  have Zc5 : n0 ≤ h3.size := (Nat.le_trans Z0 E3.1)
  obtain ⟨_, _, ⟨T4, Lw4, kw4, nw4⟩, -, X4, ⟨Lc4, hQ4, l4, y4, z4⟩, st4⟩ := Jvm.LawKit.callS X3 hx (y := (⟨"java/lang/StringLatin1", "toBytes", "(C)[B"⟩ : MethodName)) hown (mvT hZ (own_w hw 11 rfl)) (mvT hZ (own_w hw 12 rfl)) (mvT hZ (own_w hw 7 rfl)) (mvT hZ (own_w hw 13 rfl)) (by decide) (backOf (W := 2) (rm3 l Z a0 hw [] x1 h3 n0 Zc5 ) hZ (own_w hw 13 rfl) (own_w hw 7 rfl) (by decide) (by decide)) (g := (mkF m 18 #[iv x1] [(.int x1), (.ref b3), (.ref b3)])) rfl (by rw [hml]; rfl) (argsL := [(.int x1)]) (rest := [(.ref b3), (.ref b3)]) (lenOf own_pd1 rfl) rfl (by show 2 * 0 + _ ≤ _; exact Nat.le_of_eq rfl) (hb hby d1_18) (fun _ _ => ⟨rfl, e3, (by decide : 1 + 1 ≤ _), (by decide : 4 + 1 ≤ _)⟩)
  dsimp only [Pt.U, Pt.locs, Pt.cells, Pt.slots] at X4 l4 y4 z4 st4 hQ4
  subst l4 y4 z4
  obtain ⟨b4, rfl, Nq4, K4, pf4_0, pf4_1⟩ := hQ4
  have N4 := Fr.app N2 Nq4
  have ne_b3_b4 : b3 ≠ b4 := Nat.ne_of_lt (Nat.lt_of_lt_of_le A3.lt pf4_0)
  have Ec7 : Exa Z T4.heap b3 "java/lang/String" := (A3.keep K4)
  have Fc8 : Fld Z T4.heap b3 "java/lang/String" "value" "[B" .null := (F_value_b3.keep K4 nin0)
  have Fc9 : Fld Z T4.heap b3 "java/lang/String" "coder" "B" (.int (0 : Int32)) := (F_coder_b3.keep K4 nin0)
  have Zc10 : n0 ≤ T4.heap.size := (Nat.le_trans Zc5 K4.1)
  obtain ⟨_, _, ⟨T6, Lw6, kw6, nw6⟩, -, X6, ⟨Lc6, hQ6, l6, y6, z6⟩, st6⟩ := X4.specialBack hx (y := (⟨"java/lang/String", "<init>", "([BB)V"⟩ : MethodName)) rfl hown (mvT hZ (own_w hw 15 rfl)) (mvT hZ (own_w hw 16 rfl)) (mvT hZ (own_w hw 18 rfl)) (by decide) (backOf (W := 1) (rm4 l Z a0 hw [] b3 b4 (0 : Int32) .null (.int (0 : Int32)) T4.heap n0 Zc10 Ec7 Fc8 g_b3 Fc9) hZ (own_w hw 18 rfl) (own_w hw 2 rfl) (by decide) (by decide)) (g := (mkF m 22 #[iv x1] [(.int (0 : Int32)), (.ref b4), (.ref b3), (.ref b3)])) rfl (by rw [hml]; rfl) (Steps.refl _) (a := b3) (argsL := [(.ref b4), (.int (0 : Int32))]) (rest := [(.ref b3)]) (lenOf own_pd2 rfl) rfl (by show 2 * 0 + _ ≤ _; exact Nat.le_of_eq rfl) (hb hby d1_22) (fun _ _ => ⟨rfl, rfl, (by decide : 2 + 0 ≤ _), (by decide : 5 + 0 ≤ _)⟩)
  dsimp only [Pt.U, Pt.locs, Pt.cells, Pt.slots] at X6 l6 y6 z6 st6 hQ6
  subst l6 y6 z6
  obtain ⟨rfl, Nq6, K6⟩ := hQ6
  have N6 := Fr.app N4 Nq6
  have pre11 : ∀ tz, oS p e below T6 m 25 #[iv x1] [(.ref b3)] tz → oS p e below s₁ m 0 #[iv x1] [] tz := fun tz kt => by
    show oS p e below s₁ m 0 #[iv x1] [] _
    refine st1 _ ?_
    refine XS.ifNo X1.here hx rfl (hb hby d1_3) rfl ((if0 _ _).trans (feq hc3).1) ?_
    refine XS.iloadN X1.here hx rfl (hb hby d1_6) rfl ?_
    show oS p e below T1 m 7 #[iv x1] [(.int x1)] _
    refine st2 _ ?_
    refine XS.ifNo X2.here hx rfl (hb hby d1_10) rfl ((if0 _ _).trans (feq (by decide : ¬ ((1 : Int32) = (0 : Int32)))).1) ?_
    show oS p e below T2 m 13 #[iv x1] [] _
    refine st3 _ ?_
    refine XS.dup X3.here hx rfl (hb hby d1_16) rfl rfl ?_
    refine XS.iloadN X3.here hx rfl (hb hby d1_17) rfl ?_
    show oS p e below T3 m 18 #[iv x1] [(.int x1), (.ref b3), (.ref b3)] _
    refine st4 _ ?_
    refine XS.iconst X4.here hx rfl (hb hby d1_21) ?_
    show oS p e below T4 m 22 #[iv x1] [(.int (0 : Int32)), (.ref b4), (.ref b3), (.ref b3)] _
    refine st6.trans ?_
    exact kt
  have KP12 : Keep h0 T6.heap [] := ((((Keep.refl h0 []).ext E3).trans K4 all0).trans K6 (allS (Or.inr sz_b3) all0))
  obtain ⟨fs, hr, hrun, hended, hW, hsame⟩ := X6.leave (v := some (.ref b3)) (fun h => by rw [Bd.returns] at h; cases h)
  refine ⟨_, _, pre0 _ (pre11 _ ?_), hrun, hended, _, _, rfl, ?_, ⟨_, rfl⟩, hW, hsame.mono (by decide) (by decide)⟩
  · show oS p e below T6 m 25 #[iv x1] [(.ref b3)] _
    exact retOut X6 hx Bd.returns rfl (Or.inr (Or.inr (Or.inr (Or.inr ⟨rfl, rfl, rfl⟩)))) (hb hby d1_25) hr
  · show Q1 Z x1 w_COMPACT_STRINGS h0 n0 _ T6.heap _
    exact ⟨b3, rfl, N6, KP12, sz_b3, g_b3⟩
theorem d6_0 : decode prog_16_method_1_code 0 = .ok (.aload_n 0, 1) := by decide +kernel
theorem d6_1 : decode prog_16_method_1_code 1 = .ok (.invokespecial 1, 3) := by decide +kernel
theorem d6_4 : decode prog_16_method_1_code 4 = .ok (.lload_n 1, 1) := by decide +kernel
theorem d6_5 : decode prog_16_method_1_code 5 = .ok (.lconst 0, 1) := by decide +kernel
theorem d6_6 : decode prog_16_method_1_code 6 = .ok (.lcmp, 1) := by decide +kernel
theorem d6_7 : decode prog_16_method_1_code 7 = .ok (.ifCond .lt 11, 3) := by decide +kernel
theorem d6_10 : decode prog_16_method_1_code 10 = .ok (.lload_n 1, 1) := by decide +kernel
theorem d6_11 : decode prog_16_method_1_code 11 = .ok (.ldc2_w 9, 3) := by decide +kernel
theorem d6_14 : decode prog_16_method_1_code 14 = .ok (.lcmp, 1) := by decide +kernel
theorem d6_15 : decode prog_16_method_1_code 15 = .ok (.ifCond .le 17, 3) := by decide +kernel
theorem d6_32 : decode prog_16_method_1_code 32 = .ok (.aload_n 0, 1) := by decide +kernel
theorem d6_33 : decode prog_16_method_1_code 33 = .ok (.lload_n 1, 1) := by decide +kernel
theorem d6_34 : decode prog_16_method_1_code 34 = .ok (.putfield 20, 3) := by decide +kernel
theorem d6_37 : decode prog_16_method_1_code 37 = .ok (.aload_n 0, 1) := by decide +kernel
theorem d6_38 : decode prog_16_method_1_code 38 = .ok (.aload_n 3, 1) := by decide +kernel
theorem d6_39 : decode prog_16_method_1_code 39 = .ok (.putfield 24, 3) := by decide +kernel
theorem d6_42 : decode prog_16_method_1_code 42 = .ok (.aload_n 0, 1) := by decide +kernel
theorem d6_43 : decode prog_16_method_1_code 43 = .ok (.lload_n 1, 1) := by decide +kernel
theorem d6_44 : decode prog_16_method_1_code 44 = .ok (.lconst 0, 1) := by decide +kernel
theorem d6_45 : decode prog_16_method_1_code 45 = .ok (.lcmp, 1) := by decide +kernel
theorem d6_46 : decode prog_16_method_1_code 46 = .ok (.ifCond .ne 9, 3) := by decide +kernel
theorem d6_49 : decode prog_16_method_1_code 49 = .ok (.ldc2_w 30, 3) := by decide +kernel
theorem d6_52 : decode prog_16_method_1_code 52 = .ok (.goto 5, 3) := by decide +kernel
theorem d6_55 : decode prog_16_method_1_code 55 = .ok (.lload 4, 2) := by decide +kernel
theorem d6_57 : decode prog_16_method_1_code 57 = .ok (.putfield 32, 3) := by decide +kernel
theorem d6_60 : decode prog_16_method_1_code 60 = .ok (.return_, 1) := by decide +kernel
theorem own_pn2 : plainName "com/example/holdfast/holdfast/repository/Lease" = true := by first | (simp [plainName, overriddenIn]; done) | decide +kernel
theorem ef6 (m : MethodId) (o : Addr) (x1 : Int64) (x2 : Addr) (x3 : Int64) : entryFrame m #[(.ref o), (.long x1), (.ref x2), (.long x3)] 6 = mkF m 0 #[rv o, lv x1, .second, rv x2, lv x3, .second] [] := by first | (simp [entryFrame, mkF, argsToLocals, Value.category]; done) | rfl
def Q6 (Z : State) (o : Addr) (x1 : Int64) (x2 : Addr) (x3 : Int64) (w_m_nSeconds_o : Value) (w_m_sToken_o : Value) (w_m_nExpiresAt_o : Value) (h0 : Heap) (n0 : Nat) (v : Option Value) (h : Heap) (L : List Loc) : Prop := v = none ∧ Fr n0 L ∧ Keep h0 h [o] ∧ Exa Z h o "com/example/holdfast/holdfast/repository/Lease" ∧ Fld Z h o "com/example/holdfast/holdfast/repository/Lease" "m_nSeconds" "J" (.long x1) ∧ Fld Z h o "com/example/holdfast/holdfast/repository/Lease" "m_sToken" "Ljava/lang/String;" (.ref x2) ∧ Fld Z h o "com/example/holdfast/holdfast/repository/Lease" "m_nExpiresAt" "J" (.long (if x1 = (0 : Int64) then (9223372036854775807 : Int64) else x3))
set_option maxRecDepth 65536 in
set_option maxHeartbeats 40000000 in
theorem rm6 (l : Launch) (Z : State) (a0 : Array Value) (hw : ∀ d ∈ tables_1, d.before a0 Z = true) (ws : List Jvm.Cond) (o : Addr) (x1 : Int64) (x2 : Addr) (x3 : Int64) (w_m_nSeconds_o : Value) (w_m_sToken_o : Value) (w_m_nExpiresAt_o : Value) (h0 : Heap) (n0 : Nat) (Z0 : n0 ≤ h0.size) (k1 : ¬ (x1 < (0 : Int64))) (k2 : ¬ ((4294967295 : Int64) < x1)) (E_o : Exa Z h0 o "com/example/holdfast/holdfast/repository/Lease") (F_m_nSeconds_o : Fld Z h0 o "com/example/holdfast/holdfast/repository/Lease" "m_nSeconds" "J" w_m_nSeconds_o) (g_o : n0 ≤ o) (F_m_sToken_o : Fld Z h0 o "com/example/holdfast/holdfast/repository/Lease" "m_sToken" "Ljava/lang/String;" w_m_sToken_o) (F_m_nExpiresAt_o : Fld Z h0 o "com/example/holdfast/holdfast/repository/Lease" "m_nExpiresAt" "J" w_m_nExpiresAt_o) :
    MetFree l (⟨"com/example/holdfast/holdfast/repository/Lease", "<init>", "(JLjava/lang/String;J)V"⟩ : MethodName) (head1 (Jvm.Cond.code (⟨"com/example/holdfast/holdfast/repository/Lease", "<init>", "(JLjava/lang/String;J)V"⟩ : MethodName) prog_16_method_1_code 6 none :: ws) ({ frames := 1, cells := 0, slots := 0, locals := 12 } : Room)) (fun a U => a = #[(.ref o), (.long x1), (.ref x2), (.long x3)] ∧ Z.Warmed39 U.vm ∧ U.heap = h0) (fun _ _ _ _ _ => True) (fun _ U oc U' => ∃ v L, oc = .returned v ∧ Q6 Z o x1 x2 x3 w_m_nSeconds_o w_m_sToken_o w_m_nExpiresAt_o h0 n0 v U'.heap L ∧ FrameEnd U oc U' L ({ frames := 1, cells := 0, slots := 0, locals := 12 } : Room).cells ({ frames := 1, cells := 0, slots := 0, locals := 12 } : Room).slots) := by
  refine MetFree.of_bodySF (plainFor_of_name own_pn2) hisR ?_
  intro p e s m args below meth c s₁ Bd hml0 hP hK
  obtain ⟨rfl, hZ, hh⟩ := hP
  have hx := Bd.exec
  have hby := Bd.bytes
  have hml : c.maxLocals = 6 := hml0
  have hown : s.vm.findClass "com/example/holdfast/holdfast/repository/Lease" = some m.cls := findClass_of_methodNamed Bd.named
  have hnm := (name_of_methodNamed Bd.named Bd.method).1
  have X0 : Stand p l e ({ frames := 1, cells := 0, slots := 0, locals := 12 } : Room) s m #[(.ref o), (.long x1), (.ref x2), (.long x3)] below meth c s₁ [] 0 0 := Stand.of_body Bd
  have e0 : s₁.heap = h0 := by rw [← hh, Bd.state]; rfl
  have N0 := Fr.nil n0
  have pre0 : ∀ t, Steps p.tables e below (s₁.setTop (mkF m 0 #[rv o, lv x1, .second, rv x2, lv x3, .second] [])) t → Steps p.tables e below (s₁.setTop (entryFrame m #[(.ref o), (.long x1), (.ref x2), (.long x3)] 6)) t := fun t k => castTop (ef6 m o x1 x2 x3) k
  obtain ⟨T1, X1, e1, st1⟩ := initO X0 hx hZ hown (own_w hw 32 rfl) (own_w hw 20 rfl) (own_w hw 21 rfl) e0 (g := (mkF m 1 #[rv o, lv x1, .second, rv x2, lv x3, .second] [(.ref o)])) rfl (by rw [hml]; rfl) rfl (hb hby d6_1) (by decide) (W := 0) (by show 2 * 0 + _ ≤ _; exact Nat.le_of_eq rfl) (by decide)
  have hc7 : ¬ (x1 < (0 : Int64)) := id fun hc7 => by
    exact k1 hc7
  have hc15 : ¬ ((4294967295 : Int64) < x1) := id fun hc15 => by
    exact k2 hc15
  obtain ⟨T2, h2, X2, e2, W2, st2⟩ := putF X1 hx hZ hown (host := "") (Or.inl (own_w hw 34 rfl)) Via.refl e1 F_m_nSeconds_o E_o (Or.inr ⟨(own_w hw 35 rfl), rfl, hnm⟩) (own_w hw 27 rfl) (ty := .long) (by decide) rfl rfl (g := (mkF m 34 #[rv o, lv x1, .second, rv x2, lv x3, .second] [(.long x1), (.ref o)])) rfl rfl (hb hby d6_34)
  have Fw2 : Fld Z h2 o "com/example/holdfast/holdfast/repository/Lease" "m_nSeconds" "J" (.long x1) := F_m_nSeconds_o.same W2
  have N2 := Fr.snoc X2 N0 g_o
  have Ec3 : Exa Z h2 o "com/example/holdfast/holdfast/repository/Lease" := (E_o.wr W2)
  have Fc4 : Fld Z h2 o "com/example/holdfast/holdfast/repository/Lease" "m_sToken" "Ljava/lang/String;" w_m_sToken_o := (F_m_sToken_o.other W2 (Or.inr (slot_ne (Or.inr (own_w hw 37 rfl)) (Or.inr (own_w hw 35 rfl)) (by decide) (t := (.object "java/lang/String")) (t' := .long) (by decide) (by decide))))
  obtain ⟨T5, h5, X5, e5, W5, st5⟩ := putF X2 hx hZ hown (host := "") (Or.inl (own_w hw 36 rfl)) Via.refl e2 Fc4 Ec3 (Or.inr ⟨(own_w hw 37 rfl), rfl, hnm⟩) (own_w hw 27 rfl) (ty := (.object "java/lang/String")) (by decide) rfl rfl (g := (mkF m 39 #[rv o, lv x1, .second, rv x2, lv x3, .second] [(.ref x2), (.ref o)])) rfl rfl (hb hby d6_39)
  have Fw5 : Fld Z h5 o "com/example/holdfast/holdfast/repository/Lease" "m_sToken" "Ljava/lang/String;" (.ref x2) := Fc4.same W5
  have N5 := Fr.snoc X5 N2 g_o
  have pre6 : ∀ tz, oS p e below T5 m 46 #[rv o, lv x1, .second, rv x2, lv x3, .second] [(.int (lcmpW x1 (0 : Int64))), (.ref o)] tz → oS p e below s₁ m 0 #[rv o, lv x1, .second, rv x2, lv x3, .second] [] tz := fun tz kt => by
    show oS p e below s₁ m 0 #[rv o, lv x1, .second, rv x2, lv x3, .second] [] _
    refine XS.aloadN X0.here hx rfl (hb hby d6_0) rfl rfl ?_
    show oS p e below s₁ m 1 #[rv o, lv x1, .second, rv x2, lv x3, .second] [(.ref o)] _
    refine st1 _ ?_
    refine XS.lloadN X1.here hx rfl (hb hby d6_4) rfl ?_
    refine XS.lconst X1.here hx rfl (hb hby d6_5) ?_
    refine XS.lcmp X1.here hx rfl (hb hby d6_6) rfl ?_
    show oS p e below T1 m 7 #[rv o, lv x1, .second, rv x2, lv x3, .second] [(.int (lcmpW x1 (0 : Int64)))] _
    refine XS.ifNo X1.here hx rfl (hb hby d6_7) rfl ((if0 _ _).trans (flt (fun q => hc7 ((lw_lt x1 (0 : Int64)).mp q))).1) ?_
    refine XS.lloadN X1.here hx rfl (hb hby d6_10) rfl ?_
    refine X1.ldc2Long hx hown (mvT hZ (own_w hw 33 rfl)) (g := (mkF m 11 #[rv o, lv x1, .second, rv x2, lv x3, .second] [(.long x1)])) rfl (hb hby d6_11) _ ?_
    refine XS.lcmp X1.here hx rfl (hb hby d6_14) rfl ?_
    show oS p e below T1 m 15 #[rv o, lv x1, .second, rv x2, lv x3, .second] [(.int (lcmpW x1 (4294967295 : Int64)))] _
    refine XS.ifYes X1.here hx rfl (pc0 := 15) (pc' := 32) rfl (hb hby d6_15) rfl ((if0 _ _).trans (flt (fun q => hc15 ((lw_gt x1 (4294967295 : Int64)).mp q))).2.2.2) (by decide) (by decide) ?_
    refine XS.aloadN X1.here hx rfl (hb hby d6_32) rfl rfl ?_
    refine XS.lloadN X1.here hx rfl (hb hby d6_33) rfl ?_
    show oS p e below T1 m 34 #[rv o, lv x1, .second, rv x2, lv x3, .second] [(.long x1), (.ref o)] _
    refine st2 _ ?_
    refine XS.aloadN X2.here hx rfl (hb hby d6_37) rfl rfl ?_
    refine XS.aloadN X2.here hx rfl (hb hby d6_38) rfl rfl ?_
    show oS p e below T2 m 39 #[rv o, lv x1, .second, rv x2, lv x3, .second] [(.ref x2), (.ref o)] _
    refine st5 _ ?_
    refine XS.aloadN X5.here hx rfl (hb hby d6_42) rfl rfl ?_
    refine XS.lloadN X5.here hx rfl (hb hby d6_43) rfl ?_
    refine XS.lconst X5.here hx rfl (hb hby d6_44) ?_
    show oS p e below T5 m 45 #[rv o, lv x1, .second, rv x2, lv x3, .second] [(.long (0 : Int64)), (.long x1), (.ref o)] _
    refine XS.lcmp X5.here hx rfl (hb hby d6_45) rfl ?_
    exact kt
  obtain ⟨v57, T9, Lj9, jv9, N9, X9, e9, st9⟩ := own_join (α := Int64) X5 N5 e5 (mkF m 46 #[rv o, lv x1, .second, rv x2, lv x3, .second] [(.int (lcmpW x1 (0 : Int64))), (.ref o)]) (fun v => (mkF m 57 #[rv o, lv x1, .second, rv x2, lv x3, .second] [(.long v), (.ref o)])) (fun v => v = (if x1 = (0 : Int64) then (9223372036854775807 : Int64) else x3)) (by
      by_cases hc46 : x1 = (0 : Int64)
      · have pre7 : ∀ tz, oS p e below T5 m 57 #[rv o, lv x1, .second, rv x2, lv x3, .second] [(.long (9223372036854775807 : Int64)), (.ref o)] tz → oS p e below T5 m 46 #[rv o, lv x1, .second, rv x2, lv x3, .second] [(.int (lcmpW x1 (0 : Int64))), (.ref o)] tz := fun tz kt => by
          show oS p e below T5 m 46 #[rv o, lv x1, .second, rv x2, lv x3, .second] [(.int (lcmpW x1 (0 : Int64))), (.ref o)] _
          refine XS.ifNo X5.here hx rfl (hb hby d6_46) rfl ((if0 _ _).trans (teq ((lw_eq x1 (0 : Int64)).mpr hc46)).2) ?_
          refine X5.ldc2Long hx hown (mvT hZ (own_w hw 38 rfl)) (g := (mkF m 49 #[rv o, lv x1, .second, rv x2, lv x3, .second] [(.ref o)])) rfl (hb hby d6_49) _ ?_
          refine XS.goto X5.here hx rfl (pc0 := 52) (pc' := 57) rfl (hb hby d6_52) (by decide) (by decide) ?_
          exact kt
        exact ⟨(9223372036854775807 : Int64), T5, _, (by rw [if_pos hc46]), N5, X5, e5, fun tz kt => (pre7 _ kt)⟩
      · have pre8 : ∀ tz, oS p e below T5 m 57 #[rv o, lv x1, .second, rv x2, lv x3, .second] [(.long x3), (.ref o)] tz → oS p e below T5 m 46 #[rv o, lv x1, .second, rv x2, lv x3, .second] [(.int (lcmpW x1 (0 : Int64))), (.ref o)] tz := fun tz kt => by
          show oS p e below T5 m 46 #[rv o, lv x1, .second, rv x2, lv x3, .second] [(.int (lcmpW x1 (0 : Int64))), (.ref o)] _
          refine XS.ifYes X5.here hx rfl (pc0 := 46) (pc' := 55) rfl (hb hby d6_46) rfl ((if0 _ _).trans (feq (fun q => hc46 ((lw_eq x1 (0 : Int64)).mp q))).2) (by decide) (by decide) ?_
          refine XS.lload X5.here hx rfl (hb hby d6_55) rfl ?_
          exact kt
        exact ⟨x3, T5, _, (by rw [if_neg hc46]), N5, X5, e5, fun tz kt => (pre8 _ kt)⟩)
  have hv57 : v57 = (if x1 = (0 : Int64) then (9223372036854775807 : Int64) else x3) := jv9
  have Ec10 : Exa Z h5 o "com/example/holdfast/holdfast/repository/Lease" := (Ec3.wr W5)
  have Fc11 : Fld Z h5 o "com/example/holdfast/holdfast/repository/Lease" "m_nExpiresAt" "J" w_m_nExpiresAt_o := ((F_m_nExpiresAt_o.other W2 (Or.inr (slot_ne (Or.inr (own_w hw 40 rfl)) (Or.inr (own_w hw 35 rfl)) (by decide) (t := .long) (t' := .long) (by decide) (by decide)))).other W5 (Or.inr (slot_ne (Or.inr (own_w hw 40 rfl)) (Or.inr (own_w hw 37 rfl)) (by decide) (t := .long) (t' := (.object "java/lang/String")) (by decide) (by decide))))
  obtain ⟨T12, h12, X12, e12, W12, st12⟩ := putF X9 hx hZ hown (host := "") (Or.inl (own_w hw 39 rfl)) Via.refl e9 Fc11 Ec10 (Or.inr ⟨(own_w hw 40 rfl), rfl, hnm⟩) (own_w hw 27 rfl) (ty := .long) (by decide) rfl rfl (g := (mkF m 57 #[rv o, lv x1, .second, rv x2, lv x3, .second] [(.long v57), (.ref o)])) rfl rfl (hb hby d6_57)
  have Fw12 : Fld Z h12 o "com/example/holdfast/holdfast/repository/Lease" "m_nExpiresAt" "J" (.long v57) := Fc11.same W12
  have N12 := Fr.snoc X12 N9 g_o
  have pre13 : ∀ tz, oS p e below T12 m 60 #[rv o, lv x1, .second, rv x2, lv x3, .second] [] tz → oS p e below T5 m 46 #[rv o, lv x1, .second, rv x2, lv x3, .second] [(.int (lcmpW x1 (0 : Int64))), (.ref o)] tz := fun tz kt => by
    show oS p e below T5 m 46 #[rv o, lv x1, .second, rv x2, lv x3, .second] [(.int (lcmpW x1 (0 : Int64))), (.ref o)] _
    refine st9 _ ?_
    show oS p e below T9 m 57 #[rv o, lv x1, .second, rv x2, lv x3, .second] [(.long v57), (.ref o)] _
    refine st12 _ ?_
    exact kt
  have Ec14 : Exa Z h12 o "com/example/holdfast/holdfast/repository/Lease" := (Ec10.wr W12)
  have KP15 : Keep h0 h12 [o] := ((((Keep.refl h0 [o]).wr W2 (Or.inl (List.mem_of_getElem? (i := 0) rfl))).wr W5 (Or.inl (List.mem_of_getElem? (i := 0) rfl))).wr W12 (Or.inl (List.mem_of_getElem? (i := 0) rfl)))
  have Fc16 : Fld Z h12 o "com/example/holdfast/holdfast/repository/Lease" "m_nSeconds" "J" (.long x1) := ((Fw2.other W5 (Or.inr (slot_ne (Or.inr (own_w hw 35 rfl)) (Or.inr (own_w hw 37 rfl)) (by decide) (t := .long) (t' := (.object "java/lang/String")) (by decide) (by decide)))).other W12 (Or.inr (slot_ne (Or.inr (own_w hw 35 rfl)) (Or.inr (own_w hw 40 rfl)) (by decide) (t := .long) (t' := .long) (by decide) (by decide))))
  have Fc17 : Fld Z h12 o "com/example/holdfast/holdfast/repository/Lease" "m_sToken" "Ljava/lang/String;" (.ref x2) := (Fw5.other W12 (Or.inr (slot_ne (Or.inr (own_w hw 37 rfl)) (Or.inr (own_w hw 40 rfl)) (by decide) (t := (.object "java/lang/String")) (t' := .long) (by decide) (by decide))))
  obtain ⟨fs, hr, hrun, hended, hW, hsame⟩ := X12.leave (v := none) (fun _ => rfl)
  refine ⟨_, _, pre0 _ (pre6 _ (pre13 _ ?_)), hrun, hended, _, _, rfl, ?_, ⟨_, rfl⟩, hW, hsame.mono (by decide) (by decide)⟩
  · show oS p e below T12 m 60 #[rv o, lv x1, .second, rv x2, lv x3, .second] [] _
    exact X12.returnOut hx Bd.returns (hb hby d6_60) hr
  · show Q6 Z o x1 x2 x3 w_m_nSeconds_o w_m_sToken_o w_m_nExpiresAt_o h0 n0 _ T12.heap _
    rw [e12]
    exact ⟨(by subst hv57; first | rfl | simp only []), N12, KP15, Ec14, Fc16, Fc17, (by subst hv57; exact Fw12)⟩
theorem d7_0 : decode prog_16_method_4_code 0 = .ok (.aload_n 0, 1) := by decide +kernel
theorem d7_1 : decode prog_16_method_4_code 1 = .ok (.getfield 20, 3) := by decide +kernel
theorem d7_4 : decode prog_16_method_4_code 4 = .ok (.lconst 0, 1) := by decide +kernel
theorem d7_5 : decode prog_16_method_4_code 5 = .ok (.lcmp, 1) := by decide +kernel
theorem d7_6 : decode prog_16_method_4_code 6 = .ok (.ifCond .ne 7, 3) := by decide +kernel
theorem d7_9 : decode prog_16_method_4_code 9 = .ok (.iconst 1, 1) := by decide +kernel
theorem d7_10 : decode prog_16_method_4_code 10 = .ok (.goto 4, 3) := by decide +kernel
theorem d7_13 : decode prog_16_method_4_code 13 = .ok (.iconst 0, 1) := by decide +kernel
theorem d7_14 : decode prog_16_method_4_code 14 = .ok (.ireturn, 1) := by decide +kernel
theorem ef7 (m : MethodId) (o : Addr) : entryFrame m #[(.ref o)] 1 = mkF m 0 #[rv o] [] := by first | (simp [entryFrame, mkF, argsToLocals, Value.category]; done) | rfl
def Q7 (Z : State) (o : Addr) (w_m_nSeconds_o : Int64) (h0 : Heap) (n0 : Nat) (v : Option Value) (h : Heap) (L : List Loc) : Prop := v = some (.int (if w_m_nSeconds_o = (0 : Int64) then (1 : Int32) else (0 : Int32))) ∧ Fr n0 L ∧ h = h0
set_option maxRecDepth 65536 in
set_option maxHeartbeats 40000000 in
theorem rm7 (l : Launch) (Z : State) (a0 : Array Value) (hw : ∀ d ∈ tables_1, d.before a0 Z = true) (ws : List Jvm.Cond) (o : Addr) (w_m_nSeconds_o : Int64) (h0 : Heap) (n0 : Nat) (Z0 : n0 ≤ h0.size) (F_m_nSeconds_o : Fld Z h0 o "com/example/holdfast/holdfast/repository/Lease" "m_nSeconds" "J" (.long w_m_nSeconds_o)) :
    MetFree l (⟨"com/example/holdfast/holdfast/repository/Lease", "isInfinite", "()Z"⟩ : MethodName) (head1 (Jvm.Cond.code (⟨"com/example/holdfast/holdfast/repository/Lease", "isInfinite", "()Z"⟩ : MethodName) prog_16_method_4_code 1 (some .boolean) :: ws) ({ frames := 0, cells := 0, slots := 0, locals := 0 } : Room)) (fun a U => a = #[(.ref o)] ∧ Z.Warmed39 U.vm ∧ U.heap = h0) (fun _ _ _ _ _ => True) (fun _ U oc U' => ∃ v L, oc = .returned v ∧ Q7 Z o w_m_nSeconds_o h0 n0 v U'.heap L ∧ FrameEnd U oc U' L ({ frames := 0, cells := 0, slots := 0, locals := 0 } : Room).cells ({ frames := 0, cells := 0, slots := 0, locals := 0 } : Room).slots) := by
  refine MetFree.of_bodySF (plainFor_of_name own_pn2) hisR ?_
  intro p e s m args below meth c s₁ Bd hml0 hP hK
  obtain ⟨rfl, hZ, hh⟩ := hP
  have hx := Bd.exec
  have hby := Bd.bytes
  have hml : c.maxLocals = 1 := hml0
  have hown : s.vm.findClass "com/example/holdfast/holdfast/repository/Lease" = some m.cls := findClass_of_methodNamed Bd.named
  have hnm := (name_of_methodNamed Bd.named Bd.method).1
  have X0 : Stand p l e ({ frames := 0, cells := 0, slots := 0, locals := 0 } : Room) s m #[(.ref o)] below meth c s₁ [] 0 0 := Stand.of_body Bd
  have e0 : s₁.heap = h0 := by rw [← hh, Bd.state]; rfl
  have N0 := Fr.nil n0
  have pre0 : ∀ t, Steps p.tables e below (s₁.setTop (mkF m 0 #[rv o] [])) t → Steps p.tables e below (s₁.setTop (entryFrame m #[(.ref o)] 1)) t := fun t k => castTop (ef7 m o) k
  obtain ⟨T1, X1, e1, st1⟩ := getF X0 hx hZ hown (host := "") (Or.inl (own_w hw 34 rfl)) Via.refl e0 F_m_nSeconds_o (g := (mkF m 1 #[rv o] [(.ref o)])) rfl rfl (hb hby d7_1)
  have pre2 : ∀ tz, oS p e below T1 m 6 #[rv o] [(.int (lcmpW w_m_nSeconds_o (0 : Int64)))] tz → oS p e below s₁ m 0 #[rv o] [] tz := fun tz kt => by
    show oS p e below s₁ m 0 #[rv o] [] _
    refine XS.aloadN X0.here hx rfl (hb hby d7_0) rfl rfl ?_
    show oS p e below s₁ m 1 #[rv o] [(.ref o)] _
    refine st1 _ ?_
    refine XS.lconst X1.here hx rfl (hb hby d7_4) ?_
    refine XS.lcmp X1.here hx rfl (hb hby d7_5) rfl ?_
    exact kt
  by_cases hc6 : w_m_nSeconds_o = (0 : Int64)
  · have pre3 : ∀ tz, oS p e below T1 m 14 #[rv o] [(.int (1 : Int32))] tz → oS p e below T1 m 6 #[rv o] [(.int (lcmpW w_m_nSeconds_o (0 : Int64)))] tz := fun tz kt => by
      show oS p e below T1 m 6 #[rv o] [(.int (lcmpW w_m_nSeconds_o (0 : Int64)))] _
      refine XS.ifNo X1.here hx rfl (hb hby d7_6) rfl ((if0 _ _).trans (teq ((lw_eq w_m_nSeconds_o (0 : Int64)).mpr hc6)).2) ?_
      refine XS.iconst X1.here hx rfl (hb hby d7_9) ?_
      refine XS.goto X1.here hx rfl (pc0 := 10) (pc' := 14) rfl (hb hby d7_10) (by decide) (by decide) ?_
      exact kt
    obtain ⟨fs, hr, hrun, hended, hW, hsame⟩ := X1.leave (v := some (.int (1 : Int32))) (fun h => by rw [Bd.returns] at h; cases h)
    refine ⟨_, _, pre0 _ (pre2 _ (pre3 _ ?_)), hrun, hended, _, _, rfl, ?_, ⟨_, rfl⟩, hW, hsame.mono (by decide) (by decide)⟩
    · show oS p e below T1 m 14 #[rv o] [(.int (1 : Int32))] _
      exact retN X1 hx (t := .boolean) Bd.returns (by simp) (hb hby d7_14) hr
    · show Q7 Z o w_m_nSeconds_o h0 n0 _ T1.heap _
      rw [e1]
      exact ⟨(by first | rfl | simp only [if_pos hc6]), N0, rfl⟩
  · have pre4 : ∀ tz, oS p e below T1 m 14 #[rv o] [(.int (0 : Int32))] tz → oS p e below T1 m 6 #[rv o] [(.int (lcmpW w_m_nSeconds_o (0 : Int64)))] tz := fun tz kt => by
      show oS p e below T1 m 6 #[rv o] [(.int (lcmpW w_m_nSeconds_o (0 : Int64)))] _
      refine XS.ifYes X1.here hx rfl (pc0 := 6) (pc' := 13) rfl (hb hby d7_6) rfl ((if0 _ _).trans (feq (fun q => hc6 ((lw_eq w_m_nSeconds_o (0 : Int64)).mp q))).2) (by decide) (by decide) ?_
      refine XS.iconst X1.here hx rfl (hb hby d7_13) ?_
      exact kt
    obtain ⟨fs, hr, hrun, hended, hW, hsame⟩ := X1.leave (v := some (.int (0 : Int32))) (fun h => by rw [Bd.returns] at h; cases h)
    refine ⟨_, _, pre0 _ (pre2 _ (pre4 _ ?_)), hrun, hended, _, _, rfl, ?_, ⟨_, rfl⟩, hW, hsame.mono (by decide) (by decide)⟩
    · show oS p e below T1 m 14 #[rv o] [(.int (0 : Int32))] _
      exact retN X1 hx (t := .boolean) Bd.returns (by simp) (hb hby d7_14) hr
    · show Q7 Z o w_m_nSeconds_o h0 n0 _ T1.heap _
      rw [e1]
      exact ⟨(by first | rfl | simp only [if_neg hc6]), N0, rfl⟩
theorem d8_0 : decode prog_16_method_7_code 0 = .ok (.aload_n 0, 1) := by decide +kernel
theorem d8_1 : decode prog_16_method_7_code 1 = .ok (.getfield 32, 3) := by decide +kernel
theorem d8_4 : decode prog_16_method_7_code 4 = .ok (.lreturn, 1) := by decide +kernel
theorem ef8 (m : MethodId) (o : Addr) : entryFrame m #[(.ref o)] 1 = mkF m 0 #[rv o] [] := by first | (simp [entryFrame, mkF, argsToLocals, Value.category]; done) | rfl
def Q8 (Z : State) (o : Addr) (w_m_nExpiresAt_o : Int64) (h0 : Heap) (n0 : Nat) (v : Option Value) (h : Heap) (L : List Loc) : Prop := v = some (.long w_m_nExpiresAt_o) ∧ Fr n0 L ∧ h = h0
set_option maxRecDepth 65536 in
set_option maxHeartbeats 40000000 in
theorem rm8 (l : Launch) (Z : State) (a0 : Array Value) (hw : ∀ d ∈ tables_1, d.before a0 Z = true) (ws : List Jvm.Cond) (o : Addr) (w_m_nExpiresAt_o : Int64) (h0 : Heap) (n0 : Nat) (Z0 : n0 ≤ h0.size) (F_m_nExpiresAt_o : Fld Z h0 o "com/example/holdfast/holdfast/repository/Lease" "m_nExpiresAt" "J" (.long w_m_nExpiresAt_o)) :
    MetFree l (⟨"com/example/holdfast/holdfast/repository/Lease", "getExpiresAt", "()J"⟩ : MethodName) (head1 (Jvm.Cond.code (⟨"com/example/holdfast/holdfast/repository/Lease", "getExpiresAt", "()J"⟩ : MethodName) prog_16_method_7_code 1 (some .long) :: ws) ({ frames := 0, cells := 0, slots := 0, locals := 0 } : Room)) (fun a U => a = #[(.ref o)] ∧ Z.Warmed39 U.vm ∧ U.heap = h0) (fun _ _ _ _ _ => True) (fun _ U oc U' => ∃ v L, oc = .returned v ∧ Q8 Z o w_m_nExpiresAt_o h0 n0 v U'.heap L ∧ FrameEnd U oc U' L ({ frames := 0, cells := 0, slots := 0, locals := 0 } : Room).cells ({ frames := 0, cells := 0, slots := 0, locals := 0 } : Room).slots) := by
  refine MetFree.of_bodySF (plainFor_of_name own_pn2) hisR ?_
  intro p e s m args below meth c s₁ Bd hml0 hP hK
  obtain ⟨rfl, hZ, hh⟩ := hP
  have hx := Bd.exec
  have hby := Bd.bytes
  have hml : c.maxLocals = 1 := hml0
  have hown : s.vm.findClass "com/example/holdfast/holdfast/repository/Lease" = some m.cls := findClass_of_methodNamed Bd.named
  have hnm := (name_of_methodNamed Bd.named Bd.method).1
  have X0 : Stand p l e ({ frames := 0, cells := 0, slots := 0, locals := 0 } : Room) s m #[(.ref o)] below meth c s₁ [] 0 0 := Stand.of_body Bd
  have e0 : s₁.heap = h0 := by rw [← hh, Bd.state]; rfl
  have N0 := Fr.nil n0
  have pre0 : ∀ t, Steps p.tables e below (s₁.setTop (mkF m 0 #[rv o] [])) t → Steps p.tables e below (s₁.setTop (entryFrame m #[(.ref o)] 1)) t := fun t k => castTop (ef8 m o) k
  obtain ⟨T1, X1, e1, st1⟩ := getF X0 hx hZ hown (host := "") (Or.inl (own_w hw 39 rfl)) Via.refl e0 F_m_nExpiresAt_o (g := (mkF m 1 #[rv o] [(.ref o)])) rfl rfl (hb hby d8_1)
  have pre2 : ∀ tz, oS p e below T1 m 4 #[rv o] [(.long w_m_nExpiresAt_o)] tz → oS p e below s₁ m 0 #[rv o] [] tz := fun tz kt => by
    show oS p e below s₁ m 0 #[rv o] [] _
    refine XS.aloadN X0.here hx rfl (hb hby d8_0) rfl rfl ?_
    show oS p e below s₁ m 1 #[rv o] [(.ref o)] _
    refine st1 _ ?_
    exact kt
  obtain ⟨fs, hr, hrun, hended, hW, hsame⟩ := X1.leave (v := some (.long w_m_nExpiresAt_o)) (fun h => by rw [Bd.returns] at h; cases h)
  refine ⟨_, _, pre0 _ (pre2 _ ?_), hrun, hended, _, _, rfl, ?_, ⟨_, rfl⟩, hW, hsame.mono (by decide) (by decide)⟩
  · show oS p e below T1 m 4 #[rv o] [(.long w_m_nExpiresAt_o)] _
    exact retOut X1 hx Bd.returns rfl (Or.inr (Or.inl ⟨rfl, rfl, _, rfl⟩)) (hb hby d8_4) hr
  · show Q8 Z o w_m_nExpiresAt_o h0 n0 _ T1.heap _
    rw [e1]
    exact ⟨rfl, N0, rfl⟩
theorem own_pd3 : parseMethodDescriptor "(C)Ljava/lang/String;" = some ⟨[.char], some (.object "java/lang/String")⟩ := by decide +kernel
theorem own_pd4 : parseMethodDescriptor "(JLjava/lang/String;J)V" = some ⟨[.long, (.object "java/lang/String"), .long], none⟩ := by decide +kernel
theorem own_pd5 : parseMethodDescriptor "()Z" = some ⟨[], some .boolean⟩ := by decide +kernel
theorem own_pd6 : parseMethodDescriptor "()J" = some ⟨[], some .long⟩ := by decide +kernel
theorem own_pn3 : plainName "com/example/holdfast/holdfast/repository/LeaseIsInfinitePinLaw" = true := by first | (simp [plainName, overriddenIn]; done) | decide +kernel
theorem ef0 (m : MethodId) (x1 : Int64) (x2 : Int64) (x3 : Int32) (x4 : Int32) : entryFrame m #[(.long x1), (.long x2), (.int x3), (.int x4)] maxLocals = mkF m 0 #[lv x1, .second, lv x2, .second, iv x3, iv x4, .unset, .unset, .unset, .unset, .unset] [] := by first | (simp [entryFrame, mkF, argsToLocals, Value.category, maxLocals]; done) | rfl
def Q0 (Z : State) (x1 : Int64) (x2 : Int64) (x3 : Int32) (x4 : Int32) (w_COMPACT_STRINGS : Int32) (h0 : Heap) (n0 : Nat) (v : Option Value) (h : Heap) (L : List Loc) : Prop := v = some (.int (1 : Int32)) ∧ Fr n0 L
set_option maxRecDepth 65536 in
set_option maxHeartbeats 40000000 in
theorem rm0 (l : Launch) (Z : State) (a0 : Array Value) (hw : ∀ d ∈ tables_1, d.before a0 Z = true) (ws : List Jvm.Cond) (x1 : Int64) (x2 : Int64) (x3 : Int32) (x4 : Int32) (w_COMPACT_STRINGS : Int32) (h0 : Heap) (n0 : Nat) (Z0 : n0 ≤ h0.size) (S_COMPACT_STRINGS : Sta Z h0 "java/lang/String" "COMPACT_STRINGS" "Z" (.int w_COMPACT_STRINGS)) (h2 : ¬ (w_COMPACT_STRINGS = (0 : Int32))) :
    MetFree l x (head1 (Jvm.Cond.code x code maxLocals ret :: ws) room_1) (fun a U => a = #[(.long x1), (.long x2), (.int x3), (.int x4)] ∧ Z.Warmed39 U.vm ∧ U.heap = h0) (fun _ _ _ _ _ => True) (fun _ U oc U' => ∃ v L, oc = .returned v ∧ Q0 Z x1 x2 x3 x4 w_COMPACT_STRINGS h0 n0 v U'.heap L ∧ FrameEnd U oc U' L room_1.cells room_1.slots) := by
  refine MetFree.of_bodySF (plainFor_of_name own_pn3) hisR ?_
  intro p e s m args below meth c s₁ Bd hml0 hP hK
  obtain ⟨rfl, hZ, hh⟩ := hP
  have hx := Bd.exec
  have hby := Bd.bytes
  have hml : c.maxLocals = 11 := hml0
  have hown : s.vm.findClass "com/example/holdfast/holdfast/repository/LeaseIsInfinitePinLaw" = some m.cls := findClass_of_methodNamed Bd.named
  have hnm := (name_of_methodNamed Bd.named Bd.method).1
  have X0 : Stand p l e room_1 s m #[(.long x1), (.long x2), (.int x3), (.int x4)] below meth c s₁ [] 0 0 := Stand.of_body Bd
  have e0 : s₁.heap = h0 := by rw [← hh, Bd.state]; rfl
  have N0 := Fr.nil n0
  have pre0 : ∀ t, Steps p.tables e below (s₁.setTop (mkF m 0 #[lv x1, .second, lv x2, .second, iv x3, iv x4, .unset, .unset, .unset, .unset, .unset] [])) t → Steps p.tables e below (s₁.setTop (entryFrame m #[(.long x1), (.long x2), (.int x3), (.int x4)] maxLocals)) t := fun t k => castTop (ef0 m x1 x2 x3 x4) k
  have pre1 : ∀ tz, oS p e below s₁ m 4 #[lv x1, .second, lv x2, .second, iv x3, iv x4, .unset, .unset, .unset, .unset, .unset] [(.int (x4 &&& (1 : Int32)))] tz → oS p e below s₁ m 0 #[lv x1, .second, lv x2, .second, iv x3, iv x4, .unset, .unset, .unset, .unset, .unset] [] tz := fun tz kt => by
    show oS p e below s₁ m 0 #[lv x1, .second, lv x2, .second, iv x3, iv x4, .unset, .unset, .unset, .unset, .unset] [] _
    refine XS.iload X0.here hx rfl (hb hby at_0) rfl ?_
    refine XS.iconst X0.here hx rfl (hb hby at_2) ?_
    refine XS.iand X0.here hx rfl (hb hby at_3) rfl ?_
    exact kt
  obtain ⟨v27, T6, Lj6, jv6, N6, X6, e6, st6⟩ := own_join (α := Int64) X0 N0 e0 (mkF m 4 #[lv x1, .second, lv x2, .second, iv x3, iv x4, .unset, .unset, .unset, .unset, .unset] [(.int (x4 &&& (1 : Int32)))]) (fun v => (mkF m 27 #[lv x1, .second, lv x2, .second, iv x3, iv x4, .unset, .unset, .unset, .unset, .unset] [(.long v)])) (fun v => v = (if (x4 &&& (1 : Int32)) = (0 : Int32) then (if (x4 &&& (2 : Int32)) = (0 : Int32) then (x1 &&& (4294967295 : Int64)) else (1 : Int64)) else (0 : Int64))) (by
      by_cases hc4 : (x4 &&& (1 : Int32)) = (0 : Int32)
      · have pre2 : ∀ tz, oS p e below s₁ m 15 #[lv x1, .second, lv x2, .second, iv x3, iv x4, .unset, .unset, .unset, .unset, .unset] [(.int (x4 &&& (2 : Int32)))] tz → oS p e below s₁ m 4 #[lv x1, .second, lv x2, .second, iv x3, iv x4, .unset, .unset, .unset, .unset, .unset] [(.int (x4 &&& (1 : Int32)))] tz := fun tz kt => by
          show oS p e below s₁ m 4 #[lv x1, .second, lv x2, .second, iv x3, iv x4, .unset, .unset, .unset, .unset, .unset] [(.int (x4 &&& (1 : Int32)))] _
          refine XS.ifYes X0.here hx rfl (pc0 := 4) (pc' := 11) rfl (hb hby at_4) rfl ((if0 _ _).trans (teq hc4).1) (by decide) (by decide) ?_
          refine XS.iload X0.here hx rfl (hb hby at_11) rfl ?_
          refine XS.iconst X0.here hx rfl (hb hby at_13) ?_
          refine XS.iand X0.here hx rfl (hb hby at_14) rfl ?_
          exact kt
        by_cases hc15 : (x4 &&& (2 : Int32)) = (0 : Int32)
        · have pre3 : ∀ tz, oS p e below s₁ m 27 #[lv x1, .second, lv x2, .second, iv x3, iv x4, .unset, .unset, .unset, .unset, .unset] [(.long (x1 &&& (4294967295 : Int64)))] tz → oS p e below s₁ m 15 #[lv x1, .second, lv x2, .second, iv x3, iv x4, .unset, .unset, .unset, .unset, .unset] [(.int (x4 &&& (2 : Int32)))] tz := fun tz kt => by
            show oS p e below s₁ m 15 #[lv x1, .second, lv x2, .second, iv x3, iv x4, .unset, .unset, .unset, .unset, .unset] [(.int (x4 &&& (2 : Int32)))] _
            refine XS.ifYes X0.here hx rfl (pc0 := 15) (pc' := 22) rfl (hb hby at_15) rfl ((if0 _ _).trans (teq hc15).1) (by decide) (by decide) ?_
            refine XS.lloadN X0.here hx rfl (hb hby at_22) rfl ?_
            refine X0.ldc2Long hx hown (mvT hZ (own_w hw 52 rfl)) (g := (mkF m 23 #[lv x1, .second, lv x2, .second, iv x3, iv x4, .unset, .unset, .unset, .unset, .unset] [(.long x1)])) rfl (hb hby at_23) _ ?_
            refine XS.land X0.here hx rfl (hb hby at_26) rfl ?_
            exact kt
          exact ⟨(x1 &&& (4294967295 : Int64)), s₁, _, (by rw [if_pos hc4, if_pos hc15]), N0, X0, e0, fun tz kt => (pre2 _ (pre3 _ kt))⟩
        · have pre4 : ∀ tz, oS p e below s₁ m 27 #[lv x1, .second, lv x2, .second, iv x3, iv x4, .unset, .unset, .unset, .unset, .unset] [(.long (1 : Int64))] tz → oS p e below s₁ m 15 #[lv x1, .second, lv x2, .second, iv x3, iv x4, .unset, .unset, .unset, .unset, .unset] [(.int (x4 &&& (2 : Int32)))] tz := fun tz kt => by
            show oS p e below s₁ m 15 #[lv x1, .second, lv x2, .second, iv x3, iv x4, .unset, .unset, .unset, .unset, .unset] [(.int (x4 &&& (2 : Int32)))] _
            refine XS.ifNo X0.here hx rfl (hb hby at_15) rfl ((if0 _ _).trans (feq hc15).1) ?_
            refine XS.lconst X0.here hx rfl (hb hby at_18) ?_
            refine XS.goto X0.here hx rfl (pc0 := 19) (pc' := 27) rfl (hb hby at_19) (by decide) (by decide) ?_
            exact kt
          exact ⟨(1 : Int64), s₁, _, (by rw [if_pos hc4, if_neg hc15]), N0, X0, e0, fun tz kt => (pre2 _ (pre4 _ kt))⟩
      · have pre5 : ∀ tz, oS p e below s₁ m 27 #[lv x1, .second, lv x2, .second, iv x3, iv x4, .unset, .unset, .unset, .unset, .unset] [(.long (0 : Int64))] tz → oS p e below s₁ m 4 #[lv x1, .second, lv x2, .second, iv x3, iv x4, .unset, .unset, .unset, .unset, .unset] [(.int (x4 &&& (1 : Int32)))] tz := fun tz kt => by
          show oS p e below s₁ m 4 #[lv x1, .second, lv x2, .second, iv x3, iv x4, .unset, .unset, .unset, .unset, .unset] [(.int (x4 &&& (1 : Int32)))] _
          refine XS.ifNo X0.here hx rfl (hb hby at_4) rfl ((if0 _ _).trans (feq hc4).1) ?_
          refine XS.lconst X0.here hx rfl (hb hby at_7) ?_
          refine XS.goto X0.here hx rfl (pc0 := 8) (pc' := 27) rfl (hb hby at_8) (by decide) (by decide) ?_
          exact kt
        exact ⟨(0 : Int64), s₁, _, (by rw [if_neg hc4]), N0, X0, e0, fun tz kt => (pre5 _ kt)⟩)
  have hv27 : v27 = (if (x4 &&& (1 : Int32)) = (0 : Int32) then (if (x4 &&& (2 : Int32)) = (0 : Int32) then (x1 &&& (4294967295 : Int64)) else (1 : Int64)) else (0 : Int64)) := jv6
  have hp7_h1 : ¬ ((255 : Int32) < ((x3 &&& (255 : Int32)).toUInt32.toUInt16.toUInt32.toInt32)) := (own_ch _)
  have hp7_h2 : ¬ (w_COMPACT_STRINGS = (0 : Int32)) := h2
  obtain ⟨_, _, ⟨T7, Lw7, kw7, nw7⟩, -, X7, ⟨Lc7, hQ7, l7, y7, z7⟩, st7⟩ := Jvm.LawKit.callS X6 hx (y := (⟨"java/lang/String", "valueOf", "(C)Ljava/lang/String;"⟩ : MethodName)) hown (mvT hZ (own_w hw 0 rfl)) (mvT hZ (own_w hw 1 rfl)) (mvT hZ (own_w hw 2 rfl)) (mvT hZ (own_w hw 3 rfl)) (by decide) (backOf (W := 0) (rm1 l Z a0 hw [] ((x3 &&& (255 : Int32)).toUInt32.toUInt16.toUInt32.toInt32) w_COMPACT_STRINGS h0 n0 Z0 hp7_h1 S_COMPACT_STRINGS hp7_h2) hZ (own_w hw 3 rfl) (own_w hw 2 rfl) (by decide) (by decide)) (g := (mkF m 36 #[lv x1, .second, lv x2, .second, iv x3, iv x4, lv v27, .second, .unset, .unset, .unset] [(.int ((x3 &&& (255 : Int32)).toUInt32.toUInt16.toUInt32.toInt32))])) rfl (by rw [hml]; rfl) (argsL := [(.int ((x3 &&& (255 : Int32)).toUInt32.toUInt16.toUInt32.toInt32))]) (rest := []) (lenOf own_pd3 rfl) rfl (by show 2 * 0 + _ ≤ _; exact Nat.le_of_eq rfl) (hb hby at_36) (fun _ _ => ⟨rfl, e6, (by decide : 0 + 2 ≤ _), (by decide : 0 + 5 ≤ _)⟩)
  dsimp only [Pt.U, Pt.locs, Pt.cells, Pt.slots] at X7 l7 y7 z7 st7 hQ7
  subst l7 y7 z7
  obtain ⟨b7, rfl, Nq7, K7, pf7_0, pf7_1⟩ := hQ7
  have N7 := Fr.app N6 Nq7
  have Zc9 : n0 ≤ T7.heap.size := (Nat.le_trans Z0 K7.1)
  obtain ⟨T8, h8, X8, e8, E8, A8, D8, -, st8⟩ := newO X7 hx hZ hown (own_w hw 26 rfl) (own_w hw 27 rfl) (own_w hw 28 rfl) rfl (g := (mkF m 41 #[lv x1, .second, lv x2, .second, iv x3, iv x4, lv v27, .second, rv b7, .unset, .unset] [])) rfl (hb hby at_41) (by decide) (by decide)
  obtain ⟨b8, g8⟩ : ∃ z, z = T7.heap.size := ⟨_, rfl⟩
  rw [← g8] at A8 D8 st8
  have g_b8 : n0 ≤ b8 := Nat.le_trans Zc9 (Nat.le_of_eq g8.symm)
  have F_m_nSeconds_b8 : Fld Z h8 b8 "com/example/holdfast/holdfast/repository/Lease" "m_nSeconds" "J" (.long (0 : Int64)) := D8 (Or.inr (own_w hw 35 rfl)) (ty := .long) (by decide)
  have F_m_sToken_b8 : Fld Z h8 b8 "com/example/holdfast/holdfast/repository/Lease" "m_sToken" "Ljava/lang/String;" .null := D8 (Or.inr (own_w hw 37 rfl)) (ty := (.object "java/lang/String")) (by decide)
  have F_m_nExpiresAt_b8 : Fld Z h8 b8 "com/example/holdfast/holdfast/repository/Lease" "m_nExpiresAt" "J" (.long (0 : Int64)) := D8 (Or.inr (own_w hw 40 rfl)) (ty := .long) (by decide)
  have hp10_k1 : ¬ (v27 < (0 : Int64)) := (own_sec2 _ _ _ _ hv27).1
  have hp10_k2 : ¬ ((4294967295 : Int64) < v27) := (own_sec2 _ _ _ _ hv27).2
  have Zc11 : n0 ≤ h8.size := (Nat.le_trans Zc9 E8.1)
  obtain ⟨_, _, ⟨T10, Lw10, kw10, nw10⟩, -, X10, ⟨Lc10, hQ10, l10, y10, z10⟩, st10⟩ := X8.specialBack hx (y := (⟨"com/example/holdfast/holdfast/repository/Lease", "<init>", "(JLjava/lang/String;J)V"⟩ : MethodName)) rfl hown (mvT hZ (own_w hw 29 rfl)) (mvT hZ (own_w hw 30 rfl)) (mvT hZ (own_w hw 31 rfl)) (by decide) (backOf (W := 1) (rm6 l Z a0 hw [] b8 v27 b7 x2 (.long (0 : Int64)) .null (.long (0 : Int64)) h8 n0 Zc11 hp10_k1 hp10_k2 A8 F_m_nSeconds_b8 g_b8 F_m_sToken_b8 F_m_nExpiresAt_b8) hZ (own_w hw 31 rfl) (own_w hw 28 rfl) (by decide) (by decide)) (g := (mkF m 50 #[lv x1, .second, lv x2, .second, iv x3, iv x4, lv v27, .second, rv b7, .unset, .unset] [(.long x2), (.ref b7), (.long v27), (.ref b8), (.ref b8)])) rfl (by rw [hml]; rfl) (Steps.refl _) (a := b8) (argsL := [(.long v27), (.ref b7), (.long x2)]) (rest := [(.ref b8)]) (lenOf own_pd4 rfl) rfl (by show 2 * 0 + _ ≤ _; exact Nat.le_of_eq rfl) (hb hby at_50) (fun _ _ => ⟨rfl, e8, (by decide : 3 + 0 ≤ _), (by decide : 8 + 0 ≤ _)⟩)
  dsimp only [Pt.U, Pt.locs, Pt.cells, Pt.slots] at X10 l10 y10 z10 st10 hQ10
  subst l10 y10 z10
  obtain ⟨rfl, Nq10, K10, pf10_0, pf10_1, pf10_2, pf10_3⟩ := hQ10
  have N10 := Fr.app N7 Nq10
  have Zc13 : n0 ≤ T10.heap.size := (Nat.le_trans Zc11 K10.1)
  obtain ⟨cq12, kq12, q12a, q12b, q12c⟩ := isOf hZ rfl pf10_0
  obtain ⟨_, _, ⟨T12, Lw12, kw12, nw12⟩, -, X12, ⟨Lc12, hQ12, l12, y12, z12⟩, st12⟩ := X10.virtualBack hx (y := (⟨"com/example/holdfast/holdfast/repository/Lease", "isInfinite", "()Z"⟩ : MethodName)) (z := (⟨"com/example/holdfast/holdfast/repository/Lease", "isInfinite", "()Z"⟩ : MethodName)) hown (mvT hZ (own_w hw 41 rfl)) (mvT hZ (own_w hw 42 rfl)) (notFace_of_selects (args := #[]) (mvT hZ (own_w hw 44 rfl))) (mvT hZ (own_w hw 44 rfl)) (mvT hZ (own_w hw 43 rfl)) (by decide) (backOf (W := 0) (rm7 l Z a0 hw [] b8 v27 T10.heap n0 Zc13 pf10_1) hZ (own_w hw 45 rfl) (own_w hw 28 rfl) (by decide) (by decide)) q12a q12c (g := (mkF m 57 #[lv x1, .second, lv x2, .second, iv x3, iv x4, lv v27, .second, rv b7, rv b8, .unset] [(.ref b8)])) rfl (by rw [hml]; rfl) (Steps.refl _) (argsL := []) (rest := []) (lenOf own_pd5 rfl) rfl (by show 2 * 0 + _ ≤ _; exact Nat.le_of_eq rfl) (hb hby at_57) (fun _ _ => ⟨rfl, rfl, (by decide : 3 + 0 ≤ _), (by decide : 8 + 0 ≤ _)⟩)
  dsimp only [Pt.U, Pt.locs, Pt.cells, Pt.slots] at X12 l12 y12 z12 st12 hQ12
  subst l12 y12 z12
  obtain ⟨rfl, Nq12, eh12⟩ := hQ12
  have N12 := Fr.app N10 Nq12
  obtain ⟨y60, hy60⟩ : ∃ z, z = (if v27 = (0 : Int64) then (1 : Int32) else (0 : Int32)) := ⟨_, rfl⟩
  have pre14 : ∀ tz, oS p e below T12 m 68 #[lv x1, .second, lv x2, .second, iv x3, iv x4, lv v27, .second, rv b7, rv b8, iv y60] [(.int (lcmpW v27 (0 : Int64))), (.int y60)] tz → oS p e below s₁ m 4 #[lv x1, .second, lv x2, .second, iv x3, iv x4, .unset, .unset, .unset, .unset, .unset] [(.int (x4 &&& (1 : Int32)))] tz := fun tz kt => by
    show oS p e below s₁ m 4 #[lv x1, .second, lv x2, .second, iv x3, iv x4, .unset, .unset, .unset, .unset, .unset] [(.int (x4 &&& (1 : Int32)))] _
    refine st6 _ ?_
    refine XS.lstore X6.here hx rfl (hb hby at_27) rfl (l' := #[lv x1, .second, lv x2, .second, iv x3, iv x4, lv v27, .second, .unset, .unset, .unset]) rfl ?_
    refine XS.iload X6.here hx rfl (hb hby at_29) rfl ?_
    refine XS.sipush X6.here hx rfl (hb hby at_31) ?_
    show oS p e below T6 m 34 #[lv x1, .second, lv x2, .second, iv x3, iv x4, lv v27, .second, .unset, .unset, .unset] [(.int (255 : Int32)), (.int x3)] _
    refine XS.iand X6.here hx rfl (hb hby at_34) rfl ?_
    refine XS.i2c X6.here hx rfl (hb hby at_35) rfl ?_
    show oS p e below T6 m 36 #[lv x1, .second, lv x2, .second, iv x3, iv x4, lv v27, .second, .unset, .unset, .unset] [(.int ((x3 &&& (255 : Int32)).toUInt32.toUInt16.toUInt32.toInt32))] _
    refine st7 _ ?_
    refine XS.astore X7.here hx rfl (hb hby at_39) rfl rfl (l' := #[lv x1, .second, lv x2, .second, iv x3, iv x4, lv v27, .second, rv b7, .unset, .unset]) rfl ?_
    show oS p e below T7 m 41 #[lv x1, .second, lv x2, .second, iv x3, iv x4, lv v27, .second, rv b7, .unset, .unset] [] _
    refine st8 _ ?_
    refine XS.dup X8.here hx rfl (hb hby at_44) rfl rfl ?_
    refine XS.lload X8.here hx rfl (hb hby at_45) rfl ?_
    refine XS.aload X8.here hx rfl (hb hby at_47) rfl rfl ?_
    show oS p e below T8 m 49 #[lv x1, .second, lv x2, .second, iv x3, iv x4, lv v27, .second, rv b7, .unset, .unset] [(.ref b7), (.long v27), (.ref b8), (.ref b8)] _
    refine XS.lloadN X8.here hx rfl (hb hby at_49) rfl ?_
    show oS p e below T8 m 50 #[lv x1, .second, lv x2, .second, iv x3, iv x4, lv v27, .second, rv b7, .unset, .unset] [(.long x2), (.ref b7), (.long v27), (.ref b8), (.ref b8)] _
    refine st10.trans ?_
    refine XS.astore X10.here hx rfl (hb hby at_53) rfl rfl (l' := #[lv x1, .second, lv x2, .second, iv x3, iv x4, lv v27, .second, rv b7, rv b8, .unset]) rfl ?_
    refine XS.aload X10.here hx rfl (hb hby at_55) rfl rfl ?_
    show oS p e below T10 m 57 #[lv x1, .second, lv x2, .second, iv x3, iv x4, lv v27, .second, rv b7, rv b8, .unset] [(.ref b8)] _
    refine st12.trans ?_
    refine XS.istore X12.here hx rfl (hb hby at_60) rfl (l' := #[lv x1, .second, lv x2, .second, iv x3, iv x4, lv v27, .second, rv b7, rv b8, iv y60]) (by rw [hy60]; rfl) ?_
    refine XS.iload X12.here hx rfl (hb hby at_62) rfl ?_
    refine XS.lload X12.here hx rfl (hb hby at_64) rfl ?_
    show oS p e below T12 m 66 #[lv x1, .second, lv x2, .second, iv x3, iv x4, lv v27, .second, rv b7, rv b8, iv y60] [(.long v27), (.int y60)] _
    refine XS.lconst X12.here hx rfl (hb hby at_66) ?_
    refine XS.lcmp X12.here hx rfl (hb hby at_67) rfl ?_
    exact kt
  obtain ⟨v76, T17, Lj17, jv17, N17, X17, e17, st17⟩ := own_join (α := Int32) X12 N12 eh12 (mkF m 68 #[lv x1, .second, lv x2, .second, iv x3, iv x4, lv v27, .second, rv b7, rv b8, iv y60] [(.int (lcmpW v27 (0 : Int64))), (.int y60)]) (fun v => (mkF m 76 #[lv x1, .second, lv x2, .second, iv x3, iv x4, lv v27, .second, rv b7, rv b8, iv y60] [(.int v), (.int y60)])) (fun v => v = (if v27 = (0 : Int64) then (1 : Int32) else (0 : Int32))) (by
      by_cases hc68 : v27 = (0 : Int64)
      · have pre15 : ∀ tz, oS p e below T12 m 76 #[lv x1, .second, lv x2, .second, iv x3, iv x4, lv v27, .second, rv b7, rv b8, iv y60] [(.int (1 : Int32)), (.int y60)] tz → oS p e below T12 m 68 #[lv x1, .second, lv x2, .second, iv x3, iv x4, lv v27, .second, rv b7, rv b8, iv y60] [(.int (lcmpW v27 (0 : Int64))), (.int y60)] tz := fun tz kt => by
          show oS p e below T12 m 68 #[lv x1, .second, lv x2, .second, iv x3, iv x4, lv v27, .second, rv b7, rv b8, iv y60] [(.int (lcmpW v27 (0 : Int64))), (.int y60)] _
          refine XS.ifNo X12.here hx rfl (hb hby at_68) rfl ((if0 _ _).trans (teq ((lw_eq v27 (0 : Int64)).mpr hc68)).2) ?_
          refine XS.iconst X12.here hx rfl (hb hby at_71) ?_
          refine XS.goto X12.here hx rfl (pc0 := 72) (pc' := 76) rfl (hb hby at_72) (by decide) (by decide) ?_
          exact kt
        exact ⟨(1 : Int32), T12, _, (by rw [if_pos hc68]), N12, X12, eh12, fun tz kt => (pre15 _ kt)⟩
      · have pre16 : ∀ tz, oS p e below T12 m 76 #[lv x1, .second, lv x2, .second, iv x3, iv x4, lv v27, .second, rv b7, rv b8, iv y60] [(.int (0 : Int32)), (.int y60)] tz → oS p e below T12 m 68 #[lv x1, .second, lv x2, .second, iv x3, iv x4, lv v27, .second, rv b7, rv b8, iv y60] [(.int (lcmpW v27 (0 : Int64))), (.int y60)] tz := fun tz kt => by
          show oS p e below T12 m 68 #[lv x1, .second, lv x2, .second, iv x3, iv x4, lv v27, .second, rv b7, rv b8, iv y60] [(.int (lcmpW v27 (0 : Int64))), (.int y60)] _
          refine XS.ifYes X12.here hx rfl (pc0 := 68) (pc' := 75) rfl (hb hby at_68) rfl ((if0 _ _).trans (feq (fun q => hc68 ((lw_eq v27 (0 : Int64)).mp q))).2) (by decide) (by decide) ?_
          refine XS.iconst X12.here hx rfl (hb hby at_75) ?_
          exact kt
        exact ⟨(0 : Int32), T12, _, (by rw [if_neg hc68]), N12, X12, eh12, fun tz kt => (pre16 _ kt)⟩)
  have hv76 : v76 = (if v27 = (0 : Int64) then (1 : Int32) else (0 : Int32)) := jv17
  have hc76 : y60 = v76 := Classical.byContradiction fun hc76 => by
    exact hc76 (hy60.trans hv76.symm)
  have pre18 : ∀ tz, oS p e below T17 m 83 #[lv x1, .second, lv x2, .second, iv x3, iv x4, lv v27, .second, rv b7, rv b8, iv y60] [(.int y60)] tz → oS p e below T12 m 68 #[lv x1, .second, lv x2, .second, iv x3, iv x4, lv v27, .second, rv b7, rv b8, iv y60] [(.int (lcmpW v27 (0 : Int64))), (.int y60)] tz := fun tz kt => by
    show oS p e below T12 m 68 #[lv x1, .second, lv x2, .second, iv x3, iv x4, lv v27, .second, rv b7, rv b8, iv y60] [(.int (lcmpW v27 (0 : Int64))), (.int y60)] _
    refine st17 _ ?_
    refine XS.icmpYes X17.here hx rfl (pc0 := 76) (pc' := 81) rfl (hb hby at_76) rfl (teq hc76).1 (by decide) (by decide) ?_
    refine XS.iload X17.here hx rfl (hb hby at_81) rfl ?_
    exact kt
  by_cases hc83 : y60 = (0 : Int32)
  · obtain ⟨cq19, kq19, q19a, q19b, q19c⟩ := isOf hZ e17 pf10_0
    obtain ⟨_, _, ⟨T19, Lw19, kw19, nw19⟩, -, X19, ⟨Lc19, hQ19, l19, y19, z19⟩, st19⟩ := X17.virtualBack hx (y := (⟨"com/example/holdfast/holdfast/repository/Lease", "getExpiresAt", "()J"⟩ : MethodName)) (z := (⟨"com/example/holdfast/holdfast/repository/Lease", "getExpiresAt", "()J"⟩ : MethodName)) hown (mvT hZ (own_w hw 46 rfl)) (mvT hZ (own_w hw 47 rfl)) (notFace_of_selects (args := #[]) (mvT hZ (own_w hw 49 rfl))) (mvT hZ (own_w hw 49 rfl)) (mvT hZ (own_w hw 48 rfl)) (by decide) (backOf (W := 0) (rm8 l Z a0 hw [] b8 (if v27 = (0 : Int64) then (9223372036854775807 : Int64) else x2) T10.heap n0 Zc13 pf10_3) hZ (own_w hw 50 rfl) (own_w hw 28 rfl) (by decide) (by decide)) q19a q19c (g := (mkF m 106 #[lv x1, .second, lv x2, .second, iv x3, iv x4, lv v27, .second, rv b7, rv b8, iv y60] [(.ref b8)])) rfl (by rw [hml]; rfl) (Steps.refl _) (argsL := []) (rest := []) (lenOf own_pd6 rfl) rfl (by show 2 * 0 + _ ≤ _; exact Nat.le_of_eq rfl) (hb hby at_106) (fun _ _ => ⟨rfl, e17, (by decide : 3 + 0 ≤ _), (by decide : 8 + 0 ≤ _)⟩)
    dsimp only [Pt.U, Pt.locs, Pt.cells, Pt.slots] at X19 l19 y19 z19 st19 hQ19
    subst l19 y19 z19
    obtain ⟨rfl, Nq19, eh19⟩ := hQ19
    have N19 := Fr.app N17 Nq19
    have hc111 : (if v27 = (0 : Int64) then (9223372036854775807 : Int64) else x2) = x2 := Classical.byContradiction fun hc111 => by
      rw [hy60] at hc83; exact hc111 (if_neg (fun q => by rw [if_pos q] at hc83; exact absurd hc83 (by decide)))
    have pre20 : ∀ tz, oS p e below T19 m 119 #[lv x1, .second, lv x2, .second, iv x3, iv x4, lv v27, .second, rv b7, rv b8, iv y60] [(.int (1 : Int32))] tz → oS p e below T17 m 83 #[lv x1, .second, lv x2, .second, iv x3, iv x4, lv v27, .second, rv b7, rv b8, iv y60] [(.int y60)] tz := fun tz kt => by
      show oS p e below T17 m 83 #[lv x1, .second, lv x2, .second, iv x3, iv x4, lv v27, .second, rv b7, rv b8, iv y60] [(.int y60)] _
      refine XS.ifYes X17.here hx rfl (pc0 := 83) (pc' := 104) rfl (hb hby at_83) rfl ((if0 _ _).trans (teq hc83).1) (by decide) (by decide) ?_
      refine XS.aload X17.here hx rfl (hb hby at_104) rfl rfl ?_
      show oS p e below T17 m 106 #[lv x1, .second, lv x2, .second, iv x3, iv x4, lv v27, .second, rv b7, rv b8, iv y60] [(.ref b8)] _
      refine st19.trans ?_
      refine XS.lloadN X19.here hx rfl (hb hby at_109) rfl ?_
      refine XS.lcmp X19.here hx rfl (hb hby at_110) rfl ?_
      refine XS.ifNo X19.here hx rfl (hb hby at_111) rfl ((if0 _ _).trans (teq ((lw_eq (if v27 = (0 : Int64) then (9223372036854775807 : Int64) else x2) x2).mpr hc111)).2) ?_
      show oS p e below T19 m 114 #[lv x1, .second, lv x2, .second, iv x3, iv x4, lv v27, .second, rv b7, rv b8, iv y60] [] _
      refine XS.iconst X19.here hx rfl (hb hby at_114) ?_
      refine XS.goto X19.here hx rfl (pc0 := 115) (pc' := 119) rfl (hb hby at_115) (by decide) (by decide) ?_
      exact kt
    obtain ⟨fs, hr, hrun, hended, hW, hsame⟩ := X19.leave (v := some (.int (1 : Int32))) (fun h => by rw [Bd.returns] at h; cases h)
    refine ⟨_, _, pre0 _ (pre1 _ (pre14 _ (pre18 _ (pre20 _ ?_)))), hrun, hended, _, _, rfl, ?_, ⟨_, rfl⟩, hW, hsame.mono (by decide) (by decide)⟩
    · show oS p e below T19 m 119 #[lv x1, .second, lv x2, .second, iv x3, iv x4, lv v27, .second, rv b7, rv b8, iv y60] [(.int (1 : Int32))] _
      exact retN X19 hx (t := .boolean) Bd.returns (by simp) (hb hby at_119) hr
    · show Q0 Z x1 x2 x3 x4 w_COMPACT_STRINGS h0 n0 _ T19.heap _
      rw [eh19]
      exact ⟨rfl, N19⟩
  · obtain ⟨cq21, kq21, q21a, q21b, q21c⟩ := isOf hZ e17 pf10_0
    obtain ⟨_, _, ⟨T21, Lw21, kw21, nw21⟩, -, X21, ⟨Lc21, hQ21, l21, y21, z21⟩, st21⟩ := X17.virtualBack hx (y := (⟨"com/example/holdfast/holdfast/repository/Lease", "getExpiresAt", "()J"⟩ : MethodName)) (z := (⟨"com/example/holdfast/holdfast/repository/Lease", "getExpiresAt", "()J"⟩ : MethodName)) hown (mvT hZ (own_w hw 46 rfl)) (mvT hZ (own_w hw 47 rfl)) (notFace_of_selects (args := #[]) (mvT hZ (own_w hw 49 rfl))) (mvT hZ (own_w hw 49 rfl)) (mvT hZ (own_w hw 48 rfl)) (by decide) (backOf (W := 0) (rm8 l Z a0 hw [] b8 (if v27 = (0 : Int64) then (9223372036854775807 : Int64) else x2) T10.heap n0 Zc13 pf10_3) hZ (own_w hw 50 rfl) (own_w hw 28 rfl) (by decide) (by decide)) q21a q21c (g := (mkF m 88 #[lv x1, .second, lv x2, .second, iv x3, iv x4, lv v27, .second, rv b7, rv b8, iv y60] [(.ref b8)])) rfl (by rw [hml]; rfl) (Steps.refl _) (argsL := []) (rest := []) (lenOf own_pd6 rfl) rfl (by show 2 * 0 + _ ≤ _; exact Nat.le_of_eq rfl) (hb hby at_88) (fun _ _ => ⟨rfl, e17, (by decide : 3 + 0 ≤ _), (by decide : 8 + 0 ≤ _)⟩)
    dsimp only [Pt.U, Pt.locs, Pt.cells, Pt.slots] at X21 l21 y21 z21 st21 hQ21
    subst l21 y21 z21
    obtain ⟨rfl, Nq21, eh21⟩ := hQ21
    have N21 := Fr.app N17 Nq21
    have hc95 : (if v27 = (0 : Int64) then (9223372036854775807 : Int64) else x2) = (9223372036854775807 : Int64) := Classical.byContradiction fun hc95 => by
      rw [hy60] at hc83; exact hc95 (if_pos (Classical.byContradiction fun q => hc83 (if_neg q)))
    have pre22 : ∀ tz, oS p e below T21 m 103 #[lv x1, .second, lv x2, .second, iv x3, iv x4, lv v27, .second, rv b7, rv b8, iv y60] [(.int (1 : Int32))] tz → oS p e below T17 m 83 #[lv x1, .second, lv x2, .second, iv x3, iv x4, lv v27, .second, rv b7, rv b8, iv y60] [(.int y60)] tz := fun tz kt => by
      show oS p e below T17 m 83 #[lv x1, .second, lv x2, .second, iv x3, iv x4, lv v27, .second, rv b7, rv b8, iv y60] [(.int y60)] _
      refine XS.ifNo X17.here hx rfl (hb hby at_83) rfl ((if0 _ _).trans (feq hc83).1) ?_
      refine XS.aload X17.here hx rfl (hb hby at_86) rfl rfl ?_
      show oS p e below T17 m 88 #[lv x1, .second, lv x2, .second, iv x3, iv x4, lv v27, .second, rv b7, rv b8, iv y60] [(.ref b8)] _
      refine st21.trans ?_
      refine X21.ldc2Long hx hown (mvT hZ (own_w hw 51 rfl)) (g := (mkF m 91 #[lv x1, .second, lv x2, .second, iv x3, iv x4, lv v27, .second, rv b7, rv b8, iv y60] [(.long (if v27 = (0 : Int64) then (9223372036854775807 : Int64) else x2))])) rfl (hb hby at_91) _ ?_
      refine XS.lcmp X21.here hx rfl (hb hby at_94) rfl ?_
      refine XS.ifNo X21.here hx rfl (hb hby at_95) rfl ((if0 _ _).trans (teq ((lw_eq (if v27 = (0 : Int64) then (9223372036854775807 : Int64) else x2) (9223372036854775807 : Int64)).mpr hc95)).2) ?_
      show oS p e below T21 m 98 #[lv x1, .second, lv x2, .second, iv x3, iv x4, lv v27, .second, rv b7, rv b8, iv y60] [] _
      refine XS.iconst X21.here hx rfl (hb hby at_98) ?_
      refine XS.goto X21.here hx rfl (pc0 := 99) (pc' := 103) rfl (hb hby at_99) (by decide) (by decide) ?_
      exact kt
    obtain ⟨fs, hr, hrun, hended, hW, hsame⟩ := X21.leave (v := some (.int (1 : Int32))) (fun h => by rw [Bd.returns] at h; cases h)
    refine ⟨_, _, pre0 _ (pre1 _ (pre14 _ (pre18 _ (pre22 _ ?_)))), hrun, hended, _, _, rfl, ?_, ⟨_, rfl⟩, hW, hsame.mono (by decide) (by decide)⟩
    · show oS p e below T21 m 103 #[lv x1, .second, lv x2, .second, iv x3, iv x4, lv v27, .second, rv b7, rv b8, iv y60] [(.int (1 : Int32))] _
      exact retN X21 hx (t := .boolean) Bd.returns (by simp) (hb hby at_103) hr
    · show Q0 Z x1 x2 x3 x4 w_COMPACT_STRINGS h0 n0 _ T21.heap _
      rw [eh21]
      exact ⟨rfl, N21⟩
set_option maxRecDepth 65536 in
set_option maxHeartbeats 40000000 in
theorem comes_1 {Post : Tables → Env → Array Value → State → Outcome → State → Prop} (hpost : ∀ tb e args s v u, (limb_1_1.after args s (.returned v) u = true ∧ limb_1_2.after args s (.returned v) u = true ∧ True) → FrameEnd s (.returned v) u (Jvm.fieldLocs frame_1_writes args s ++ Jvm.arrayLocs frame_1_arrays args s ++ Jvm.staticLocs frame_1_statics s) 16 128 → Post tb e args s (.returned v) u) :
    ArmFor flags0 classFile x code maxLocals ret World_1 tables_1 room_1 Calls_1 rest_1 Pre_1 Post := by
  intro l hfl _ _ p e ha hc hk s m args below hf hA hF happ hP
  obtain ⟨hcalls, hrest, hpre⟩ := hP
  obtain ⟨-, -, -, hnamed, -, -, -, hat⟩ := (Spec.applies_iff hf).mp happ
  obtain ⟨hg, hn⟩ := and_e (Cond.before_iff.mp (show (Jvm.Cond.and given_1 narrow_1).before args s = true from hpre))
  obtain ⟨gc, gr0⟩ := and_e hg
  obtain ⟨ga0, gr1⟩ := and_e gr0
  obtain ⟨ga1, gr2⟩ := and_e gr1
  obtain ⟨ga2, gr3⟩ := and_e gr2
  have ga3 := gr3
  obtain ⟨w0, w1, w2, w3, rfl⟩ : ∃ w0 w1 w2 w3 : Value, args = #[w0, w1, w2, w3] := by
    have hs : args.size = 4 := by simpa [Cond.value, given_1] using gc
    obtain ⟨L⟩ := args
    match L, hs with
    | [w0, w1, w2, w3], _ => exact ⟨w0, w1, w2, w3, rfl⟩
  have hw := fun d (hd : d ∈ tables_1) => atoms_spec (ws := Jvm.Cond.code x code maxLocals ret :: tables_1) hat d (List.mem_cons_of_mem _ hd)
  obtain ⟨hsets, hown0⟩ := atoms_of _ (rest_1_c_eq ▸ (show rest_1_c.before _ s = true from hrest))
  obtain ⟨w_COMPACT_STRINGS, ew_COMPACT_STRINGS⟩ := is_v (Cond.before_iff.mp (hsets _ (List.mem_of_getElem? (i := 1) rfl)))
  have S_w_COMPACT_STRINGS := Sta.start ew_COMPACT_STRINGS (Or.inl (hsets _ (List.mem_of_getElem? (i := 0) rfl)))
  have h2 : ¬ w_COMPACT_STRINGS = (0 : Int32) := by
    have q := not_v (Cond.before_iff.mp (hsets _ (List.mem_of_getElem? (i := 2) rfl)))
    intro hz
    rw [eq_i ew_COMPACT_STRINGS (Term.int_eval (0)) (by rw [hz])] at q
    cases q
  obtain ⟨i0, ei0⟩ := isL_v ga0
  obtain rfl : w0 = (.long i0) := Option.some.inj ei0
  obtain ⟨i1, ei1⟩ := isL_v ga1
  obtain rfl : w1 = (.long i1) := Option.some.inj ei1
  obtain ⟨i2, ei2⟩ := is_v ga2
  obtain rfl : w2 = (.int i2) := Option.some.inj ei2
  obtain ⟨i3, ei3⟩ := is_v ga3
  obtain rfl : w3 = (.int i3) := Option.some.inj ei3
  obtain ⟨n, o, h1, h2, h3, _, L, rfl, ⟨rfl, N⟩, hq⟩ := rm0 l s _ hw tables_1 i0 i1 i2 i3 w_COMPACT_STRINGS s.heap s.heap.size (Nat.le_refl _) S_w_COMPACT_STRINGS h2 p e ha hc hk s m _ below hf ((Spec.applies_iff_loose hf).mp happ).1 ⟨rfl, State.Warmed39.refl s, rfl⟩ trivial
  refine ⟨n, _, h1, h2, h3, hpost _ _ _ _ _ _ ⟨Cond.after_iff.mpr rfl, Cond.after_iff.mpr (eq_i res_at (Term.int_eval (1)) rfl), trivial⟩ ⟨hq.1, hq.2.1, (hq.2.2.sift fun y hy => Or.inr (N y hy)).mono (by decide) (by decide)⟩⟩
theorem main_1_1 : Claimed_1_1 := comes_1 fun _ _ _ _ _ _ h hF => ⟨h.1, hF⟩
theorem main_1_2 : Claimed_1_2 := comes_1 fun _ _ _ _ _ _ h hF => ⟨h.2.1, hF⟩
end Jvm.Pilot.@@N@@
namespace Jvm.Pilot.@@N@@
open Jvm Jvm.ClassFile Sem Op Lib Jvm.Free Jvm.Stand Jvm.Pilot.@@N@@.Jvm.D
/-! MADE BY PROGRAM (witnessworld.py) out of the Statement's table words and the real class files: 17 classes; the members and pool entries that the words name. The judged class is class 1, her method 1. -/
namespace start1
open Jvm.ClassFile
def u (s : String) : CpInfo := .utf8 (stringToUtf16 s)
/-- a pool by its gaps: so many unusable entries, then the entry; so many at the end -/
def gap : Nat → List CpInfo → List CpInfo
  | 0, r => r
  | n + 1, r => .unusable :: gap n r
def poolList (es : List (Nat × CpInfo)) (last : Nat) : List CpInfo := es.foldr (fun e r => gap e.1 (e.2 :: r)) (gap last [])
def pool (es : List (Nat × CpInfo)) (last : Nat) : Array CpInfo := ⟨poolList es last⟩
def fileOf (pool : Array CpInfo) (this : Nat) (attrs : Array Attribute := #[]) (ms : Array MethodInfo := #[]) (fl : Nat := 33) (sup : Nat := 0) (ifs : Array Nat := #[]) (fds : Array FieldInfo := #[]) : ClassFile where
  minorVersion := 0
  majorVersion := 65
  constantPool := pool
  accessFlags := fl
  thisClass := this
  superClass := sup
  interfaces := ifs
  fields := fds
  methods := ms
  attributes := attrs
def plain (name : String) (sup : Option ClassId) : Class where
  name := name
  kind := .ordinary
  loader := none
  accessFlags := 33
  super := sup
  interfaces := #[]
  cf := none
  fields := #[]
  methods := #[]
  instanceTypes := #[]
  staticTypes := #[]
  resolved := #[]
  callSites := []
  init := .initialized
  statics := none
  mirror := none

def pool0 : Array CpInfo := pool [(5, u "<init>"), (0, u "()V"), (1, .class_ 10), (1, u "java/lang/Object")] 113

def k0c0 : Code := { maxStack := 0, maxLocals := 1, code := object_method_1_code, exceptionTable := #[], attributes := #[] }
def k0m0 : Method := { name := "<init>", desc := "()V", sig := { parameters := [], returnType := none }, accessFlags := 1, code := some k0c0 }
/-- java/lang/Object -/
def k0 : Class := { plain "java/lang/Object" none with
  accessFlags := 33
  interfaces := #[]
  cf := some (fileOf pool0 8 #[] #[{ accessFlags := 1, nameIndex := 5, descriptorIndex := 6, attributes := #[] }] 33 0 #[] #[])
  fields := #[]
  methods := #[k0m0]
  instanceTypes := #[]
  staticTypes := #[]
  resolved := Array.replicate 124 none
  statics := none }

def pool1 : Array CpInfo := pool [(2, .class_ 4), (1, u "java/lang/Object"), (0, u "<init>"), (0, u "()V"), (0, .long 4294967295), (1, .methodref 10 11), (0, .class_ 12), (0, .nameAndType 13 14), (0, u "java/lang/String"), (0, u "valueOf"), (0, u "(C)Ljava/lang/String;"), (0, .class_ 16), (0, u "com/example/holdfast/holdfast/repository/Lease"), (0, .methodref 15 18), (0, .nameAndType 5 19), (0, u "(JLjava/lang/String;J)V"), (0, .methodref 15 21), (0, .nameAndType 22 23), (0, u "isInfinite"), (0, u "()Z"), (0, .methodref 15 25), (0, .nameAndType 26 27), (0, u "getExpiresAt"), (0, u "()J"), (2, .long 9223372036854775807), (1, .class_ 33), (0, u "com/example/holdfast/holdfast/repository/LeaseIsInfinitePinLaw"), (2, u "law"), (0, u "(JJII)Z")] 3

def k1m0 : Method := { name := "<init>", desc := "()V", sig := { parameters := [], returnType := none }, accessFlags := 1, code := none }
def k1c1 : Code := { maxStack := 7, maxLocals := 11, code := code, exceptionTable := #[], attributes := #[] }
def k1m1 : Method := { name := "law", desc := "(JJII)Z", sig := { parameters := [.long, .long, .int, .int], returnType := some .boolean }, accessFlags := 9, code := some k1c1 }
/-- com/example/holdfast/holdfast/repository/LeaseIsInfinitePinLaw -/
def k1 : Class := { plain "com/example/holdfast/holdfast/repository/LeaseIsInfinitePinLaw" (some 0) with
  accessFlags := 49
  interfaces := #[]
  cf := some (fileOf pool1 32 #[] #[{ accessFlags := 1, nameIndex := 5, descriptorIndex := 6, attributes := #[] }, { accessFlags := 9, nameIndex := 36, descriptorIndex := 37, attributes := #[] }] 49 2 #[] #[])
  fields := #[]
  methods := #[k1m0, k1m1]
  instanceTypes := #[]
  staticTypes := #[]
  resolved := Array.replicate 41 none
  statics := none }

def pool2 : Array CpInfo := pool [(1, .class_ 2), (0, u "java/io/Serializable"), (0, .class_ 4), (0, u "java/lang/Object")] 2

/-- java/io/Serializable -/
def k2 : Class := { plain "java/io/Serializable" (some 0) with
  accessFlags := 1537
  interfaces := #[]
  cf := some (fileOf pool2 1 #[] #[] 1537 3 #[] #[])
  fields := #[]
  methods := #[]
  instanceTypes := #[]
  staticTypes := #[]
  resolved := Array.replicate 7 none
  statics := none }

def pool3 : Array CpInfo := pool [(1, .class_ 2), (0, u "java/lang/Comparable"), (0, .class_ 4), (0, u "java/lang/Object")] 7

/-- java/lang/Comparable -/
def k3 : Class := { plain "java/lang/Comparable" (some 0) with
  accessFlags := 1537
  interfaces := #[]
  cf := some (fileOf pool3 1 #[] #[] 1537 3 #[] #[])
  fields := #[]
  methods := #[]
  instanceTypes := #[]
  staticTypes := #[]
  resolved := Array.replicate 12 none
  statics := none }

def pool4 : Array CpInfo := pool [(2, .class_ 4), (1, u "java/lang/CharSequence"), (42, .class_ 48), (0, u "java/lang/CharSequence$1CodePointIterator"), (10, .class_ 60), (0, u "java/lang/CharSequence$1CharIterator"), (5, .class_ 67), (0, u "java/lang/Object")] 63

/-- java/lang/CharSequence -/
def k4 : Class := { plain "java/lang/CharSequence" (some 0) with
  accessFlags := 1537
  interfaces := #[]
  cf := some (fileOf pool4 2 #[.nestMembers #[47, 59]] #[] 1537 66 #[] #[])
  fields := #[]
  methods := #[]
  instanceTypes := #[]
  staticTypes := #[]
  resolved := Array.replicate 131 none
  statics := none }

def pool5 : Array CpInfo := pool [(1, .class_ 2), (0, u "java/lang/constant/Constable"), (0, .class_ 4), (0, u "java/lang/Object")] 6

/-- java/lang/constant/Constable -/
def k5 : Class := { plain "java/lang/constant/Constable" (some 0) with
  accessFlags := 1537
  interfaces := #[]
  cf := some (fileOf pool5 1 #[] #[] 1537 3 #[] #[])
  fields := #[]
  methods := #[]
  instanceTypes := #[]
  staticTypes := #[]
  resolved := Array.replicate 11 none
  statics := none }

def pool6 : Array CpInfo := pool [(1, .class_ 2), (0, u "java/lang/constant/ConstantDesc"), (0, .class_ 4), (0, u "java/lang/Object")] 32

/-- java/lang/constant/ConstantDesc -/
def k6 : Class := { plain "java/lang/constant/ConstantDesc" (some 0) with
  accessFlags := 1537
  interfaces := #[]
  cf := some (fileOf pool6 1 #[] #[] 1537 3 #[] #[])
  fields := #[]
  methods := #[]
  instanceTypes := #[]
  staticTypes := #[]
  resolved := Array.replicate 37 none
  statics := none }

def pool7 : Array CpInfo := pool [(1, .methodref 2 3), (0, .class_ 4), (0, .nameAndType 5 6), (0, u "java/lang/Object"), (0, u "<init>"), (0, u "()V"), (2, .fieldref 10 11), (0, .class_ 12), (0, .nameAndType 13 14), (0, u "java/lang/String"), (0, u "value"), (0, u "[B"), (0, .fieldref 10 16), (0, .nameAndType 17 18), (0, u "coder"), (0, u "B"), (2, u "hash"), (0, u "I"), (2, u "hashIsZero"), (0, u "Z"), (11, .fieldref 10 39), (0, .nameAndType 40 26), (0, u "COMPACT_STRINGS"), (12, u "toBytes"), (53, .class_ 109), (1, u "java/lang/StringLatin1"), (99, .methodref 10 210), (0, .nameAndType 5 211), (0, u "([BB)V"), (157, u "(C)Z"), (205, .class_ 576), (0, u "java/lang/CharSequence"), (22, u "CASE_INSENSITIVE_ORDER"), (0, u "Ljava/util/Comparator;"), (181, u "valueOf"), (0, u "(C)Ljava/lang/String;"), (231, .methodref 107 1016), (0, .nameAndType 1017 369), (0, u "canEncode"), (0, .methodref 107 1019), (0, .nameAndType 53 1020), (0, u "(C)[B"), (80, u "serialPersistentFields"), (0, u "[Ljava/io/ObjectStreamField;"), (0, .class_ 1104), (0, u "java/lang/String$CaseInsensitiveComparator"), (1, .class_ 1107), (0, u "java/io/Serializable"), (0, .class_ 1109), (0, u "java/lang/Comparable"), (0, .class_ 1111), (0, u "java/lang/constant/Constable"), (0, .class_ 1113), (0, u "java/lang/constant/ConstantDesc"), (2, u "serialVersionUID"), (0, u "J"), (3, u "REPL"), (0, u "C"), (2, u "LATIN1"), (1, u "UTF16")] 323

def k7m0 : Method := { name := "<init>", desc := "()V", sig := { parameters := [], returnType := none }, accessFlags := 1, code := none }
def k7c1 : Code := { maxStack := 4, maxLocals := 1, code := jdk_42_method_139_code, exceptionTable := #[], attributes := #[] }
def k7m1 : Method := { name := "valueOf", desc := "(C)Ljava/lang/String;", sig := { parameters := [.char], returnType := some (.object "java/lang/String") }, accessFlags := 9, code := some k7c1 }
def k7c2 : Code := { maxStack := 2, maxLocals := 3, code := jdk_42_method_151_code, exceptionTable := #[], attributes := #[] }
def k7m2 : Method := { name := "<init>", desc := "([BB)V", sig := { parameters := [(.array .byte), .byte], returnType := none }, accessFlags := 0, code := some k7c2 }
/-- java/lang/String -/
def k7 : Class := { plain "java/lang/String" (some 0) with
  accessFlags := 49
  interfaces := #[2, 3, 4, 5, 6]
  cf := some (fileOf pool7 10 #[.nestMembers #[1103]] #[{ accessFlags := 1, nameIndex := 5, descriptorIndex := 6, attributes := #[] }, { accessFlags := 9, nameIndex := 782, descriptorIndex := 783, attributes := #[] }, { accessFlags := 0, nameIndex := 5, descriptorIndex := 211, attributes := #[] }] 49 2 #[1106, 1108, 575, 1110, 1112] #[{ accessFlags := 18, nameIndex := 13, descriptorIndex := 14, attributes := #[] }, { accessFlags := 18, nameIndex := 17, descriptorIndex := 18, attributes := #[] }, { accessFlags := 2, nameIndex := 21, descriptorIndex := 22, attributes := #[] }, { accessFlags := 2, nameIndex := 25, descriptorIndex := 26, attributes := #[] }, { accessFlags := 26, nameIndex := 1116, descriptorIndex := 1117, attributes := #[] }, { accessFlags := 24, nameIndex := 40, descriptorIndex := 26, attributes := #[] }, { accessFlags := 26, nameIndex := 1101, descriptorIndex := 1102, attributes := #[] }, { accessFlags := 26, nameIndex := 1121, descriptorIndex := 1122, attributes := #[] }, { accessFlags := 25, nameIndex := 599, descriptorIndex := 600, attributes := #[] }, { accessFlags := 24, nameIndex := 1125, descriptorIndex := 18, attributes := #[] }, { accessFlags := 24, nameIndex := 1127, descriptorIndex := 18, attributes := #[] }])
  fields := #[{ name := "value", type := (.array .byte), accessFlags := 18, slot := 0, constantValue := 0 }, { name := "coder", type := .byte, accessFlags := 18, slot := 1, constantValue := 0 }, { name := "hash", type := .int, accessFlags := 2, slot := 2, constantValue := 0 }, { name := "hashIsZero", type := .boolean, accessFlags := 2, slot := 3, constantValue := 0 }, { name := "serialVersionUID", type := .long, accessFlags := 26, slot := 0, constantValue := 0 }, { name := "COMPACT_STRINGS", type := .boolean, accessFlags := 24, slot := 1, constantValue := 0 }, { name := "serialPersistentFields", type := (.array (.object "java/io/ObjectStreamField")), accessFlags := 26, slot := 2, constantValue := 0 }, { name := "REPL", type := .char, accessFlags := 26, slot := 3, constantValue := 0 }, { name := "CASE_INSENSITIVE_ORDER", type := (.object "java/util/Comparator"), accessFlags := 25, slot := 4, constantValue := 0 }, { name := "LATIN1", type := .byte, accessFlags := 24, slot := 5, constantValue := 0 }, { name := "UTF16", type := .byte, accessFlags := 24, slot := 6, constantValue := 0 }]
  methods := #[k7m0, k7m1, k7m2]
  instanceTypes := #[(.array .byte), .byte, .int, .boolean]
  staticTypes := #[.long, .boolean, (.array (.object "java/io/ObjectStreamField")), .char, (.object "java/util/Comparator"), .byte, .byte]
  resolved := Array.replicate 1451 none
  statics := some 0 }

def pool8 : Array CpInfo := pool [(4, .class_ 6), (1, u "java/lang/Object"), (0, u "<init>"), (0, u "()V"), (5, .class_ 16), (1, u "java/lang/StringLatin1"), (73, u "canEncode"), (14, u "(C)Z"), (15, u "$assertionsDisabled"), (0, u "Z"), (98, .class_ 223), (1, u "java/lang/StringLatin1$LinesSpliterator"), (156, u "toBytes"), (1, u "(C)[B"), (7, .class_ 391), (0, u "java/lang/StringLatin1$CharsSpliterator")] 3

def k8m0 : Method := { name := "<init>", desc := "()V", sig := { parameters := [], returnType := none }, accessFlags := 0, code := none }
def k8c1 : Code := { maxStack := 2, maxLocals := 1, code := jdk_43_method_3_code, exceptionTable := #[], attributes := #[] }
def k8m1 : Method := { name := "canEncode", desc := "(C)Z", sig := { parameters := [.char], returnType := some .boolean }, accessFlags := 9, code := some k8c1 }
def k8c2 : Code := { maxStack := 4, maxLocals := 1, code := jdk_43_method_46_code, exceptionTable := #[], attributes := #[] }
def k8m2 : Method := { name := "toBytes", desc := "(C)[B", sig := { parameters := [.char], returnType := some (.array .byte) }, accessFlags := 9, code := some k8c2 }
/-- java/lang/StringLatin1 -/
def k8 : Class := { plain "java/lang/StringLatin1" (some 0) with
  accessFlags := 48
  interfaces := #[]
  cf := some (fileOf pool8 14 #[.nestMembers #[390, 221]] #[{ accessFlags := 0, nameIndex := 7, descriptorIndex := 8, attributes := #[] }, { accessFlags := 9, nameIndex := 90, descriptorIndex := 105, attributes := #[] }, { accessFlags := 9, nameIndex := 380, descriptorIndex := 382, attributes := #[] }] 48 4 #[] #[{ accessFlags := 4120, nameIndex := 121, descriptorIndex := 122, attributes := #[] }])
  fields := #[{ name := "$assertionsDisabled", type := .boolean, accessFlags := 4120, slot := 0, constantValue := 0 }]
  methods := #[k8m0, k8m1, k8m2]
  instanceTypes := #[]
  staticTypes := #[.boolean]
  resolved := Array.replicate 395 none
  statics := none }

def pool9 : Array CpInfo := pool [(1, .methodref 2 3), (0, .class_ 4), (0, .nameAndType 5 6), (0, u "java/lang/Object"), (0, u "<init>"), (0, u "()V"), (0, .class_ 8), (0, u "com/example/holdfast/holdfast/repository/Lease"), (0, .long 4294967295), (10, .fieldref 7 21), (0, .nameAndType 22 23), (0, u "m_nSeconds"), (0, u "J"), (0, .fieldref 7 25), (0, .nameAndType 26 27), (0, u "m_sToken"), (0, u "Ljava/lang/String;"), (2, .long 9223372036854775807), (1, .fieldref 7 33), (0, .nameAndType 34 23), (0, u "m_nExpiresAt"), (19, u "(JLjava/lang/String;J)V"), (6, u "INFINITE"), (3, u "MAX_SECONDS"), (0, u "MILLIS_PER_SECOND"), (7, u "isInfinite"), (0, u "()Z"), (1, u "()J"), (2, u "getExpiresAt")] 23

def k9c0 : Code := { maxStack := 5, maxLocals := 6, code := prog_16_method_1_code, exceptionTable := #[], attributes := #[] }
def k9m0 : Method := { name := "<init>", desc := "(JLjava/lang/String;J)V", sig := { parameters := [.long, (.object "java/lang/String"), .long], returnType := none }, accessFlags := 1, code := some k9c0 }
def k9c1 : Code := { maxStack := 4, maxLocals := 1, code := prog_16_method_4_code, exceptionTable := #[], attributes := #[] }
def k9m1 : Method := { name := "isInfinite", desc := "()Z", sig := { parameters := [], returnType := some .boolean }, accessFlags := 1, code := some k9c1 }
def k9c2 : Code := { maxStack := 2, maxLocals := 1, code := prog_16_method_7_code, exceptionTable := #[], attributes := #[] }
def k9m2 : Method := { name := "getExpiresAt", desc := "()J", sig := { parameters := [], returnType := some .long }, accessFlags := 1, code := some k9c2 }
/-- com/example/holdfast/holdfast/repository/Lease -/
def k9 : Class := { plain "com/example/holdfast/holdfast/repository/Lease" (some 0) with
  accessFlags := 49
  interfaces := #[]
  cf := some (fileOf pool9 7 #[] #[{ accessFlags := 1, nameIndex := 5, descriptorIndex := 54, attributes := #[] }, { accessFlags := 1, nameIndex := 74, descriptorIndex := 75, attributes := #[] }, { accessFlags := 1, nameIndex := 80, descriptorIndex := 77, attributes := #[] }] 49 2 #[] #[{ accessFlags := 25, nameIndex := 61, descriptorIndex := 23, attributes := #[] }, { accessFlags := 25, nameIndex := 65, descriptorIndex := 23, attributes := #[] }, { accessFlags := 26, nameIndex := 66, descriptorIndex := 23, attributes := #[] }, { accessFlags := 18, nameIndex := 22, descriptorIndex := 23, attributes := #[] }, { accessFlags := 18, nameIndex := 26, descriptorIndex := 27, attributes := #[] }, { accessFlags := 18, nameIndex := 34, descriptorIndex := 23, attributes := #[] }])
  fields := #[{ name := "INFINITE", type := .long, accessFlags := 25, slot := 0, constantValue := 0 }, { name := "MAX_SECONDS", type := .long, accessFlags := 25, slot := 1, constantValue := 0 }, { name := "MILLIS_PER_SECOND", type := .long, accessFlags := 26, slot := 2, constantValue := 0 }, { name := "m_nSeconds", type := .long, accessFlags := 18, slot := 0, constantValue := 0 }, { name := "m_sToken", type := (.object "java/lang/String"), accessFlags := 18, slot := 1, constantValue := 0 }, { name := "m_nExpiresAt", type := .long, accessFlags := 18, slot := 2, constantValue := 0 }]
  methods := #[k9m0, k9m1, k9m2]
  instanceTypes := #[.long, (.object "java/lang/String"), .long]
  staticTypes := #[.long, .long, .long]
  resolved := Array.replicate 104 none
  statics := none }

def pool10 : Array CpInfo := pool [(2, .class_ 4), (1, u "java/lang/Object"), (0, u "<init>"), (0, u "()V"), (17, .class_ 26), (1, u "jdk/internal/util/Preconditions"), (28, .class_ 56), (0, u "jdk/internal/util/Preconditions$4"), (57, .class_ 115), (0, u "jdk/internal/util/Preconditions$1"), (7, u "SIOOBE_FORMATTER"), (0, u "Ljava/util/function/BiFunction;"), (0, .class_ 126), (0, u "jdk/internal/util/Preconditions$2"), (3, u "AIOOBE_FORMATTER"), (0, .class_ 132), (0, u "jdk/internal/util/Preconditions$3"), (3, u "IOOBE_FORMATTER")] 57

def k10m0 : Method := { name := "<init>", desc := "()V", sig := { parameters := [], returnType := none }, accessFlags := 1, code := none }
/-- jdk/internal/util/Preconditions -/
def k10 : Class := { plain "jdk/internal/util/Preconditions" (some 0) with
  accessFlags := 33
  interfaces := #[]
  cf := some (fileOf pool10 24 #[.nestMembers #[55, 131, 125, 114]] #[{ accessFlags := 1, nameIndex := 5, descriptorIndex := 6, attributes := #[] }] 33 2 #[] #[{ accessFlags := 25, nameIndex := 123, descriptorIndex := 124, attributes := #[] }, { accessFlags := 25, nameIndex := 130, descriptorIndex := 124, attributes := #[] }, { accessFlags := 25, nameIndex := 136, descriptorIndex := 124, attributes := #[] }])
  fields := #[{ name := "SIOOBE_FORMATTER", type := (.object "java/util/function/BiFunction"), accessFlags := 25, slot := 0, constantValue := 0 }, { name := "AIOOBE_FORMATTER", type := (.object "java/util/function/BiFunction"), accessFlags := 25, slot := 1, constantValue := 0 }, { name := "IOOBE_FORMATTER", type := (.object "java/util/function/BiFunction"), accessFlags := 25, slot := 2, constantValue := 0 }]
  methods := #[k10m0]
  instanceTypes := #[]
  staticTypes := #[(.object "java/util/function/BiFunction"), (.object "java/util/function/BiFunction"), (.object "java/util/function/BiFunction")]
  resolved := Array.replicate 194 none
  statics := some 1 }

def pool11 : Array CpInfo := pool [(9, u "<init>"), (6, .class_ 18), (1, u "java/lang/Object"), (0, u "()V"), (1, .class_ 23), (1, u "jdk/internal/util/ArraysSupport"), (0, u "LOG2_ARRAY_LONG_INDEX_SCALE"), (0, u "I"), (2, u "U"), (0, u "Ljdk/internal/misc/Unsafe;"), (8, u "BIG_ENDIAN"), (0, u "Z"), (8, u "LOG2_BYTE_BIT_SIZE"), (4, u "LOG2_ARRAY_INT_INDEX_SCALE"), (54, u "JLA"), (0, u "Ljdk/internal/access/JavaLangAccess;"), (11, u "LOG2_ARRAY_BOOLEAN_INDEX_SCALE"), (9, u "LOG2_ARRAY_BYTE_INDEX_SCALE"), (5, u "LOG2_ARRAY_CHAR_INDEX_SCALE"), (5, u "LOG2_ARRAY_SHORT_INDEX_SCALE"), (18, u "LOG2_ARRAY_FLOAT_INDEX_SCALE"), (24, u "LOG2_ARRAY_DOUBLE_INDEX_SCALE"), (89, u "T_BOOLEAN"), (2, u "T_CHAR"), (1, u "T_FLOAT"), (1, u "T_DOUBLE"), (1, u "T_BYTE"), (1, u "T_SHORT"), (1, u "T_INT"), (1, u "T_LONG"), (1, u "SOFT_MAX_ARRAY_LENGTH")] 83

def k11m0 : Method := { name := "<init>", desc := "()V", sig := { parameters := [], returnType := none }, accessFlags := 2, code := none }
/-- jdk/internal/util/ArraysSupport -/
def k11 : Class := { plain "jdk/internal/util/ArraysSupport" (some 0) with
  accessFlags := 33
  interfaces := #[]
  cf := some (fileOf pool11 21 #[] #[{ accessFlags := 2, nameIndex := 9, descriptorIndex := 19, attributes := #[] }] 33 16 #[] #[{ accessFlags := 24, nameIndex := 28, descriptorIndex := 29, attributes := #[] }, { accessFlags := 26, nameIndex := 38, descriptorIndex := 39, attributes := #[] }, { accessFlags := 25, nameIndex := 121, descriptorIndex := 25, attributes := #[] }, { accessFlags := 25, nameIndex := 131, descriptorIndex := 25, attributes := #[] }, { accessFlags := 25, nameIndex := 137, descriptorIndex := 25, attributes := #[] }, { accessFlags := 25, nameIndex := 143, descriptorIndex := 25, attributes := #[] }, { accessFlags := 25, nameIndex := 53, descriptorIndex := 25, attributes := #[] }, { accessFlags := 25, nameIndex := 24, descriptorIndex := 25, attributes := #[] }, { accessFlags := 25, nameIndex := 162, descriptorIndex := 25, attributes := #[] }, { accessFlags := 25, nameIndex := 187, descriptorIndex := 25, attributes := #[] }, { accessFlags := 26, nameIndex := 48, descriptorIndex := 25, attributes := #[] }, { accessFlags := 25, nameIndex := 277, descriptorIndex := 25, attributes := #[] }, { accessFlags := 25, nameIndex := 280, descriptorIndex := 25, attributes := #[] }, { accessFlags := 25, nameIndex := 282, descriptorIndex := 25, attributes := #[] }, { accessFlags := 25, nameIndex := 284, descriptorIndex := 25, attributes := #[] }, { accessFlags := 25, nameIndex := 286, descriptorIndex := 25, attributes := #[] }, { accessFlags := 25, nameIndex := 288, descriptorIndex := 25, attributes := #[] }, { accessFlags := 25, nameIndex := 290, descriptorIndex := 25, attributes := #[] }, { accessFlags := 25, nameIndex := 292, descriptorIndex := 25, attributes := #[] }, { accessFlags := 26, nameIndex := 108, descriptorIndex := 109, attributes := #[] }, { accessFlags := 25, nameIndex := 294, descriptorIndex := 25, attributes := #[] }])
  fields := #[{ name := "U", type := (.object "jdk/internal/misc/Unsafe"), accessFlags := 24, slot := 0, constantValue := 0 }, { name := "BIG_ENDIAN", type := .boolean, accessFlags := 26, slot := 1, constantValue := 0 }, { name := "LOG2_ARRAY_BOOLEAN_INDEX_SCALE", type := .int, accessFlags := 25, slot := 2, constantValue := 0 }, { name := "LOG2_ARRAY_BYTE_INDEX_SCALE", type := .int, accessFlags := 25, slot := 3, constantValue := 0 }, { name := "LOG2_ARRAY_CHAR_INDEX_SCALE", type := .int, accessFlags := 25, slot := 4, constantValue := 0 }, { name := "LOG2_ARRAY_SHORT_INDEX_SCALE", type := .int, accessFlags := 25, slot := 5, constantValue := 0 }, { name := "LOG2_ARRAY_INT_INDEX_SCALE", type := .int, accessFlags := 25, slot := 6, constantValue := 0 }, { name := "LOG2_ARRAY_LONG_INDEX_SCALE", type := .int, accessFlags := 25, slot := 7, constantValue := 0 }, { name := "LOG2_ARRAY_FLOAT_INDEX_SCALE", type := .int, accessFlags := 25, slot := 8, constantValue := 0 }, { name := "LOG2_ARRAY_DOUBLE_INDEX_SCALE", type := .int, accessFlags := 25, slot := 9, constantValue := 0 }, { name := "LOG2_BYTE_BIT_SIZE", type := .int, accessFlags := 26, slot := 10, constantValue := 0 }, { name := "T_BOOLEAN", type := .int, accessFlags := 25, slot := 11, constantValue := 0 }, { name := "T_CHAR", type := .int, accessFlags := 25, slot := 12, constantValue := 0 }, { name := "T_FLOAT", type := .int, accessFlags := 25, slot := 13, constantValue := 0 }, { name := "T_DOUBLE", type := .int, accessFlags := 25, slot := 14, constantValue := 0 }, { name := "T_BYTE", type := .int, accessFlags := 25, slot := 15, constantValue := 0 }, { name := "T_SHORT", type := .int, accessFlags := 25, slot := 16, constantValue := 0 }, { name := "T_INT", type := .int, accessFlags := 25, slot := 17, constantValue := 0 }, { name := "T_LONG", type := .int, accessFlags := 25, slot := 18, constantValue := 0 }, { name := "JLA", type := (.object "jdk/internal/access/JavaLangAccess"), accessFlags := 26, slot := 19, constantValue := 0 }, { name := "SOFT_MAX_ARRAY_LENGTH", type := .int, accessFlags := 25, slot := 20, constantValue := 0 }]
  methods := #[k11m0]
  instanceTypes := #[]
  staticTypes := #[(.object "jdk/internal/misc/Unsafe"), .boolean, .int, .int, .int, .int, .int, .int, .int, .int, .int, .int, .int, .int, .int, .int, .int, .int, .int, (.object "jdk/internal/access/JavaLangAccess"), .int]
  resolved := Array.replicate 378 none
  statics := none }

def pool12 : Array CpInfo := pool [(1, u "java/lang/Cloneable"), (0, .class_ 1), (0, u "java/lang/Object"), (0, .class_ 3)] 3

/-- java/lang/Cloneable -/
def k12 : Class := { plain "java/lang/Cloneable" (some 0) with
  accessFlags := 1537
  interfaces := #[]
  cf := some (fileOf pool12 2 #[] #[] 1537 4 #[] #[])
  fields := #[]
  methods := #[]
  instanceTypes := #[]
  staticTypes := #[]
  resolved := Array.replicate 8 none
  statics := none }

/-- the primitive byte -/
def k13 : Class := { plain "byte" none with kind := .primitive 'B', accessFlags := 0x411 }
/-- [B -/
def k14 : Class := { plain "[B" (some 0) with kind := .array 13 .byte, interfaces := #[12, 2], accessFlags := 1041 }

/-- the primitive int -/
def k15 : Class := { plain "int" none with kind := .primitive 'I', accessFlags := 0x411 }
/-- [I -/
def k16 : Class := { plain "[I" (some 0) with kind := .array 15 .int, interfaces := #[12, 2], accessFlags := 1041 }

def heap : Heap := #[{ cls := 7, slots := #[.long 0, .int 1, .null, .int 0, .null, .int 0, .int 0], vm := .statics 7 },
  { cls := 10, slots := #[.null, .null, .null], vm := .statics 10 }]
def classes : Array Class := #[k0, k1, k2, k3, k4, k5, k6, k7, k8, k9, k10, k11, k12, k13, k14, k15, k16]
def interned : List (Array UInt16 × Addr) := []
def slotsUsed : Nat := 10
def theMethod : MethodId := ⟨1, 1⟩
def args0 : Array Value := #[.long 5, .long 6, .int 7, .int 8]
def aboutOver (below : List Frame) : State where
  vm := { classes := classes, interned := interned.toArray }
  heap := heap
  slotsUsed := slotsUsed
  threads := #[{ frames := .invoking theMethod args0 :: below }]
def below0 : List Frame := [.native { method := ⟨0, 0⟩, args := #[] }]
def about1 : State := aboutOver below0
def p0 : Program := .bare "" "" ""
def e0 : Env := launch0.env 0 0 0
theorem w_frames : about1.frames = Frame.invoking theMethod args0 :: below0 := rfl
set_option maxRecDepth 65536 in
theorem w_args : argsFit about1.vm theMethod args0 = true := by decide +kernel
set_option maxRecDepth 65536 in
theorem w_heap : heapFits about1 = true := by decide +kernel
set_option maxRecDepth 65536 in
theorem w_runnable : about1.curStatus? = some .runnable := by decide +kernel
set_option maxRecDepth 65536 in
theorem w_alone : about1.alone = true := by decide +kernel
set_option maxRecDepth 65536 in
theorem w_named : about1.methodNamed? x = some theMethod := by decide +kernel
set_option maxRecDepth 65536 in
theorem w_hears : about1.hears theMethod below0 = true := by decide +kernel
set_option maxRecDepth 65536 in
theorem w_ripe : about1.ripe theMethod args0 below0 = true := by decide +kernel
theorem w_running : about1.status = .running := rfl
set_option maxRecDepth 65536 in
theorem w_room : about1.hasRoom e0.platform room_1 = true :=
  launch0.hasRoom_least _ room_1 (by decide +kernel) (by decide +kernel) (by decide +kernel) (by decide +kernel) (by decide +kernel) (by decide +kernel)
theorem allAtoms_all (ts : List Jvm.Cond) (a : Array Jvm.Value) (st : Jvm.State) : (allAtoms ts).before a st = ts.all (fun c => c.before a st) := by
  induction ts with
  | nil => rfl
  | cons c t ih =>
    show (Jvm.Cond.and c (allAtoms t)).before a st = _
    rw [Jvm.Cond.before_and, ih, List.all_cons]
def words1 : List Jvm.Cond := Jvm.Cond.code x code maxLocals ret :: tables_1
/-- a 'code' word, met by the world's own term for the bytes: nothing is compared byte by byte -/
theorem code_word {y : MethodName} {bytes : ByteArray} {mx : Nat} {rt : Option FieldType} {a : Array Value} {s : State} {m : MethodId} {meth : Method} {c : Code} (h1 : s.methodNamed? y = some m) (h2 : s.vm.method? m = some meth) (h3 : meth.code = some c) (h4 : c.code = bytes)
    (h5 : (c.maxLocals == mx && c.exceptionTable.isEmpty && decide (c.maxStack ≤ mostOperands) && decide (meth.sig.returnType = rt) && !meth.locks && decide (parseMethodDescriptor y.desc = some meth.sig)) = true) : (Jvm.Cond.code y bytes mx rt).before a s = true := by
  simp only [Bool.and_eq_true, beq_iff_eq, Bool.not_eq_true', decide_eq_true_eq] at h5
  obtain ⟨⟨⟨⟨⟨g1, g2⟩, g3⟩, g4⟩, g5⟩, g6⟩ := h5
  simp [Cond.before, Cond.holds, Cond.value, h1, h2, h3, h4, g1, g2, g3, g4, g5, g6]
def isCode : Jvm.Cond → Bool
  | .code _ _ _ _ => true
  | _ => false
theorem all_split {L : List Jvm.Cond} {P : Jvm.Cond → Bool} (h1 : L.all (fun c => isCode c || P c) = true) (h2 : ∀ c ∈ L.filter isCode, P c = true) : L.all P = true := by
  refine List.all_eq_true.mpr fun c hc => ?_
  have h := List.all_eq_true.mp h1 c hc
  rcases Bool.eq_false_or_eq_true (isCode c) with hi | hi
  · exact h2 c (List.mem_filter.mpr ⟨hc, hi⟩)
  · simpa [hi] using h
set_option maxRecDepth 65536 in
theorem w_c0 : (Jvm.Cond.code x code maxLocals ret).before args0 about1 = true := code_word (m := ⟨1, 1⟩) (meth := k1m1) (c := k1c1) (by decide +kernel) rfl rfl rfl (by decide +kernel)
set_option maxRecDepth 65536 in
theorem w_c1 : (Jvm.Cond.code ({ cls := "java/lang/String", name := "valueOf", desc := "(C)Ljava/lang/String;" } : Jvm.MethodName) jdk_42_method_139_code (1 : Nat) (Option.some (Jvm.ClassFile.FieldType.object "java/lang/String"))).before args0 about1 = true := code_word (m := ⟨7, 1⟩) (meth := k7m1) (c := k7c1) (by decide +kernel) rfl rfl rfl (by decide +kernel)
set_option maxRecDepth 65536 in
theorem w_c2 : (Jvm.Cond.code ({ cls := "java/lang/StringLatin1", name := "canEncode", desc := "(C)Z" } : Jvm.MethodName) jdk_43_method_3_code (1 : Nat) (Option.some Jvm.ClassFile.FieldType.boolean)).before args0 about1 = true := code_word (m := ⟨8, 1⟩) (meth := k8m1) (c := k8c1) (by decide +kernel) rfl rfl rfl (by decide +kernel)
set_option maxRecDepth 65536 in
theorem w_c3 : (Jvm.Cond.code ({ cls := "java/lang/StringLatin1", name := "toBytes", desc := "(C)[B" } : Jvm.MethodName) jdk_43_method_46_code (1 : Nat) (Option.some (Jvm.ClassFile.FieldType.array Jvm.ClassFile.FieldType.byte))).before args0 about1 = true := code_word (m := ⟨8, 2⟩) (meth := k8m2) (c := k8c2) (by decide +kernel) rfl rfl rfl (by decide +kernel)
set_option maxRecDepth 65536 in
theorem w_c4 : (Jvm.Cond.code ({ cls := "java/lang/String", name := "<init>", desc := "([BB)V" } : Jvm.MethodName) jdk_42_method_151_code (3 : Nat) (Option.none : Option Jvm.ClassFile.FieldType)).before args0 about1 = true := code_word (m := ⟨7, 2⟩) (meth := k7m2) (c := k7c2) (by decide +kernel) rfl rfl rfl (by decide +kernel)
set_option maxRecDepth 65536 in
theorem w_c5 : (Jvm.Cond.code ({ cls := "java/lang/Object", name := "<init>", desc := "()V" } : Jvm.MethodName) object_method_1_code (1 : Nat) (Option.none : Option Jvm.ClassFile.FieldType)).before args0 about1 = true := code_word (m := ⟨0, 0⟩) (meth := k0m0) (c := k0c0) (by decide +kernel) rfl rfl rfl (by decide +kernel)
set_option maxRecDepth 65536 in
theorem w_c6 : (Jvm.Cond.code ({ cls := "com/example/holdfast/holdfast/repository/Lease", name := "<init>", desc := "(JLjava/lang/String;J)V" } : Jvm.MethodName) prog_16_method_1_code (6 : Nat) (Option.none : Option Jvm.ClassFile.FieldType)).before args0 about1 = true := code_word (m := ⟨9, 0⟩) (meth := k9m0) (c := k9c0) (by decide +kernel) rfl rfl rfl (by decide +kernel)
set_option maxRecDepth 65536 in
theorem w_c7 : (Jvm.Cond.code ({ cls := "com/example/holdfast/holdfast/repository/Lease", name := "isInfinite", desc := "()Z" } : Jvm.MethodName) prog_16_method_4_code (1 : Nat) (Option.some Jvm.ClassFile.FieldType.boolean)).before args0 about1 = true := code_word (m := ⟨9, 1⟩) (meth := k9m1) (c := k9c1) (by decide +kernel) rfl rfl rfl (by decide +kernel)
set_option maxRecDepth 65536 in
theorem w_c8 : (Jvm.Cond.code ({ cls := "com/example/holdfast/holdfast/repository/Lease", name := "getExpiresAt", desc := "()J" } : Jvm.MethodName) prog_16_method_7_code (1 : Nat) (Option.some Jvm.ClassFile.FieldType.long)).before args0 about1 = true := code_word (m := ⟨9, 2⟩) (meth := k9m2) (c := k9c2) (by decide +kernel) rfl rfl rfl (by decide +kernel)
def codes1 : List Jvm.Cond := [Jvm.Cond.code x code maxLocals ret, Jvm.Cond.code ({ cls := "java/lang/String", name := "valueOf", desc := "(C)Ljava/lang/String;" } : Jvm.MethodName) jdk_42_method_139_code (1 : Nat) (Option.some (Jvm.ClassFile.FieldType.object "java/lang/String")), Jvm.Cond.code ({ cls := "java/lang/StringLatin1", name := "canEncode", desc := "(C)Z" } : Jvm.MethodName) jdk_43_method_3_code (1 : Nat) (Option.some Jvm.ClassFile.FieldType.boolean), Jvm.Cond.code ({ cls := "java/lang/StringLatin1", name := "toBytes", desc := "(C)[B" } : Jvm.MethodName) jdk_43_method_46_code (1 : Nat) (Option.some (Jvm.ClassFile.FieldType.array Jvm.ClassFile.FieldType.byte)), Jvm.Cond.code ({ cls := "java/lang/String", name := "<init>", desc := "([BB)V" } : Jvm.MethodName) jdk_42_method_151_code (3 : Nat) (Option.none : Option Jvm.ClassFile.FieldType), Jvm.Cond.code ({ cls := "java/lang/Object", name := "<init>", desc := "()V" } : Jvm.MethodName) object_method_1_code (1 : Nat) (Option.none : Option Jvm.ClassFile.FieldType), Jvm.Cond.code ({ cls := "com/example/holdfast/holdfast/repository/Lease", name := "<init>", desc := "(JLjava/lang/String;J)V" } : Jvm.MethodName) prog_16_method_1_code (6 : Nat) (Option.none : Option Jvm.ClassFile.FieldType), Jvm.Cond.code ({ cls := "com/example/holdfast/holdfast/repository/Lease", name := "isInfinite", desc := "()Z" } : Jvm.MethodName) prog_16_method_4_code (1 : Nat) (Option.some Jvm.ClassFile.FieldType.boolean), Jvm.Cond.code ({ cls := "com/example/holdfast/holdfast/repository/Lease", name := "getExpiresAt", desc := "()J" } : Jvm.MethodName) prog_16_method_7_code (1 : Nat) (Option.some Jvm.ClassFile.FieldType.long)]
set_option maxRecDepth 65536 in
theorem codes_eq : words1.filter isCode = codes1 := rfl
theorem w_codes : ∀ c ∈ words1.filter isCode, c.before args0 about1 = true := by
  rw [codes_eq]
  intro c hc
  simp only [codes1, List.mem_cons, List.not_mem_nil, or_false] at hc
  rcases hc with rfl | rfl | rfl | rfl | rfl | rfl | rfl | rfl | rfl
  · exact w_c0
  · exact w_c1
  · exact w_c2
  · exact w_c3
  · exact w_c4
  · exact w_c5
  · exact w_c6
  · exact w_c7
  · exact w_c8
set_option maxRecDepth 65536 in
theorem w_t1 : (words1.take 24).all (fun c => isCode c || c.before args0 about1) = true := by decide +kernel
set_option maxRecDepth 65536 in
theorem w_t2 : ((words1.drop 24).take 24).all (fun c => isCode c || c.before args0 about1) = true := by decide +kernel
set_option maxRecDepth 65536 in
theorem w_t3 : ((words1.drop 24).drop 24).all (fun c => isCode c || c.before args0 about1) = true := by decide +kernel
theorem w_tables : (allAtoms (Jvm.Cond.code x code maxLocals ret :: tables_1)).before args0 about1 = true := by
  rw [allAtoms_all]
  show words1.all (fun c => c.before args0 about1) = true
  refine all_split ?_ w_codes
  rw [← List.take_append_drop 24 words1, List.all_append, w_t1, ← List.take_append_drop 24 (words1.drop 24), List.all_append, w_t2, w_t3]
  rfl
set_option maxRecDepth 65536 in
theorem w_rest : rest_1_c.before args0 about1 = true := by decide +kernel
set_option maxRecDepth 65536 in
theorem w_case : (Jvm.Cond.and given_1 narrow_1).before args0 about1 = true := by decide +kernel
theorem w_applies : (headSpec (Jvm.Cond.code x code maxLocals ret :: tables_1) room_1).applies x e0.platform about1 = true :=
  (Spec.applies_iff w_frames).mpr ⟨w_running, w_runnable, w_alone, w_named, w_hears, w_ripe, w_room, w_tables⟩
theorem atStart : AtStart classFile x code maxLocals ret World_1 tables_1 room_1 Calls_1 rest_1 Pre_1 launch0 p0 e0 about1 theMethod args0 below0 :=
  ⟨lists_1, trivial, launch0.admits_env _ _ _, launch0.least_env, fairChoices_fair.cas, fairChoices_fair.clock, w_frames, w_args, w_heap, w_applies, trivial, w_rest, w_case⟩
end start1
theorem witness_1 : WitnessClaimed_1 := ⟨start1.p0, start1.e0, start1.about1, start1.theMethod, start1.args0, start1.below0, start1.atStart⟩
end Jvm.Pilot.@@N@@
