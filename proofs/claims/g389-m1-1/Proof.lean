import JvmDerived
import JvmDerived.Pilot.@@N@@Statement
import JvmDerived.Pilot.@@N@@Code
set_option linter.unusedVariables false
set_option linter.unusedSimpArgs false
namespace Jvm.Pilot.@@N@@
open Jvm Jvm.ClassFile Sem Op Lib Jvm.Free Jvm.Stand Jvm.LawKit Jvm.RoadKit Bundle Jvm.Pilot.@@N@@.Jvm.D
theorem own_w {a0 : Array Value} {Z : State} (hw : ∀ d ∈ tables_1, d.before a0 Z = true) (i : Nat) {d : Jvm.Cond} (h : tables_1[i]? = some d) : d.before a0 Z = true := hw _ (List.mem_of_getElem? h)
abbrev oS (p : Program) (e : Env) (b : List Frame) (T : State) (m : MethodId) (pc : Nat) (L : Array Slot) (S : List Value) (t : State) : Prop := Steps p.tables e b (T.setTop (mkF m pc L S)) t
abbrev lv (x : Int64) : Slot := .val (.long x)
theorem own_join {α : Type} {p : Program} {l : Launch} {e : Env} {R : Room} {s : State} {m : MethodId} {args : Array Value} {below : List Frame} {meth : Method} {c : Code} {T : State} {locs : List Loc} {cells slots n0 : Nat} {h : Heap}
    (_ : Stand p l e R s m args below meth c T locs cells slots) (_ : Fr n0 locs) (_ : T.heap = h) (A : JFrame) (B : α → JFrame) (P : α → Prop)
    (k : ∃ (v : α) (T' : State) (locs' : List Loc), P v ∧ Fr n0 locs' ∧ Stand p l e R s m args below meth c T' locs' cells slots ∧ T'.heap = h ∧ ∀ t, Steps p.tables e below (T'.setTop (B v)) t → Steps p.tables e below (T.setTop A) t) :
    ∃ (v : α) (T' : State) (locs' : List Loc), P v ∧ Fr n0 locs' ∧ Stand p l e R s m args below meth c T' locs' cells slots ∧ T'.heap = h ∧ ∀ t, Steps p.tables e below (T'.setTop (B v)) t → Steps p.tables e below (T.setTop A) t := k
theorem own_joinH {α : Type} {p : Program} {l : Launch} {e : Env} {R : Room} {s : State} {m : MethodId} {args : Array Value} {below : List Frame} {meth : Method} {c : Code} {T : State} {locs : List Loc} {cells slots n0 : Nat} {h : Heap}
    (_ : Stand p l e R s m args below meth c T locs cells slots) (_ : Fr n0 locs) (_ : T.heap = h) (A : JFrame) (B : α → JFrame) (P : α → Heap → Prop)
    (k : ∃ (v : α) (T' : State) (h' : Heap) (locs' : List Loc), P v h' ∧ Fr n0 locs' ∧ Stand p l e R s m args below meth c T' locs' cells slots ∧ T'.heap = h' ∧ ∀ t, Steps p.tables e below (T'.setTop (B v)) t → Steps p.tables e below (T.setTop A) t) :
    ∃ (v : α) (T' : State) (h' : Heap) (locs' : List Loc), P v h' ∧ Fr n0 locs' ∧ Stand p l e R s m args below meth c T' locs' cells slots ∧ T'.heap = h' ∧ ∀ t, Steps p.tables e below (T'.setTop (B v)) t → Steps p.tables e below (T.setTop A) t := k
theorem own_selp {s Z : State} {a0 args : Array Value} {y : MethodName} {n : Nat} (hZ : Z.Warmed39 s.vm) (wi : (Cond.instantiable y.cls n).before a0 Z = true) (wp : (Cond.privateMethod y).before a0 Z = true) (wm : (Cond.instanceMethod y).before a0 Z = true)
    (hy : y.cls ≠ "java/lang/invoke/MethodHandle" ∧ y.cls ≠ "java/lang/invoke/VarHandle") : (Cond.selects y.cls y y).before args s = true := by
  have wi' : (Cond.instantiable y.cls n).before args s = true := mvT hZ wi
  obtain ⟨c, k, h1, h2, h3, h4, -⟩ := Cond.instantiable_spec wi'
  exact Stand.selects_self_of_private h1 h2 (Bool.or_eq_false_iff.mp h4).1 (Cond.privateMethod_at (mvP hZ wp (args := #[]))) (mvT hZ wm) hy
theorem own_nn (x : Int64) : ¬ ((x &&& (9223372036854775807 : Int64)) < (0 : Int64)) := by
  have h := c_maskL x 9223372036854775807 63 (by decide) (by decide)
  rw [Int64.lt_iff_toInt_lt, h]
  have e : (0 : Int64).toInt = 0 := rfl
  omega
theorem own_e0 : (0 : Int64).toInt = 0 := rfl
theorem own_e1 : (1 : Int64).toInt = 1 := rfl
theorem own_eM : (9223372036854775807 : Int64).toInt = 9223372036854775807 := rfl

theorem own_le (v : Int64) : v < (9223372036854775807 : Int64) ↔ ¬ v = (9223372036854775807 : Int64) := by
  have r := rng64 v
  rw [Int64.lt_iff_toInt_lt, ← Int64.toInt_inj, own_eM]; omega
theorem own_A1 (v c : Int64) : (if v < c then (0 : Int32) else (if v < (9223372036854775807 : Int64) then (1 : Int32) else (0 : Int32))) = (if v < c then (0 : Int32) else (if v = (9223372036854775807 : Int64) then (0 : Int32) else (1 : Int32))) := by
  by_cases h1 : v < c
  · rw [if_pos h1, if_pos h1]
  · rw [if_neg h1, if_neg h1]
    by_cases h2 : v = (9223372036854775807 : Int64)
    · rw [if_pos h2, if_neg (fun q => (own_le v).mp q h2)]
    · rw [if_neg h2, if_pos ((own_le v).mpr h2)]
theorem own_A2 (v c : Int64) (hc : ¬ c < (0 : Int64)) (h : v < (0 : Int64)) : (if v < c then (0 : Int32) else (if v < (9223372036854775807 : Int64) then (1 : Int32) else (0 : Int32))) = (0 : Int32) ∧ (if v < (0 : Int64) then (0 : Int32) else (if v < c then (1 : Int32) else (0 : Int32))) = (0 : Int32) := by
  have h2 : v < c := by rw [Int64.lt_iff_toInt_lt] at *; omega
  exact ⟨if_pos h2, if_pos h⟩
theorem own_A3 (v c : Int64) (h : v = (9223372036854775807 : Int64)) : (if v < c then (0 : Int32) else (if v < (9223372036854775807 : Int64) then (1 : Int32) else (0 : Int32))) = (0 : Int32) ∧ (if v < (0 : Int64) then (0 : Int32) else (if v < c then (1 : Int32) else (0 : Int32))) = (0 : Int32) := by
  have r := rng64 c
  have h2 : ¬ v < c := by rw [h, Int64.lt_iff_toInt_lt, own_eM]; omega
  have h3 : ¬ v < (9223372036854775807 : Int64) := fun q => (own_le v).mp q h
  rw [if_neg h2, if_neg h3]
  refine ⟨rfl, ?_⟩
  by_cases h4 : v < 0
  · rw [if_pos h4]
  · rw [if_neg h4, if_neg h2]
theorem own_A4 (v c : Int64) (h1 : ¬ v < (0 : Int64)) (h2 : ¬ v = (9223372036854775807 : Int64)) : ¬ ((if v < c then (0 : Int32) else (if v < (9223372036854775807 : Int64) then (1 : Int32) else (0 : Int32))) = (if v < (0 : Int64) then (0 : Int32) else (if v < c then (1 : Int32) else (0 : Int32)))) := by
  rw [if_neg h1, if_pos ((own_le v).mpr h2)]
  by_cases h3 : v < c
  · rw [if_pos h3, if_pos h3]; decide
  · rw [if_neg h3, if_neg h3]; decide
theorem own_A5 (v c : Int64) (hc : ¬ c < (0 : Int64)) (h : ¬ ((if v < c then (0 : Int32) else (if v < (9223372036854775807 : Int64) then (1 : Int32) else (0 : Int32))) = (0 : Int32))) : ¬ (v < (0 : Int64)) ∧ v < (9223372036854775807 : Int64) := by
  by_cases h3 : v < c
  · rw [if_pos h3] at h; exact absurd rfl h
  · rw [if_neg h3] at h
    by_cases h4 : v < (9223372036854775807 : Int64)
    · refine ⟨?_, h4⟩
      rw [Int64.lt_iff_toInt_lt] at *
      omega
    · rw [if_neg h4] at h; exact absurd rfl h
theorem own_A6 (v : Int64) (h : ¬ (v < (0 : Int64)) ∧ v < (9223372036854775807 : Int64)) : ¬ (v + (1 : Int64)) < (0 : Int64) ∧ v < (v + (1 : Int64)) := by
  have e := c_ladd v 1
  have r := rng64 (v + 1)
  obtain ⟨h1, h2⟩ := h
  rw [Int64.lt_iff_toInt_lt] at h1 h2
  rw [own_eM] at h2
  rw [own_e0] at h1
  rw [own_e1] at e
  rw [Int64.lt_iff_toInt_lt, Int64.lt_iff_toInt_lt, own_e0]
  omega
theorem own_A7 (w : Int64) : (if w < w then (0 : Int32) else (if w < (9223372036854775807 : Int64) then (1 : Int32) else (0 : Int32))) = (if w = (9223372036854775807 : Int64) then (0 : Int32) else (1 : Int32)) := by
  have h2 : ¬ w < w := by rw [Int64.lt_iff_toInt_lt]; omega
  rw [if_neg h2]
  by_cases h2 : w = (9223372036854775807 : Int64)
  · rw [if_pos h2, if_neg (fun q => (own_le w).mp q h2)]
  · rw [if_neg h2, if_pos ((own_le w).mpr h2)]
theorem d3_0 : decode jdk_30_method_1_code 0 = .ok (.aload_n 0, 1) := by decide +kernel
theorem d3_1 : decode jdk_30_method_1_code 1 = .ok (.invokespecial 1, 3) := by decide +kernel
theorem d3_4 : decode jdk_30_method_1_code 4 = .ok (.return_, 1) := by decide +kernel
theorem own_pn0 : plainName "java/lang/Record" = true := by first | (simp [plainName, overriddenIn]; done) | decide +kernel
theorem ef3 (m : MethodId) (o : Addr) : entryFrame m #[(.ref o)] 1 = mkF m 0 #[rv o] [] := by first | (simp [entryFrame, mkF, argsToLocals, Value.category]; done) | rfl
def Q3 (Z : State) (o : Addr) (h0 : Heap) (n0 : Nat) (v : Option Value) (h : Heap) (L : List Loc) : Prop := v = none ∧ Fr n0 L ∧ h = h0
set_option maxRecDepth 65536 in
set_option maxHeartbeats 40000000 in
theorem rm3 (l : Launch) (Z : State) (a0 : Array Value) (hw : ∀ d ∈ tables_1, d.before a0 Z = true) (ws : List Jvm.Cond) (o : Addr) (h0 : Heap) (n0 : Nat) (Z0 : n0 ≤ h0.size) :
    MetFree l (⟨"java/lang/Record", "<init>", "()V"⟩ : MethodName) (head1 (Jvm.Cond.code (⟨"java/lang/Record", "<init>", "()V"⟩ : MethodName) jdk_30_method_1_code 1 none :: ws) ({ frames := 1, cells := 0, slots := 0, locals := 12 } : Room)) (fun a U => a = #[(.ref o)] ∧ Z.Warmed39 U.vm ∧ U.heap = h0) (fun _ _ _ _ _ => True) (fun _ U oc U' => ∃ v L, oc = .returned v ∧ Q3 Z o h0 n0 v U'.heap L ∧ FrameEnd U oc U' L ({ frames := 1, cells := 0, slots := 0, locals := 12 } : Room).cells ({ frames := 1, cells := 0, slots := 0, locals := 12 } : Room).slots) := by
  refine MetFree.of_bodySF (plainFor_of_name own_pn0) hisR ?_
  intro p e s m args below meth c s₁ Bd hml0 hP hK
  obtain ⟨rfl, hZ, hh⟩ := hP
  have hx := Bd.exec
  have hby := Bd.bytes
  have hml : c.maxLocals = 1 := hml0
  have hown : s.vm.findClass "java/lang/Record" = some m.cls := findClass_of_methodNamed Bd.named
  have hnm := (name_of_methodNamed Bd.named Bd.method).1
  have X0 : Stand p l e ({ frames := 1, cells := 0, slots := 0, locals := 12 } : Room) s m #[(.ref o)] below meth c s₁ [] 0 0 := Stand.of_body Bd
  have e0 : s₁.heap = h0 := by rw [← hh, Bd.state]; rfl
  have N0 := Fr.nil n0
  have pre0 : ∀ t, Steps p.tables e below (s₁.setTop (mkF m 0 #[rv o] [])) t → Steps p.tables e below (s₁.setTop (entryFrame m #[(.ref o)] 1)) t := fun t k => castTop (ef3 m o) k
  obtain ⟨T1, X1, e1, st1⟩ := initO X0 hx hZ hown (own_w hw 16 rfl) (own_w hw 17 rfl) (own_w hw 18 rfl) e0 (g := (mkF m 1 #[rv o] [(.ref o)])) rfl (by rw [hml]; rfl) rfl (hb hby d3_1) (by decide) (W := 0) (by show 2 * 0 + _ ≤ _; exact Nat.le_of_eq rfl) (by decide)
  have pre2 : ∀ tz, oS p e below T1 m 4 #[rv o] [] tz → oS p e below s₁ m 0 #[rv o] [] tz := fun tz kt => by
    show oS p e below s₁ m 0 #[rv o] [] _
    refine XS.aloadN X0.here hx rfl (hb hby d3_0) rfl rfl ?_
    show oS p e below s₁ m 1 #[rv o] [(.ref o)] _
    refine st1 _ ?_
    exact kt
  obtain ⟨fs, hr, hrun, hended, hW, hsame⟩ := X1.leave (v := none) (fun _ => rfl)
  refine ⟨_, _, pre0 _ (pre2 _ ?_), hrun, hended, _, _, rfl, ?_, ⟨_, rfl⟩, hW, hsame.mono (by decide) (by decide)⟩
  · show oS p e below T1 m 4 #[rv o] [] _
    exact X1.returnOut hx Bd.returns (hb hby d3_4) hr
  · show Q3 Z o h0 n0 _ T1.heap _
    rw [e1]
    exact ⟨rfl, N0, rfl⟩
theorem d1_0 : decode method_2_code 0 = .ok (.iload 4, 2) := by decide +kernel
theorem d1_2 : decode method_2_code 2 = .ok (.bipush 7, 2) := by decide +kernel
theorem d1_4 : decode method_2_code 4 = .ok (.iand, 1) := by decide +kernel
theorem d1_5 : decode method_2_code 5 = .ok (.istore 5, 2) := by decide +kernel
theorem d1_7 : decode method_2_code 7 = .ok (.iload 5, 2) := by decide +kernel
theorem d1_9 : decode method_2_code 9 = .ok (.ifCond .ne 5, 3) := by decide +kernel
theorem d1_12 : decode method_2_code 12 = .ok (.lload_n 2, 1) := by decide +kernel
theorem d1_13 : decode method_2_code 13 = .ok (.lreturn, 1) := by decide +kernel
theorem d1_14 : decode method_2_code 14 = .ok (.iload 5, 2) := by decide +kernel
theorem d1_16 : decode method_2_code 16 = .ok (.iconst 1, 1) := by decide +kernel
theorem d1_17 : decode method_2_code 17 = .ok (.if_icmp .ne 5, 3) := by decide +kernel
theorem d1_20 : decode method_2_code 20 = .ok (.lload_n 0, 1) := by decide +kernel
theorem d1_21 : decode method_2_code 21 = .ok (.lreturn, 1) := by decide +kernel
theorem d1_22 : decode method_2_code 22 = .ok (.iload 5, 2) := by decide +kernel
theorem d1_24 : decode method_2_code 24 = .ok (.iconst 2, 1) := by decide +kernel
theorem d1_25 : decode method_2_code 25 = .ok (.if_icmp .ne 7, 3) := by decide +kernel
theorem d1_28 : decode method_2_code 28 = .ok (.lload_n 0, 1) := by decide +kernel
theorem d1_29 : decode method_2_code 29 = .ok (.lconst 1, 1) := by decide +kernel
theorem d1_30 : decode method_2_code 30 = .ok (.lsub, 1) := by decide +kernel
theorem d1_31 : decode method_2_code 31 = .ok (.lreturn, 1) := by decide +kernel
theorem d1_32 : decode method_2_code 32 = .ok (.iload 5, 2) := by decide +kernel
theorem d1_34 : decode method_2_code 34 = .ok (.iconst 3, 1) := by decide +kernel
theorem d1_35 : decode method_2_code 35 = .ok (.if_icmp .ne 7, 3) := by decide +kernel
theorem d1_38 : decode method_2_code 38 = .ok (.lload_n 0, 1) := by decide +kernel
theorem d1_39 : decode method_2_code 39 = .ok (.lconst 1, 1) := by decide +kernel
theorem d1_40 : decode method_2_code 40 = .ok (.ladd, 1) := by decide +kernel
theorem d1_41 : decode method_2_code 41 = .ok (.lreturn, 1) := by decide +kernel
theorem d1_42 : decode method_2_code 42 = .ok (.iload 5, 2) := by decide +kernel
theorem d1_44 : decode method_2_code 44 = .ok (.iconst 4, 1) := by decide +kernel
theorem d1_45 : decode method_2_code 45 = .ok (.if_icmp .ne 7, 3) := by decide +kernel
theorem d1_48 : decode method_2_code 48 = .ok (.ldc2_w 9, 3) := by decide +kernel
theorem d1_51 : decode method_2_code 51 = .ok (.lreturn, 1) := by decide +kernel
theorem d1_52 : decode method_2_code 52 = .ok (.iload 5, 2) := by decide +kernel
theorem d1_54 : decode method_2_code 54 = .ok (.iconst 5, 1) := by decide +kernel
theorem d1_55 : decode method_2_code 55 = .ok (.if_icmp .ne 7, 3) := by decide +kernel
theorem d1_58 : decode method_2_code 58 = .ok (.ldc2_w 11, 3) := by decide +kernel
theorem d1_61 : decode method_2_code 61 = .ok (.lreturn, 1) := by decide +kernel
theorem d1_62 : decode method_2_code 62 = .ok (.iload 5, 2) := by decide +kernel
theorem d1_64 : decode method_2_code 64 = .ok (.bipush 6, 2) := by decide +kernel
theorem d1_66 : decode method_2_code 66 = .ok (.if_icmp .ne 7, 3) := by decide +kernel
theorem d1_69 : decode method_2_code 69 = .ok (.ldc2_w 13, 3) := by decide +kernel
theorem d1_72 : decode method_2_code 72 = .ok (.lreturn, 1) := by decide +kernel
theorem d1_73 : decode method_2_code 73 = .ok (.lload_n 2, 1) := by decide +kernel
theorem d1_74 : decode method_2_code 74 = .ok (.ldc2_w 9, 3) := by decide +kernel
theorem d1_77 : decode method_2_code 77 = .ok (.land, 1) := by decide +kernel
theorem d1_78 : decode method_2_code 78 = .ok (.lreturn, 1) := by decide +kernel
theorem own_pn1 : plainName "com/example/ostiarius/ostiarius/CounterUnusedPinLaw" = true := by first | (simp [plainName, overriddenIn]; done) | decide +kernel
theorem ef1 (m : MethodId) (x1 : Int64) (x2 : Int64) (x3 : Int32) : entryFrame m #[(.long x1), (.long x2), (.int x3)] 6 = mkF m 0 #[lv x1, .second, lv x2, .second, iv x3, .unset] [] := by first | (simp [entryFrame, mkF, argsToLocals, Value.category]; done) | rfl
def Q1 (Z : State) (x1 : Int64) (x2 : Int64) (x3 : Int32) (h0 : Heap) (n0 : Nat) (v : Option Value) (h : Heap) (L : List Loc) : Prop := v = some (.long (if (x3 &&& (7 : Int32)) = (0 : Int32) then x2 else (if (x3 &&& (7 : Int32)) = (1 : Int32) then x1 else (if (x3 &&& (7 : Int32)) = (2 : Int32) then (x1 - (1 : Int64)) else (if (x3 &&& (7 : Int32)) = (3 : Int32) then (x1 + (1 : Int64)) else (if (x3 &&& (7 : Int32)) = (4 : Int32) then (9223372036854775807 : Int64) else (if (x3 &&& (7 : Int32)) = (5 : Int32) then (9223372036854775806 : Int64) else (if (x3 &&& (7 : Int32)) = (6 : Int32) then (-9223372036854775808 : Int64) else (x2 &&& (9223372036854775807 : Int64)))))))))) ∧ Fr n0 L ∧ h = h0
set_option maxRecDepth 65536 in
set_option maxHeartbeats 40000000 in
theorem rm1 (l : Launch) (Z : State) (a0 : Array Value) (hw : ∀ d ∈ tables_1, d.before a0 Z = true) (ws : List Jvm.Cond) (x1 : Int64) (x2 : Int64) (x3 : Int32) (h0 : Heap) (n0 : Nat) (Z0 : n0 ≤ h0.size) :
    MetFree l (⟨"com/example/ostiarius/ostiarius/CounterUnusedPinLaw", "pick", "(JJI)J"⟩ : MethodName) (head1 (Jvm.Cond.code (⟨"com/example/ostiarius/ostiarius/CounterUnusedPinLaw", "pick", "(JJI)J"⟩ : MethodName) method_2_code 6 (some .long) :: ws) ({ frames := 0, cells := 0, slots := 0, locals := 0 } : Room)) (fun a U => a = #[(.long x1), (.long x2), (.int x3)] ∧ Z.Warmed39 U.vm ∧ U.heap = h0) (fun _ _ _ _ _ => True) (fun _ U oc U' => ∃ v L, oc = .returned v ∧ Q1 Z x1 x2 x3 h0 n0 v U'.heap L ∧ FrameEnd U oc U' L ({ frames := 0, cells := 0, slots := 0, locals := 0 } : Room).cells ({ frames := 0, cells := 0, slots := 0, locals := 0 } : Room).slots) := by
  refine MetFree.of_bodySF (plainFor_of_name own_pn1) hisR ?_
  intro p e s m args below meth c s₁ Bd hml0 hP hK
  obtain ⟨rfl, hZ, hh⟩ := hP
  have hx := Bd.exec
  have hby := Bd.bytes
  have hml : c.maxLocals = 6 := hml0
  have hown : s.vm.findClass "com/example/ostiarius/ostiarius/CounterUnusedPinLaw" = some m.cls := findClass_of_methodNamed Bd.named
  have hnm := (name_of_methodNamed Bd.named Bd.method).1
  have X0 : Stand p l e ({ frames := 0, cells := 0, slots := 0, locals := 0 } : Room) s m #[(.long x1), (.long x2), (.int x3)] below meth c s₁ [] 0 0 := Stand.of_body Bd
  have e0 : s₁.heap = h0 := by rw [← hh, Bd.state]; rfl
  have N0 := Fr.nil n0
  have pre0 : ∀ t, Steps p.tables e below (s₁.setTop (mkF m 0 #[lv x1, .second, lv x2, .second, iv x3, .unset] [])) t → Steps p.tables e below (s₁.setTop (entryFrame m #[(.long x1), (.long x2), (.int x3)] 6)) t := fun t k => castTop (ef1 m x1 x2 x3) k
  have pre1 : ∀ tz, oS p e below s₁ m 9 #[lv x1, .second, lv x2, .second, iv x3, iv (x3 &&& (7 : Int32))] [(.int (x3 &&& (7 : Int32)))] tz → oS p e below s₁ m 0 #[lv x1, .second, lv x2, .second, iv x3, .unset] [] tz := fun tz kt => by
    show oS p e below s₁ m 0 #[lv x1, .second, lv x2, .second, iv x3, .unset] [] _
    refine XS.iload X0.here hx rfl (hb hby d1_0) rfl ?_
    refine XS.bipush X0.here hx rfl (hb hby d1_2) ?_
    refine XS.iand X0.here hx rfl (hb hby d1_4) rfl ?_
    refine XS.istore X0.here hx rfl (hb hby d1_5) rfl (l' := #[lv x1, .second, lv x2, .second, iv x3, iv (x3 &&& (7 : Int32))]) rfl ?_
    show oS p e below s₁ m 7 #[lv x1, .second, lv x2, .second, iv x3, iv (x3 &&& (7 : Int32))] [] _
    refine XS.iload X0.here hx rfl (hb hby d1_7) rfl ?_
    exact kt
  by_cases hc9 : (x3 &&& (7 : Int32)) = (0 : Int32)
  · have pre2 : ∀ tz, oS p e below s₁ m 13 #[lv x1, .second, lv x2, .second, iv x3, iv (x3 &&& (7 : Int32))] [(.long x2)] tz → oS p e below s₁ m 9 #[lv x1, .second, lv x2, .second, iv x3, iv (x3 &&& (7 : Int32))] [(.int (x3 &&& (7 : Int32)))] tz := fun tz kt => by
      show oS p e below s₁ m 9 #[lv x1, .second, lv x2, .second, iv x3, iv (x3 &&& (7 : Int32))] [(.int (x3 &&& (7 : Int32)))] _
      refine XS.ifNo X0.here hx rfl (hb hby d1_9) rfl ((if0 _ _).trans (teq hc9).2) ?_
      refine XS.lloadN X0.here hx rfl (hb hby d1_12) rfl ?_
      exact kt
    obtain ⟨fs, hr, hrun, hended, hW, hsame⟩ := X0.leave (v := some (.long x2)) (fun h => by rw [Bd.returns] at h; cases h)
    refine ⟨_, _, pre0 _ (pre1 _ (pre2 _ ?_)), hrun, hended, _, _, rfl, ?_, ⟨_, rfl⟩, hW, hsame.mono (by decide) (by decide)⟩
    · show oS p e below s₁ m 13 #[lv x1, .second, lv x2, .second, iv x3, iv (x3 &&& (7 : Int32))] [(.long x2)] _
      exact retOut X0 hx Bd.returns rfl (Or.inr (Or.inl ⟨rfl, rfl, _, rfl⟩)) (hb hby d1_13) hr
    · show Q1 Z x1 x2 x3 h0 n0 _ s₁.heap _
      rw [e0]
      exact ⟨(by first | rfl | simp only [if_pos hc9]), N0, rfl⟩
  · have pre3 : ∀ tz, oS p e below s₁ m 17 #[lv x1, .second, lv x2, .second, iv x3, iv (x3 &&& (7 : Int32))] [(.int (1 : Int32)), (.int (x3 &&& (7 : Int32)))] tz → oS p e below s₁ m 9 #[lv x1, .second, lv x2, .second, iv x3, iv (x3 &&& (7 : Int32))] [(.int (x3 &&& (7 : Int32)))] tz := fun tz kt => by
      show oS p e below s₁ m 9 #[lv x1, .second, lv x2, .second, iv x3, iv (x3 &&& (7 : Int32))] [(.int (x3 &&& (7 : Int32)))] _
      refine XS.ifYes X0.here hx rfl (pc0 := 9) (pc' := 14) rfl (hb hby d1_9) rfl ((if0 _ _).trans (feq hc9).2) (by decide) (by decide) ?_
      refine XS.iload X0.here hx rfl (hb hby d1_14) rfl ?_
      refine XS.iconst X0.here hx rfl (hb hby d1_16) ?_
      exact kt
    by_cases hc17 : (x3 &&& (7 : Int32)) = (1 : Int32)
    · have pre4 : ∀ tz, oS p e below s₁ m 21 #[lv x1, .second, lv x2, .second, iv x3, iv (x3 &&& (7 : Int32))] [(.long x1)] tz → oS p e below s₁ m 17 #[lv x1, .second, lv x2, .second, iv x3, iv (x3 &&& (7 : Int32))] [(.int (1 : Int32)), (.int (x3 &&& (7 : Int32)))] tz := fun tz kt => by
        show oS p e below s₁ m 17 #[lv x1, .second, lv x2, .second, iv x3, iv (x3 &&& (7 : Int32))] [(.int (1 : Int32)), (.int (x3 &&& (7 : Int32)))] _
        refine XS.icmpNo X0.here hx rfl (hb hby d1_17) rfl (teq hc17).2 ?_
        refine XS.lloadN X0.here hx rfl (hb hby d1_20) rfl ?_
        exact kt
      obtain ⟨fs, hr, hrun, hended, hW, hsame⟩ := X0.leave (v := some (.long x1)) (fun h => by rw [Bd.returns] at h; cases h)
      refine ⟨_, _, pre0 _ (pre1 _ (pre3 _ (pre4 _ ?_))), hrun, hended, _, _, rfl, ?_, ⟨_, rfl⟩, hW, hsame.mono (by decide) (by decide)⟩
      · show oS p e below s₁ m 21 #[lv x1, .second, lv x2, .second, iv x3, iv (x3 &&& (7 : Int32))] [(.long x1)] _
        exact retOut X0 hx Bd.returns rfl (Or.inr (Or.inl ⟨rfl, rfl, _, rfl⟩)) (hb hby d1_21) hr
      · show Q1 Z x1 x2 x3 h0 n0 _ s₁.heap _
        rw [e0]
        exact ⟨(by first | rfl | simp only [if_neg hc9, if_pos hc17]), N0, rfl⟩
    · have pre5 : ∀ tz, oS p e below s₁ m 25 #[lv x1, .second, lv x2, .second, iv x3, iv (x3 &&& (7 : Int32))] [(.int (2 : Int32)), (.int (x3 &&& (7 : Int32)))] tz → oS p e below s₁ m 17 #[lv x1, .second, lv x2, .second, iv x3, iv (x3 &&& (7 : Int32))] [(.int (1 : Int32)), (.int (x3 &&& (7 : Int32)))] tz := fun tz kt => by
        show oS p e below s₁ m 17 #[lv x1, .second, lv x2, .second, iv x3, iv (x3 &&& (7 : Int32))] [(.int (1 : Int32)), (.int (x3 &&& (7 : Int32)))] _
        refine XS.icmpYes X0.here hx rfl (pc0 := 17) (pc' := 22) rfl (hb hby d1_17) rfl (feq hc17).2 (by decide) (by decide) ?_
        refine XS.iload X0.here hx rfl (hb hby d1_22) rfl ?_
        refine XS.iconst X0.here hx rfl (hb hby d1_24) ?_
        exact kt
      by_cases hc25 : (x3 &&& (7 : Int32)) = (2 : Int32)
      · have pre6 : ∀ tz, oS p e below s₁ m 31 #[lv x1, .second, lv x2, .second, iv x3, iv (x3 &&& (7 : Int32))] [(.long (x1 - (1 : Int64)))] tz → oS p e below s₁ m 25 #[lv x1, .second, lv x2, .second, iv x3, iv (x3 &&& (7 : Int32))] [(.int (2 : Int32)), (.int (x3 &&& (7 : Int32)))] tz := fun tz kt => by
          show oS p e below s₁ m 25 #[lv x1, .second, lv x2, .second, iv x3, iv (x3 &&& (7 : Int32))] [(.int (2 : Int32)), (.int (x3 &&& (7 : Int32)))] _
          refine XS.icmpNo X0.here hx rfl (hb hby d1_25) rfl (teq hc25).2 ?_
          refine XS.lloadN X0.here hx rfl (hb hby d1_28) rfl ?_
          refine XS.lconst X0.here hx rfl (hb hby d1_29) ?_
          refine XS.lsub X0.here hx rfl (hb hby d1_30) rfl ?_
          exact kt
        obtain ⟨fs, hr, hrun, hended, hW, hsame⟩ := X0.leave (v := some (.long (x1 - (1 : Int64)))) (fun h => by rw [Bd.returns] at h; cases h)
        refine ⟨_, _, pre0 _ (pre1 _ (pre3 _ (pre5 _ (pre6 _ ?_)))), hrun, hended, _, _, rfl, ?_, ⟨_, rfl⟩, hW, hsame.mono (by decide) (by decide)⟩
        · show oS p e below s₁ m 31 #[lv x1, .second, lv x2, .second, iv x3, iv (x3 &&& (7 : Int32))] [(.long (x1 - (1 : Int64)))] _
          exact retOut X0 hx Bd.returns rfl (Or.inr (Or.inl ⟨rfl, rfl, _, rfl⟩)) (hb hby d1_31) hr
        · show Q1 Z x1 x2 x3 h0 n0 _ s₁.heap _
          rw [e0]
          exact ⟨(by first | rfl | simp only [if_neg hc9, if_neg hc17, if_pos hc25]), N0, rfl⟩
      · have pre7 : ∀ tz, oS p e below s₁ m 35 #[lv x1, .second, lv x2, .second, iv x3, iv (x3 &&& (7 : Int32))] [(.int (3 : Int32)), (.int (x3 &&& (7 : Int32)))] tz → oS p e below s₁ m 25 #[lv x1, .second, lv x2, .second, iv x3, iv (x3 &&& (7 : Int32))] [(.int (2 : Int32)), (.int (x3 &&& (7 : Int32)))] tz := fun tz kt => by
          show oS p e below s₁ m 25 #[lv x1, .second, lv x2, .second, iv x3, iv (x3 &&& (7 : Int32))] [(.int (2 : Int32)), (.int (x3 &&& (7 : Int32)))] _
          refine XS.icmpYes X0.here hx rfl (pc0 := 25) (pc' := 32) rfl (hb hby d1_25) rfl (feq hc25).2 (by decide) (by decide) ?_
          refine XS.iload X0.here hx rfl (hb hby d1_32) rfl ?_
          refine XS.iconst X0.here hx rfl (hb hby d1_34) ?_
          exact kt
        by_cases hc35 : (x3 &&& (7 : Int32)) = (3 : Int32)
        · have pre8 : ∀ tz, oS p e below s₁ m 41 #[lv x1, .second, lv x2, .second, iv x3, iv (x3 &&& (7 : Int32))] [(.long (x1 + (1 : Int64)))] tz → oS p e below s₁ m 35 #[lv x1, .second, lv x2, .second, iv x3, iv (x3 &&& (7 : Int32))] [(.int (3 : Int32)), (.int (x3 &&& (7 : Int32)))] tz := fun tz kt => by
            show oS p e below s₁ m 35 #[lv x1, .second, lv x2, .second, iv x3, iv (x3 &&& (7 : Int32))] [(.int (3 : Int32)), (.int (x3 &&& (7 : Int32)))] _
            refine XS.icmpNo X0.here hx rfl (hb hby d1_35) rfl (teq hc35).2 ?_
            refine XS.lloadN X0.here hx rfl (hb hby d1_38) rfl ?_
            refine XS.lconst X0.here hx rfl (hb hby d1_39) ?_
            refine XS.ladd X0.here hx rfl (hb hby d1_40) rfl ?_
            exact kt
          obtain ⟨fs, hr, hrun, hended, hW, hsame⟩ := X0.leave (v := some (.long (x1 + (1 : Int64)))) (fun h => by rw [Bd.returns] at h; cases h)
          refine ⟨_, _, pre0 _ (pre1 _ (pre3 _ (pre5 _ (pre7 _ (pre8 _ ?_))))), hrun, hended, _, _, rfl, ?_, ⟨_, rfl⟩, hW, hsame.mono (by decide) (by decide)⟩
          · show oS p e below s₁ m 41 #[lv x1, .second, lv x2, .second, iv x3, iv (x3 &&& (7 : Int32))] [(.long (x1 + (1 : Int64)))] _
            exact retOut X0 hx Bd.returns rfl (Or.inr (Or.inl ⟨rfl, rfl, _, rfl⟩)) (hb hby d1_41) hr
          · show Q1 Z x1 x2 x3 h0 n0 _ s₁.heap _
            rw [e0]
            exact ⟨(by first | rfl | simp only [if_neg hc9, if_neg hc17, if_neg hc25, if_pos hc35]), N0, rfl⟩
        · have pre9 : ∀ tz, oS p e below s₁ m 45 #[lv x1, .second, lv x2, .second, iv x3, iv (x3 &&& (7 : Int32))] [(.int (4 : Int32)), (.int (x3 &&& (7 : Int32)))] tz → oS p e below s₁ m 35 #[lv x1, .second, lv x2, .second, iv x3, iv (x3 &&& (7 : Int32))] [(.int (3 : Int32)), (.int (x3 &&& (7 : Int32)))] tz := fun tz kt => by
            show oS p e below s₁ m 35 #[lv x1, .second, lv x2, .second, iv x3, iv (x3 &&& (7 : Int32))] [(.int (3 : Int32)), (.int (x3 &&& (7 : Int32)))] _
            refine XS.icmpYes X0.here hx rfl (pc0 := 35) (pc' := 42) rfl (hb hby d1_35) rfl (feq hc35).2 (by decide) (by decide) ?_
            refine XS.iload X0.here hx rfl (hb hby d1_42) rfl ?_
            refine XS.iconst X0.here hx rfl (hb hby d1_44) ?_
            exact kt
          by_cases hc45 : (x3 &&& (7 : Int32)) = (4 : Int32)
          · have pre10 : ∀ tz, oS p e below s₁ m 51 #[lv x1, .second, lv x2, .second, iv x3, iv (x3 &&& (7 : Int32))] [(.long (9223372036854775807 : Int64))] tz → oS p e below s₁ m 45 #[lv x1, .second, lv x2, .second, iv x3, iv (x3 &&& (7 : Int32))] [(.int (4 : Int32)), (.int (x3 &&& (7 : Int32)))] tz := fun tz kt => by
              show oS p e below s₁ m 45 #[lv x1, .second, lv x2, .second, iv x3, iv (x3 &&& (7 : Int32))] [(.int (4 : Int32)), (.int (x3 &&& (7 : Int32)))] _
              refine XS.icmpNo X0.here hx rfl (hb hby d1_45) rfl (teq hc45).2 ?_
              refine X0.ldc2Long hx hown (mvT hZ (own_w hw 0 rfl)) (g := (mkF m 48 #[lv x1, .second, lv x2, .second, iv x3, iv (x3 &&& (7 : Int32))] [])) rfl (hb hby d1_48) _ ?_
              exact kt
            obtain ⟨fs, hr, hrun, hended, hW, hsame⟩ := X0.leave (v := some (.long (9223372036854775807 : Int64))) (fun h => by rw [Bd.returns] at h; cases h)
            refine ⟨_, _, pre0 _ (pre1 _ (pre3 _ (pre5 _ (pre7 _ (pre9 _ (pre10 _ ?_)))))), hrun, hended, _, _, rfl, ?_, ⟨_, rfl⟩, hW, hsame.mono (by decide) (by decide)⟩
            · show oS p e below s₁ m 51 #[lv x1, .second, lv x2, .second, iv x3, iv (x3 &&& (7 : Int32))] [(.long (9223372036854775807 : Int64))] _
              exact retOut X0 hx Bd.returns rfl (Or.inr (Or.inl ⟨rfl, rfl, _, rfl⟩)) (hb hby d1_51) hr
            · show Q1 Z x1 x2 x3 h0 n0 _ s₁.heap _
              rw [e0]
              exact ⟨(by first | rfl | simp only [if_neg hc9, if_neg hc17, if_neg hc25, if_neg hc35, if_pos hc45]), N0, rfl⟩
          · have pre11 : ∀ tz, oS p e below s₁ m 55 #[lv x1, .second, lv x2, .second, iv x3, iv (x3 &&& (7 : Int32))] [(.int (5 : Int32)), (.int (x3 &&& (7 : Int32)))] tz → oS p e below s₁ m 45 #[lv x1, .second, lv x2, .second, iv x3, iv (x3 &&& (7 : Int32))] [(.int (4 : Int32)), (.int (x3 &&& (7 : Int32)))] tz := fun tz kt => by
              show oS p e below s₁ m 45 #[lv x1, .second, lv x2, .second, iv x3, iv (x3 &&& (7 : Int32))] [(.int (4 : Int32)), (.int (x3 &&& (7 : Int32)))] _
              refine XS.icmpYes X0.here hx rfl (pc0 := 45) (pc' := 52) rfl (hb hby d1_45) rfl (feq hc45).2 (by decide) (by decide) ?_
              refine XS.iload X0.here hx rfl (hb hby d1_52) rfl ?_
              refine XS.iconst X0.here hx rfl (hb hby d1_54) ?_
              exact kt
            by_cases hc55 : (x3 &&& (7 : Int32)) = (5 : Int32)
            · have pre12 : ∀ tz, oS p e below s₁ m 61 #[lv x1, .second, lv x2, .second, iv x3, iv (x3 &&& (7 : Int32))] [(.long (9223372036854775806 : Int64))] tz → oS p e below s₁ m 55 #[lv x1, .second, lv x2, .second, iv x3, iv (x3 &&& (7 : Int32))] [(.int (5 : Int32)), (.int (x3 &&& (7 : Int32)))] tz := fun tz kt => by
                show oS p e below s₁ m 55 #[lv x1, .second, lv x2, .second, iv x3, iv (x3 &&& (7 : Int32))] [(.int (5 : Int32)), (.int (x3 &&& (7 : Int32)))] _
                refine XS.icmpNo X0.here hx rfl (hb hby d1_55) rfl (teq hc55).2 ?_
                refine X0.ldc2Long hx hown (mvT hZ (own_w hw 31 rfl)) (g := (mkF m 58 #[lv x1, .second, lv x2, .second, iv x3, iv (x3 &&& (7 : Int32))] [])) rfl (hb hby d1_58) _ ?_
                exact kt
              obtain ⟨fs, hr, hrun, hended, hW, hsame⟩ := X0.leave (v := some (.long (9223372036854775806 : Int64))) (fun h => by rw [Bd.returns] at h; cases h)
              refine ⟨_, _, pre0 _ (pre1 _ (pre3 _ (pre5 _ (pre7 _ (pre9 _ (pre11 _ (pre12 _ ?_))))))), hrun, hended, _, _, rfl, ?_, ⟨_, rfl⟩, hW, hsame.mono (by decide) (by decide)⟩
              · show oS p e below s₁ m 61 #[lv x1, .second, lv x2, .second, iv x3, iv (x3 &&& (7 : Int32))] [(.long (9223372036854775806 : Int64))] _
                exact retOut X0 hx Bd.returns rfl (Or.inr (Or.inl ⟨rfl, rfl, _, rfl⟩)) (hb hby d1_61) hr
              · show Q1 Z x1 x2 x3 h0 n0 _ s₁.heap _
                rw [e0]
                exact ⟨(by first | rfl | simp only [if_neg hc9, if_neg hc17, if_neg hc25, if_neg hc35, if_neg hc45, if_pos hc55]), N0, rfl⟩
            · have pre13 : ∀ tz, oS p e below s₁ m 66 #[lv x1, .second, lv x2, .second, iv x3, iv (x3 &&& (7 : Int32))] [(.int (6 : Int32)), (.int (x3 &&& (7 : Int32)))] tz → oS p e below s₁ m 55 #[lv x1, .second, lv x2, .second, iv x3, iv (x3 &&& (7 : Int32))] [(.int (5 : Int32)), (.int (x3 &&& (7 : Int32)))] tz := fun tz kt => by
                show oS p e below s₁ m 55 #[lv x1, .second, lv x2, .second, iv x3, iv (x3 &&& (7 : Int32))] [(.int (5 : Int32)), (.int (x3 &&& (7 : Int32)))] _
                refine XS.icmpYes X0.here hx rfl (pc0 := 55) (pc' := 62) rfl (hb hby d1_55) rfl (feq hc55).2 (by decide) (by decide) ?_
                refine XS.iload X0.here hx rfl (hb hby d1_62) rfl ?_
                refine XS.bipush X0.here hx rfl (hb hby d1_64) ?_
                exact kt
              by_cases hc66 : (x3 &&& (7 : Int32)) = (6 : Int32)
              · have pre14 : ∀ tz, oS p e below s₁ m 72 #[lv x1, .second, lv x2, .second, iv x3, iv (x3 &&& (7 : Int32))] [(.long (-9223372036854775808 : Int64))] tz → oS p e below s₁ m 66 #[lv x1, .second, lv x2, .second, iv x3, iv (x3 &&& (7 : Int32))] [(.int (6 : Int32)), (.int (x3 &&& (7 : Int32)))] tz := fun tz kt => by
                  show oS p e below s₁ m 66 #[lv x1, .second, lv x2, .second, iv x3, iv (x3 &&& (7 : Int32))] [(.int (6 : Int32)), (.int (x3 &&& (7 : Int32)))] _
                  refine XS.icmpNo X0.here hx rfl (hb hby d1_66) rfl (teq hc66).2 ?_
                  refine X0.ldc2Long hx hown (mvT hZ (own_w hw 47 rfl)) (g := (mkF m 69 #[lv x1, .second, lv x2, .second, iv x3, iv (x3 &&& (7 : Int32))] [])) rfl (hb hby d1_69) _ ?_
                  exact kt
                obtain ⟨fs, hr, hrun, hended, hW, hsame⟩ := X0.leave (v := some (.long (-9223372036854775808 : Int64))) (fun h => by rw [Bd.returns] at h; cases h)
                refine ⟨_, _, pre0 _ (pre1 _ (pre3 _ (pre5 _ (pre7 _ (pre9 _ (pre11 _ (pre13 _ (pre14 _ ?_)))))))), hrun, hended, _, _, rfl, ?_, ⟨_, rfl⟩, hW, hsame.mono (by decide) (by decide)⟩
                · show oS p e below s₁ m 72 #[lv x1, .second, lv x2, .second, iv x3, iv (x3 &&& (7 : Int32))] [(.long (-9223372036854775808 : Int64))] _
                  exact retOut X0 hx Bd.returns rfl (Or.inr (Or.inl ⟨rfl, rfl, _, rfl⟩)) (hb hby d1_72) hr
                · show Q1 Z x1 x2 x3 h0 n0 _ s₁.heap _
                  rw [e0]
                  exact ⟨(by first | rfl | simp only [if_neg hc9, if_neg hc17, if_neg hc25, if_neg hc35, if_neg hc45, if_neg hc55, if_pos hc66]), N0, rfl⟩
              · have pre15 : ∀ tz, oS p e below s₁ m 78 #[lv x1, .second, lv x2, .second, iv x3, iv (x3 &&& (7 : Int32))] [(.long (x2 &&& (9223372036854775807 : Int64)))] tz → oS p e below s₁ m 66 #[lv x1, .second, lv x2, .second, iv x3, iv (x3 &&& (7 : Int32))] [(.int (6 : Int32)), (.int (x3 &&& (7 : Int32)))] tz := fun tz kt => by
                  show oS p e below s₁ m 66 #[lv x1, .second, lv x2, .second, iv x3, iv (x3 &&& (7 : Int32))] [(.int (6 : Int32)), (.int (x3 &&& (7 : Int32)))] _
                  refine XS.icmpYes X0.here hx rfl (pc0 := 66) (pc' := 73) rfl (hb hby d1_66) rfl (feq hc66).2 (by decide) (by decide) ?_
                  refine XS.lloadN X0.here hx rfl (hb hby d1_73) rfl ?_
                  refine X0.ldc2Long hx hown (mvT hZ (own_w hw 0 rfl)) (g := (mkF m 74 #[lv x1, .second, lv x2, .second, iv x3, iv (x3 &&& (7 : Int32))] [(.long x2)])) rfl (hb hby d1_74) _ ?_
                  refine XS.land X0.here hx rfl (hb hby d1_77) rfl ?_
                  exact kt
                obtain ⟨fs, hr, hrun, hended, hW, hsame⟩ := X0.leave (v := some (.long (x2 &&& (9223372036854775807 : Int64)))) (fun h => by rw [Bd.returns] at h; cases h)
                refine ⟨_, _, pre0 _ (pre1 _ (pre3 _ (pre5 _ (pre7 _ (pre9 _ (pre11 _ (pre13 _ (pre15 _ ?_)))))))), hrun, hended, _, _, rfl, ?_, ⟨_, rfl⟩, hW, hsame.mono (by decide) (by decide)⟩
                · show oS p e below s₁ m 78 #[lv x1, .second, lv x2, .second, iv x3, iv (x3 &&& (7 : Int32))] [(.long (x2 &&& (9223372036854775807 : Int64)))] _
                  exact retOut X0 hx Bd.returns rfl (Or.inr (Or.inl ⟨rfl, rfl, _, rfl⟩)) (hb hby d1_78) hr
                · show Q1 Z x1 x2 x3 h0 n0 _ s₁.heap _
                  rw [e0]
                  exact ⟨(by first | rfl | simp only [if_neg hc9, if_neg hc17, if_neg hc25, if_neg hc35, if_neg hc45, if_neg hc55, if_neg hc66]), N0, rfl⟩
theorem own_pd0 : parseMethodDescriptor "()V" = some ⟨[], none⟩ := by decide +kernel
theorem d2_0 : decode prog_10_method_1_code 0 = .ok (.aload_n 0, 1) := by decide +kernel
theorem d2_1 : decode prog_10_method_1_code 1 = .ok (.invokespecial 1, 3) := by decide +kernel
theorem d2_4 : decode prog_10_method_1_code 4 = .ok (.lload_n 1, 1) := by decide +kernel
theorem d2_5 : decode prog_10_method_1_code 5 = .ok (.lconst 0, 1) := by decide +kernel
theorem d2_6 : decode prog_10_method_1_code 6 = .ok (.lcmp, 1) := by decide +kernel
theorem d2_7 : decode prog_10_method_1_code 7 = .ok (.ifCond .ge 17, 3) := by decide +kernel
theorem d2_24 : decode prog_10_method_1_code 24 = .ok (.aload_n 0, 1) := by decide +kernel
theorem d2_25 : decode prog_10_method_1_code 25 = .ok (.lload_n 1, 1) := by decide +kernel
theorem d2_26 : decode prog_10_method_1_code 26 = .ok (.putfield 16, 3) := by decide +kernel
theorem d2_29 : decode prog_10_method_1_code 29 = .ok (.return_, 1) := by decide +kernel
theorem own_pn2 : plainName "com/example/ostiarius/ostiarius/MovingFactor$Counter" = true := by first | (simp [plainName, overriddenIn]; done) | decide +kernel
theorem ef2 (m : MethodId) (o : Addr) (x1 : Int64) : entryFrame m #[(.ref o), (.long x1)] 3 = mkF m 0 #[rv o, lv x1, .second] [] := by first | (simp [entryFrame, mkF, argsToLocals, Value.category]; done) | rfl
def Q2 (Z : State) (o : Addr) (x1 : Int64) (w_counter_o : Value) (h0 : Heap) (n0 : Nat) (v : Option Value) (h : Heap) (L : List Loc) : Prop := v = none ∧ Fr n0 L ∧ Keep h0 h [o] ∧ Exa Z h o "com/example/ostiarius/ostiarius/MovingFactor$Counter" ∧ Fld Z h o "com/example/ostiarius/ostiarius/MovingFactor$Counter" "counter" "J" (.long x1)
set_option maxRecDepth 65536 in
set_option maxHeartbeats 40000000 in
theorem rm2 (l : Launch) (Z : State) (a0 : Array Value) (hw : ∀ d ∈ tables_1, d.before a0 Z = true) (ws : List Jvm.Cond) (o : Addr) (x1 : Int64) (w_counter_o : Value) (h0 : Heap) (n0 : Nat) (Z0 : n0 ≤ h0.size) (h1 : ¬ (x1 < (0 : Int64))) (E_o : Exa Z h0 o "com/example/ostiarius/ostiarius/MovingFactor$Counter") (F_counter_o : Fld Z h0 o "com/example/ostiarius/ostiarius/MovingFactor$Counter" "counter" "J" w_counter_o) (g_o : n0 ≤ o) :
    MetFree l (⟨"com/example/ostiarius/ostiarius/MovingFactor$Counter", "<init>", "(J)V"⟩ : MethodName) (head1 (Jvm.Cond.code (⟨"com/example/ostiarius/ostiarius/MovingFactor$Counter", "<init>", "(J)V"⟩ : MethodName) prog_10_method_1_code 3 none :: ws) ({ frames := 2, cells := 0, slots := 0, locals := 24 } : Room)) (fun a U => a = #[(.ref o), (.long x1)] ∧ Z.Warmed39 U.vm ∧ U.heap = h0) (fun _ _ _ _ _ => True) (fun _ U oc U' => ∃ v L, oc = .returned v ∧ Q2 Z o x1 w_counter_o h0 n0 v U'.heap L ∧ FrameEnd U oc U' L ({ frames := 2, cells := 0, slots := 0, locals := 24 } : Room).cells ({ frames := 2, cells := 0, slots := 0, locals := 24 } : Room).slots) := by
  refine MetFree.of_bodySF (plainFor_of_name own_pn2) hisR ?_
  intro p e s m args below meth c s₁ Bd hml0 hP hK
  obtain ⟨rfl, hZ, hh⟩ := hP
  have hx := Bd.exec
  have hby := Bd.bytes
  have hml : c.maxLocals = 3 := hml0
  have hown : s.vm.findClass "com/example/ostiarius/ostiarius/MovingFactor$Counter" = some m.cls := findClass_of_methodNamed Bd.named
  have hnm := (name_of_methodNamed Bd.named Bd.method).1
  have X0 : Stand p l e ({ frames := 2, cells := 0, slots := 0, locals := 24 } : Room) s m #[(.ref o), (.long x1)] below meth c s₁ [] 0 0 := Stand.of_body Bd
  have e0 : s₁.heap = h0 := by rw [← hh, Bd.state]; rfl
  have N0 := Fr.nil n0
  have pre0 : ∀ t, Steps p.tables e below (s₁.setTop (mkF m 0 #[rv o, lv x1, .second] [])) t → Steps p.tables e below (s₁.setTop (entryFrame m #[(.ref o), (.long x1)] 3)) t := fun t k => castTop (ef2 m o x1) k
  obtain ⟨_, _, ⟨T1, Lw1, kw1, nw1⟩, -, X1, ⟨Lc1, hQ1, l1, y1, z1⟩, st1⟩ := X0.specialBack hx (y := (⟨"java/lang/Record", "<init>", "()V"⟩ : MethodName)) rfl hown (mvT hZ (own_w hw 11 rfl)) (mvT hZ (own_w hw 12 rfl)) (mvT hZ (own_w hw 15 rfl)) (by decide) (backOf (W := 0) (rm3 l Z a0 hw [] o h0 n0 Z0 ) hZ (own_w hw 15 rfl) (own_w hw 14 rfl) (by decide) (by decide)) (g := (mkF m 1 #[rv o, lv x1, .second] [(.ref o)])) rfl (by rw [hml]; rfl) (Steps.refl _) (a := o) (argsL := []) (rest := []) (lenOf own_pd0 rfl) rfl (by show 2 * 0 + _ ≤ _; exact Nat.le_of_eq rfl) (hb hby d2_1) (fun _ _ => ⟨rfl, e0, (by decide : 0 + 0 ≤ _), (by decide : 0 + 0 ≤ _)⟩)
  dsimp only [Pt.U, Pt.locs, Pt.cells, Pt.slots] at X1 l1 y1 z1 st1 hQ1
  subst l1 y1 z1
  obtain ⟨rfl, Nq1, eh1⟩ := hQ1
  have N1 := Fr.app N0 Nq1
  have hc7 : ¬ (x1 < (0 : Int64)) := id fun hc7 => by
    exact h1 hc7
  obtain ⟨T2, h2, X2, e2, W2, st2⟩ := putF X1 hx hZ hown (host := "") (Or.inl (own_w hw 19 rfl)) Via.refl eh1 F_counter_o E_o (Or.inr ⟨(own_w hw 20 rfl), rfl, hnm⟩) (own_w hw 6 rfl) (ty := .long) (by decide) rfl rfl (g := (mkF m 26 #[rv o, lv x1, .second] [(.long x1), (.ref o)])) rfl rfl (hb hby d2_26)
  have Fw2 : Fld Z h2 o "com/example/ostiarius/ostiarius/MovingFactor$Counter" "counter" "J" (.long x1) := F_counter_o.same W2
  have N2 := Fr.snoc X2 N1 g_o
  have pre3 : ∀ tz, oS p e below T2 m 29 #[rv o, lv x1, .second] [] tz → oS p e below s₁ m 0 #[rv o, lv x1, .second] [] tz := fun tz kt => by
    show oS p e below s₁ m 0 #[rv o, lv x1, .second] [] _
    refine XS.aloadN X0.here hx rfl (hb hby d2_0) rfl rfl ?_
    show oS p e below s₁ m 1 #[rv o, lv x1, .second] [(.ref o)] _
    refine st1.trans ?_
    refine XS.lloadN X1.here hx rfl (hb hby d2_4) rfl ?_
    refine XS.lconst X1.here hx rfl (hb hby d2_5) ?_
    refine XS.lcmp X1.here hx rfl (hb hby d2_6) rfl ?_
    show oS p e below T1 m 7 #[rv o, lv x1, .second] [(.int (lcmpW x1 (0 : Int64)))] _
    refine XS.ifYes X1.here hx rfl (pc0 := 7) (pc' := 24) rfl (hb hby d2_7) rfl ((if0 _ _).trans (flt (fun q => hc7 ((lw_lt x1 (0 : Int64)).mp q))).2.1) (by decide) (by decide) ?_
    refine XS.aloadN X1.here hx rfl (hb hby d2_24) rfl rfl ?_
    refine XS.lloadN X1.here hx rfl (hb hby d2_25) rfl ?_
    show oS p e below T1 m 26 #[rv o, lv x1, .second] [(.long x1), (.ref o)] _
    refine st2 _ ?_
    exact kt
  have Ec4 : Exa Z h2 o "com/example/ostiarius/ostiarius/MovingFactor$Counter" := (E_o.wr W2)
  have KP5 : Keep h0 h2 [o] := ((Keep.refl h0 [o]).wr W2 (Or.inl (List.mem_of_getElem? (i := 0) rfl)))
  obtain ⟨fs, hr, hrun, hended, hW, hsame⟩ := X2.leave (v := none) (fun _ => rfl)
  refine ⟨_, _, pre0 _ (pre3 _ ?_), hrun, hended, _, _, rfl, ?_, ⟨_, rfl⟩, hW, hsame.mono (by decide) (by decide)⟩
  · show oS p e below T2 m 29 #[rv o, lv x1, .second] [] _
    exact X2.returnOut hx Bd.returns (hb hby d2_29) hr
  · show Q2 Z o x1 w_counter_o h0 n0 _ T2.heap _
    rw [e2]
    exact ⟨rfl, N2, KP5, Ec4, Fw2⟩
theorem d6_0 : decode prog_10_method_7_code 0 = .ok (.lload_n 1, 1) := by decide +kernel
theorem d6_1 : decode prog_10_method_7_code 1 = .ok (.lconst 0, 1) := by decide +kernel
theorem d6_2 : decode prog_10_method_7_code 2 = .ok (.lcmp, 1) := by decide +kernel
theorem d6_3 : decode prog_10_method_7_code 3 = .ok (.ifCond .lt 16, 3) := by decide +kernel
theorem d6_6 : decode prog_10_method_7_code 6 = .ok (.lload_n 1, 1) := by decide +kernel
theorem d6_7 : decode prog_10_method_7_code 7 = .ok (.aload_n 0, 1) := by decide +kernel
theorem d6_8 : decode prog_10_method_7_code 8 = .ok (.getfield 16, 3) := by decide +kernel
theorem d6_11 : decode prog_10_method_7_code 11 = .ok (.lcmp, 1) := by decide +kernel
theorem d6_12 : decode prog_10_method_7_code 12 = .ok (.ifCond .ge 7, 3) := by decide +kernel
theorem d6_15 : decode prog_10_method_7_code 15 = .ok (.iconst 1, 1) := by decide +kernel
theorem d6_16 : decode prog_10_method_7_code 16 = .ok (.goto 4, 3) := by decide +kernel
theorem d6_19 : decode prog_10_method_7_code 19 = .ok (.iconst 0, 1) := by decide +kernel
theorem d6_20 : decode prog_10_method_7_code 20 = .ok (.ireturn, 1) := by decide +kernel
theorem ef6 (m : MethodId) (o : Addr) (x1 : Int64) : entryFrame m #[(.ref o), (.long x1)] 3 = mkF m 0 #[rv o, lv x1, .second] [] := by first | (simp [entryFrame, mkF, argsToLocals, Value.category]; done) | rfl
def Q6 (Z : State) (o : Addr) (x1 : Int64) (w_counter_o : Int64) (h0 : Heap) (n0 : Nat) (v : Option Value) (h : Heap) (L : List Loc) : Prop := v = some (.int (if x1 < (0 : Int64) then (0 : Int32) else (if x1 < w_counter_o then (1 : Int32) else (0 : Int32)))) ∧ Fr n0 L ∧ h = h0
set_option maxRecDepth 65536 in
set_option maxHeartbeats 40000000 in
theorem rm6 (l : Launch) (Z : State) (a0 : Array Value) (hw : ∀ d ∈ tables_1, d.before a0 Z = true) (ws : List Jvm.Cond) (o : Addr) (x1 : Int64) (w_counter_o : Int64) (h0 : Heap) (n0 : Nat) (Z0 : n0 ≤ h0.size) (F_counter_o : Fld Z h0 o "com/example/ostiarius/ostiarius/MovingFactor$Counter" "counter" "J" (.long w_counter_o)) :
    MetFree l (⟨"com/example/ostiarius/ostiarius/MovingFactor$Counter", "used", "(J)Z"⟩ : MethodName) (head1 (Jvm.Cond.code (⟨"com/example/ostiarius/ostiarius/MovingFactor$Counter", "used", "(J)Z"⟩ : MethodName) prog_10_method_7_code 3 (some .boolean) :: ws) ({ frames := 0, cells := 0, slots := 0, locals := 0 } : Room)) (fun a U => a = #[(.ref o), (.long x1)] ∧ Z.Warmed39 U.vm ∧ U.heap = h0) (fun _ _ _ _ _ => True) (fun _ U oc U' => ∃ v L, oc = .returned v ∧ Q6 Z o x1 w_counter_o h0 n0 v U'.heap L ∧ FrameEnd U oc U' L ({ frames := 0, cells := 0, slots := 0, locals := 0 } : Room).cells ({ frames := 0, cells := 0, slots := 0, locals := 0 } : Room).slots) := by
  refine MetFree.of_bodySF (plainFor_of_name own_pn2) hisR ?_
  intro p e s m args below meth c s₁ Bd hml0 hP hK
  obtain ⟨rfl, hZ, hh⟩ := hP
  have hx := Bd.exec
  have hby := Bd.bytes
  have hml : c.maxLocals = 3 := hml0
  have hown : s.vm.findClass "com/example/ostiarius/ostiarius/MovingFactor$Counter" = some m.cls := findClass_of_methodNamed Bd.named
  have hnm := (name_of_methodNamed Bd.named Bd.method).1
  have X0 : Stand p l e ({ frames := 0, cells := 0, slots := 0, locals := 0 } : Room) s m #[(.ref o), (.long x1)] below meth c s₁ [] 0 0 := Stand.of_body Bd
  have e0 : s₁.heap = h0 := by rw [← hh, Bd.state]; rfl
  have N0 := Fr.nil n0
  have pre0 : ∀ t, Steps p.tables e below (s₁.setTop (mkF m 0 #[rv o, lv x1, .second] [])) t → Steps p.tables e below (s₁.setTop (entryFrame m #[(.ref o), (.long x1)] 3)) t := fun t k => castTop (ef6 m o x1) k
  have pre1 : ∀ tz, oS p e below s₁ m 3 #[rv o, lv x1, .second] [(.int (lcmpW x1 (0 : Int64)))] tz → oS p e below s₁ m 0 #[rv o, lv x1, .second] [] tz := fun tz kt => by
    show oS p e below s₁ m 0 #[rv o, lv x1, .second] [] _
    refine XS.lloadN X0.here hx rfl (hb hby d6_0) rfl ?_
    refine XS.lconst X0.here hx rfl (hb hby d6_1) ?_
    refine XS.lcmp X0.here hx rfl (hb hby d6_2) rfl ?_
    exact kt
  by_cases hc3 : x1 < (0 : Int64)
  · have pre2 : ∀ tz, oS p e below s₁ m 20 #[rv o, lv x1, .second] [(.int (0 : Int32))] tz → oS p e below s₁ m 3 #[rv o, lv x1, .second] [(.int (lcmpW x1 (0 : Int64)))] tz := fun tz kt => by
      show oS p e below s₁ m 3 #[rv o, lv x1, .second] [(.int (lcmpW x1 (0 : Int64)))] _
      refine XS.ifYes X0.here hx rfl (pc0 := 3) (pc' := 19) rfl (hb hby d6_3) rfl ((if0 _ _).trans (tlt ((lw_lt x1 (0 : Int64)).mpr hc3)).1) (by decide) (by decide) ?_
      refine XS.iconst X0.here hx rfl (hb hby d6_19) ?_
      exact kt
    obtain ⟨fs, hr, hrun, hended, hW, hsame⟩ := X0.leave (v := some (.int (0 : Int32))) (fun h => by rw [Bd.returns] at h; cases h)
    refine ⟨_, _, pre0 _ (pre1 _ (pre2 _ ?_)), hrun, hended, _, _, rfl, ?_, ⟨_, rfl⟩, hW, hsame.mono (by decide) (by decide)⟩
    · show oS p e below s₁ m 20 #[rv o, lv x1, .second] [(.int (0 : Int32))] _
      exact retN X0 hx (t := .boolean) Bd.returns (by simp) (hb hby d6_20) hr
    · show Q6 Z o x1 w_counter_o h0 n0 _ s₁.heap _
      rw [e0]
      exact ⟨(by first | rfl | simp only [if_pos hc3]), N0, rfl⟩
  · obtain ⟨T3, X3, e3, st3⟩ := getF X0 hx hZ hown (host := "") (Or.inl (own_w hw 19 rfl)) Via.refl e0 F_counter_o (g := (mkF m 8 #[rv o, lv x1, .second] [(.ref o), (.long x1)])) rfl rfl (hb hby d6_8)
    have pre4 : ∀ tz, oS p e below T3 m 12 #[rv o, lv x1, .second] [(.int (lcmpW x1 w_counter_o))] tz → oS p e below s₁ m 3 #[rv o, lv x1, .second] [(.int (lcmpW x1 (0 : Int64)))] tz := fun tz kt => by
      show oS p e below s₁ m 3 #[rv o, lv x1, .second] [(.int (lcmpW x1 (0 : Int64)))] _
      refine XS.ifNo X0.here hx rfl (hb hby d6_3) rfl ((if0 _ _).trans (flt (fun q => hc3 ((lw_lt x1 (0 : Int64)).mp q))).1) ?_
      refine XS.lloadN X0.here hx rfl (hb hby d6_6) rfl ?_
      refine XS.aloadN X0.here hx rfl (hb hby d6_7) rfl rfl ?_
      show oS p e below s₁ m 8 #[rv o, lv x1, .second] [(.ref o), (.long x1)] _
      refine st3 _ ?_
      refine XS.lcmp X3.here hx rfl (hb hby d6_11) rfl ?_
      exact kt
    by_cases hc12 : x1 < w_counter_o
    · have pre5 : ∀ tz, oS p e below T3 m 20 #[rv o, lv x1, .second] [(.int (1 : Int32))] tz → oS p e below T3 m 12 #[rv o, lv x1, .second] [(.int (lcmpW x1 w_counter_o))] tz := fun tz kt => by
        show oS p e below T3 m 12 #[rv o, lv x1, .second] [(.int (lcmpW x1 w_counter_o))] _
        refine XS.ifNo X3.here hx rfl (hb hby d6_12) rfl ((if0 _ _).trans (tlt ((lw_lt x1 w_counter_o).mpr hc12)).2.1) ?_
        refine XS.iconst X3.here hx rfl (hb hby d6_15) ?_
        refine XS.goto X3.here hx rfl (pc0 := 16) (pc' := 20) rfl (hb hby d6_16) (by decide) (by decide) ?_
        exact kt
      obtain ⟨fs, hr, hrun, hended, hW, hsame⟩ := X3.leave (v := some (.int (1 : Int32))) (fun h => by rw [Bd.returns] at h; cases h)
      refine ⟨_, _, pre0 _ (pre1 _ (pre4 _ (pre5 _ ?_))), hrun, hended, _, _, rfl, ?_, ⟨_, rfl⟩, hW, hsame.mono (by decide) (by decide)⟩
      · show oS p e below T3 m 20 #[rv o, lv x1, .second] [(.int (1 : Int32))] _
        exact retN X3 hx (t := .boolean) Bd.returns (by simp) (hb hby d6_20) hr
      · show Q6 Z o x1 w_counter_o h0 n0 _ T3.heap _
        rw [e3]
        exact ⟨(by first | rfl | simp only [if_neg hc3, if_pos hc12]), N0, rfl⟩
    · have pre6 : ∀ tz, oS p e below T3 m 20 #[rv o, lv x1, .second] [(.int (0 : Int32))] tz → oS p e below T3 m 12 #[rv o, lv x1, .second] [(.int (lcmpW x1 w_counter_o))] tz := fun tz kt => by
        show oS p e below T3 m 12 #[rv o, lv x1, .second] [(.int (lcmpW x1 w_counter_o))] _
        refine XS.ifYes X3.here hx rfl (pc0 := 12) (pc' := 19) rfl (hb hby d6_12) rfl ((if0 _ _).trans (flt (fun q => hc12 ((lw_lt x1 w_counter_o).mp q))).2.1) (by decide) (by decide) ?_
        refine XS.iconst X3.here hx rfl (hb hby d6_19) ?_
        exact kt
      obtain ⟨fs, hr, hrun, hended, hW, hsame⟩ := X3.leave (v := some (.int (0 : Int32))) (fun h => by rw [Bd.returns] at h; cases h)
      refine ⟨_, _, pre0 _ (pre1 _ (pre4 _ (pre6 _ ?_))), hrun, hended, _, _, rfl, ?_, ⟨_, rfl⟩, hW, hsame.mono (by decide) (by decide)⟩
      · show oS p e below T3 m 20 #[rv o, lv x1, .second] [(.int (0 : Int32))] _
        exact retN X3 hx (t := .boolean) Bd.returns (by simp) (hb hby d6_20) hr
      · show Q6 Z o x1 w_counter_o h0 n0 _ T3.heap _
        rw [e3]
        exact ⟨(by first | rfl | simp only [if_neg hc3, if_neg hc12]), N0, rfl⟩
theorem d5_0 : decode prog_10_method_6_code 0 = .ok (.lload_n 1, 1) := by decide +kernel
theorem d5_1 : decode prog_10_method_6_code 1 = .ok (.aload_n 0, 1) := by decide +kernel
theorem d5_2 : decode prog_10_method_6_code 2 = .ok (.getfield 16, 3) := by decide +kernel
theorem d5_5 : decode prog_10_method_6_code 5 = .ok (.lcmp, 1) := by decide +kernel
theorem d5_6 : decode prog_10_method_6_code 6 = .ok (.ifCond .lt 15, 3) := by decide +kernel
theorem d5_9 : decode prog_10_method_6_code 9 = .ok (.lload_n 1, 1) := by decide +kernel
theorem d5_10 : decode prog_10_method_6_code 10 = .ok (.ldc2_w 46, 3) := by decide +kernel
theorem d5_13 : decode prog_10_method_6_code 13 = .ok (.lcmp, 1) := by decide +kernel
theorem d5_14 : decode prog_10_method_6_code 14 = .ok (.ifCond .ge 7, 3) := by decide +kernel
theorem d5_17 : decode prog_10_method_6_code 17 = .ok (.iconst 1, 1) := by decide +kernel
theorem d5_18 : decode prog_10_method_6_code 18 = .ok (.goto 4, 3) := by decide +kernel
theorem d5_21 : decode prog_10_method_6_code 21 = .ok (.iconst 0, 1) := by decide +kernel
theorem d5_22 : decode prog_10_method_6_code 22 = .ok (.ireturn, 1) := by decide +kernel
theorem ef5 (m : MethodId) (o : Addr) (x1 : Int64) : entryFrame m #[(.ref o), (.long x1)] 3 = mkF m 0 #[rv o, lv x1, .second] [] := by first | (simp [entryFrame, mkF, argsToLocals, Value.category]; done) | rfl
def Q5 (Z : State) (o : Addr) (x1 : Int64) (w_counter_o : Int64) (h0 : Heap) (n0 : Nat) (v : Option Value) (h : Heap) (L : List Loc) : Prop := v = some (.int (if x1 < w_counter_o then (0 : Int32) else (if x1 < (9223372036854775807 : Int64) then (1 : Int32) else (0 : Int32)))) ∧ Fr n0 L ∧ h = h0
set_option maxRecDepth 65536 in
set_option maxHeartbeats 40000000 in
theorem rm5 (l : Launch) (Z : State) (a0 : Array Value) (hw : ∀ d ∈ tables_1, d.before a0 Z = true) (ws : List Jvm.Cond) (o : Addr) (x1 : Int64) (w_counter_o : Int64) (h0 : Heap) (n0 : Nat) (Z0 : n0 ≤ h0.size) (F_counter_o : Fld Z h0 o "com/example/ostiarius/ostiarius/MovingFactor$Counter" "counter" "J" (.long w_counter_o)) :
    MetFree l (⟨"com/example/ostiarius/ostiarius/MovingFactor$Counter", "unused", "(J)Z"⟩ : MethodName) (head1 (Jvm.Cond.code (⟨"com/example/ostiarius/ostiarius/MovingFactor$Counter", "unused", "(J)Z"⟩ : MethodName) prog_10_method_6_code 3 (some .boolean) :: ws) ({ frames := 0, cells := 0, slots := 0, locals := 0 } : Room)) (fun a U => a = #[(.ref o), (.long x1)] ∧ Z.Warmed39 U.vm ∧ U.heap = h0) (fun _ _ _ _ _ => True) (fun _ U oc U' => ∃ v L, oc = .returned v ∧ Q5 Z o x1 w_counter_o h0 n0 v U'.heap L ∧ FrameEnd U oc U' L ({ frames := 0, cells := 0, slots := 0, locals := 0 } : Room).cells ({ frames := 0, cells := 0, slots := 0, locals := 0 } : Room).slots) := by
  refine MetFree.of_bodySF (plainFor_of_name own_pn2) hisR ?_
  intro p e s m args below meth c s₁ Bd hml0 hP hK
  obtain ⟨rfl, hZ, hh⟩ := hP
  have hx := Bd.exec
  have hby := Bd.bytes
  have hml : c.maxLocals = 3 := hml0
  have hown : s.vm.findClass "com/example/ostiarius/ostiarius/MovingFactor$Counter" = some m.cls := findClass_of_methodNamed Bd.named
  have hnm := (name_of_methodNamed Bd.named Bd.method).1
  have X0 : Stand p l e ({ frames := 0, cells := 0, slots := 0, locals := 0 } : Room) s m #[(.ref o), (.long x1)] below meth c s₁ [] 0 0 := Stand.of_body Bd
  have e0 : s₁.heap = h0 := by rw [← hh, Bd.state]; rfl
  have N0 := Fr.nil n0
  have pre0 : ∀ t, Steps p.tables e below (s₁.setTop (mkF m 0 #[rv o, lv x1, .second] [])) t → Steps p.tables e below (s₁.setTop (entryFrame m #[(.ref o), (.long x1)] 3)) t := fun t k => castTop (ef5 m o x1) k
  obtain ⟨T1, X1, e1, st1⟩ := getF X0 hx hZ hown (host := "") (Or.inl (own_w hw 19 rfl)) Via.refl e0 F_counter_o (g := (mkF m 2 #[rv o, lv x1, .second] [(.ref o), (.long x1)])) rfl rfl (hb hby d5_2)
  have pre2 : ∀ tz, oS p e below T1 m 6 #[rv o, lv x1, .second] [(.int (lcmpW x1 w_counter_o))] tz → oS p e below s₁ m 0 #[rv o, lv x1, .second] [] tz := fun tz kt => by
    show oS p e below s₁ m 0 #[rv o, lv x1, .second] [] _
    refine XS.lloadN X0.here hx rfl (hb hby d5_0) rfl ?_
    refine XS.aloadN X0.here hx rfl (hb hby d5_1) rfl rfl ?_
    show oS p e below s₁ m 2 #[rv o, lv x1, .second] [(.ref o), (.long x1)] _
    refine st1 _ ?_
    refine XS.lcmp X1.here hx rfl (hb hby d5_5) rfl ?_
    exact kt
  by_cases hc6 : x1 < w_counter_o
  · have pre3 : ∀ tz, oS p e below T1 m 22 #[rv o, lv x1, .second] [(.int (0 : Int32))] tz → oS p e below T1 m 6 #[rv o, lv x1, .second] [(.int (lcmpW x1 w_counter_o))] tz := fun tz kt => by
      show oS p e below T1 m 6 #[rv o, lv x1, .second] [(.int (lcmpW x1 w_counter_o))] _
      refine XS.ifYes X1.here hx rfl (pc0 := 6) (pc' := 21) rfl (hb hby d5_6) rfl ((if0 _ _).trans (tlt ((lw_lt x1 w_counter_o).mpr hc6)).1) (by decide) (by decide) ?_
      refine XS.iconst X1.here hx rfl (hb hby d5_21) ?_
      exact kt
    obtain ⟨fs, hr, hrun, hended, hW, hsame⟩ := X1.leave (v := some (.int (0 : Int32))) (fun h => by rw [Bd.returns] at h; cases h)
    refine ⟨_, _, pre0 _ (pre2 _ (pre3 _ ?_)), hrun, hended, _, _, rfl, ?_, ⟨_, rfl⟩, hW, hsame.mono (by decide) (by decide)⟩
    · show oS p e below T1 m 22 #[rv o, lv x1, .second] [(.int (0 : Int32))] _
      exact retN X1 hx (t := .boolean) Bd.returns (by simp) (hb hby d5_22) hr
    · show Q5 Z o x1 w_counter_o h0 n0 _ T1.heap _
      rw [e1]
      exact ⟨(by first | rfl | simp only [if_pos hc6]), N0, rfl⟩
  · have pre4 : ∀ tz, oS p e below T1 m 14 #[rv o, lv x1, .second] [(.int (lcmpW x1 (9223372036854775807 : Int64)))] tz → oS p e below T1 m 6 #[rv o, lv x1, .second] [(.int (lcmpW x1 w_counter_o))] tz := fun tz kt => by
      show oS p e below T1 m 6 #[rv o, lv x1, .second] [(.int (lcmpW x1 w_counter_o))] _
      refine XS.ifNo X1.here hx rfl (hb hby d5_6) rfl ((if0 _ _).trans (flt (fun q => hc6 ((lw_lt x1 w_counter_o).mp q))).1) ?_
      refine XS.lloadN X1.here hx rfl (hb hby d5_9) rfl ?_
      refine X1.ldc2Long hx hown (mvT hZ (own_w hw 32 rfl)) (g := (mkF m 10 #[rv o, lv x1, .second] [(.long x1)])) rfl (hb hby d5_10) _ ?_
      refine XS.lcmp X1.here hx rfl (hb hby d5_13) rfl ?_
      exact kt
    by_cases hc14 : x1 < (9223372036854775807 : Int64)
    · have pre5 : ∀ tz, oS p e below T1 m 22 #[rv o, lv x1, .second] [(.int (1 : Int32))] tz → oS p e below T1 m 14 #[rv o, lv x1, .second] [(.int (lcmpW x1 (9223372036854775807 : Int64)))] tz := fun tz kt => by
        show oS p e below T1 m 14 #[rv o, lv x1, .second] [(.int (lcmpW x1 (9223372036854775807 : Int64)))] _
        refine XS.ifNo X1.here hx rfl (hb hby d5_14) rfl ((if0 _ _).trans (tlt ((lw_lt x1 (9223372036854775807 : Int64)).mpr hc14)).2.1) ?_
        refine XS.iconst X1.here hx rfl (hb hby d5_17) ?_
        refine XS.goto X1.here hx rfl (pc0 := 18) (pc' := 22) rfl (hb hby d5_18) (by decide) (by decide) ?_
        exact kt
      obtain ⟨fs, hr, hrun, hended, hW, hsame⟩ := X1.leave (v := some (.int (1 : Int32))) (fun h => by rw [Bd.returns] at h; cases h)
      refine ⟨_, _, pre0 _ (pre2 _ (pre4 _ (pre5 _ ?_))), hrun, hended, _, _, rfl, ?_, ⟨_, rfl⟩, hW, hsame.mono (by decide) (by decide)⟩
      · show oS p e below T1 m 22 #[rv o, lv x1, .second] [(.int (1 : Int32))] _
        exact retN X1 hx (t := .boolean) Bd.returns (by simp) (hb hby d5_22) hr
      · show Q5 Z o x1 w_counter_o h0 n0 _ T1.heap _
        rw [e1]
        exact ⟨(by first | rfl | simp only [if_neg hc6, if_pos hc14]), N0, rfl⟩
    · have pre6 : ∀ tz, oS p e below T1 m 22 #[rv o, lv x1, .second] [(.int (0 : Int32))] tz → oS p e below T1 m 14 #[rv o, lv x1, .second] [(.int (lcmpW x1 (9223372036854775807 : Int64)))] tz := fun tz kt => by
        show oS p e below T1 m 14 #[rv o, lv x1, .second] [(.int (lcmpW x1 (9223372036854775807 : Int64)))] _
        refine XS.ifYes X1.here hx rfl (pc0 := 14) (pc' := 21) rfl (hb hby d5_14) rfl ((if0 _ _).trans (flt (fun q => hc14 ((lw_lt x1 (9223372036854775807 : Int64)).mp q))).2.1) (by decide) (by decide) ?_
        refine XS.iconst X1.here hx rfl (hb hby d5_21) ?_
        exact kt
      obtain ⟨fs, hr, hrun, hended, hW, hsame⟩ := X1.leave (v := some (.int (0 : Int32))) (fun h => by rw [Bd.returns] at h; cases h)
      refine ⟨_, _, pre0 _ (pre2 _ (pre4 _ (pre6 _ ?_))), hrun, hended, _, _, rfl, ?_, ⟨_, rfl⟩, hW, hsame.mono (by decide) (by decide)⟩
      · show oS p e below T1 m 22 #[rv o, lv x1, .second] [(.int (0 : Int32))] _
        exact retN X1 hx (t := .boolean) Bd.returns (by simp) (hb hby d5_22) hr
      · show Q5 Z o x1 w_counter_o h0 n0 _ T1.heap _
        rw [e1]
        exact ⟨(by first | rfl | simp only [if_neg hc6, if_neg hc14]), N0, rfl⟩
theorem own_pd1 : parseMethodDescriptor "(J)V" = some ⟨[.long], none⟩ := by decide +kernel
theorem d7_0 : decode prog_10_method_8_code 0 = .ok (.new 17, 3) := by decide +kernel
theorem d7_3 : decode prog_10_method_8_code 3 = .ok (.dup, 1) := by decide +kernel
theorem d7_4 : decode prog_10_method_8_code 4 = .ok (.lload_n 1, 1) := by decide +kernel
theorem d7_5 : decode prog_10_method_8_code 5 = .ok (.lconst 1, 1) := by decide +kernel
theorem d7_6 : decode prog_10_method_8_code 6 = .ok (.ladd, 1) := by decide +kernel
theorem d7_7 : decode prog_10_method_8_code 7 = .ok (.invokespecial 48, 3) := by decide +kernel
theorem d7_10 : decode prog_10_method_8_code 10 = .ok (.areturn, 1) := by decide +kernel
theorem ef7 (m : MethodId) (o : Addr) (x1 : Int64) (x2 : Int64) : entryFrame m #[(.ref o), (.long x1), (.long x2)] 5 = mkF m 0 #[rv o, lv x1, .second, lv x2, .second] [] := by first | (simp [entryFrame, mkF, argsToLocals, Value.category]; done) | rfl
def Q7 (Z : State) (o : Addr) (x1 : Int64) (x2 : Int64) (h0 : Heap) (n0 : Nat) (v : Option Value) (h : Heap) (L : List Loc) : Prop := ∃ (b : Addr), v = some (.ref b) ∧ Fr n0 L ∧ Keep h0 h [] ∧ h0.size ≤ b ∧ n0 ≤ b ∧ Exa Z h b "com/example/ostiarius/ostiarius/MovingFactor$Counter" ∧ Fld Z h b "com/example/ostiarius/ostiarius/MovingFactor$Counter" "counter" "J" (.long (x1 + (1 : Int64)))
set_option maxRecDepth 65536 in
set_option maxHeartbeats 40000000 in
theorem rm7 (l : Launch) (Z : State) (a0 : Array Value) (hw : ∀ d ∈ tables_1, d.before a0 Z = true) (ws : List Jvm.Cond) (o : Addr) (x1 : Int64) (x2 : Int64) (h0 : Heap) (n0 : Nat) (Z0 : n0 ≤ h0.size) (h1 : ¬ ((x1 + (1 : Int64)) < (0 : Int64))) :
    MetFree l (⟨"com/example/ostiarius/ostiarius/MovingFactor$Counter", "accepted", "(JJ)Lcom/example/ostiarius/ostiarius/MovingFactor;"⟩ : MethodName) (head1 (Jvm.Cond.code (⟨"com/example/ostiarius/ostiarius/MovingFactor$Counter", "accepted", "(JJ)Lcom/example/ostiarius/ostiarius/MovingFactor;"⟩ : MethodName) prog_10_method_8_code 5 (some (.object "com/example/ostiarius/ostiarius/MovingFactor")) :: ws) ({ frames := 3, cells := 1, slots := 1, locals := 39 } : Room)) (fun a U => a = #[(.ref o), (.long x1), (.long x2)] ∧ Z.Warmed39 U.vm ∧ U.heap = h0) (fun _ _ _ _ _ => True) (fun _ U oc U' => ∃ v L, oc = .returned v ∧ Q7 Z o x1 x2 h0 n0 v U'.heap L ∧ FrameEnd U oc U' L ({ frames := 3, cells := 1, slots := 1, locals := 39 } : Room).cells ({ frames := 3, cells := 1, slots := 1, locals := 39 } : Room).slots) := by
  refine MetFree.of_bodySF (plainFor_of_name own_pn2) hisR ?_
  intro p e s m args below meth c s₁ Bd hml0 hP hK
  obtain ⟨rfl, hZ, hh⟩ := hP
  have hx := Bd.exec
  have hby := Bd.bytes
  have hml : c.maxLocals = 5 := hml0
  have hown : s.vm.findClass "com/example/ostiarius/ostiarius/MovingFactor$Counter" = some m.cls := findClass_of_methodNamed Bd.named
  have hnm := (name_of_methodNamed Bd.named Bd.method).1
  have X0 : Stand p l e ({ frames := 3, cells := 1, slots := 1, locals := 39 } : Room) s m #[(.ref o), (.long x1), (.long x2)] below meth c s₁ [] 0 0 := Stand.of_body Bd
  have e0 : s₁.heap = h0 := by rw [← hh, Bd.state]; rfl
  have N0 := Fr.nil n0
  have pre0 : ∀ t, Steps p.tables e below (s₁.setTop (mkF m 0 #[rv o, lv x1, .second, lv x2, .second] [])) t → Steps p.tables e below (s₁.setTop (entryFrame m #[(.ref o), (.long x1), (.long x2)] 5)) t := fun t k => castTop (ef7 m o x1 x2) k
  obtain ⟨T1, h1, X1, e1, E1, A1, D1, -, st1⟩ := newO X0 hx hZ hown (own_w hw 38 rfl) (own_w hw 6 rfl) (own_w hw 7 rfl) e0 (g := (mkF m 0 #[rv o, lv x1, .second, lv x2, .second] [])) rfl (hb hby d7_0) (by decide) (by decide)
  obtain ⟨b1, g1⟩ : ∃ z, z = h0.size := ⟨_, rfl⟩
  rw [← g1] at A1 D1 st1
  have g_b1 : n0 ≤ b1 := Nat.le_trans Z0 (Nat.le_of_eq g1.symm)
  have sz_b1 : h0.size ≤ b1 := Nat.le_trans (Keep.refl h0 []).1 (Nat.le_of_eq g1.symm)
  have F_counter_b1 : Fld Z h1 b1 "com/example/ostiarius/ostiarius/MovingFactor$Counter" "counter" "J" (.long (0 : Int64)) := D1 (Or.inr (own_w hw 20 rfl)) (ty := .long) (by decide)
  have hp2_h1 : ¬ ((x1 + (1 : Int64)) < (0 : Int64)) := (by assumption)
  have Zc3 : n0 ≤ h1.size := (Nat.le_trans Z0 E1.1)
  obtain ⟨_, _, ⟨T2, Lw2, kw2, nw2⟩, -, X2, ⟨Lc2, hQ2, l2, y2, z2⟩, st2⟩ := X1.specialBack hx (y := (⟨"com/example/ostiarius/ostiarius/MovingFactor$Counter", "<init>", "(J)V"⟩ : MethodName)) rfl hown (mvT hZ (own_w hw 39 rfl)) (mvT hZ (own_w hw 9 rfl)) (mvT hZ (own_w hw 10 rfl)) (by decide) (backOf (W := 1) (rm2 l Z a0 hw [] b1 (x1 + (1 : Int64)) (.long (0 : Int64)) h1 n0 Zc3 hp2_h1 A1 F_counter_b1 g_b1) hZ (own_w hw 10 rfl) (own_w hw 7 rfl) (by decide) (by decide)) (g := (mkF m 7 #[rv o, lv x1, .second, lv x2, .second] [(.long (x1 + (1 : Int64))), (.ref b1), (.ref b1)])) rfl (by rw [hml]; rfl) (Steps.refl _) (a := b1) (argsL := [(.long (x1 + (1 : Int64)))]) (rest := [(.ref b1)]) (lenOf own_pd1 rfl) rfl (by show 2 * 0 + _ ≤ _; exact Nat.le_of_eq rfl) (hb hby d7_7) (fun _ _ => ⟨rfl, e1, (by decide : 1 + 0 ≤ _), (by decide : 1 + 0 ≤ _)⟩)
  dsimp only [Pt.U, Pt.locs, Pt.cells, Pt.slots] at X2 l2 y2 z2 st2 hQ2
  subst l2 y2 z2
  obtain ⟨rfl, Nq2, K2, pf2_0, pf2_1⟩ := hQ2
  have N2 := Fr.app N0 Nq2
  have pre4 : ∀ tz, oS p e below T2 m 10 #[rv o, lv x1, .second, lv x2, .second] [(.ref b1)] tz → oS p e below s₁ m 0 #[rv o, lv x1, .second, lv x2, .second] [] tz := fun tz kt => by
    show oS p e below s₁ m 0 #[rv o, lv x1, .second, lv x2, .second] [] _
    refine st1 _ ?_
    refine XS.dup X1.here hx rfl (hb hby d7_3) rfl rfl ?_
    refine XS.lloadN X1.here hx rfl (hb hby d7_4) rfl ?_
    refine XS.lconst X1.here hx rfl (hb hby d7_5) ?_
    show oS p e below T1 m 6 #[rv o, lv x1, .second, lv x2, .second] [(.long (1 : Int64)), (.long x1), (.ref b1), (.ref b1)] _
    refine XS.ladd X1.here hx rfl (hb hby d7_6) rfl ?_
    show oS p e below T1 m 7 #[rv o, lv x1, .second, lv x2, .second] [(.long (x1 + (1 : Int64))), (.ref b1), (.ref b1)] _
    refine st2.trans ?_
    exact kt
  have KP5 : Keep h0 T2.heap [] := (((Keep.refl h0 []).ext E1).trans K2 (allS (Or.inr sz_b1) all0))
  obtain ⟨fs, hr, hrun, hended, hW, hsame⟩ := X2.leave (v := some (.ref b1)) (fun h => by rw [Bd.returns] at h; cases h)
  refine ⟨_, _, pre0 _ (pre4 _ ?_), hrun, hended, _, _, rfl, ?_, ⟨_, rfl⟩, hW, hsame.mono (by decide) (by decide)⟩
  · show oS p e below T2 m 10 #[rv o, lv x1, .second, lv x2, .second] [(.ref b1)] _
    exact retOut X2 hx Bd.returns rfl (Or.inr (Or.inr (Or.inr (Or.inr ⟨rfl, rfl, rfl⟩)))) (hb hby d7_10) hr
  · show Q7 Z o x1 x2 h0 n0 _ T2.heap _
    exact ⟨b1, rfl, N2, KP5, sz_b1, g_b1, pf2_0, pf2_1⟩
theorem own_pd2 : parseMethodDescriptor "(JJI)J" = some ⟨[.long, .long, .int], some .long⟩ := by decide +kernel
theorem own_pd3 : parseMethodDescriptor "(J)Z" = some ⟨[.long], some .boolean⟩ := by decide +kernel
theorem own_pd4 : parseMethodDescriptor "(JJ)Lcom/example/ostiarius/ostiarius/MovingFactor;" = some ⟨[.long, .long], some (.object "com/example/ostiarius/ostiarius/MovingFactor")⟩ := by decide +kernel
theorem ef0 (m : MethodId) (x1 : Int64) (x2 : Int64) (x3 : Int32) (x4 : Int64) : entryFrame m #[(.long x1), (.long x2), (.int x3), (.long x4)] maxLocals = mkF m 0 #[lv x1, .second, lv x2, .second, iv x3, lv x4, .second, .unset, .unset, .unset, .unset, .unset, .unset, .unset, .unset, .unset] [] := by first | (simp [entryFrame, mkF, argsToLocals, Value.category, maxLocals]; done) | rfl
def Q0 (Z : State) (x1 : Int64) (x2 : Int64) (x3 : Int32) (x4 : Int64) (h0 : Heap) (n0 : Nat) (v : Option Value) (h : Heap) (L : List Loc) : Prop := v = some (.int (1 : Int32)) ∧ Fr n0 L
set_option maxRecDepth 65536 in
set_option maxHeartbeats 40000000 in
theorem rm0 (l : Launch) (Z : State) (a0 : Array Value) (hw : ∀ d ∈ tables_1, d.before a0 Z = true) (ws : List Jvm.Cond) (x1 : Int64) (x2 : Int64) (x3 : Int32) (x4 : Int64) (h0 : Heap) (n0 : Nat) (Z0 : n0 ≤ h0.size) :
    MetFree l x (head1 (Jvm.Cond.code x code maxLocals ret :: ws) room_1) (fun a U => a = #[(.long x1), (.long x2), (.int x3), (.long x4)] ∧ Z.Warmed39 U.vm ∧ U.heap = h0) (fun _ _ _ _ _ => True) (fun _ U oc U' => ∃ v L, oc = .returned v ∧ Q0 Z x1 x2 x3 x4 h0 n0 v U'.heap L ∧ FrameEnd U oc U' L room_1.cells room_1.slots) := by
  refine MetFree.of_bodySF (plainFor_of_name own_pn1) hisR ?_
  intro p e s m args below meth c s₁ Bd hml0 hP hK
  obtain ⟨rfl, hZ, hh⟩ := hP
  have hx := Bd.exec
  have hby := Bd.bytes
  have hml : c.maxLocals = 16 := hml0
  have hown : s.vm.findClass "com/example/ostiarius/ostiarius/CounterUnusedPinLaw" = some m.cls := findClass_of_methodNamed Bd.named
  have hnm := (name_of_methodNamed Bd.named Bd.method).1
  have X0 : Stand p l e room_1 s m #[(.long x1), (.long x2), (.int x3), (.long x4)] below meth c s₁ [] 0 0 := Stand.of_body Bd
  have e0 : s₁.heap = h0 := by rw [← hh, Bd.state]; rfl
  have N0 := Fr.nil n0
  have pre0 : ∀ t, Steps p.tables e below (s₁.setTop (mkF m 0 #[lv x1, .second, lv x2, .second, iv x3, lv x4, .second, .unset, .unset, .unset, .unset, .unset, .unset, .unset, .unset, .unset] [])) t → Steps p.tables e below (s₁.setTop (entryFrame m #[(.long x1), (.long x2), (.int x3), (.long x4)] maxLocals)) t := fun t k => castTop (ef0 m x1 x2 x3 x4) k
  obtain ⟨y5, hy5⟩ : ∃ z, z = (x1 &&& (9223372036854775807 : Int64)) := ⟨_, rfl⟩
  obtain ⟨_, _, ⟨T1, Lw1, kw1, nw1⟩, -, X1, ⟨Lc1, hQ1, l1, y1, z1⟩, st1⟩ := Jvm.LawKit.callS X0 hx (y := (⟨"com/example/ostiarius/ostiarius/CounterUnusedPinLaw", "pick", "(JJI)J"⟩ : MethodName)) hown (mvT hZ (own_w hw 1 rfl)) (mvT hZ (own_w hw 2 rfl)) (mvT hZ (own_w hw 3 rfl)) (mvT hZ (own_w hw 4 rfl)) (by decide) (backOf (W := 0) (rm1 l Z a0 hw [] y5 x2 x3 h0 n0 Z0 ) hZ (own_w hw 4 rfl) (own_w hw 3 rfl) (by decide) (by decide)) (g := (mkF m 12 #[lv x1, .second, lv x2, .second, iv x3, lv x4, .second, lv y5, .second, .unset, .unset, .unset, .unset, .unset, .unset, .unset] [(.int x3), (.long x2), (.long y5)])) rfl (by rw [hml]; rfl) (argsL := [(.long y5), (.long x2), (.int x3)]) (rest := []) (lenOf own_pd2 rfl) rfl (by show 2 * 0 + _ ≤ _; exact Nat.le_of_eq rfl) (hb hby at_12) (fun _ _ => ⟨rfl, e0, (by decide : 0 + 0 ≤ _), (by decide : 0 + 0 ≤ _)⟩)
  dsimp only [Pt.U, Pt.locs, Pt.cells, Pt.slots] at X1 l1 y1 z1 st1 hQ1
  subst l1 y1 z1
  obtain ⟨rfl, Nq1, eh1⟩ := hQ1
  have N1 := Fr.app N0 Nq1
  obtain ⟨y15, hy15⟩ : ∃ z, z = (if (x3 &&& (7 : Int32)) = (0 : Int32) then x2 else (if (x3 &&& (7 : Int32)) = (1 : Int32) then y5 else (if (x3 &&& (7 : Int32)) = (2 : Int32) then (y5 - (1 : Int64)) else (if (x3 &&& (7 : Int32)) = (3 : Int32) then (y5 + (1 : Int64)) else (if (x3 &&& (7 : Int32)) = (4 : Int32) then (9223372036854775807 : Int64) else (if (x3 &&& (7 : Int32)) = (5 : Int32) then (9223372036854775806 : Int64) else (if (x3 &&& (7 : Int32)) = (6 : Int32) then (-9223372036854775808 : Int64) else (x2 &&& (9223372036854775807 : Int64))))))))) := ⟨_, rfl⟩
  obtain ⟨T2, h2, X2, e2, E2, A2, D2, -, st2⟩ := newO X1 hx hZ hown (own_w hw 5 rfl) (own_w hw 6 rfl) (own_w hw 7 rfl) eh1 (g := (mkF m 17 #[lv x1, .second, lv x2, .second, iv x3, lv x4, .second, lv y5, .second, lv y15, .second, .unset, .unset, .unset, .unset, .unset] [])) rfl (hb hby at_17) (by decide) (by decide)
  obtain ⟨b2, g2⟩ : ∃ z, z = h0.size := ⟨_, rfl⟩
  rw [← g2] at A2 D2 st2
  have g_b2 : n0 ≤ b2 := Nat.le_trans Z0 (Nat.le_of_eq g2.symm)
  have F_counter_b2 : Fld Z h2 b2 "com/example/ostiarius/ostiarius/MovingFactor$Counter" "counter" "J" (.long (0 : Int64)) := D2 (Or.inr (own_w hw 20 rfl)) (ty := .long) (by decide)
  have hp3_h1 : ¬ (y5 < (0 : Int64)) := (by rw [hy5]; exact own_nn _)
  have Zc4 : n0 ≤ h2.size := (Nat.le_trans Z0 E2.1)
  obtain ⟨_, _, ⟨T3, Lw3, kw3, nw3⟩, -, X3, ⟨Lc3, hQ3, l3, y3, z3⟩, st3⟩ := X2.specialBack hx (y := (⟨"com/example/ostiarius/ostiarius/MovingFactor$Counter", "<init>", "(J)V"⟩ : MethodName)) rfl hown (mvT hZ (own_w hw 8 rfl)) (mvT hZ (own_w hw 9 rfl)) (mvT hZ (own_w hw 10 rfl)) (by decide) (backOf (W := 1) (rm2 l Z a0 hw [] b2 y5 (.long (0 : Int64)) h2 n0 Zc4 hp3_h1 A2 F_counter_b2 g_b2) hZ (own_w hw 10 rfl) (own_w hw 7 rfl) (by decide) (by decide)) (g := (mkF m 23 #[lv x1, .second, lv x2, .second, iv x3, lv x4, .second, lv y5, .second, lv y15, .second, .unset, .unset, .unset, .unset, .unset] [(.long y5), (.ref b2), (.ref b2)])) rfl (by rw [hml]; rfl) (Steps.refl _) (a := b2) (argsL := [(.long y5)]) (rest := [(.ref b2)]) (lenOf own_pd1 rfl) rfl (by show 2 * 0 + _ ≤ _; exact Nat.le_of_eq rfl) (hb hby at_23) (fun _ _ => ⟨rfl, e2, (by decide : 1 + 0 ≤ _), (by decide : 1 + 0 ≤ _)⟩)
  dsimp only [Pt.U, Pt.locs, Pt.cells, Pt.slots] at X3 l3 y3 z3 st3 hQ3
  subst l3 y3 z3
  obtain ⟨rfl, Nq3, K3, pf3_0, pf3_1⟩ := hQ3
  have N3 := Fr.app N1 Nq3
  have Zc6 : n0 ≤ T3.heap.size := (Nat.le_trans Zc4 K3.1)
  obtain ⟨cq5, kq5, q5a, q5b, q5c⟩ := isOf hZ rfl pf3_0
  obtain ⟨_, _, ⟨T5, Lw5, kw5, nw5⟩, -, X5, ⟨Lc5, hQ5, l5, y5, z5⟩, st5⟩ := X3.virtualBack hx (y := (⟨"com/example/ostiarius/ostiarius/MovingFactor$Counter", "unused", "(J)Z"⟩ : MethodName)) (z := (⟨"com/example/ostiarius/ostiarius/MovingFactor$Counter", "unused", "(J)Z"⟩ : MethodName)) hown (mvT hZ (own_w hw 21 rfl)) (mvT hZ (own_w hw 22 rfl)) (notFace_of_selects (args := #[]) (mvT hZ (own_w hw 24 rfl))) (mvT hZ (own_w hw 24 rfl)) (mvT hZ (own_w hw 23 rfl)) (by decide) (backOf (W := 0) (rm5 l Z a0 hw [] b2 y15 y5 T3.heap n0 Zc6 pf3_1) hZ (own_w hw 25 rfl) (own_w hw 7 rfl) (by decide) (by decide)) q5a q5c (g := (mkF m 32 #[lv x1, .second, lv x2, .second, iv x3, lv x4, .second, lv y5, .second, lv y15, .second, rv b2, .unset, .unset, .unset, .unset] [(.long y15), (.ref b2)])) rfl (by rw [hml]; rfl) (Steps.refl _) (argsL := [(.long y15)]) (rest := []) (lenOf own_pd3 rfl) rfl (by show 2 * 0 + _ ≤ _; exact Nat.le_of_eq rfl) (hb hby at_32) (fun _ _ => ⟨rfl, rfl, (by decide : 1 + 0 ≤ _), (by decide : 1 + 0 ≤ _)⟩)
  dsimp only [Pt.U, Pt.locs, Pt.cells, Pt.slots] at X5 l5 y5 z5 st5 hQ5
  subst l5 y5 z5
  obtain ⟨rfl, Nq5, eh5⟩ := hQ5
  have N5 := Fr.app N3 Nq5
  obtain ⟨y35, hy35⟩ : ∃ z, z = (if y15 < y5 then (0 : Int32) else (if y15 < (9223372036854775807 : Int64) then (1 : Int32) else (0 : Int32))) := ⟨_, rfl⟩
  obtain ⟨cq7, kq7, q7a, q7b, q7c⟩ := isOf hZ eh5 pf3_0
  obtain ⟨_, _, ⟨T7, Lw7, kw7, nw7⟩, -, X7, ⟨Lc7, hQ7, l7, y7, z7⟩, st7⟩ := X5.virtualBack hx (y := (⟨"com/example/ostiarius/ostiarius/MovingFactor$Counter", "used", "(J)Z"⟩ : MethodName)) (z := (⟨"com/example/ostiarius/ostiarius/MovingFactor$Counter", "used", "(J)Z"⟩ : MethodName)) hown (mvT hZ (own_w hw 26 rfl)) (mvT hZ (own_w hw 27 rfl)) (notFace_of_selects (args := #[]) (mvT hZ (own_w hw 29 rfl))) (mvT hZ (own_w hw 29 rfl)) (mvT hZ (own_w hw 28 rfl)) (by decide) (backOf (W := 0) (rm6 l Z a0 hw [] b2 y15 y5 T3.heap n0 Zc6 pf3_1) hZ (own_w hw 30 rfl) (own_w hw 7 rfl) (by decide) (by decide)) q7a q7c (g := (mkF m 41 #[lv x1, .second, lv x2, .second, iv x3, lv x4, .second, lv y5, .second, lv y15, .second, rv b2, iv y35, .unset, .unset, .unset] [(.long y15), (.ref b2)])) rfl (by rw [hml]; rfl) (Steps.refl _) (argsL := [(.long y15)]) (rest := []) (lenOf own_pd3 rfl) rfl (by show 2 * 0 + _ ≤ _; exact Nat.le_of_eq rfl) (hb hby at_41) (fun _ _ => ⟨rfl, eh5, (by decide : 1 + 0 ≤ _), (by decide : 1 + 0 ≤ _)⟩)
  dsimp only [Pt.U, Pt.locs, Pt.cells, Pt.slots] at X7 l7 y7 z7 st7 hQ7
  subst l7 y7 z7
  obtain ⟨rfl, Nq7, eh7⟩ := hQ7
  have N7 := Fr.app N5 Nq7
  obtain ⟨y44, hy44⟩ : ∃ z, z = (if y15 < (0 : Int64) then (0 : Int32) else (if y15 < y5 then (1 : Int32) else (0 : Int32))) := ⟨_, rfl⟩
  have pre8 : ∀ tz, oS p e below T7 m 53 #[lv x1, .second, lv x2, .second, iv x3, lv x4, .second, lv y5, .second, lv y15, .second, rv b2, iv y35, iv y44, .unset, .unset] [(.int (lcmpW y15 y5)), (.int y35)] tz → oS p e below s₁ m 0 #[lv x1, .second, lv x2, .second, iv x3, lv x4, .second, .unset, .unset, .unset, .unset, .unset, .unset, .unset, .unset, .unset] [] tz := fun tz kt => by
    show oS p e below s₁ m 0 #[lv x1, .second, lv x2, .second, iv x3, lv x4, .second, .unset, .unset, .unset, .unset, .unset, .unset, .unset, .unset, .unset] [] _
    refine XS.lloadN X0.here hx rfl (hb hby at_0) rfl ?_
    refine X0.ldc2Long hx hown (mvT hZ (own_w hw 0 rfl)) (g := (mkF m 1 #[lv x1, .second, lv x2, .second, iv x3, lv x4, .second, .unset, .unset, .unset, .unset, .unset, .unset, .unset, .unset, .unset] [(.long x1)])) rfl (hb hby at_1) _ ?_
    refine XS.land X0.here hx rfl (hb hby at_4) rfl ?_
    refine XS.lstore X0.here hx rfl (hb hby at_5) rfl (l' := #[lv x1, .second, lv x2, .second, iv x3, lv x4, .second, lv y5, .second, .unset, .unset, .unset, .unset, .unset, .unset, .unset]) (by rw [hy5]; rfl) ?_
    show oS p e below s₁ m 7 #[lv x1, .second, lv x2, .second, iv x3, lv x4, .second, lv y5, .second, .unset, .unset, .unset, .unset, .unset, .unset, .unset] [] _
    refine XS.lload X0.here hx rfl (hb hby at_7) rfl ?_
    refine XS.lloadN X0.here hx rfl (hb hby at_9) rfl ?_
    refine XS.iload X0.here hx rfl (hb hby at_10) rfl ?_
    show oS p e below s₁ m 12 #[lv x1, .second, lv x2, .second, iv x3, lv x4, .second, lv y5, .second, .unset, .unset, .unset, .unset, .unset, .unset, .unset] [(.int x3), (.long x2), (.long y5)] _
    refine st1 _ ?_
    refine XS.lstore X1.here hx rfl (hb hby at_15) rfl (l' := #[lv x1, .second, lv x2, .second, iv x3, lv x4, .second, lv y5, .second, lv y15, .second, .unset, .unset, .unset, .unset, .unset]) (by rw [hy15]; rfl) ?_
    show oS p e below T1 m 17 #[lv x1, .second, lv x2, .second, iv x3, lv x4, .second, lv y5, .second, lv y15, .second, .unset, .unset, .unset, .unset, .unset] [] _
    refine st2 _ ?_
    refine XS.dup X2.here hx rfl (hb hby at_20) rfl rfl ?_
    refine XS.lload X2.here hx rfl (hb hby at_21) rfl ?_
    show oS p e below T2 m 23 #[lv x1, .second, lv x2, .second, iv x3, lv x4, .second, lv y5, .second, lv y15, .second, .unset, .unset, .unset, .unset, .unset] [(.long y5), (.ref b2), (.ref b2)] _
    refine st3.trans ?_
    refine XS.astore X3.here hx rfl (hb hby at_26) rfl rfl (l' := #[lv x1, .second, lv x2, .second, iv x3, lv x4, .second, lv y5, .second, lv y15, .second, rv b2, .unset, .unset, .unset, .unset]) rfl ?_
    refine XS.aload X3.here hx rfl (hb hby at_28) rfl rfl ?_
    refine XS.lload X3.here hx rfl (hb hby at_30) rfl ?_
    show oS p e below T3 m 32 #[lv x1, .second, lv x2, .second, iv x3, lv x4, .second, lv y5, .second, lv y15, .second, rv b2, .unset, .unset, .unset, .unset] [(.long y15), (.ref b2)] _
    refine st5.trans ?_
    refine XS.istore X5.here hx rfl (hb hby at_35) rfl (l' := #[lv x1, .second, lv x2, .second, iv x3, lv x4, .second, lv y5, .second, lv y15, .second, rv b2, iv y35, .unset, .unset, .unset]) (by rw [hy35]; rfl) ?_
    refine XS.aload X5.here hx rfl (hb hby at_37) rfl rfl ?_
    refine XS.lload X5.here hx rfl (hb hby at_39) rfl ?_
    show oS p e below T5 m 41 #[lv x1, .second, lv x2, .second, iv x3, lv x4, .second, lv y5, .second, lv y15, .second, rv b2, iv y35, .unset, .unset, .unset] [(.long y15), (.ref b2)] _
    refine st7.trans ?_
    refine XS.istore X7.here hx rfl (hb hby at_44) rfl (l' := #[lv x1, .second, lv x2, .second, iv x3, lv x4, .second, lv y5, .second, lv y15, .second, rv b2, iv y35, iv y44, .unset, .unset]) (by rw [hy44]; rfl) ?_
    refine XS.iload X7.here hx rfl (hb hby at_46) rfl ?_
    refine XS.lload X7.here hx rfl (hb hby at_48) rfl ?_
    show oS p e below T7 m 50 #[lv x1, .second, lv x2, .second, iv x3, lv x4, .second, lv y5, .second, lv y15, .second, rv b2, iv y35, iv y44, .unset, .unset] [(.long y15), (.int y35)] _
    refine XS.lload X7.here hx rfl (hb hby at_50) rfl ?_
    refine XS.lcmp X7.here hx rfl (hb hby at_52) rfl ?_
    exact kt
  obtain ⟨v70, T13, Lj13, jv13, N13, X13, e13, st13⟩ := own_join (α := Int32) X7 N7 eh7 (mkF m 53 #[lv x1, .second, lv x2, .second, iv x3, lv x4, .second, lv y5, .second, lv y15, .second, rv b2, iv y35, iv y44, .unset, .unset] [(.int (lcmpW y15 y5)), (.int y35)]) (fun v => (mkF m 70 #[lv x1, .second, lv x2, .second, iv x3, lv x4, .second, lv y5, .second, lv y15, .second, rv b2, iv y35, iv y44, .unset, .unset] [(.int v), (.int y35)])) (fun v => v = (if y15 < y5 then (0 : Int32) else (if y15 = (9223372036854775807 : Int64) then (0 : Int32) else (1 : Int32)))) (by
      by_cases hc53 : y15 < y5
      · have pre9 : ∀ tz, oS p e below T7 m 70 #[lv x1, .second, lv x2, .second, iv x3, lv x4, .second, lv y5, .second, lv y15, .second, rv b2, iv y35, iv y44, .unset, .unset] [(.int (0 : Int32)), (.int y35)] tz → oS p e below T7 m 53 #[lv x1, .second, lv x2, .second, iv x3, lv x4, .second, lv y5, .second, lv y15, .second, rv b2, iv y35, iv y44, .unset, .unset] [(.int (lcmpW y15 y5)), (.int y35)] tz := fun tz kt => by
          show oS p e below T7 m 53 #[lv x1, .second, lv x2, .second, iv x3, lv x4, .second, lv y5, .second, lv y15, .second, rv b2, iv y35, iv y44, .unset, .unset] [(.int (lcmpW y15 y5)), (.int y35)] _
          refine XS.ifYes X7.here hx rfl (pc0 := 53) (pc' := 69) rfl (hb hby at_53) rfl ((if0 _ _).trans (tlt ((lw_lt y15 y5).mpr hc53)).1) (by decide) (by decide) ?_
          refine XS.iconst X7.here hx rfl (hb hby at_69) ?_
          exact kt
        exact ⟨(0 : Int32), T7, _, (by rw [if_pos hc53]), N7, X7, eh7, fun tz kt => (pre9 _ kt)⟩
      · have pre10 : ∀ tz, oS p e below T7 m 62 #[lv x1, .second, lv x2, .second, iv x3, lv x4, .second, lv y5, .second, lv y15, .second, rv b2, iv y35, iv y44, .unset, .unset] [(.int (lcmpW y15 (9223372036854775807 : Int64))), (.int y35)] tz → oS p e below T7 m 53 #[lv x1, .second, lv x2, .second, iv x3, lv x4, .second, lv y5, .second, lv y15, .second, rv b2, iv y35, iv y44, .unset, .unset] [(.int (lcmpW y15 y5)), (.int y35)] tz := fun tz kt => by
          show oS p e below T7 m 53 #[lv x1, .second, lv x2, .second, iv x3, lv x4, .second, lv y5, .second, lv y15, .second, rv b2, iv y35, iv y44, .unset, .unset] [(.int (lcmpW y15 y5)), (.int y35)] _
          refine XS.ifNo X7.here hx rfl (hb hby at_53) rfl ((if0 _ _).trans (flt (fun q => hc53 ((lw_lt y15 y5).mp q))).1) ?_
          refine XS.lload X7.here hx rfl (hb hby at_56) rfl ?_
          refine X7.ldc2Long hx hown (mvT hZ (own_w hw 0 rfl)) (g := (mkF m 58 #[lv x1, .second, lv x2, .second, iv x3, lv x4, .second, lv y5, .second, lv y15, .second, rv b2, iv y35, iv y44, .unset, .unset] [(.long y15), (.int y35)])) rfl (hb hby at_58) _ ?_
          refine XS.lcmp X7.here hx rfl (hb hby at_61) rfl ?_
          exact kt
        by_cases hc62 : y15 = (9223372036854775807 : Int64)
        · have pre11 : ∀ tz, oS p e below T7 m 70 #[lv x1, .second, lv x2, .second, iv x3, lv x4, .second, lv y5, .second, lv y15, .second, rv b2, iv y35, iv y44, .unset, .unset] [(.int (0 : Int32)), (.int y35)] tz → oS p e below T7 m 62 #[lv x1, .second, lv x2, .second, iv x3, lv x4, .second, lv y5, .second, lv y15, .second, rv b2, iv y35, iv y44, .unset, .unset] [(.int (lcmpW y15 (9223372036854775807 : Int64))), (.int y35)] tz := fun tz kt => by
            show oS p e below T7 m 62 #[lv x1, .second, lv x2, .second, iv x3, lv x4, .second, lv y5, .second, lv y15, .second, rv b2, iv y35, iv y44, .unset, .unset] [(.int (lcmpW y15 (9223372036854775807 : Int64))), (.int y35)] _
            refine XS.ifYes X7.here hx rfl (pc0 := 62) (pc' := 69) rfl (hb hby at_62) rfl ((if0 _ _).trans (teq ((lw_eq y15 (9223372036854775807 : Int64)).mpr hc62)).1) (by decide) (by decide) ?_
            refine XS.iconst X7.here hx rfl (hb hby at_69) ?_
            exact kt
          exact ⟨(0 : Int32), T7, _, (by rw [if_neg hc53, if_pos hc62]), N7, X7, eh7, fun tz kt => (pre10 _ (pre11 _ kt))⟩
        · have pre12 : ∀ tz, oS p e below T7 m 70 #[lv x1, .second, lv x2, .second, iv x3, lv x4, .second, lv y5, .second, lv y15, .second, rv b2, iv y35, iv y44, .unset, .unset] [(.int (1 : Int32)), (.int y35)] tz → oS p e below T7 m 62 #[lv x1, .second, lv x2, .second, iv x3, lv x4, .second, lv y5, .second, lv y15, .second, rv b2, iv y35, iv y44, .unset, .unset] [(.int (lcmpW y15 (9223372036854775807 : Int64))), (.int y35)] tz := fun tz kt => by
            show oS p e below T7 m 62 #[lv x1, .second, lv x2, .second, iv x3, lv x4, .second, lv y5, .second, lv y15, .second, rv b2, iv y35, iv y44, .unset, .unset] [(.int (lcmpW y15 (9223372036854775807 : Int64))), (.int y35)] _
            refine XS.ifNo X7.here hx rfl (hb hby at_62) rfl ((if0 _ _).trans (feq (fun q => hc62 ((lw_eq y15 (9223372036854775807 : Int64)).mp q))).1) ?_
            refine XS.iconst X7.here hx rfl (hb hby at_65) ?_
            refine XS.goto X7.here hx rfl (pc0 := 66) (pc' := 70) rfl (hb hby at_66) (by decide) (by decide) ?_
            exact kt
          exact ⟨(1 : Int32), T7, _, (by rw [if_neg hc53, if_neg hc62]), N7, X7, eh7, fun tz kt => (pre10 _ (pre12 _ kt))⟩)
  have hv70 : v70 = (if y15 < y5 then (0 : Int32) else (if y15 = (9223372036854775807 : Int64) then (0 : Int32) else (1 : Int32))) := jv13
  have hc70 : y35 = v70 := Classical.byContradiction fun hc70 => by
    exact hc70 ((hy35.trans (own_A1 _ _)).trans hv70.symm)
  have pre14 : ∀ tz, oS p e below T13 m 84 #[lv x1, .second, lv x2, .second, iv x3, lv x4, .second, lv y5, .second, lv y15, .second, rv b2, iv y35, iv y44, iv (1 : Int32), .unset] [(.int (lcmpW y15 (0 : Int64)))] tz → oS p e below T7 m 53 #[lv x1, .second, lv x2, .second, iv x3, lv x4, .second, lv y5, .second, lv y15, .second, rv b2, iv y35, iv y44, .unset, .unset] [(.int (lcmpW y15 y5)), (.int y35)] tz := fun tz kt => by
    show oS p e below T7 m 53 #[lv x1, .second, lv x2, .second, iv x3, lv x4, .second, lv y5, .second, lv y15, .second, rv b2, iv y35, iv y44, .unset, .unset] [(.int (lcmpW y15 y5)), (.int y35)] _
    refine st13 _ ?_
    refine XS.icmpNo X13.here hx rfl (hb hby at_70) rfl (teq hc70).2 ?_
    refine XS.iconst X13.here hx rfl (hb hby at_73) ?_
    refine XS.goto X13.here hx rfl (pc0 := 74) (pc' := 78) rfl (hb hby at_74) (by decide) (by decide) ?_
    show oS p e below T13 m 78 #[lv x1, .second, lv x2, .second, iv x3, lv x4, .second, lv y5, .second, lv y15, .second, rv b2, iv y35, iv y44, .unset, .unset] [(.int (1 : Int32))] _
    refine XS.istore X13.here hx rfl (hb hby at_78) rfl (l' := #[lv x1, .second, lv x2, .second, iv x3, lv x4, .second, lv y5, .second, lv y15, .second, rv b2, iv y35, iv y44, iv (1 : Int32), .unset]) rfl ?_
    refine XS.lload X13.here hx rfl (hb hby at_80) rfl ?_
    refine XS.lconst X13.here hx rfl (hb hby at_82) ?_
    refine XS.lcmp X13.here hx rfl (hb hby at_83) rfl ?_
    exact kt
  obtain ⟨_, T19, Lj19, jv19, N19, X19, e19, st19⟩ := own_join (α := Unit) X13 N13 e13 (mkF m 84 #[lv x1, .second, lv x2, .second, iv x3, lv x4, .second, lv y5, .second, lv y15, .second, rv b2, iv y35, iv y44, iv (1 : Int32), .unset] [(.int (lcmpW y15 (0 : Int64)))]) (fun _ => (mkF m 140 #[lv x1, .second, lv x2, .second, iv x3, lv x4, .second, lv y5, .second, lv y15, .second, rv b2, iv y35, iv y44, iv (1 : Int32), .unset] [])) (fun _ => True) (by
      by_cases hc84 : y15 < (0 : Int64)
      · have hc103 : y35 = (0 : Int32) := Classical.byContradiction fun hc103 => by
          exact hc103 (hy35.trans (by first | exact (own_A2 _ _ (by rw [hy5]; exact own_nn _) hc84).1 | exact (own_A3 _ _ hc93).1))
        have hc108 : y44 = (0 : Int32) := Classical.byContradiction fun hc108 => by
          exact hc108 (hy44.trans (by first | exact (own_A2 _ _ (by rw [hy5]; exact own_nn _) hc84).2 | exact (own_A3 _ y5 hc93).2))
        have pre15 : ∀ tz, oS p e below T13 m 140 #[lv x1, .second, lv x2, .second, iv x3, lv x4, .second, lv y5, .second, lv y15, .second, rv b2, iv y35, iv y44, iv (1 : Int32), .unset] [] tz → oS p e below T13 m 84 #[lv x1, .second, lv x2, .second, iv x3, lv x4, .second, lv y5, .second, lv y15, .second, rv b2, iv y35, iv y44, iv (1 : Int32), .unset] [(.int (lcmpW y15 (0 : Int64)))] tz := fun tz kt => by
          show oS p e below T13 m 84 #[lv x1, .second, lv x2, .second, iv x3, lv x4, .second, lv y5, .second, lv y15, .second, rv b2, iv y35, iv y44, iv (1 : Int32), .unset] [(.int (lcmpW y15 (0 : Int64)))] _
          refine XS.ifYes X13.here hx rfl (pc0 := 84) (pc' := 96) rfl (hb hby at_84) rfl ((if0 _ _).trans (tlt ((lw_lt y15 (0 : Int64)).mpr hc84)).1) (by decide) (by decide) ?_
          refine XS.iload X13.here hx rfl (hb hby at_96) rfl ?_
          refine XS.ifNo X13.here hx rfl (hb hby at_98) rfl ((if0 _ _).trans (feq (by decide : ¬ ((1 : Int32) = (0 : Int32)))).1) ?_
          refine XS.iload X13.here hx rfl (hb hby at_101) rfl ?_
          show oS p e below T13 m 103 #[lv x1, .second, lv x2, .second, iv x3, lv x4, .second, lv y5, .second, lv y15, .second, rv b2, iv y35, iv y44, iv (1 : Int32), .unset] [(.int y35)] _
          refine XS.ifNo X13.here hx rfl (hb hby at_103) rfl ((if0 _ _).trans (teq hc103).2) ?_
          refine XS.iload X13.here hx rfl (hb hby at_106) rfl ?_
          refine XS.ifNo X13.here hx rfl (hb hby at_108) rfl ((if0 _ _).trans (teq hc108).2) ?_
          refine XS.iconst X13.here hx rfl (hb hby at_111) ?_
          show oS p e below T13 m 112 #[lv x1, .second, lv x2, .second, iv x3, lv x4, .second, lv y5, .second, lv y15, .second, rv b2, iv y35, iv y44, iv (1 : Int32), .unset] [(.int (1 : Int32))] _
          refine XS.goto X13.here hx rfl (pc0 := 112) (pc' := 116) rfl (hb hby at_112) (by decide) (by decide) ?_
          refine XS.istore X13.here hx rfl (hb hby at_116) rfl (l' := #[lv x1, .second, lv x2, .second, iv x3, lv x4, .second, lv y5, .second, lv y15, .second, rv b2, iv y35, iv y44, iv (1 : Int32), .unset]) rfl ?_
          refine XS.goto X13.here hx rfl (pc0 := 118) (pc' := 140) rfl (hb hby at_118) (by decide) (by decide) ?_
          exact kt
        exact ⟨(), T13, _, trivial, N13, X13, e13, fun tz kt => (pre15 _ kt)⟩
      · have pre16 : ∀ tz, oS p e below T13 m 93 #[lv x1, .second, lv x2, .second, iv x3, lv x4, .second, lv y5, .second, lv y15, .second, rv b2, iv y35, iv y44, iv (1 : Int32), .unset] [(.int (lcmpW y15 (9223372036854775807 : Int64)))] tz → oS p e below T13 m 84 #[lv x1, .second, lv x2, .second, iv x3, lv x4, .second, lv y5, .second, lv y15, .second, rv b2, iv y35, iv y44, iv (1 : Int32), .unset] [(.int (lcmpW y15 (0 : Int64)))] tz := fun tz kt => by
          show oS p e below T13 m 84 #[lv x1, .second, lv x2, .second, iv x3, lv x4, .second, lv y5, .second, lv y15, .second, rv b2, iv y35, iv y44, iv (1 : Int32), .unset] [(.int (lcmpW y15 (0 : Int64)))] _
          refine XS.ifNo X13.here hx rfl (hb hby at_84) rfl ((if0 _ _).trans (flt (fun q => hc84 ((lw_lt y15 (0 : Int64)).mp q))).1) ?_
          refine XS.lload X13.here hx rfl (hb hby at_87) rfl ?_
          refine X13.ldc2Long hx hown (mvT hZ (own_w hw 0 rfl)) (g := (mkF m 89 #[lv x1, .second, lv x2, .second, iv x3, lv x4, .second, lv y5, .second, lv y15, .second, rv b2, iv y35, iv y44, iv (1 : Int32), .unset] [(.long y15)])) rfl (hb hby at_89) _ ?_
          refine XS.lcmp X13.here hx rfl (hb hby at_92) rfl ?_
          exact kt
        by_cases hc93 : y15 = (9223372036854775807 : Int64)
        · have hc103 : y35 = (0 : Int32) := Classical.byContradiction fun hc103 => by
            exact hc103 (hy35.trans (by first | exact (own_A2 _ _ (by rw [hy5]; exact own_nn _) hc84).1 | exact (own_A3 _ _ hc93).1))
          have hc108 : y44 = (0 : Int32) := Classical.byContradiction fun hc108 => by
            exact hc108 (hy44.trans (by first | exact (own_A2 _ _ (by rw [hy5]; exact own_nn _) hc84).2 | exact (own_A3 _ y5 hc93).2))
          have pre17 : ∀ tz, oS p e below T13 m 140 #[lv x1, .second, lv x2, .second, iv x3, lv x4, .second, lv y5, .second, lv y15, .second, rv b2, iv y35, iv y44, iv (1 : Int32), .unset] [] tz → oS p e below T13 m 93 #[lv x1, .second, lv x2, .second, iv x3, lv x4, .second, lv y5, .second, lv y15, .second, rv b2, iv y35, iv y44, iv (1 : Int32), .unset] [(.int (lcmpW y15 (9223372036854775807 : Int64)))] tz := fun tz kt => by
            show oS p e below T13 m 93 #[lv x1, .second, lv x2, .second, iv x3, lv x4, .second, lv y5, .second, lv y15, .second, rv b2, iv y35, iv y44, iv (1 : Int32), .unset] [(.int (lcmpW y15 (9223372036854775807 : Int64)))] _
            refine XS.ifNo X13.here hx rfl (hb hby at_93) rfl ((if0 _ _).trans (teq ((lw_eq y15 (9223372036854775807 : Int64)).mpr hc93)).2) ?_
            refine XS.iload X13.here hx rfl (hb hby at_96) rfl ?_
            refine XS.ifNo X13.here hx rfl (hb hby at_98) rfl ((if0 _ _).trans (feq (by decide : ¬ ((1 : Int32) = (0 : Int32)))).1) ?_
            refine XS.iload X13.here hx rfl (hb hby at_101) rfl ?_
            show oS p e below T13 m 103 #[lv x1, .second, lv x2, .second, iv x3, lv x4, .second, lv y5, .second, lv y15, .second, rv b2, iv y35, iv y44, iv (1 : Int32), .unset] [(.int y35)] _
            refine XS.ifNo X13.here hx rfl (hb hby at_103) rfl ((if0 _ _).trans (teq hc103).2) ?_
            refine XS.iload X13.here hx rfl (hb hby at_106) rfl ?_
            refine XS.ifNo X13.here hx rfl (hb hby at_108) rfl ((if0 _ _).trans (teq hc108).2) ?_
            refine XS.iconst X13.here hx rfl (hb hby at_111) ?_
            show oS p e below T13 m 112 #[lv x1, .second, lv x2, .second, iv x3, lv x4, .second, lv y5, .second, lv y15, .second, rv b2, iv y35, iv y44, iv (1 : Int32), .unset] [(.int (1 : Int32))] _
            refine XS.goto X13.here hx rfl (pc0 := 112) (pc' := 116) rfl (hb hby at_112) (by decide) (by decide) ?_
            refine XS.istore X13.here hx rfl (hb hby at_116) rfl (l' := #[lv x1, .second, lv x2, .second, iv x3, lv x4, .second, lv y5, .second, lv y15, .second, rv b2, iv y35, iv y44, iv (1 : Int32), .unset]) rfl ?_
            refine XS.goto X13.here hx rfl (pc0 := 118) (pc' := 140) rfl (hb hby at_118) (by decide) (by decide) ?_
            exact kt
          exact ⟨(), T13, _, trivial, N13, X13, e13, fun tz kt => (pre16 _ (pre17 _ kt))⟩
        · have hc130 : ¬ (y35 = y44) := id fun hc130 => by
            rw [hy35, hy44] at hc130; exact own_A4 _ _ hc84 hc93 hc130
          have pre18 : ∀ tz, oS p e below T13 m 140 #[lv x1, .second, lv x2, .second, iv x3, lv x4, .second, lv y5, .second, lv y15, .second, rv b2, iv y35, iv y44, iv (1 : Int32), .unset] [] tz → oS p e below T13 m 93 #[lv x1, .second, lv x2, .second, iv x3, lv x4, .second, lv y5, .second, lv y15, .second, rv b2, iv y35, iv y44, iv (1 : Int32), .unset] [(.int (lcmpW y15 (9223372036854775807 : Int64)))] tz := fun tz kt => by
            show oS p e below T13 m 93 #[lv x1, .second, lv x2, .second, iv x3, lv x4, .second, lv y5, .second, lv y15, .second, rv b2, iv y35, iv y44, iv (1 : Int32), .unset] [(.int (lcmpW y15 (9223372036854775807 : Int64)))] _
            refine XS.ifYes X13.here hx rfl (pc0 := 93) (pc' := 121) rfl (hb hby at_93) rfl ((if0 _ _).trans (feq (fun q => hc93 ((lw_eq y15 (9223372036854775807 : Int64)).mp q))).2) (by decide) (by decide) ?_
            refine XS.iload X13.here hx rfl (hb hby at_121) rfl ?_
            refine XS.ifNo X13.here hx rfl (hb hby at_123) rfl ((if0 _ _).trans (feq (by decide : ¬ ((1 : Int32) = (0 : Int32)))).1) ?_
            refine XS.iload X13.here hx rfl (hb hby at_126) rfl ?_
            show oS p e below T13 m 128 #[lv x1, .second, lv x2, .second, iv x3, lv x4, .second, lv y5, .second, lv y15, .second, rv b2, iv y35, iv y44, iv (1 : Int32), .unset] [(.int y35)] _
            refine XS.iload X13.here hx rfl (hb hby at_128) rfl ?_
            refine XS.icmpNo X13.here hx rfl (hb hby at_130) rfl (feq hc130).1 ?_
            refine XS.iconst X13.here hx rfl (hb hby at_133) ?_
            refine XS.goto X13.here hx rfl (pc0 := 134) (pc' := 138) rfl (hb hby at_134) (by decide) (by decide) ?_
            show oS p e below T13 m 138 #[lv x1, .second, lv x2, .second, iv x3, lv x4, .second, lv y5, .second, lv y15, .second, rv b2, iv y35, iv y44, iv (1 : Int32), .unset] [(.int (1 : Int32))] _
            refine XS.istore X13.here hx rfl (hb hby at_138) rfl (l' := #[lv x1, .second, lv x2, .second, iv x3, lv x4, .second, lv y5, .second, lv y15, .second, rv b2, iv y35, iv y44, iv (1 : Int32), .unset]) rfl ?_
            exact kt
          exact ⟨(), T13, _, trivial, N13, X13, e13, fun tz kt => (pre16 _ (pre18 _ kt))⟩)
  have pre20 : ∀ tz, oS p e below T19 m 142 #[lv x1, .second, lv x2, .second, iv x3, lv x4, .second, lv y5, .second, lv y15, .second, rv b2, iv y35, iv y44, iv (1 : Int32), .unset] [(.int y35)] tz → oS p e below T13 m 84 #[lv x1, .second, lv x2, .second, iv x3, lv x4, .second, lv y5, .second, lv y15, .second, rv b2, iv y35, iv y44, iv (1 : Int32), .unset] [(.int (lcmpW y15 (0 : Int64)))] tz := fun tz kt => by
    show oS p e below T13 m 84 #[lv x1, .second, lv x2, .second, iv x3, lv x4, .second, lv y5, .second, lv y15, .second, rv b2, iv y35, iv y44, iv (1 : Int32), .unset] [(.int (lcmpW y15 (0 : Int64)))] _
    refine st19 _ ?_
    refine XS.iload X19.here hx rfl (hb hby at_140) rfl ?_
    exact kt
  by_cases hc142 : y35 = (0 : Int32)
  · have pre21 : ∀ tz, oS p e below T19 m 224 #[lv x1, .second, lv x2, .second, iv x3, lv x4, .second, lv y5, .second, lv y15, .second, rv b2, iv y35, iv y44, iv (1 : Int32), .unset] [(.int (1 : Int32))] tz → oS p e below T19 m 142 #[lv x1, .second, lv x2, .second, iv x3, lv x4, .second, lv y5, .second, lv y15, .second, rv b2, iv y35, iv y44, iv (1 : Int32), .unset] [(.int y35)] tz := fun tz kt => by
      show oS p e below T19 m 142 #[lv x1, .second, lv x2, .second, iv x3, lv x4, .second, lv y5, .second, lv y15, .second, rv b2, iv y35, iv y44, iv (1 : Int32), .unset] [(.int y35)] _
      refine XS.ifYes X19.here hx rfl (pc0 := 142) (pc' := 222) rfl (hb hby at_142) rfl ((if0 _ _).trans (teq hc142).1) (by decide) (by decide) ?_
      refine XS.iload X19.here hx rfl (hb hby at_222) rfl ?_
      exact kt
    obtain ⟨fs, hr, hrun, hended, hW, hsame⟩ := X19.leave (v := some (.int (1 : Int32))) (fun h => by rw [Bd.returns] at h; cases h)
    refine ⟨_, _, pre0 _ (pre8 _ (pre14 _ (pre20 _ (pre21 _ ?_)))), hrun, hended, _, _, rfl, ?_, ⟨_, rfl⟩, hW, hsame.mono (by decide) (by decide)⟩
    · show oS p e below T19 m 224 #[lv x1, .second, lv x2, .second, iv x3, lv x4, .second, lv y5, .second, lv y15, .second, rv b2, iv y35, iv y44, iv (1 : Int32), .unset] [(.int (1 : Int32))] _
      exact retN X19 hx (t := .boolean) Bd.returns (by simp) (hb hby at_224) hr
    · show Q0 Z x1 x2 x3 x4 h0 n0 _ T19.heap _
      rw [e19]
      exact ⟨rfl, N19⟩
  · have hp22_h1 : ¬ ((y15 + (1 : Int64)) < (0 : Int64)) := (own_A6 _ (own_A5 _ _ (by rw [hy5]; exact own_nn _) (fun q => hc142 (hy35.trans q)))).1
    obtain ⟨cq22, kq22, q22a, q22b, q22c⟩ := isOf hZ e19 pf3_0
    obtain ⟨_, _, ⟨T22, Lw22, kw22, nw22⟩, -, X22, ⟨Lc22, hQ22, l22, y22, z22⟩, st22⟩ := X19.virtualBack hx (y := (⟨"com/example/ostiarius/ostiarius/MovingFactor$Counter", "accepted", "(JJ)Lcom/example/ostiarius/ostiarius/MovingFactor;"⟩ : MethodName)) (z := (⟨"com/example/ostiarius/ostiarius/MovingFactor$Counter", "accepted", "(JJ)Lcom/example/ostiarius/ostiarius/MovingFactor;"⟩ : MethodName)) hown (mvT hZ (own_w hw 33 rfl)) (mvT hZ (own_w hw 34 rfl)) (notFace_of_selects (args := #[]) (mvT hZ (own_w hw 36 rfl))) (mvT hZ (own_w hw 36 rfl)) (mvT hZ (own_w hw 35 rfl)) (by decide) (backOf (W := 0) (rm7 l Z a0 hw [] b2 y15 x4 T3.heap n0 Zc6 hp22_h1) hZ (own_w hw 37 rfl) (own_w hw 7 rfl) (by decide) (by decide)) q22a q22c (g := (mkF m 151 #[lv x1, .second, lv x2, .second, iv x3, lv x4, .second, lv y5, .second, lv y15, .second, rv b2, iv y35, iv y44, iv (1 : Int32), .unset] [(.long x4), (.long y15), (.ref b2)])) rfl (by rw [hml]; rfl) (Steps.refl _) (argsL := [(.long y15), (.long x4)]) (rest := []) (lenOf own_pd4 rfl) rfl (by show 2 * 0 + _ ≤ _; exact Nat.le_of_eq rfl) (hb hby at_151) (fun _ _ => ⟨rfl, e19, (by decide : 1 + 1 ≤ _), (by decide : 1 + 1 ≤ _)⟩)
    dsimp only [Pt.U, Pt.locs, Pt.cells, Pt.slots] at X22 l22 y22 z22 st22 hQ22
    subst l22 y22 z22
    obtain ⟨b22, rfl, Nq22, K22, pf22_0, pf22_1, pf22_2, pf22_3⟩ := hQ22
    have N22 := Fr.app N19 Nq22
    have ne_b2_b22 : b2 ≠ b22 := Nat.ne_of_lt (Nat.lt_of_lt_of_le pf3_0.lt pf22_0)
    have Zc24 : n0 ≤ T22.heap.size := (Nat.le_trans Zc6 K22.1)
    obtain ⟨cq23, kq23, q23a, q23b, q23c⟩ := isOf hZ rfl pf22_2
    obtain ⟨_, _, ⟨T23, Lw23, kw23, nw23⟩, -, X23, ⟨Lc23, hQ23, l23, y23, z23⟩, st23⟩ := X22.interfaceBack hx (xi := (⟨"com/example/ostiarius/ostiarius/MovingFactor", "unused", "(J)Z"⟩ : MethodName)) (y := (⟨"com/example/ostiarius/ostiarius/MovingFactor$Counter", "unused", "(J)Z"⟩ : MethodName)) hown (mvT hZ (own_w hw 40 rfl)) (mvT hZ (own_w hw 41 rfl)) (mvT hZ (own_w hw 42 rfl)) (mvT hZ (own_w hw 43 rfl)) (mvT hZ (own_w hw 23 rfl)) (mvT hZ (own_w hw 44 rfl)) (mvT hZ (own_w hw 45 rfl)) (mvT hZ (own_w hw 46 rfl)) (by decide) (backOf (W := 0) (rm5 l Z a0 hw [] b22 y15 (y15 + (1 : Int64)) T22.heap n0 Zc24 pf22_3) hZ (own_w hw 25 rfl) (own_w hw 7 rfl) (by decide) (by decide)) q23a q23b q23c (g := (mkF m 165 #[lv x1, .second, lv x2, .second, iv x3, lv x4, .second, lv y5, .second, lv y15, .second, rv b2, iv y35, iv y44, iv (1 : Int32), rv b22] [(.long y15), (.ref b22)])) rfl (by rw [hml]; rfl) (Steps.refl _) (argsL := [(.long y15)]) (rest := []) (lenOf own_pd3 rfl) rfl (by show 2 * 0 + _ ≤ _; exact Nat.le_of_eq rfl) (hb hby at_165) (fun _ _ => ⟨rfl, rfl, (by decide : 2 + 0 ≤ _), (by decide : 2 + 0 ≤ _)⟩)
    dsimp only [Pt.U, Pt.locs, Pt.cells, Pt.slots] at X23 l23 y23 z23 st23 hQ23
    subst l23 y23 z23
    obtain ⟨rfl, Nq23, eh23⟩ := hQ23
    have N23 := Fr.app N22 Nq23
    have hc170 : (if y15 < (y15 + (1 : Int64)) then (0 : Int32) else (if y15 < (9223372036854775807 : Int64) then (1 : Int32) else (0 : Int32))) = (0 : Int32) := Classical.byContradiction fun hc170 => by
      exact hc170 (if_pos (own_A6 _ (own_A5 _ _ (by rw [hy5]; exact own_nn _) (fun q => hc142 (hy35.trans q)))).2)
    obtain ⟨cq25, kq25, q25a, q25b, q25c⟩ := isOf hZ eh23 pf22_2
    obtain ⟨_, _, ⟨T25, Lw25, kw25, nw25⟩, -, X25, ⟨Lc25, hQ25, l25, y25, z25⟩, st25⟩ := X23.interfaceBack hx (xi := (⟨"com/example/ostiarius/ostiarius/MovingFactor", "unused", "(J)Z"⟩ : MethodName)) (y := (⟨"com/example/ostiarius/ostiarius/MovingFactor$Counter", "unused", "(J)Z"⟩ : MethodName)) hown (mvT hZ (own_w hw 40 rfl)) (mvT hZ (own_w hw 41 rfl)) (mvT hZ (own_w hw 42 rfl)) (mvT hZ (own_w hw 43 rfl)) (mvT hZ (own_w hw 23 rfl)) (mvT hZ (own_w hw 44 rfl)) (mvT hZ (own_w hw 45 rfl)) (mvT hZ (own_w hw 46 rfl)) (by decide) (backOf (W := 0) (rm5 l Z a0 hw [] b22 (y15 + (1 : Int64)) (y15 + (1 : Int64)) T22.heap n0 Zc24 pf22_3) hZ (own_w hw 25 rfl) (own_w hw 7 rfl) (by decide) (by decide)) q25a q25b q25c (g := (mkF m 191 #[lv x1, .second, lv x2, .second, iv x3, lv x4, .second, lv y5, .second, lv y15, .second, rv b2, iv y35, iv y44, iv (1 : Int32), rv b22] [(.long (y15 + (1 : Int64))), (.ref b22)])) rfl (by rw [hml]; rfl) (Steps.refl _) (argsL := [(.long (y15 + (1 : Int64)))]) (rest := []) (lenOf own_pd3 rfl) rfl (by show 2 * 0 + _ ≤ _; exact Nat.le_of_eq rfl) (hb hby at_191) (fun _ _ => ⟨rfl, eh23, (by decide : 2 + 0 ≤ _), (by decide : 2 + 0 ≤ _)⟩)
    dsimp only [Pt.U, Pt.locs, Pt.cells, Pt.slots] at X25 l25 y25 z25 st25 hQ25
    subst l25 y25 z25
    obtain ⟨rfl, Nq25, eh25⟩ := hQ25
    have N25 := Fr.app N23 Nq25
    have pre26 : ∀ tz, oS p e below T25 m 204 #[lv x1, .second, lv x2, .second, iv x3, lv x4, .second, lv y5, .second, lv y15, .second, rv b2, iv y35, iv y44, iv (1 : Int32), rv b22] [(.int (lcmpW (y15 + (1 : Int64)) (9223372036854775807 : Int64))), (.int (if (y15 + (1 : Int64)) < (y15 + (1 : Int64)) then (0 : Int32) else (if (y15 + (1 : Int64)) < (9223372036854775807 : Int64) then (1 : Int32) else (0 : Int32))))] tz → oS p e below T19 m 142 #[lv x1, .second, lv x2, .second, iv x3, lv x4, .second, lv y5, .second, lv y15, .second, rv b2, iv y35, iv y44, iv (1 : Int32), .unset] [(.int y35)] tz := fun tz kt => by
      show oS p e below T19 m 142 #[lv x1, .second, lv x2, .second, iv x3, lv x4, .second, lv y5, .second, lv y15, .second, rv b2, iv y35, iv y44, iv (1 : Int32), .unset] [(.int y35)] _
      refine XS.ifNo X19.here hx rfl (hb hby at_142) rfl ((if0 _ _).trans (feq hc142).1) ?_
      refine XS.aload X19.here hx rfl (hb hby at_145) rfl rfl ?_
      refine XS.lload X19.here hx rfl (hb hby at_147) rfl ?_
      refine XS.lload X19.here hx rfl (hb hby at_149) rfl ?_
      show oS p e below T19 m 151 #[lv x1, .second, lv x2, .second, iv x3, lv x4, .second, lv y5, .second, lv y15, .second, rv b2, iv y35, iv y44, iv (1 : Int32), .unset] [(.long x4), (.long y15), (.ref b2)] _
      refine st22.trans ?_
      refine XS.astore X22.here hx rfl (hb hby at_154) rfl rfl (l' := #[lv x1, .second, lv x2, .second, iv x3, lv x4, .second, lv y5, .second, lv y15, .second, rv b2, iv y35, iv y44, iv (1 : Int32), rv b22]) rfl ?_
      refine XS.iload X22.here hx rfl (hb hby at_156) rfl ?_
      refine XS.ifNo X22.here hx rfl (hb hby at_158) rfl ((if0 _ _).trans (feq (by decide : ¬ ((1 : Int32) = (0 : Int32)))).1) ?_
      show oS p e below T22 m 161 #[lv x1, .second, lv x2, .second, iv x3, lv x4, .second, lv y5, .second, lv y15, .second, rv b2, iv y35, iv y44, iv (1 : Int32), rv b22] [] _
      refine XS.aload X22.here hx rfl (hb hby at_161) rfl rfl ?_
      refine XS.lload X22.here hx rfl (hb hby at_163) rfl ?_
      show oS p e below T22 m 165 #[lv x1, .second, lv x2, .second, iv x3, lv x4, .second, lv y5, .second, lv y15, .second, rv b2, iv y35, iv y44, iv (1 : Int32), rv b22] [(.long y15), (.ref b22)] _
      refine st23.trans ?_
      refine XS.ifNo X23.here hx rfl (hb hby at_170) rfl ((if0 _ _).trans (teq hc170).2) ?_
      refine XS.iconst X23.here hx rfl (hb hby at_173) ?_
      refine XS.goto X23.here hx rfl (pc0 := 174) (pc' := 178) rfl (hb hby at_174) (by decide) (by decide) ?_
      show oS p e below T23 m 178 #[lv x1, .second, lv x2, .second, iv x3, lv x4, .second, lv y5, .second, lv y15, .second, rv b2, iv y35, iv y44, iv (1 : Int32), rv b22] [(.int (1 : Int32))] _
      refine XS.istore X23.here hx rfl (hb hby at_178) rfl (l' := #[lv x1, .second, lv x2, .second, iv x3, lv x4, .second, lv y5, .second, lv y15, .second, rv b2, iv y35, iv y44, iv (1 : Int32), rv b22]) rfl ?_
      refine XS.iload X23.here hx rfl (hb hby at_180) rfl ?_
      refine XS.ifNo X23.here hx rfl (hb hby at_182) rfl ((if0 _ _).trans (feq (by decide : ¬ ((1 : Int32) = (0 : Int32)))).1) ?_
      refine XS.aload X23.here hx rfl (hb hby at_185) rfl rfl ?_
      show oS p e below T23 m 187 #[lv x1, .second, lv x2, .second, iv x3, lv x4, .second, lv y5, .second, lv y15, .second, rv b2, iv y35, iv y44, iv (1 : Int32), rv b22] [(.ref b22)] _
      refine XS.lload X23.here hx rfl (hb hby at_187) rfl ?_
      refine XS.lconst X23.here hx rfl (hb hby at_189) ?_
      refine XS.ladd X23.here hx rfl (hb hby at_190) rfl ?_
      show oS p e below T23 m 191 #[lv x1, .second, lv x2, .second, iv x3, lv x4, .second, lv y5, .second, lv y15, .second, rv b2, iv y35, iv y44, iv (1 : Int32), rv b22] [(.long (y15 + (1 : Int64))), (.ref b22)] _
      refine st25.trans ?_
      refine XS.lload X25.here hx rfl (hb hby at_196) rfl ?_
      refine XS.lconst X25.here hx rfl (hb hby at_198) ?_
      refine XS.ladd X25.here hx rfl (hb hby at_199) rfl ?_
      show oS p e below T25 m 200 #[lv x1, .second, lv x2, .second, iv x3, lv x4, .second, lv y5, .second, lv y15, .second, rv b2, iv y35, iv y44, iv (1 : Int32), rv b22] [(.long (y15 + (1 : Int64))), (.int (if (y15 + (1 : Int64)) < (y15 + (1 : Int64)) then (0 : Int32) else (if (y15 + (1 : Int64)) < (9223372036854775807 : Int64) then (1 : Int32) else (0 : Int32))))] _
      refine X25.ldc2Long hx hown (mvT hZ (own_w hw 0 rfl)) (g := (mkF m 200 #[lv x1, .second, lv x2, .second, iv x3, lv x4, .second, lv y5, .second, lv y15, .second, rv b2, iv y35, iv y44, iv (1 : Int32), rv b22] [(.long (y15 + (1 : Int64))), (.int (if (y15 + (1 : Int64)) < (y15 + (1 : Int64)) then (0 : Int32) else (if (y15 + (1 : Int64)) < (9223372036854775807 : Int64) then (1 : Int32) else (0 : Int32))))])) rfl (hb hby at_200) _ ?_
      refine XS.lcmp X25.here hx rfl (hb hby at_203) rfl ?_
      exact kt
    obtain ⟨v212, T29, Lj29, jv29, N29, X29, e29, st29⟩ := own_join (α := Int32) X25 N25 eh25 (mkF m 204 #[lv x1, .second, lv x2, .second, iv x3, lv x4, .second, lv y5, .second, lv y15, .second, rv b2, iv y35, iv y44, iv (1 : Int32), rv b22] [(.int (lcmpW (y15 + (1 : Int64)) (9223372036854775807 : Int64))), (.int (if (y15 + (1 : Int64)) < (y15 + (1 : Int64)) then (0 : Int32) else (if (y15 + (1 : Int64)) < (9223372036854775807 : Int64) then (1 : Int32) else (0 : Int32))))]) (fun v => (mkF m 212 #[lv x1, .second, lv x2, .second, iv x3, lv x4, .second, lv y5, .second, lv y15, .second, rv b2, iv y35, iv y44, iv (1 : Int32), rv b22] [(.int v), (.int (if (y15 + (1 : Int64)) < (y15 + (1 : Int64)) then (0 : Int32) else (if (y15 + (1 : Int64)) < (9223372036854775807 : Int64) then (1 : Int32) else (0 : Int32))))])) (fun v => v = (if (y15 + (1 : Int64)) = (9223372036854775807 : Int64) then (0 : Int32) else (1 : Int32))) (by
        by_cases hc204 : (y15 + (1 : Int64)) = (9223372036854775807 : Int64)
        · have pre27 : ∀ tz, oS p e below T25 m 212 #[lv x1, .second, lv x2, .second, iv x3, lv x4, .second, lv y5, .second, lv y15, .second, rv b2, iv y35, iv y44, iv (1 : Int32), rv b22] [(.int (0 : Int32)), (.int (if (y15 + (1 : Int64)) < (y15 + (1 : Int64)) then (0 : Int32) else (if (y15 + (1 : Int64)) < (9223372036854775807 : Int64) then (1 : Int32) else (0 : Int32))))] tz → oS p e below T25 m 204 #[lv x1, .second, lv x2, .second, iv x3, lv x4, .second, lv y5, .second, lv y15, .second, rv b2, iv y35, iv y44, iv (1 : Int32), rv b22] [(.int (lcmpW (y15 + (1 : Int64)) (9223372036854775807 : Int64))), (.int (if (y15 + (1 : Int64)) < (y15 + (1 : Int64)) then (0 : Int32) else (if (y15 + (1 : Int64)) < (9223372036854775807 : Int64) then (1 : Int32) else (0 : Int32))))] tz := fun tz kt => by
            show oS p e below T25 m 204 #[lv x1, .second, lv x2, .second, iv x3, lv x4, .second, lv y5, .second, lv y15, .second, rv b2, iv y35, iv y44, iv (1 : Int32), rv b22] [(.int (lcmpW (y15 + (1 : Int64)) (9223372036854775807 : Int64))), (.int (if (y15 + (1 : Int64)) < (y15 + (1 : Int64)) then (0 : Int32) else (if (y15 + (1 : Int64)) < (9223372036854775807 : Int64) then (1 : Int32) else (0 : Int32))))] _
            refine XS.ifYes X25.here hx rfl (pc0 := 204) (pc' := 211) rfl (hb hby at_204) rfl ((if0 _ _).trans (teq ((lw_eq (y15 + (1 : Int64)) (9223372036854775807 : Int64)).mpr hc204)).1) (by decide) (by decide) ?_
            refine XS.iconst X25.here hx rfl (hb hby at_211) ?_
            exact kt
          exact ⟨(0 : Int32), T25, _, (by rw [if_pos hc204]), N25, X25, eh25, fun tz kt => (pre27 _ kt)⟩
        · have pre28 : ∀ tz, oS p e below T25 m 212 #[lv x1, .second, lv x2, .second, iv x3, lv x4, .second, lv y5, .second, lv y15, .second, rv b2, iv y35, iv y44, iv (1 : Int32), rv b22] [(.int (1 : Int32)), (.int (if (y15 + (1 : Int64)) < (y15 + (1 : Int64)) then (0 : Int32) else (if (y15 + (1 : Int64)) < (9223372036854775807 : Int64) then (1 : Int32) else (0 : Int32))))] tz → oS p e below T25 m 204 #[lv x1, .second, lv x2, .second, iv x3, lv x4, .second, lv y5, .second, lv y15, .second, rv b2, iv y35, iv y44, iv (1 : Int32), rv b22] [(.int (lcmpW (y15 + (1 : Int64)) (9223372036854775807 : Int64))), (.int (if (y15 + (1 : Int64)) < (y15 + (1 : Int64)) then (0 : Int32) else (if (y15 + (1 : Int64)) < (9223372036854775807 : Int64) then (1 : Int32) else (0 : Int32))))] tz := fun tz kt => by
            show oS p e below T25 m 204 #[lv x1, .second, lv x2, .second, iv x3, lv x4, .second, lv y5, .second, lv y15, .second, rv b2, iv y35, iv y44, iv (1 : Int32), rv b22] [(.int (lcmpW (y15 + (1 : Int64)) (9223372036854775807 : Int64))), (.int (if (y15 + (1 : Int64)) < (y15 + (1 : Int64)) then (0 : Int32) else (if (y15 + (1 : Int64)) < (9223372036854775807 : Int64) then (1 : Int32) else (0 : Int32))))] _
            refine XS.ifNo X25.here hx rfl (hb hby at_204) rfl ((if0 _ _).trans (feq (fun q => hc204 ((lw_eq (y15 + (1 : Int64)) (9223372036854775807 : Int64)).mp q))).1) ?_
            refine XS.iconst X25.here hx rfl (hb hby at_207) ?_
            refine XS.goto X25.here hx rfl (pc0 := 208) (pc' := 212) rfl (hb hby at_208) (by decide) (by decide) ?_
            exact kt
          exact ⟨(1 : Int32), T25, _, (by rw [if_neg hc204]), N25, X25, eh25, fun tz kt => (pre28 _ kt)⟩)
    have hv212 : v212 = (if (y15 + (1 : Int64)) = (9223372036854775807 : Int64) then (0 : Int32) else (1 : Int32)) := jv29
    have hc212 : (if (y15 + (1 : Int64)) < (y15 + (1 : Int64)) then (0 : Int32) else (if (y15 + (1 : Int64)) < (9223372036854775807 : Int64) then (1 : Int32) else (0 : Int32))) = v212 := Classical.byContradiction fun hc212 => by
      exact hc212 ((own_A7 _).trans hv212.symm)
    have pre30 : ∀ tz, oS p e below T29 m 224 #[lv x1, .second, lv x2, .second, iv x3, lv x4, .second, lv y5, .second, lv y15, .second, rv b2, iv y35, iv y44, iv (1 : Int32), rv b22] [(.int (1 : Int32))] tz → oS p e below T25 m 204 #[lv x1, .second, lv x2, .second, iv x3, lv x4, .second, lv y5, .second, lv y15, .second, rv b2, iv y35, iv y44, iv (1 : Int32), rv b22] [(.int (lcmpW (y15 + (1 : Int64)) (9223372036854775807 : Int64))), (.int (if (y15 + (1 : Int64)) < (y15 + (1 : Int64)) then (0 : Int32) else (if (y15 + (1 : Int64)) < (9223372036854775807 : Int64) then (1 : Int32) else (0 : Int32))))] tz := fun tz kt => by
      show oS p e below T25 m 204 #[lv x1, .second, lv x2, .second, iv x3, lv x4, .second, lv y5, .second, lv y15, .second, rv b2, iv y35, iv y44, iv (1 : Int32), rv b22] [(.int (lcmpW (y15 + (1 : Int64)) (9223372036854775807 : Int64))), (.int (if (y15 + (1 : Int64)) < (y15 + (1 : Int64)) then (0 : Int32) else (if (y15 + (1 : Int64)) < (9223372036854775807 : Int64) then (1 : Int32) else (0 : Int32))))] _
      refine st29 _ ?_
      refine XS.icmpNo X29.here hx rfl (hb hby at_212) rfl (teq hc212).2 ?_
      refine XS.iconst X29.here hx rfl (hb hby at_215) ?_
      refine XS.goto X29.here hx rfl (pc0 := 216) (pc' := 220) rfl (hb hby at_216) (by decide) (by decide) ?_
      show oS p e below T29 m 220 #[lv x1, .second, lv x2, .second, iv x3, lv x4, .second, lv y5, .second, lv y15, .second, rv b2, iv y35, iv y44, iv (1 : Int32), rv b22] [(.int (1 : Int32))] _
      refine XS.istore X29.here hx rfl (hb hby at_220) rfl (l' := #[lv x1, .second, lv x2, .second, iv x3, lv x4, .second, lv y5, .second, lv y15, .second, rv b2, iv y35, iv y44, iv (1 : Int32), rv b22]) rfl ?_
      refine XS.iload X29.here hx rfl (hb hby at_222) rfl ?_
      exact kt
    obtain ⟨fs, hr, hrun, hended, hW, hsame⟩ := X29.leave (v := some (.int (1 : Int32))) (fun h => by rw [Bd.returns] at h; cases h)
    refine ⟨_, _, pre0 _ (pre8 _ (pre14 _ (pre20 _ (pre26 _ (pre30 _ ?_))))), hrun, hended, _, _, rfl, ?_, ⟨_, rfl⟩, hW, hsame.mono (by decide) (by decide)⟩
    · show oS p e below T29 m 224 #[lv x1, .second, lv x2, .second, iv x3, lv x4, .second, lv y5, .second, lv y15, .second, rv b2, iv y35, iv y44, iv (1 : Int32), rv b22] [(.int (1 : Int32))] _
      exact retN X29 hx (t := .boolean) Bd.returns (by simp) (hb hby at_224) hr
    · show Q0 Z x1 x2 x3 x4 h0 n0 _ T29.heap _
      rw [e29]
      exact ⟨rfl, N29⟩
set_option maxRecDepth 65536 in
set_option maxHeartbeats 40000000 in
theorem comes_1 {Post : Tables → Env → Array Value → State → Outcome → State → Prop} (hpost : ∀ tb e args s v u, (limb_1_1.after args s (.returned v) u = true ∧ limb_1_2.after args s (.returned v) u = true ∧ True) → FrameEnd s (.returned v) u (Jvm.fieldLocs frame_1_writes args s ++ Jvm.arrayLocs frame_1_arrays args s ++ Jvm.staticLocs frame_1_statics s) 16 128 → Post tb e args s (.returned v) u) :
    ArmFor flags0 classFile x code maxLocals ret World_1 tables_1 room_1 Calls_1 rest_1 Pre_1 Post := by
  intro l hfl _ _ p e ha hc hk s m args below hf hA hF happ hP
  obtain ⟨hcalls, hrest, hpre⟩ := hP
  obtain ⟨-, -, -, hnamed, -, -, -, hat⟩ := (Spec.applies_iff hf).mp happ
  obtain ⟨hg, hn⟩ := and_e (Cond.before_iff.mp (show (Jvm.Cond.and given_1 narrow_1).before args s = true from hpre))
  obtain ⟨gc, gr0⟩ := and_e hg
  obtain ⟨ga0, gr1⟩ := and_e gr0
  obtain ⟨ga1, gr2⟩ := and_e gr1
  obtain ⟨ga2, gr3⟩ := and_e gr2
  have ga3 := gr3
  obtain ⟨w0, w1, w2, w3, rfl⟩ : ∃ w0 w1 w2 w3 : Value, args = #[w0, w1, w2, w3] := by
    have hs : args.size = 4 := by simpa [Cond.value, given_1] using gc
    obtain ⟨L⟩ := args
    match L, hs with
    | [w0, w1, w2, w3], _ => exact ⟨w0, w1, w2, w3, rfl⟩
  have hw := fun d (hd : d ∈ tables_1) => atoms_spec (ws := Jvm.Cond.code x code maxLocals ret :: tables_1) hat d (List.mem_cons_of_mem _ hd)
  obtain ⟨i0, ei0⟩ := isL_v ga0
  obtain rfl : w0 = (.long i0) := Option.some.inj ei0
  obtain ⟨i1, ei1⟩ := isL_v ga1
  obtain rfl : w1 = (.long i1) := Option.some.inj ei1
  obtain ⟨i2, ei2⟩ := is_v ga2
  obtain rfl : w2 = (.int i2) := Option.some.inj ei2
  obtain ⟨i3, ei3⟩ := isL_v ga3
  obtain rfl : w3 = (.long i3) := Option.some.inj ei3
  obtain ⟨n, o, h1, h2, h3, _, L, rfl, ⟨rfl, N⟩, hq⟩ := rm0 l s _ hw tables_1 i0 i1 i2 i3 s.heap s.heap.size (Nat.le_refl _)  p e ha hc hk s m _ below hf ((Spec.applies_iff_loose hf).mp happ).1 ⟨rfl, State.Warmed39.refl s, rfl⟩ trivial
  refine ⟨n, _, h1, h2, h3, hpost _ _ _ _ _ _ ⟨Cond.after_iff.mpr rfl, Cond.after_iff.mpr (eq_i res_at (Term.int_eval (1)) rfl), trivial⟩ ⟨hq.1, hq.2.1, (hq.2.2.sift fun y hy => Or.inr (N y hy)).mono (by decide) (by decide)⟩⟩
theorem main_1_1 : Claimed_1_1 := comes_1 fun _ _ _ _ _ _ h hF => ⟨h.1, hF⟩
theorem main_1_2 : Claimed_1_2 := comes_1 fun _ _ _ _ _ _ h hF => ⟨h.2.1, hF⟩
end Jvm.Pilot.@@N@@
namespace Jvm.Pilot.@@N@@
open Jvm Jvm.ClassFile Sem Op Lib Jvm.Free Jvm.Stand Jvm.Pilot.@@N@@.Jvm.D
/-! MADE BY PROGRAM (witnessworld.py) out of the Statement's table words and the real class files: 11 classes; the members and pool entries that the words name. The judged class is class 1, her method 2. -/
namespace start1
open Jvm.ClassFile
def u (s : String) : CpInfo := .utf8 (stringToUtf16 s)
/-- a pool by its gaps: so many unusable entries, then the entry; so many at the end -/
def gap : Nat → List CpInfo → List CpInfo
  | 0, r => r
  | n + 1, r => .unusable :: gap n r
def poolList (es : List (Nat × CpInfo)) (last : Nat) : List CpInfo := es.foldr (fun e r => gap e.1 (e.2 :: r)) (gap last [])
def pool (es : List (Nat × CpInfo)) (last : Nat) : Array CpInfo := ⟨poolList es last⟩
def fileOf (pool : Array CpInfo) (this : Nat) (attrs : Array Attribute := #[]) (ms : Array MethodInfo := #[]) (fl : Nat := 33) (sup : Nat := 0) (ifs : Array Nat := #[]) (fds : Array FieldInfo := #[]) : ClassFile where
  minorVersion := 0
  majorVersion := 65
  constantPool := pool
  accessFlags := fl
  thisClass := this
  superClass := sup
  interfaces := ifs
  fields := fds
  methods := ms
  attributes := attrs
def plain (name : String) (sup : Option ClassId) : Class where
  name := name
  kind := .ordinary
  loader := none
  accessFlags := 33
  super := sup
  interfaces := #[]
  cf := none
  fields := #[]
  methods := #[]
  instanceTypes := #[]
  staticTypes := #[]
  resolved := #[]
  callSites := []
  init := .initialized
  statics := none
  mirror := none

def pool0 : Array CpInfo := pool [(5, u "<init>"), (0, u "()V"), (1, .class_ 10), (1, u "java/lang/Object")] 113

def k0c0 : Code := { maxStack := 0, maxLocals := 1, code := object_method_1_code, exceptionTable := #[], attributes := #[] }
def k0m0 : Method := { name := "<init>", desc := "()V", sig := { parameters := [], returnType := none }, accessFlags := 1, code := some k0c0 }
/-- java/lang/Object -/
def k0 : Class := { plain "java/lang/Object" none with
  accessFlags := 33
  interfaces := #[]
  cf := some (fileOf pool0 8 #[] #[{ accessFlags := 1, nameIndex := 5, descriptorIndex := 6, attributes := #[] }] 33 0 #[] #[])
  fields := #[]
  methods := #[k0m0]
  instanceTypes := #[]
  staticTypes := #[]
  resolved := Array.replicate 124 none
  statics := none }

def pool1 : Array CpInfo := pool [(2, .class_ 4), (1, u "java/lang/Object"), (0, u "<init>"), (0, u "()V"), (2, .long 9223372036854775807), (1, .long 9223372036854775806), (1, .long 9223372036854775808), (1, .methodref 16 17), (0, .class_ 18), (0, .nameAndType 19 20), (0, u "com/example/ostiarius/ostiarius/CounterUnusedPinLaw"), (0, u "pick"), (0, u "(JJI)J"), (0, .class_ 22), (0, u "com/example/ostiarius/ostiarius/MovingFactor$Counter"), (0, .methodref 21 24), (0, .nameAndType 5 25), (0, u "(J)V"), (0, .methodref 21 27), (0, .nameAndType 28 29), (0, u "unused"), (0, u "(J)Z"), (0, .methodref 21 31), (0, .nameAndType 32 29), (0, u "used"), (0, .methodref 21 34), (0, .nameAndType 35 36), (0, u "accepted"), (0, u "(JJ)Lcom/example/ostiarius/ostiarius/MovingFactor;"), (0, .interfaceMethodref 38 27), (0, .class_ 39), (0, u "com/example/ostiarius/ostiarius/MovingFactor"), (3, u "law"), (0, u "(JJIJ)Z")] 4

def k1m0 : Method := { name := "<init>", desc := "()V", sig := { parameters := [], returnType := none }, accessFlags := 1, code := none }
def k1c1 : Code := { maxStack := 4, maxLocals := 6, code := method_2_code, exceptionTable := #[], attributes := #[] }
def k1m1 : Method := { name := "pick", desc := "(JJI)J", sig := { parameters := [.long, .long, .int], returnType := some .long }, accessFlags := 10, code := some k1c1 }
def k1c2 : Code := { maxStack := 5, maxLocals := 16, code := code, exceptionTable := #[], attributes := #[] }
def k1m2 : Method := { name := "law", desc := "(JJIJ)Z", sig := { parameters := [.long, .long, .int, .long], returnType := some .boolean }, accessFlags := 9, code := some k1c2 }
/-- com/example/ostiarius/ostiarius/CounterUnusedPinLaw -/
def k1 : Class := { plain "com/example/ostiarius/ostiarius/CounterUnusedPinLaw" (some 0) with
  accessFlags := 49
  interfaces := #[]
  cf := some (fileOf pool1 16 #[] #[{ accessFlags := 1, nameIndex := 5, descriptorIndex := 6, attributes := #[] }, { accessFlags := 10, nameIndex := 19, descriptorIndex := 20, attributes := #[] }, { accessFlags := 9, nameIndex := 43, descriptorIndex := 44, attributes := #[] }] 49 2 #[] #[])
  fields := #[]
  methods := #[k1m0, k1m1, k1m2]
  instanceTypes := #[]
  staticTypes := #[]
  resolved := Array.replicate 49 none
  statics := none }

def pool2 : Array CpInfo := pool [(1, .methodref 2 3), (0, .class_ 4), (0, .nameAndType 5 6), (0, u "java/lang/Object"), (0, u "<init>"), (0, u "()V"), (0, .class_ 8), (0, u "java/lang/Record")] 13

def k2c0 : Code := { maxStack := 1, maxLocals := 1, code := jdk_30_method_1_code, exceptionTable := #[], attributes := #[] }
def k2m0 : Method := { name := "<init>", desc := "()V", sig := { parameters := [], returnType := none }, accessFlags := 4, code := some k2c0 }
/-- java/lang/Record -/
def k2 : Class := { plain "java/lang/Record" (some 0) with
  accessFlags := 1057
  interfaces := #[]
  cf := some (fileOf pool2 7 #[] #[{ accessFlags := 4, nameIndex := 5, descriptorIndex := 6, attributes := #[] }] 1057 2 #[] #[])
  fields := #[]
  methods := #[k2m0]
  instanceTypes := #[]
  staticTypes := #[]
  resolved := Array.replicate 22 none
  statics := none }

def pool3 : Array CpInfo := pool [(4, .class_ 6), (1, u "com/example/ostiarius/ostiarius/MovingFactor$1"), (14, .class_ 22), (0, u "com/example/ostiarius/ostiarius/MovingFactor$TimeSteps"), (3, .class_ 27), (0, u "com/example/ostiarius/ostiarius/MovingFactor$Counter"), (3, .class_ 32), (0, u "com/example/ostiarius/ostiarius/MovingFactor"), (2, .class_ 36), (0, u "java/lang/Object"), (0, u "NONE"), (0, u "J"), (19, u "unused"), (0, u "(J)Z")] 11

def k3m0 : Method := { name := "unused", desc := "(J)Z", sig := { parameters := [.long], returnType := some .boolean }, accessFlags := 1025, code := none }
/-- com/example/ostiarius/ostiarius/MovingFactor -/
def k3 : Class := { plain "com/example/ostiarius/ostiarius/MovingFactor" (some 0) with
  accessFlags := 1536
  interfaces := #[]
  cf := some (fileOf pool3 31 #[.nestMembers #[4, 26, 21]] #[{ accessFlags := 1025, nameIndex := 58, descriptorIndex := 59, attributes := #[] }] 1536 35 #[] #[{ accessFlags := 25, nameIndex := 37, descriptorIndex := 38, attributes := #[] }])
  fields := #[{ name := "NONE", type := .long, accessFlags := 25, slot := 0, constantValue := 0 }]
  methods := #[k3m0]
  instanceTypes := #[]
  staticTypes := #[.long]
  resolved := Array.replicate 71 none
  statics := none }

def pool4 : Array CpInfo := pool [(1, .methodref 2 3), (0, .class_ 4), (0, .nameAndType 5 6), (0, u "java/lang/Record"), (0, u "<init>"), (0, u "()V"), (9, .fieldref 17 18), (0, .class_ 19), (0, .nameAndType 20 21), (0, u "com/example/ostiarius/ostiarius/MovingFactor$Counter"), (0, u "counter"), (0, u "J"), (24, .long 9223372036854775807), (1, .methodref 17 49), (0, .nameAndType 5 50), (0, u "(J)V"), (14, .class_ 66), (0, u "com/example/ostiarius/ostiarius/MovingFactor"), (0, u "LOOK_AHEAD"), (0, u "I"), (2, u "RESYNC_VALUES"), (12, u "unused"), (0, u "(J)Z"), (0, u "used"), (0, u "accepted"), (0, u "(JJ)Lcom/example/ostiarius/ostiarius/MovingFactor;")] 46

def k4c0 : Code := { maxStack := 4, maxLocals := 3, code := prog_10_method_1_code, exceptionTable := #[], attributes := #[] }
def k4m0 : Method := { name := "<init>", desc := "(J)V", sig := { parameters := [.long], returnType := none }, accessFlags := 1, code := some k4c0 }
def k4c1 : Code := { maxStack := 4, maxLocals := 3, code := prog_10_method_6_code, exceptionTable := #[], attributes := #[] }
def k4m1 : Method := { name := "unused", desc := "(J)Z", sig := { parameters := [.long], returnType := some .boolean }, accessFlags := 1, code := some k4c1 }
def k4c2 : Code := { maxStack := 4, maxLocals := 3, code := prog_10_method_7_code, exceptionTable := #[], attributes := #[] }
def k4m2 : Method := { name := "used", desc := "(J)Z", sig := { parameters := [.long], returnType := some .boolean }, accessFlags := 1, code := some k4c2 }
def k4c3 : Code := { maxStack := 6, maxLocals := 5, code := prog_10_method_8_code, exceptionTable := #[], attributes := #[] }
def k4m3 : Method := { name := "accepted", desc := "(JJ)Lcom/example/ostiarius/ostiarius/MovingFactor;", sig := { parameters := [.long, .long], returnType := some (.object "com/example/ostiarius/ostiarius/MovingFactor") }, accessFlags := 1, code := some k4c3 }
/-- com/example/ostiarius/ostiarius/MovingFactor$Counter -/
def k4 : Class := { plain "com/example/ostiarius/ostiarius/MovingFactor$Counter" (some 2) with
  accessFlags := 49
  interfaces := #[3]
  cf := some (fileOf pool4 17 #[.nestHost 65] #[{ accessFlags := 1, nameIndex := 5, descriptorIndex := 50, attributes := #[] }, { accessFlags := 1, nameIndex := 84, descriptorIndex := 85, attributes := #[] }, { accessFlags := 1, nameIndex := 86, descriptorIndex := 85, attributes := #[] }, { accessFlags := 1, nameIndex := 87, descriptorIndex := 88, attributes := #[] }] 49 2 #[65] #[{ accessFlags := 18, nameIndex := 20, descriptorIndex := 21, attributes := #[] }, { accessFlags := 24, nameIndex := 67, descriptorIndex := 68, attributes := #[] }, { accessFlags := 24, nameIndex := 71, descriptorIndex := 68, attributes := #[] }])
  fields := #[{ name := "counter", type := .long, accessFlags := 18, slot := 0, constantValue := 0 }, { name := "LOOK_AHEAD", type := .int, accessFlags := 24, slot := 0, constantValue := 0 }, { name := "RESYNC_VALUES", type := .int, accessFlags := 24, slot := 1, constantValue := 0 }]
  methods := #[k4m0, k4m1, k4m2, k4m3]
  instanceTypes := #[.long]
  staticTypes := #[.int, .int]
  resolved := Array.replicate 135 none
  statics := none }

def pool5 : Array CpInfo := pool [(1, u "java/lang/Cloneable"), (0, .class_ 1), (0, u "java/lang/Object"), (0, .class_ 3)] 3

/-- java/lang/Cloneable -/
def k5 : Class := { plain "java/lang/Cloneable" (some 0) with
  accessFlags := 1537
  interfaces := #[]
  cf := some (fileOf pool5 2 #[] #[] 1537 4 #[] #[])
  fields := #[]
  methods := #[]
  instanceTypes := #[]
  staticTypes := #[]
  resolved := Array.replicate 8 none
  statics := none }

def pool6 : Array CpInfo := pool [(1, u "java/io/Serializable"), (0, .class_ 1), (0, u "java/lang/Object"), (0, .class_ 3)] 3

/-- java/io/Serializable -/
def k6 : Class := { plain "java/io/Serializable" (some 0) with
  accessFlags := 1537
  interfaces := #[]
  cf := some (fileOf pool6 2 #[] #[] 1537 4 #[] #[])
  fields := #[]
  methods := #[]
  instanceTypes := #[]
  staticTypes := #[]
  resolved := Array.replicate 8 none
  statics := none }

/-- the primitive byte -/
def k7 : Class := { plain "byte" none with kind := .primitive 'B', accessFlags := 0x411 }
/-- [B -/
def k8 : Class := { plain "[B" (some 0) with kind := .array 7 .byte, interfaces := #[5, 6], accessFlags := 1041 }

/-- the primitive int -/
def k9 : Class := { plain "int" none with kind := .primitive 'I', accessFlags := 0x411 }
/-- [I -/
def k10 : Class := { plain "[I" (some 0) with kind := .array 9 .int, interfaces := #[5, 6], accessFlags := 1041 }

def heap : Heap := #[]
def classes : Array Class := #[k0, k1, k2, k3, k4, k5, k6, k7, k8, k9, k10]
def interned : List (Array UInt16 × Addr) := []
def slotsUsed : Nat := 0
def theMethod : MethodId := ⟨1, 2⟩
def args0 : Array Value := #[.long 5, .long 6, .int 7, .long 8]
def aboutOver (below : List Frame) : State where
  vm := { classes := classes, interned := interned.toArray }
  heap := heap
  slotsUsed := slotsUsed
  threads := #[{ frames := .invoking theMethod args0 :: below }]
def below0 : List Frame := [.native { method := ⟨0, 0⟩, args := #[] }]
def about1 : State := aboutOver below0
def p0 : Program := .bare "" "" ""
def e0 : Env := launch0.env 0 0 0
theorem w_frames : about1.frames = Frame.invoking theMethod args0 :: below0 := rfl
set_option maxRecDepth 65536 in
theorem w_args : argsFit about1.vm theMethod args0 = true := by decide +kernel
set_option maxRecDepth 65536 in
theorem w_heap : heapFits about1 = true := by decide +kernel
set_option maxRecDepth 65536 in
theorem w_runnable : about1.curStatus? = some .runnable := by decide +kernel
set_option maxRecDepth 65536 in
theorem w_alone : about1.alone = true := by decide +kernel
set_option maxRecDepth 65536 in
theorem w_named : about1.methodNamed? x = some theMethod := by decide +kernel
set_option maxRecDepth 65536 in
theorem w_hears : about1.hears theMethod below0 = true := by decide +kernel
set_option maxRecDepth 65536 in
theorem w_ripe : about1.ripe theMethod args0 below0 = true := by decide +kernel
theorem w_running : about1.status = .running := rfl
set_option maxRecDepth 65536 in
theorem w_room : about1.hasRoom e0.platform room_1 = true :=
  launch0.hasRoom_least _ room_1 (by decide +kernel) (by decide +kernel) (by decide +kernel) (by decide +kernel) (by decide +kernel) (by decide +kernel)
theorem allAtoms_all (ts : List Jvm.Cond) (a : Array Jvm.Value) (st : Jvm.State) : (allAtoms ts).before a st = ts.all (fun c => c.before a st) := by
  induction ts with
  | nil => rfl
  | cons c t ih =>
    show (Jvm.Cond.and c (allAtoms t)).before a st = _
    rw [Jvm.Cond.before_and, ih, List.all_cons]
def words1 : List Jvm.Cond := Jvm.Cond.code x code maxLocals ret :: tables_1
/-- a 'code' word, met by the world's own term for the bytes: nothing is compared byte by byte -/
theorem code_word {y : MethodName} {bytes : ByteArray} {mx : Nat} {rt : Option FieldType} {a : Array Value} {s : State} {m : MethodId} {meth : Method} {c : Code} (h1 : s.methodNamed? y = some m) (h2 : s.vm.method? m = some meth) (h3 : meth.code = some c) (h4 : c.code = bytes)
    (h5 : (c.maxLocals == mx && c.exceptionTable.isEmpty && decide (c.maxStack ≤ mostOperands) && decide (meth.sig.returnType = rt) && !meth.locks && decide (parseMethodDescriptor y.desc = some meth.sig)) = true) : (Jvm.Cond.code y bytes mx rt).before a s = true := by
  simp only [Bool.and_eq_true, beq_iff_eq, Bool.not_eq_true', decide_eq_true_eq] at h5
  obtain ⟨⟨⟨⟨⟨g1, g2⟩, g3⟩, g4⟩, g5⟩, g6⟩ := h5
  simp [Cond.before, Cond.holds, Cond.value, h1, h2, h3, h4, g1, g2, g3, g4, g5, g6]
def isCode : Jvm.Cond → Bool
  | .code _ _ _ _ => true
  | _ => false
theorem all_split {L : List Jvm.Cond} {P : Jvm.Cond → Bool} (h1 : L.all (fun c => isCode c || P c) = true) (h2 : ∀ c ∈ L.filter isCode, P c = true) : L.all P = true := by
  refine List.all_eq_true.mpr fun c hc => ?_
  have h := List.all_eq_true.mp h1 c hc
  rcases Bool.eq_false_or_eq_true (isCode c) with hi | hi
  · exact h2 c (List.mem_filter.mpr ⟨hc, hi⟩)
  · simpa [hi] using h
set_option maxRecDepth 65536 in
theorem w_c0 : (Jvm.Cond.code x code maxLocals ret).before args0 about1 = true := code_word (m := ⟨1, 2⟩) (meth := k1m2) (c := k1c2) (by decide +kernel) rfl rfl rfl (by decide +kernel)
set_option maxRecDepth 65536 in
theorem w_c1 : (Jvm.Cond.code ({ cls := "com/example/ostiarius/ostiarius/CounterUnusedPinLaw", name := "pick", desc := "(JJI)J" } : Jvm.MethodName) method_2_code (6 : Nat) (Option.some Jvm.ClassFile.FieldType.long)).before args0 about1 = true := code_word (m := ⟨1, 1⟩) (meth := k1m1) (c := k1c1) (by decide +kernel) rfl rfl rfl (by decide +kernel)
set_option maxRecDepth 65536 in
theorem w_c2 : (Jvm.Cond.code ({ cls := "com/example/ostiarius/ostiarius/MovingFactor$Counter", name := "<init>", desc := "(J)V" } : Jvm.MethodName) prog_10_method_1_code (3 : Nat) (Option.none : Option Jvm.ClassFile.FieldType)).before args0 about1 = true := code_word (m := ⟨4, 0⟩) (meth := k4m0) (c := k4c0) (by decide +kernel) rfl rfl rfl (by decide +kernel)
set_option maxRecDepth 65536 in
theorem w_c3 : (Jvm.Cond.code ({ cls := "java/lang/Record", name := "<init>", desc := "()V" } : Jvm.MethodName) jdk_30_method_1_code (1 : Nat) (Option.none : Option Jvm.ClassFile.FieldType)).before args0 about1 = true := code_word (m := ⟨2, 0⟩) (meth := k2m0) (c := k2c0) (by decide +kernel) rfl rfl rfl (by decide +kernel)
set_option maxRecDepth 65536 in
theorem w_c4 : (Jvm.Cond.code ({ cls := "java/lang/Object", name := "<init>", desc := "()V" } : Jvm.MethodName) object_method_1_code (1 : Nat) (Option.none : Option Jvm.ClassFile.FieldType)).before args0 about1 = true := code_word (m := ⟨0, 0⟩) (meth := k0m0) (c := k0c0) (by decide +kernel) rfl rfl rfl (by decide +kernel)
set_option maxRecDepth 65536 in
theorem w_c5 : (Jvm.Cond.code ({ cls := "com/example/ostiarius/ostiarius/MovingFactor$Counter", name := "unused", desc := "(J)Z" } : Jvm.MethodName) prog_10_method_6_code (3 : Nat) (Option.some Jvm.ClassFile.FieldType.boolean)).before args0 about1 = true := code_word (m := ⟨4, 1⟩) (meth := k4m1) (c := k4c1) (by decide +kernel) rfl rfl rfl (by decide +kernel)
set_option maxRecDepth 65536 in
theorem w_c6 : (Jvm.Cond.code ({ cls := "com/example/ostiarius/ostiarius/MovingFactor$Counter", name := "used", desc := "(J)Z" } : Jvm.MethodName) prog_10_method_7_code (3 : Nat) (Option.some Jvm.ClassFile.FieldType.boolean)).before args0 about1 = true := code_word (m := ⟨4, 2⟩) (meth := k4m2) (c := k4c2) (by decide +kernel) rfl rfl rfl (by decide +kernel)
set_option maxRecDepth 65536 in
theorem w_c7 : (Jvm.Cond.code ({ cls := "com/example/ostiarius/ostiarius/MovingFactor$Counter", name := "accepted", desc := "(JJ)Lcom/example/ostiarius/ostiarius/MovingFactor;" } : Jvm.MethodName) prog_10_method_8_code (5 : Nat) (Option.some (Jvm.ClassFile.FieldType.object "com/example/ostiarius/ostiarius/MovingFactor"))).before args0 about1 = true := code_word (m := ⟨4, 3⟩) (meth := k4m3) (c := k4c3) (by decide +kernel) rfl rfl rfl (by decide +kernel)
def codes1 : List Jvm.Cond := [Jvm.Cond.code x code maxLocals ret, Jvm.Cond.code ({ cls := "com/example/ostiarius/ostiarius/CounterUnusedPinLaw", name := "pick", desc := "(JJI)J" } : Jvm.MethodName) method_2_code (6 : Nat) (Option.some Jvm.ClassFile.FieldType.long), Jvm.Cond.code ({ cls := "com/example/ostiarius/ostiarius/MovingFactor$Counter", name := "<init>", desc := "(J)V" } : Jvm.MethodName) prog_10_method_1_code (3 : Nat) (Option.none : Option Jvm.ClassFile.FieldType), Jvm.Cond.code ({ cls := "java/lang/Record", name := "<init>", desc := "()V" } : Jvm.MethodName) jdk_30_method_1_code (1 : Nat) (Option.none : Option Jvm.ClassFile.FieldType), Jvm.Cond.code ({ cls := "java/lang/Object", name := "<init>", desc := "()V" } : Jvm.MethodName) object_method_1_code (1 : Nat) (Option.none : Option Jvm.ClassFile.FieldType), Jvm.Cond.code ({ cls := "com/example/ostiarius/ostiarius/MovingFactor$Counter", name := "unused", desc := "(J)Z" } : Jvm.MethodName) prog_10_method_6_code (3 : Nat) (Option.some Jvm.ClassFile.FieldType.boolean), Jvm.Cond.code ({ cls := "com/example/ostiarius/ostiarius/MovingFactor$Counter", name := "used", desc := "(J)Z" } : Jvm.MethodName) prog_10_method_7_code (3 : Nat) (Option.some Jvm.ClassFile.FieldType.boolean), Jvm.Cond.code ({ cls := "com/example/ostiarius/ostiarius/MovingFactor$Counter", name := "accepted", desc := "(JJ)Lcom/example/ostiarius/ostiarius/MovingFactor;" } : Jvm.MethodName) prog_10_method_8_code (5 : Nat) (Option.some (Jvm.ClassFile.FieldType.object "com/example/ostiarius/ostiarius/MovingFactor"))]
set_option maxRecDepth 65536 in
theorem codes_eq : words1.filter isCode = codes1 := rfl
theorem w_codes : ∀ c ∈ words1.filter isCode, c.before args0 about1 = true := by
  rw [codes_eq]
  intro c hc
  simp only [codes1, List.mem_cons, List.not_mem_nil, or_false] at hc
  rcases hc with rfl | rfl | rfl | rfl | rfl | rfl | rfl | rfl
  · exact w_c0
  · exact w_c1
  · exact w_c2
  · exact w_c3
  · exact w_c4
  · exact w_c5
  · exact w_c6
  · exact w_c7
set_option maxRecDepth 65536 in
theorem w_t1 : (words1.take 24).all (fun c => isCode c || c.before args0 about1) = true := by decide +kernel
set_option maxRecDepth 65536 in
theorem w_t2 : ((words1.drop 24).take 24).all (fun c => isCode c || c.before args0 about1) = true := by decide +kernel
set_option maxRecDepth 65536 in
theorem w_t3 : ((words1.drop 24).drop 24).all (fun c => isCode c || c.before args0 about1) = true := by decide +kernel
theorem w_tables : (allAtoms (Jvm.Cond.code x code maxLocals ret :: tables_1)).before args0 about1 = true := by
  rw [allAtoms_all]
  show words1.all (fun c => c.before args0 about1) = true
  refine all_split ?_ w_codes
  rw [← List.take_append_drop 24 words1, List.all_append, w_t1, ← List.take_append_drop 24 (words1.drop 24), List.all_append, w_t2, w_t3]
  rfl
set_option maxRecDepth 65536 in
theorem w_case : (Jvm.Cond.and given_1 narrow_1).before args0 about1 = true := by decide +kernel
theorem w_applies : (headSpec (Jvm.Cond.code x code maxLocals ret :: tables_1) room_1).applies x e0.platform about1 = true :=
  (Spec.applies_iff w_frames).mpr ⟨w_running, w_runnable, w_alone, w_named, w_hears, w_ripe, w_room, w_tables⟩
theorem atStart : AtStart classFile x code maxLocals ret World_1 tables_1 room_1 Calls_1 rest_1 Pre_1 launch0 p0 e0 about1 theMethod args0 below0 :=
  ⟨lists_1, trivial, launch0.admits_env _ _ _, launch0.least_env, fairChoices_fair.cas, fairChoices_fair.clock, w_frames, w_args, w_heap, w_applies, trivial, trivial, w_case⟩
end start1
theorem witness_1 : WitnessClaimed_1 := ⟨start1.p0, start1.e0, start1.about1, start1.theMethod, start1.args0, start1.below0, start1.atStart⟩
end Jvm.Pilot.@@N@@
