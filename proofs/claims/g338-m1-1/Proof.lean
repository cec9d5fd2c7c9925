import JvmDerived
import JvmDerived.Pilot.@@N@@Statement
import JvmDerived.Pilot.@@N@@Code
set_option linter.unusedVariables false
set_option linter.unusedSimpArgs false
namespace Jvm.Pilot.@@N@@
open Jvm Jvm.ClassFile Sem Op Lib Jvm.Free Jvm.Stand Jvm.LawKit Jvm.RoadKit Bundle Jvm.Pilot.@@N@@.Jvm.D
theorem own_w {a0 : Array Value} {Z : State} (hw : ∀ d ∈ tables_1, d.before a0 Z = true) (i : Nat) {d : Jvm.Cond} (h : tables_1[i]? = some d) : d.before a0 Z = true := hw _ (List.mem_of_getElem? h)
abbrev oS (p : Program) (e : Env) (b : List Frame) (T : State) (m : MethodId) (pc : Nat) (L : Array Slot) (S : List Value) (t : State) : Prop := Steps p.tables e b (T.setTop (mkF m pc L S)) t
abbrev lv (x : Int64) : Slot := .val (.long x)
theorem own_join {α : Type} {p : Program} {l : Launch} {e : Env} {R : Room} {s : State} {m : MethodId} {args : Array Value} {below : List Frame} {meth : Method} {c : Code} {T : State} {locs : List Loc} {cells slots n0 : Nat} {h : Heap}
    (_ : Stand p l e R s m args below meth c T locs cells slots) (_ : Fr n0 locs) (_ : T.heap = h) (A : JFrame) (B : α → JFrame) (P : α → Prop)
    (k : ∃ (v : α) (T' : State) (locs' : List Loc), P v ∧ Fr n0 locs' ∧ Stand p l e R s m args below meth c T' locs' cells slots ∧ T'.heap = h ∧ ∀ t, Steps p.tables e below (T'.setTop (B v)) t → Steps p.tables e below (T.setTop A) t) :
    ∃ (v : α) (T' : State) (locs' : List Loc), P v ∧ Fr n0 locs' ∧ Stand p l e R s m args below meth c T' locs' cells slots ∧ T'.heap = h ∧ ∀ t, Steps p.tables e below (T'.setTop (B v)) t → Steps p.tables e below (T.setTop A) t := k
theorem own_joinH {α : Type} {p : Program} {l : Launch} {e : Env} {R : Room} {s : State} {m : MethodId} {args : Array Value} {below : List Frame} {meth : Method} {c : Code} {T : State} {locs : List Loc} {cells slots n0 : Nat} {h : Heap}
    (_ : Stand p l e R s m args below meth c T locs cells slots) (_ : Fr n0 locs) (_ : T.heap = h) (A : JFrame) (B : α → JFrame) (P : α → Heap → Prop)
    (k : ∃ (v : α) (T' : State) (h' : Heap) (locs' : List Loc), P v h' ∧ Fr n0 locs' ∧ Stand p l e R s m args below meth c T' locs' cells slots ∧ T'.heap = h' ∧ ∀ t, Steps p.tables e below (T'.setTop (B v)) t → Steps p.tables e below (T.setTop A) t) :
    ∃ (v : α) (T' : State) (h' : Heap) (locs' : List Loc), P v h' ∧ Fr n0 locs' ∧ Stand p l e R s m args below meth c T' locs' cells slots ∧ T'.heap = h' ∧ ∀ t, Steps p.tables e below (T'.setTop (B v)) t → Steps p.tables e below (T.setTop A) t := k
theorem own_selp {s Z : State} {a0 args : Array Value} {y : MethodName} {n : Nat} (hZ : Z.Warmed39 s.vm) (wi : (Cond.instantiable y.cls n).before a0 Z = true) (wp : (Cond.privateMethod y).before a0 Z = true) (wm : (Cond.instanceMethod y).before a0 Z = true)
    (hy : y.cls ≠ "java/lang/invoke/MethodHandle" ∧ y.cls ≠ "java/lang/invoke/VarHandle") : (Cond.selects y.cls y y).before args s = true := by
  have wi' : (Cond.instantiable y.cls n).before args s = true := mvT hZ wi
  obtain ⟨c, k, h1, h2, h3, h4, -⟩ := Cond.instantiable_spec wi'
  exact Stand.selects_self_of_private h1 h2 (Bool.or_eq_false_iff.mp h4).1 (Cond.privateMethod_at (mvP hZ wp (args := #[]))) (mvT hZ wm) hy
theorem own_b (x : Int32) : 0 ≤ (x &&& (65535 : Int32)).toInt ∧ (x &&& (65535 : Int32)).toInt ≤ 65535 := by
  have h1 := c_mask x 65535 16 (by decide) (by decide)
  omega
theorem own_t (x : Int32) : 1 ≤ ((1 : Int32) + ((x &&& (2147483647 : Int32)) % (1023 : Int32))).toInt ∧ ((1 : Int32) + ((x &&& (2147483647 : Int32)) % (1023 : Int32))).toInt ≤ 1023 := by
  have h1 := c_mask x 2147483647 31 (by decide) (by decide)
  have h2 := (c_irem (x &&& 2147483647) 1023 1023 (by decide)).1
  have h3 := c_iadd 1 ((x &&& 2147483647) % 1023)
  have r := rng32 ((1 : Int32) + ((x &&& (2147483647 : Int32)) % (1023 : Int32)))
  have e1 : (1 : Int32).toInt = 1 := rfl
  have h4 := h2 (by omega)
  rw [e1] at h3
  omega
theorem own_l (x : Int64) : 1 ≤ ((1 : Int64) + ((x &&& (9223372036854775807 : Int64)) - ((x &&& (9223372036854775807 : Int64)) / (68719476735 : Int64)) * (68719476735 : Int64))).toInt ∧ ((1 : Int64) + ((x &&& (9223372036854775807 : Int64)) - ((x &&& (9223372036854775807 : Int64)) / (68719476735 : Int64)) * (68719476735 : Int64))).toInt ≤ 68719476735 := by
  have h1 := c_maskL x 9223372036854775807 63 (by decide) (by decide)
  have h2 := (c_lrem (x &&& 9223372036854775807) 68719476735 68719476735 (by decide)).1
  have h3 := c_ladd 1 ((x &&& (9223372036854775807 : Int64)) - ((x &&& (9223372036854775807 : Int64)) / (68719476735 : Int64)) * (68719476735 : Int64))
  have r := rng64 ((1 : Int64) + ((x &&& (9223372036854775807 : Int64)) - ((x &&& (9223372036854775807 : Int64)) / (68719476735 : Int64)) * (68719476735 : Int64)))
  have e1 : (1 : Int64).toInt = 1 := rfl
  have h4 := h2 (by omega)
  rw [e1] at h3
  omega
theorem own_i (b : Int32) (n : Int) (hn : -2147483648 ≤ n ∧ n < 2147483648) : (b < Int32.ofInt n ↔ b.toInt < n) ∧ (Int32.ofInt n < b ↔ n < b.toInt) := by
  rw [Int32.lt_iff_toInt_lt, Int32.lt_iff_toInt_lt, Int32.toInt_ofInt_of_le (by omega) (by omega)]
  exact ⟨Iff.rfl, Iff.rfl⟩
theorem own_comp (b t : Int32) (l : Int64) (hb : 0 ≤ b.toInt ∧ b.toInt ≤ 65535) (ht : 1 ≤ t.toInt ∧ t.toInt ≤ 1023) (hl : 1 ≤ l.toInt ∧ l.toInt ≤ 68719476735) :
    ((((b.toInt64) <<< ((46 : Int32) &&& 0x3f).toInt64) ||| ((t.toInt64) <<< ((36 : Int32) &&& 0x3f).toInt64)) ||| l).toInt = b.toInt * 70368744177664 + t.toInt * 68719476736 + l.toInt := by
  have h1 := c_lshl b.toInt64 46 46 (by decide)
  have h2 := c_lshl t.toInt64 36 36 (by decide)
  rw [c_i2l] at h1 h2
  generalize (b.toInt64 <<< ((46 : Int32) &&& 0x3f).toInt64) = B at *
  generalize (t.toInt64 <<< ((36 : Int32) &&& 0x3f).toInt64) = T at *
  have rB := rng64 B
  have rT := rng64 T
  simp only [Nat.reducePow] at h1 h2
  have eB : B.toInt = b.toInt * 70368744177664 := by clear h2 rT; omega
  have eT : T.toInt = t.toInt * 68719476736 := by clear h1 rB eB; omega
  clear h1 h2
  have h3 := c_orL B T 46 (by decide) 70368744177664 (by decide) (by omega) (by omega) (by omega)
  have r3 := rng64 (B ||| T)
  have e3 : (B ||| T).toInt = B.toInt + T.toInt := by omega
  clear h3
  have h4 := c_orL (B ||| T) l 36 (by decide) 68719476736 (by decide) (by omega) (by omega) (by omega)
  have r4 := rng64 ((B ||| T) ||| l)
  omega
theorem own_all (b t : Int32) (l : Int64) (hb : 0 ≤ b.toInt ∧ b.toInt ≤ 65535) (ht : 1 ≤ t.toInt ∧ t.toInt ≤ 1023) (hl : 1 ≤ l.toInt ∧ l.toInt ≤ 68719476735) (y z : Int64) (hy : y = ((((b.toInt64) <<< ((46 : Int32) &&& 0x3f).toInt64) ||| ((t.toInt64) <<< ((36 : Int32) &&& 0x3f).toInt64)) ||| l))
    (hz : z = (((b.toInt64) * (70368744177664 : Int64)) + ((t.toInt64) * (68719476736 : Int64))) + l) :
    y = z ∧ (0 : Int64) < y ∧ (y / (70368744177664 : Int64)) = (b.toInt64) ∧ ((y / (68719476736 : Int64)) - ((y / (68719476736 : Int64)) / (1024 : Int64)) * (1024 : Int64)) = (t.toInt64) ∧ (y - (y / (68719476736 : Int64)) * (68719476736 : Int64)) = l := by
  have ey : y.toInt = b.toInt * 70368744177664 + t.toInt * 68719476736 + l.toInt := by rw [hy]; exact own_comp b t l hb ht hl
  have k1 : (70368744177664 : Int64).toInt = 70368744177664 := rfl
  have k2 : (68719476736 : Int64).toInt = 68719476736 := rfl
  have ez : z.toInt = b.toInt * 70368744177664 + t.toInt * 68719476736 + l.toInt := by
    have m1 := c_lmul b.toInt64 70368744177664
    have m2 := c_lmul t.toInt64 68719476736
    have a1 := c_ladd (b.toInt64 * 70368744177664) (t.toInt64 * 68719476736)
    have a2 := c_ladd ((b.toInt64 * 70368744177664) + (t.toInt64 * 68719476736)) l
    rw [c_i2l] at m1 m2
    rw [k1] at m1
    rw [k2] at m2
    have r1 := rng64 (b.toInt64 * 70368744177664)
    have r2 := rng64 (t.toInt64 * 68719476736)
    have r3 := rng64 ((b.toInt64 * 70368744177664) + (t.toInt64 * 68719476736))
    have r4 := rng64 z
    rw [← hz] at a2
    generalize (b.toInt64 * 70368744177664) = B at *
    generalize (t.toInt64 * 68719476736) = T at *
    generalize (B + T) = S at *
    have q1 : B.toInt = b.toInt * 70368744177664 := by clear a1 a2 m2 r2 r3 r4 ey; omega
    have q2 : T.toInt = t.toInt * 68719476736 := by clear a1 a2 m1 r1 r3 r4 ey q1; omega
    clear m1 m2
    have q3 : S.toInt = B.toInt + T.toInt := by clear a2 r4 ey; omega
    clear a1
    omega
  have d1 := (c_ldiv y 70368744177664 70368744177664 rfl (by decide)).1 (by omega)
  have d2 := (c_ldiv y 68719476736 68719476736 rfl (by decide)).1 (by omega)
  have d3 := (c_lrem (y / 68719476736) 1024 1024 rfl).1 (by omega)
  have d4 := (c_lrem y 68719476736 68719476736 rfl).1 (by omega)
  clear hy hz
  refine ⟨Int64.toInt_inj.mp (by rw [ey, ez]), ?_, Int64.toInt_inj.mp ?_, Int64.toInt_inj.mp ?_, Int64.toInt_inj.mp ?_⟩
  · clear d1 d2 d3 d4
    rw [Int64.lt_iff_toInt_lt]
    have e0 : (0 : Int64).toInt = 0 := rfl
    omega
  · rw [d1, c_i2l]; clear d1 d2 d3 d4; omega
  · rw [d3, c_i2l, d2]; clear d1 d2 d3 d4; omega
  · rw [d4]; clear d1 d2 d3 d4; omega
theorem d2_0 : decode jdk_30_method_1_code 0 = .ok (.aload_n 0, 1) := by decide +kernel
theorem d2_1 : decode jdk_30_method_1_code 1 = .ok (.invokespecial 1, 3) := by decide +kernel
theorem d2_4 : decode jdk_30_method_1_code 4 = .ok (.return_, 1) := by decide +kernel
theorem own_pn0 : plainName "java/lang/Record" = true := by first | (simp [plainName, overriddenIn]; done) | decide +kernel
theorem ef2 (m : MethodId) (o : Addr) : entryFrame m #[(.ref o)] 1 = mkF m 0 #[rv o] [] := by first | (simp [entryFrame, mkF, argsToLocals, Value.category]; done) | rfl
def Q2 (Z : State) (o : Addr) (h0 : Heap) (n0 : Nat) (v : Option Value) (h : Heap) (L : List Loc) : Prop := v = none ∧ Fr n0 L ∧ h = h0
set_option maxRecDepth 65536 in
set_option maxHeartbeats 40000000 in
theorem rm2 (l : Launch) (Z : State) (a0 : Array Value) (hw : ∀ d ∈ tables_1, d.before a0 Z = true) (ws : List Jvm.Cond) (o : Addr) (h0 : Heap) (n0 : Nat) (Z0 : n0 ≤ h0.size) :
    MetFree l (⟨"java/lang/Record", "<init>", "()V"⟩ : MethodName) (head1 (Jvm.Cond.code (⟨"java/lang/Record", "<init>", "()V"⟩ : MethodName) jdk_30_method_1_code 1 none :: ws) ({ frames := 1, cells := 0, slots := 0, locals := 12 } : Room)) (fun a U => a = #[(.ref o)] ∧ Z.Warmed39 U.vm ∧ U.heap = h0) (fun _ _ _ _ _ => True) (fun _ U oc U' => ∃ v L, oc = .returned v ∧ Q2 Z o h0 n0 v U'.heap L ∧ FrameEnd U oc U' L ({ frames := 1, cells := 0, slots := 0, locals := 12 } : Room).cells ({ frames := 1, cells := 0, slots := 0, locals := 12 } : Room).slots) := by
  refine MetFree.of_bodySF (plainFor_of_name own_pn0) hisR ?_
  intro p e s m args below meth c s₁ Bd hml0 hP hK
  obtain ⟨rfl, hZ, hh⟩ := hP
  have hx := Bd.exec
  have hby := Bd.bytes
  have hml : c.maxLocals = 1 := hml0
  have hown : s.vm.findClass "java/lang/Record" = some m.cls := findClass_of_methodNamed Bd.named
  have hnm := (name_of_methodNamed Bd.named Bd.method).1
  have X0 : Stand p l e ({ frames := 1, cells := 0, slots := 0, locals := 12 } : Room) s m #[(.ref o)] below meth c s₁ [] 0 0 := Stand.of_body Bd
  have e0 : s₁.heap = h0 := by rw [← hh, Bd.state]; rfl
  have N0 := Fr.nil n0
  have pre0 : ∀ t, Steps p.tables e below (s₁.setTop (mkF m 0 #[rv o] [])) t → Steps p.tables e below (s₁.setTop (entryFrame m #[(.ref o)] 1)) t := fun t k => castTop (ef2 m o) k
  obtain ⟨T1, X1, e1, st1⟩ := initO X0 hx hZ hown (own_w hw 15 rfl) (own_w hw 16 rfl) (own_w hw 17 rfl) e0 (g := (mkF m 1 #[rv o] [(.ref o)])) rfl (by rw [hml]; rfl) rfl (hb hby d2_1) (by decide) (W := 0) (by show 2 * 0 + _ ≤ _; exact Nat.le_of_eq rfl) (by decide)
  have pre2 : ∀ tz, oS p e below T1 m 4 #[rv o] [] tz → oS p e below s₁ m 0 #[rv o] [] tz := fun tz kt => by
    show oS p e below s₁ m 0 #[rv o] [] _
    refine XS.aloadN X0.here hx rfl (hb hby d2_0) rfl rfl ?_
    show oS p e below s₁ m 1 #[rv o] [(.ref o)] _
    refine st1 _ ?_
    exact kt
  obtain ⟨fs, hr, hrun, hended, hW, hsame⟩ := X1.leave (v := none) (fun _ => rfl)
  refine ⟨_, _, pre0 _ (pre2 _ ?_), hrun, hended, _, _, rfl, ?_, ⟨_, rfl⟩, hW, hsame.mono (by decide) (by decide)⟩
  · show oS p e below T1 m 4 #[rv o] [] _
    exact X1.returnOut hx Bd.returns (hb hby d2_4) hr
  · show Q2 Z o h0 n0 _ T1.heap _
    rw [e1]
    exact ⟨rfl, N0, rfl⟩
theorem d4_0 : decode prog_20_method_2_code 0 = .ok (.iload_n 0, 1) := by decide +kernel
theorem d4_1 : decode prog_20_method_2_code 1 = .ok (.iconst 1, 1) := by decide +kernel
theorem d4_2 : decode prog_20_method_2_code 2 = .ok (.if_icmp .lt 10, 3) := by decide +kernel
theorem d4_5 : decode prog_20_method_2_code 5 = .ok (.iload_n 0, 1) := by decide +kernel
theorem d4_6 : decode prog_20_method_2_code 6 = .ok (.sipush 1023, 3) := by decide +kernel
theorem d4_9 : decode prog_20_method_2_code 9 = .ok (.if_icmp .le 17, 3) := by decide +kernel
theorem d4_26 : decode prog_20_method_2_code 26 = .ok (.iload_n 0, 1) := by decide +kernel
theorem d4_27 : decode prog_20_method_2_code 27 = .ok (.ireturn, 1) := by decide +kernel
theorem own_pn1 : plainName "com/example/even_shard/evenshard/Id" = true := by first | (simp [plainName, overriddenIn]; done) | decide +kernel
theorem ef4 (m : MethodId) (x1 : Int32) : entryFrame m #[(.int x1)] 1 = mkF m 0 #[iv x1] [] := by first | (simp [entryFrame, mkF, argsToLocals, Value.category]; done) | rfl
def Q4 (Z : State) (x1 : Int32) (h0 : Heap) (n0 : Nat) (v : Option Value) (h : Heap) (L : List Loc) : Prop := v = some (.int x1) ∧ Fr n0 L ∧ h = h0
set_option maxRecDepth 65536 in
set_option maxHeartbeats 40000000 in
theorem rm4 (l : Launch) (Z : State) (a0 : Array Value) (hw : ∀ d ∈ tables_1, d.before a0 Z = true) (ws : List Jvm.Cond) (x1 : Int32) (h0 : Heap) (n0 : Nat) (Z0 : n0 ≤ h0.size) (h1 : ¬ (x1 < (1 : Int32))) (h2 : ¬ ((1023 : Int32) < x1)) :
    MetFree l (⟨"com/example/even_shard/evenshard/Id", "requireType", "(I)I"⟩ : MethodName) (head1 (Jvm.Cond.code (⟨"com/example/even_shard/evenshard/Id", "requireType", "(I)I"⟩ : MethodName) prog_20_method_2_code 1 (some .int) :: ws) ({ frames := 0, cells := 0, slots := 0, locals := 0 } : Room)) (fun a U => a = #[(.int x1)] ∧ Z.Warmed39 U.vm ∧ U.heap = h0) (fun _ _ _ _ _ => True) (fun _ U oc U' => ∃ v L, oc = .returned v ∧ Q4 Z x1 h0 n0 v U'.heap L ∧ FrameEnd U oc U' L ({ frames := 0, cells := 0, slots := 0, locals := 0 } : Room).cells ({ frames := 0, cells := 0, slots := 0, locals := 0 } : Room).slots) := by
  refine MetFree.of_bodySF (plainFor_of_name own_pn1) hisR ?_
  intro p e s m args below meth c s₁ Bd hml0 hP hK
  obtain ⟨rfl, hZ, hh⟩ := hP
  have hx := Bd.exec
  have hby := Bd.bytes
  have hml : c.maxLocals = 1 := hml0
  have hown : s.vm.findClass "com/example/even_shard/evenshard/Id" = some m.cls := findClass_of_methodNamed Bd.named
  have hnm := (name_of_methodNamed Bd.named Bd.method).1
  have X0 : Stand p l e ({ frames := 0, cells := 0, slots := 0, locals := 0 } : Room) s m #[(.int x1)] below meth c s₁ [] 0 0 := Stand.of_body Bd
  have e0 : s₁.heap = h0 := by rw [← hh, Bd.state]; rfl
  have N0 := Fr.nil n0
  have pre0 : ∀ t, Steps p.tables e below (s₁.setTop (mkF m 0 #[iv x1] [])) t → Steps p.tables e below (s₁.setTop (entryFrame m #[(.int x1)] 1)) t := fun t k => castTop (ef4 m x1) k
  have hc2 : ¬ (x1 < (1 : Int32)) := id fun hc2 => by
    exact h1 hc2
  have hc9 : ¬ ((1023 : Int32) < x1) := id fun hc9 => by
    exact h2 hc9
  have pre1 : ∀ tz, oS p e below s₁ m 27 #[iv x1] [(.int x1)] tz → oS p e below s₁ m 0 #[iv x1] [] tz := fun tz kt => by
    show oS p e below s₁ m 0 #[iv x1] [] _
    refine XS.iloadN X0.here hx rfl (hb hby d4_0) rfl ?_
    refine XS.iconst X0.here hx rfl (hb hby d4_1) ?_
    refine XS.icmpNo X0.here hx rfl (hb hby d4_2) rfl (flt hc2).1 ?_
    refine XS.iloadN X0.here hx rfl (hb hby d4_5) rfl ?_
    show oS p e below s₁ m 6 #[iv x1] [(.int x1)] _
    refine XS.sipush X0.here hx rfl (hb hby d4_6) ?_
    refine XS.icmpYes X0.here hx rfl (pc0 := 9) (pc' := 26) rfl (hb hby d4_9) rfl (flt hc9).2.2.2 (by decide) (by decide) ?_
    refine XS.iloadN X0.here hx rfl (hb hby d4_26) rfl ?_
    exact kt
  obtain ⟨fs, hr, hrun, hended, hW, hsame⟩ := X0.leave (v := some (.int x1)) (fun h => by rw [Bd.returns] at h; cases h)
  refine ⟨_, _, pre0 _ (pre1 _ ?_), hrun, hended, _, _, rfl, ?_, ⟨_, rfl⟩, hW, hsame.mono (by decide) (by decide)⟩
  · show oS p e below s₁ m 27 #[iv x1] [(.int x1)] _
    exact retOut X0 hx Bd.returns rfl (Or.inl ⟨rfl, Or.inl rfl, _, rfl⟩) (hb hby d4_27) hr
  · show Q4 Z x1 h0 n0 _ s₁.heap _
    rw [e0]
    exact ⟨rfl, N0, rfl⟩
theorem own_pd0 : parseMethodDescriptor "()V" = some ⟨[], none⟩ := by decide +kernel
theorem own_pd1 : parseMethodDescriptor "(I)I" = some ⟨[.int], some .int⟩ := by decide +kernel
theorem d1_0 : decode prog_20_method_1_code 0 = .ok (.aload_n 0, 1) := by decide +kernel
theorem d1_1 : decode prog_20_method_1_code 1 = .ok (.invokespecial 3, 3) := by decide +kernel
theorem d1_4 : decode prog_20_method_1_code 4 = .ok (.iload_n 1, 1) := by decide +kernel
theorem d1_5 : decode prog_20_method_1_code 5 = .ok (.ifCond .lt 9, 3) := by decide +kernel
theorem d1_8 : decode prog_20_method_1_code 8 = .ok (.iload_n 1, 1) := by decide +kernel
theorem d1_9 : decode prog_20_method_1_code 9 = .ok (.ldc 11, 2) := by decide +kernel
theorem d1_11 : decode prog_20_method_1_code 11 = .ok (.if_icmp .le 17, 3) := by decide +kernel
theorem d1_28 : decode prog_20_method_1_code 28 = .ok (.iload_n 2, 1) := by decide +kernel
theorem d1_29 : decode prog_20_method_1_code 29 = .ok (.invokestatic 21, 3) := by decide +kernel
theorem d1_32 : decode prog_20_method_1_code 32 = .ok (.pop, 1) := by decide +kernel
theorem d1_33 : decode prog_20_method_1_code 33 = .ok (.lload_n 3, 1) := by decide +kernel
theorem d1_34 : decode prog_20_method_1_code 34 = .ok (.lconst 1, 1) := by decide +kernel
theorem d1_35 : decode prog_20_method_1_code 35 = .ok (.lcmp, 1) := by decide +kernel
theorem d1_36 : decode prog_20_method_1_code 36 = .ok (.ifCond .lt 11, 3) := by decide +kernel
theorem d1_39 : decode prog_20_method_1_code 39 = .ok (.lload_n 3, 1) := by decide +kernel
theorem d1_40 : decode prog_20_method_1_code 40 = .ok (.ldc2_w 25, 3) := by decide +kernel
theorem d1_43 : decode prog_20_method_1_code 43 = .ok (.lcmp, 1) := by decide +kernel
theorem d1_44 : decode prog_20_method_1_code 44 = .ok (.ifCond .le 17, 3) := by decide +kernel
theorem d1_61 : decode prog_20_method_1_code 61 = .ok (.aload_n 0, 1) := by decide +kernel
theorem d1_62 : decode prog_20_method_1_code 62 = .ok (.iload_n 1, 1) := by decide +kernel
theorem d1_63 : decode prog_20_method_1_code 63 = .ok (.putfield 30, 3) := by decide +kernel
theorem d1_66 : decode prog_20_method_1_code 66 = .ok (.aload_n 0, 1) := by decide +kernel
theorem d1_67 : decode prog_20_method_1_code 67 = .ok (.iload_n 2, 1) := by decide +kernel
theorem d1_68 : decode prog_20_method_1_code 68 = .ok (.putfield 34, 3) := by decide +kernel
theorem d1_71 : decode prog_20_method_1_code 71 = .ok (.aload_n 0, 1) := by decide +kernel
theorem d1_72 : decode prog_20_method_1_code 72 = .ok (.lload_n 3, 1) := by decide +kernel
theorem d1_73 : decode prog_20_method_1_code 73 = .ok (.putfield 37, 3) := by decide +kernel
theorem d1_76 : decode prog_20_method_1_code 76 = .ok (.return_, 1) := by decide +kernel
theorem ef1 (m : MethodId) (o : Addr) (x1 : Int32) (x2 : Int32) (x3 : Int64) : entryFrame m #[(.ref o), (.int x1), (.int x2), (.long x3)] 5 = mkF m 0 #[rv o, iv x1, iv x2, lv x3, .second] [] := by first | (simp [entryFrame, mkF, argsToLocals, Value.category]; done) | rfl
def Q1 (Z : State) (o : Addr) (x1 : Int32) (x2 : Int32) (x3 : Int64) (w_bucket_o : Value) (w_type_o : Value) (w_local_o : Value) (h0 : Heap) (n0 : Nat) (v : Option Value) (h : Heap) (L : List Loc) : Prop := v = none ∧ Fr n0 L ∧ Keep h0 h [o] ∧ Exa Z h o "com/example/even_shard/evenshard/Id" ∧ Fld Z h o "com/example/even_shard/evenshard/Id" "bucket" "I" (.int x1) ∧ Fld Z h o "com/example/even_shard/evenshard/Id" "type" "I" (.int x2) ∧ Fld Z h o "com/example/even_shard/evenshard/Id" "local" "J" (.long x3)
set_option maxRecDepth 65536 in
set_option maxHeartbeats 40000000 in
theorem rm1 (l : Launch) (Z : State) (a0 : Array Value) (hw : ∀ d ∈ tables_1, d.before a0 Z = true) (ws : List Jvm.Cond) (o : Addr) (x1 : Int32) (x2 : Int32) (x3 : Int64) (w_bucket_o : Value) (w_type_o : Value) (w_local_o : Value) (h0 : Heap) (n0 : Nat) (Z0 : n0 ≤ h0.size) (k1 : ¬ (x1 < (0 : Int32))) (k2 : ¬ ((65535 : Int32) < x1)) (k3 : ¬ (x2 < (1 : Int32))) (k4 : ¬ ((1023 : Int32) < x2)) (k5 : ¬ (x3 < (1 : Int64))) (k6 : ¬ ((68719476735 : Int64) < x3)) (E_o : Exa Z h0 o "com/example/even_shard/evenshard/Id") (F_bucket_o : Fld Z h0 o "com/example/even_shard/evenshard/Id" "bucket" "I" w_bucket_o) (g_o : n0 ≤ o) (F_type_o : Fld Z h0 o "com/example/even_shard/evenshard/Id" "type" "I" w_type_o) (F_local_o : Fld Z h0 o "com/example/even_shard/evenshard/Id" "local" "J" w_local_o) :
    MetFree l (⟨"com/example/even_shard/evenshard/Id", "<init>", "(IIJ)V"⟩ : MethodName) (head1 (Jvm.Cond.code (⟨"com/example/even_shard/evenshard/Id", "<init>", "(IIJ)V"⟩ : MethodName) prog_20_method_1_code 5 none :: ws) ({ frames := 2, cells := 0, slots := 0, locals := 24 } : Room)) (fun a U => a = #[(.ref o), (.int x1), (.int x2), (.long x3)] ∧ Z.Warmed39 U.vm ∧ U.heap = h0) (fun _ _ _ _ _ => True) (fun _ U oc U' => ∃ v L, oc = .returned v ∧ Q1 Z o x1 x2 x3 w_bucket_o w_type_o w_local_o h0 n0 v U'.heap L ∧ FrameEnd U oc U' L ({ frames := 2, cells := 0, slots := 0, locals := 24 } : Room).cells ({ frames := 2, cells := 0, slots := 0, locals := 24 } : Room).slots) := by
  refine MetFree.of_bodySF (plainFor_of_name own_pn1) hisR ?_
  intro p e s m args below meth c s₁ Bd hml0 hP hK
  obtain ⟨rfl, hZ, hh⟩ := hP
  have hx := Bd.exec
  have hby := Bd.bytes
  have hml : c.maxLocals = 5 := hml0
  have hown : s.vm.findClass "com/example/even_shard/evenshard/Id" = some m.cls := findClass_of_methodNamed Bd.named
  have hnm := (name_of_methodNamed Bd.named Bd.method).1
  have X0 : Stand p l e ({ frames := 2, cells := 0, slots := 0, locals := 24 } : Room) s m #[(.ref o), (.int x1), (.int x2), (.long x3)] below meth c s₁ [] 0 0 := Stand.of_body Bd
  have e0 : s₁.heap = h0 := by rw [← hh, Bd.state]; rfl
  have N0 := Fr.nil n0
  have pre0 : ∀ t, Steps p.tables e below (s₁.setTop (mkF m 0 #[rv o, iv x1, iv x2, lv x3, .second] [])) t → Steps p.tables e below (s₁.setTop (entryFrame m #[(.ref o), (.int x1), (.int x2), (.long x3)] 5)) t := fun t k => castTop (ef1 m o x1 x2 x3) k
  obtain ⟨_, _, ⟨T1, Lw1, kw1, nw1⟩, -, X1, ⟨Lc1, hQ1, l1, y1, z1⟩, st1⟩ := X0.specialBack hx (y := (⟨"java/lang/Record", "<init>", "()V"⟩ : MethodName)) rfl hown (mvT hZ (own_w hw 10 rfl)) (mvT hZ (own_w hw 11 rfl)) (mvT hZ (own_w hw 14 rfl)) (by decide) (backOf (W := 0) (rm2 l Z a0 hw [] o h0 n0 Z0 ) hZ (own_w hw 14 rfl) (own_w hw 13 rfl) (by decide) (by decide)) (g := (mkF m 1 #[rv o, iv x1, iv x2, lv x3, .second] [(.ref o)])) rfl (by rw [hml]; rfl) (Steps.refl _) (a := o) (argsL := []) (rest := []) (lenOf own_pd0 rfl) rfl (by show 2 * 0 + _ ≤ _; exact Nat.le_of_eq rfl) (hb hby d1_1) (fun _ _ => ⟨rfl, e0, (by decide : 0 + 0 ≤ _), (by decide : 0 + 0 ≤ _)⟩)
  dsimp only [Pt.U, Pt.locs, Pt.cells, Pt.slots] at X1 l1 y1 z1 st1 hQ1
  subst l1 y1 z1
  obtain ⟨rfl, Nq1, eh1⟩ := hQ1
  have N1 := Fr.app N0 Nq1
  have hc5 : ¬ (x1 < (0 : Int32)) := id fun hc5 => by
    exact k1 hc5
  have hc11 : ¬ ((65535 : Int32) < x1) := id fun hc11 => by
    exact k2 hc11
  have hp2_h1 : ¬ (x2 < (1 : Int32)) := (by assumption)
  have hp2_h2 : ¬ ((1023 : Int32) < x2) := (by assumption)
  obtain ⟨_, _, ⟨T2, Lw2, kw2, nw2⟩, -, X2, ⟨Lc2, hQ2, l2, y2, z2⟩, st2⟩ := Jvm.LawKit.callS X1 hx (y := (⟨"com/example/even_shard/evenshard/Id", "requireType", "(I)I"⟩ : MethodName)) hown (mvT hZ (own_w hw 19 rfl)) (mvT hZ (own_w hw 20 rfl)) (mvT hZ (own_w hw 6 rfl)) (mvT hZ (own_w hw 21 rfl)) (by decide) (backOf (W := 0) (rm4 l Z a0 hw [] x2 h0 n0 Z0 hp2_h1 hp2_h2) hZ (own_w hw 21 rfl) (own_w hw 6 rfl) (by decide) (by decide)) (g := (mkF m 29 #[rv o, iv x1, iv x2, lv x3, .second] [(.int x2)])) rfl (by rw [hml]; rfl) (argsL := [(.int x2)]) (rest := []) (lenOf own_pd1 rfl) rfl (by show 2 * 0 + _ ≤ _; exact Nat.le_of_eq rfl) (hb hby d1_29) (fun _ _ => ⟨rfl, eh1, (by decide : 0 + 0 ≤ _), (by decide : 0 + 0 ≤ _)⟩)
  dsimp only [Pt.U, Pt.locs, Pt.cells, Pt.slots] at X2 l2 y2 z2 st2 hQ2
  subst l2 y2 z2
  obtain ⟨rfl, Nq2, eh2⟩ := hQ2
  have N2 := Fr.app N1 Nq2
  have hc36 : ¬ (x3 < (1 : Int64)) := id fun hc36 => by
    exact k5 hc36
  have hc44 : ¬ ((68719476735 : Int64) < x3) := id fun hc44 => by
    exact k6 hc44
  obtain ⟨T3, h3, X3, e3, W3, st3⟩ := putF X2 hx hZ hown (host := "") (Or.inl (own_w hw 23 rfl)) Via.refl eh2 F_bucket_o E_o (Or.inr ⟨(own_w hw 24 rfl), rfl, hnm⟩) (own_w hw 5 rfl) (ty := .int) (by decide) rfl rfl (g := (mkF m 63 #[rv o, iv x1, iv x2, lv x3, .second] [(.int x1), (.ref o)])) rfl rfl (hb hby d1_63)
  have Fw3 : Fld Z h3 o "com/example/even_shard/evenshard/Id" "bucket" "I" (.int x1) := F_bucket_o.same W3
  have N3 := Fr.snoc X3 N2 g_o
  have Ec4 : Exa Z h3 o "com/example/even_shard/evenshard/Id" := (E_o.wr W3)
  have Fc5 : Fld Z h3 o "com/example/even_shard/evenshard/Id" "type" "I" w_type_o := (F_type_o.other W3 (Or.inr (slot_ne (Or.inr (own_w hw 26 rfl)) (Or.inr (own_w hw 24 rfl)) (by decide) (t := .int) (t' := .int) (by decide) (by decide))))
  obtain ⟨T6, h6, X6, e6, W6, st6⟩ := putF X3 hx hZ hown (host := "") (Or.inl (own_w hw 25 rfl)) Via.refl e3 Fc5 Ec4 (Or.inr ⟨(own_w hw 26 rfl), rfl, hnm⟩) (own_w hw 5 rfl) (ty := .int) (by decide) rfl rfl (g := (mkF m 68 #[rv o, iv x1, iv x2, lv x3, .second] [(.int x2), (.ref o)])) rfl rfl (hb hby d1_68)
  have Fw6 : Fld Z h6 o "com/example/even_shard/evenshard/Id" "type" "I" (.int x2) := Fc5.same W6
  have N6 := Fr.snoc X6 N3 g_o
  have Ec7 : Exa Z h6 o "com/example/even_shard/evenshard/Id" := (Ec4.wr W6)
  have Fc8 : Fld Z h6 o "com/example/even_shard/evenshard/Id" "local" "J" w_local_o := ((F_local_o.other W3 (Or.inr (slot_ne (Or.inr (own_w hw 28 rfl)) (Or.inr (own_w hw 24 rfl)) (by decide) (t := .long) (t' := .int) (by decide) (by decide)))).other W6 (Or.inr (slot_ne (Or.inr (own_w hw 28 rfl)) (Or.inr (own_w hw 26 rfl)) (by decide) (t := .long) (t' := .int) (by decide) (by decide))))
  obtain ⟨T9, h9, X9, e9, W9, st9⟩ := putF X6 hx hZ hown (host := "") (Or.inl (own_w hw 27 rfl)) Via.refl e6 Fc8 Ec7 (Or.inr ⟨(own_w hw 28 rfl), rfl, hnm⟩) (own_w hw 5 rfl) (ty := .long) (by decide) rfl rfl (g := (mkF m 73 #[rv o, iv x1, iv x2, lv x3, .second] [(.long x3), (.ref o)])) rfl rfl (hb hby d1_73)
  have Fw9 : Fld Z h9 o "com/example/even_shard/evenshard/Id" "local" "J" (.long x3) := Fc8.same W9
  have N9 := Fr.snoc X9 N6 g_o
  have pre10 : ∀ tz, oS p e below T9 m 76 #[rv o, iv x1, iv x2, lv x3, .second] [] tz → oS p e below s₁ m 0 #[rv o, iv x1, iv x2, lv x3, .second] [] tz := fun tz kt => by
    show oS p e below s₁ m 0 #[rv o, iv x1, iv x2, lv x3, .second] [] _
    refine XS.aloadN X0.here hx rfl (hb hby d1_0) rfl rfl ?_
    show oS p e below s₁ m 1 #[rv o, iv x1, iv x2, lv x3, .second] [(.ref o)] _
    refine st1.trans ?_
    refine XS.iloadN X1.here hx rfl (hb hby d1_4) rfl ?_
    refine XS.ifNo X1.here hx rfl (hb hby d1_5) rfl ((if0 _ _).trans (flt hc5).1) ?_
    refine XS.iloadN X1.here hx rfl (hb hby d1_8) rfl ?_
    show oS p e below T1 m 9 #[rv o, iv x1, iv x2, lv x3, .second] [(.int x1)] _
    refine X1.ldcInt hx hown (mvT hZ (own_w hw 18 rfl)) (g := (mkF m 9 #[rv o, iv x1, iv x2, lv x3, .second] [(.int x1)])) rfl (hb hby d1_9) _ ?_
    refine XS.icmpYes X1.here hx rfl (pc0 := 11) (pc' := 28) rfl (hb hby d1_11) rfl (flt hc11).2.2.2 (by decide) (by decide) ?_
    refine XS.iloadN X1.here hx rfl (hb hby d1_28) rfl ?_
    show oS p e below T1 m 29 #[rv o, iv x1, iv x2, lv x3, .second] [(.int x2)] _
    refine st2 _ ?_
    refine XS.pop X2.here hx rfl (hb hby d1_32) rfl rfl ?_
    refine XS.lloadN X2.here hx rfl (hb hby d1_33) rfl ?_
    refine XS.lconst X2.here hx rfl (hb hby d1_34) ?_
    show oS p e below T2 m 35 #[rv o, iv x1, iv x2, lv x3, .second] [(.long (1 : Int64)), (.long x3)] _
    refine XS.lcmp X2.here hx rfl (hb hby d1_35) rfl ?_
    refine XS.ifNo X2.here hx rfl (hb hby d1_36) rfl ((if0 _ _).trans (flt (fun q => hc36 ((lw_lt x3 (1 : Int64)).mp q))).1) ?_
    refine XS.lloadN X2.here hx rfl (hb hby d1_39) rfl ?_
    refine X2.ldc2Long hx hown (mvT hZ (own_w hw 22 rfl)) (g := (mkF m 40 #[rv o, iv x1, iv x2, lv x3, .second] [(.long x3)])) rfl (hb hby d1_40) _ ?_
    show oS p e below T2 m 43 #[rv o, iv x1, iv x2, lv x3, .second] [(.long (68719476735 : Int64)), (.long x3)] _
    refine XS.lcmp X2.here hx rfl (hb hby d1_43) rfl ?_
    refine XS.ifYes X2.here hx rfl (pc0 := 44) (pc' := 61) rfl (hb hby d1_44) rfl ((if0 _ _).trans (flt (fun q => hc44 ((lw_gt x3 (68719476735 : Int64)).mp q))).2.2.2) (by decide) (by decide) ?_
    refine XS.aloadN X2.here hx rfl (hb hby d1_61) rfl rfl ?_
    refine XS.iloadN X2.here hx rfl (hb hby d1_62) rfl ?_
    show oS p e below T2 m 63 #[rv o, iv x1, iv x2, lv x3, .second] [(.int x1), (.ref o)] _
    refine st3 _ ?_
    refine XS.aloadN X3.here hx rfl (hb hby d1_66) rfl rfl ?_
    refine XS.iloadN X3.here hx rfl (hb hby d1_67) rfl ?_
    show oS p e below T3 m 68 #[rv o, iv x1, iv x2, lv x3, .second] [(.int x2), (.ref o)] _
    refine st6 _ ?_
    refine XS.aloadN X6.here hx rfl (hb hby d1_71) rfl rfl ?_
    refine XS.lloadN X6.here hx rfl (hb hby d1_72) rfl ?_
    show oS p e below T6 m 73 #[rv o, iv x1, iv x2, lv x3, .second] [(.long x3), (.ref o)] _
    refine st9 _ ?_
    exact kt
  have Ec11 : Exa Z h9 o "com/example/even_shard/evenshard/Id" := (Ec7.wr W9)
  have KP12 : Keep h0 h9 [o] := ((((Keep.refl h0 [o]).wr W3 (Or.inl (List.mem_of_getElem? (i := 0) rfl))).wr W6 (Or.inl (List.mem_of_getElem? (i := 0) rfl))).wr W9 (Or.inl (List.mem_of_getElem? (i := 0) rfl)))
  have Fc13 : Fld Z h9 o "com/example/even_shard/evenshard/Id" "bucket" "I" (.int x1) := ((Fw3.other W6 (Or.inr (slot_ne (Or.inr (own_w hw 24 rfl)) (Or.inr (own_w hw 26 rfl)) (by decide) (t := .int) (t' := .int) (by decide) (by decide)))).other W9 (Or.inr (slot_ne (Or.inr (own_w hw 24 rfl)) (Or.inr (own_w hw 28 rfl)) (by decide) (t := .int) (t' := .long) (by decide) (by decide))))
  have Fc14 : Fld Z h9 o "com/example/even_shard/evenshard/Id" "type" "I" (.int x2) := (Fw6.other W9 (Or.inr (slot_ne (Or.inr (own_w hw 26 rfl)) (Or.inr (own_w hw 28 rfl)) (by decide) (t := .int) (t' := .long) (by decide) (by decide))))
  obtain ⟨fs, hr, hrun, hended, hW, hsame⟩ := X9.leave (v := none) (fun _ => rfl)
  refine ⟨_, _, pre0 _ (pre10 _ ?_), hrun, hended, _, _, rfl, ?_, ⟨_, rfl⟩, hW, hsame.mono (by decide) (by decide)⟩
  · show oS p e below T9 m 76 #[rv o, iv x1, iv x2, lv x3, .second] [] _
    exact X9.returnOut hx Bd.returns (hb hby d1_76) hr
  · show Q1 Z o x1 x2 x3 w_bucket_o w_type_o w_local_o h0 n0 _ T9.heap _
    rw [e9]
    exact ⟨rfl, N9, KP12, Ec11, Fc13, Fc14, Fw9⟩
theorem d5_0 : decode prog_20_method_6_code 0 = .ok (.aload_n 0, 1) := by decide +kernel
theorem d5_1 : decode prog_20_method_6_code 1 = .ok (.getfield 30, 3) := by decide +kernel
theorem d5_4 : decode prog_20_method_6_code 4 = .ok (.i2l, 1) := by decide +kernel
theorem d5_5 : decode prog_20_method_6_code 5 = .ok (.bipush 46, 2) := by decide +kernel
theorem d5_7 : decode prog_20_method_6_code 7 = .ok (.lshl, 1) := by decide +kernel
theorem d5_8 : decode prog_20_method_6_code 8 = .ok (.aload_n 0, 1) := by decide +kernel
theorem d5_9 : decode prog_20_method_6_code 9 = .ok (.getfield 34, 3) := by decide +kernel
theorem d5_12 : decode prog_20_method_6_code 12 = .ok (.i2l, 1) := by decide +kernel
theorem d5_13 : decode prog_20_method_6_code 13 = .ok (.bipush 36, 2) := by decide +kernel
theorem d5_15 : decode prog_20_method_6_code 15 = .ok (.lshl, 1) := by decide +kernel
theorem d5_16 : decode prog_20_method_6_code 16 = .ok (.lor, 1) := by decide +kernel
theorem d5_17 : decode prog_20_method_6_code 17 = .ok (.aload_n 0, 1) := by decide +kernel
theorem d5_18 : decode prog_20_method_6_code 18 = .ok (.getfield 37, 3) := by decide +kernel
theorem d5_21 : decode prog_20_method_6_code 21 = .ok (.lor, 1) := by decide +kernel
theorem d5_22 : decode prog_20_method_6_code 22 = .ok (.lreturn, 1) := by decide +kernel
theorem ef5 (m : MethodId) (o : Addr) : entryFrame m #[(.ref o)] 1 = mkF m 0 #[rv o] [] := by first | (simp [entryFrame, mkF, argsToLocals, Value.category]; done) | rfl
def Q5 (Z : State) (o : Addr) (w_bucket_o : Int32) (w_type_o : Int32) (w_local_o : Int64) (h0 : Heap) (n0 : Nat) (v : Option Value) (h : Heap) (L : List Loc) : Prop := v = some (.long ((((w_bucket_o.toInt64) <<< ((46 : Int32) &&& 0x3f).toInt64) ||| ((w_type_o.toInt64) <<< ((36 : Int32) &&& 0x3f).toInt64)) ||| w_local_o)) ∧ Fr n0 L ∧ h = h0
set_option maxRecDepth 65536 in
set_option maxHeartbeats 40000000 in
theorem rm5 (l : Launch) (Z : State) (a0 : Array Value) (hw : ∀ d ∈ tables_1, d.before a0 Z = true) (ws : List Jvm.Cond) (o : Addr) (w_bucket_o : Int32) (w_type_o : Int32) (w_local_o : Int64) (h0 : Heap) (n0 : Nat) (Z0 : n0 ≤ h0.size) (F_bucket_o : Fld Z h0 o "com/example/even_shard/evenshard/Id" "bucket" "I" (.int w_bucket_o)) (F_type_o : Fld Z h0 o "com/example/even_shard/evenshard/Id" "type" "I" (.int w_type_o)) (F_local_o : Fld Z h0 o "com/example/even_shard/evenshard/Id" "local" "J" (.long w_local_o)) :
    MetFree l (⟨"com/example/even_shard/evenshard/Id", "compose", "()J"⟩ : MethodName) (head1 (Jvm.Cond.code (⟨"com/example/even_shard/evenshard/Id", "compose", "()J"⟩ : MethodName) prog_20_method_6_code 1 (some .long) :: ws) ({ frames := 0, cells := 0, slots := 0, locals := 0 } : Room)) (fun a U => a = #[(.ref o)] ∧ Z.Warmed39 U.vm ∧ U.heap = h0) (fun _ _ _ _ _ => True) (fun _ U oc U' => ∃ v L, oc = .returned v ∧ Q5 Z o w_bucket_o w_type_o w_local_o h0 n0 v U'.heap L ∧ FrameEnd U oc U' L ({ frames := 0, cells := 0, slots := 0, locals := 0 } : Room).cells ({ frames := 0, cells := 0, slots := 0, locals := 0 } : Room).slots) := by
  refine MetFree.of_bodySF (plainFor_of_name own_pn1) hisR ?_
  intro p e s m args below meth c s₁ Bd hml0 hP hK
  obtain ⟨rfl, hZ, hh⟩ := hP
  have hx := Bd.exec
  have hby := Bd.bytes
  have hml : c.maxLocals = 1 := hml0
  have hown : s.vm.findClass "com/example/even_shard/evenshard/Id" = some m.cls := findClass_of_methodNamed Bd.named
  have hnm := (name_of_methodNamed Bd.named Bd.method).1
  have X0 : Stand p l e ({ frames := 0, cells := 0, slots := 0, locals := 0 } : Room) s m #[(.ref o)] below meth c s₁ [] 0 0 := Stand.of_body Bd
  have e0 : s₁.heap = h0 := by rw [← hh, Bd.state]; rfl
  have N0 := Fr.nil n0
  have pre0 : ∀ t, Steps p.tables e below (s₁.setTop (mkF m 0 #[rv o] [])) t → Steps p.tables e below (s₁.setTop (entryFrame m #[(.ref o)] 1)) t := fun t k => castTop (ef5 m o) k
  obtain ⟨T1, X1, e1, st1⟩ := getF X0 hx hZ hown (host := "") (Or.inl (own_w hw 23 rfl)) Via.refl e0 F_bucket_o (g := (mkF m 1 #[rv o] [(.ref o)])) rfl rfl (hb hby d5_1)
  obtain ⟨T2, X2, e2, st2⟩ := getF X1 hx hZ hown (host := "") (Or.inl (own_w hw 25 rfl)) Via.refl e1 F_type_o (g := (mkF m 9 #[rv o] [(.ref o), (.long ((w_bucket_o.toInt64) <<< ((46 : Int32) &&& 0x3f).toInt64))])) rfl rfl (hb hby d5_9)
  obtain ⟨T3, X3, e3, st3⟩ := getF X2 hx hZ hown (host := "") (Or.inl (own_w hw 27 rfl)) Via.refl e2 F_local_o (g := (mkF m 18 #[rv o] [(.ref o), (.long (((w_bucket_o.toInt64) <<< ((46 : Int32) &&& 0x3f).toInt64) ||| ((w_type_o.toInt64) <<< ((36 : Int32) &&& 0x3f).toInt64)))])) rfl rfl (hb hby d5_18)
  have pre4 : ∀ tz, oS p e below T3 m 22 #[rv o] [(.long ((((w_bucket_o.toInt64) <<< ((46 : Int32) &&& 0x3f).toInt64) ||| ((w_type_o.toInt64) <<< ((36 : Int32) &&& 0x3f).toInt64)) ||| w_local_o))] tz → oS p e below s₁ m 0 #[rv o] [] tz := fun tz kt => by
    show oS p e below s₁ m 0 #[rv o] [] _
    refine XS.aloadN X0.here hx rfl (hb hby d5_0) rfl rfl ?_
    show oS p e below s₁ m 1 #[rv o] [(.ref o)] _
    refine st1 _ ?_
    refine XS.i2l X1.here hx rfl (hb hby d5_4) rfl ?_
    refine XS.bipush X1.here hx rfl (hb hby d5_5) ?_
    refine XS.lshl X1.here hx rfl (hb hby d5_7) rfl ?_
    show oS p e below T1 m 8 #[rv o] [(.long ((w_bucket_o.toInt64) <<< ((46 : Int32) &&& 0x3f).toInt64))] _
    refine XS.aloadN X1.here hx rfl (hb hby d5_8) rfl rfl ?_
    show oS p e below T1 m 9 #[rv o] [(.ref o), (.long ((w_bucket_o.toInt64) <<< ((46 : Int32) &&& 0x3f).toInt64))] _
    refine st2 _ ?_
    refine XS.i2l X2.here hx rfl (hb hby d5_12) rfl ?_
    refine XS.bipush X2.here hx rfl (hb hby d5_13) ?_
    refine XS.lshl X2.here hx rfl (hb hby d5_15) rfl ?_
    show oS p e below T2 m 16 #[rv o] [(.long ((w_type_o.toInt64) <<< ((36 : Int32) &&& 0x3f).toInt64)), (.long ((w_bucket_o.toInt64) <<< ((46 : Int32) &&& 0x3f).toInt64))] _
    refine XS.lor X2.here hx rfl (hb hby d5_16) rfl ?_
    refine XS.aloadN X2.here hx rfl (hb hby d5_17) rfl rfl ?_
    show oS p e below T2 m 18 #[rv o] [(.ref o), (.long (((w_bucket_o.toInt64) <<< ((46 : Int32) &&& 0x3f).toInt64) ||| ((w_type_o.toInt64) <<< ((36 : Int32) &&& 0x3f).toInt64)))] _
    refine st3 _ ?_
    refine XS.lor X3.here hx rfl (hb hby d5_21) rfl ?_
    exact kt
  obtain ⟨fs, hr, hrun, hended, hW, hsame⟩ := X3.leave (v := some (.long ((((w_bucket_o.toInt64) <<< ((46 : Int32) &&& 0x3f).toInt64) ||| ((w_type_o.toInt64) <<< ((36 : Int32) &&& 0x3f).toInt64)) ||| w_local_o))) (fun h => by rw [Bd.returns] at h; cases h)
  refine ⟨_, _, pre0 _ (pre4 _ ?_), hrun, hended, _, _, rfl, ?_, ⟨_, rfl⟩, hW, hsame.mono (by decide) (by decide)⟩
  · show oS p e below T3 m 22 #[rv o] [(.long ((((w_bucket_o.toInt64) <<< ((46 : Int32) &&& 0x3f).toInt64) ||| ((w_type_o.toInt64) <<< ((36 : Int32) &&& 0x3f).toInt64)) ||| w_local_o))] _
    exact retOut X3 hx Bd.returns rfl (Or.inr (Or.inl ⟨rfl, rfl, _, rfl⟩)) (hb hby d5_22) hr
  · show Q5 Z o w_bucket_o w_type_o w_local_o h0 n0 _ T3.heap _
    rw [e3]
    exact ⟨rfl, N0, rfl⟩
theorem own_pd2 : parseMethodDescriptor "(IIJ)V" = some ⟨[.int, .int, .long], none⟩ := by decide +kernel
theorem own_pd3 : parseMethodDescriptor "()J" = some ⟨[], some .long⟩ := by decide +kernel
theorem own_pn2 : plainName "com/example/even_shard/evenshard/IdComposePinLaw" = true := by first | (simp [plainName, overriddenIn]; done) | decide +kernel
theorem ef0 (m : MethodId) (x1 : Int32) (x2 : Int32) (x3 : Int64) : entryFrame m #[(.int x1), (.int x2), (.long x3)] maxLocals = mkF m 0 #[iv x1, iv x2, lv x3, .second, .unset, .unset, .unset, .unset, .unset, .unset, .unset, .unset, .unset, .unset, .unset, .unset] [] := by first | (simp [entryFrame, mkF, argsToLocals, Value.category, maxLocals]; done) | rfl
def Q0 (Z : State) (x1 : Int32) (x2 : Int32) (x3 : Int64) (h0 : Heap) (n0 : Nat) (v : Option Value) (h : Heap) (L : List Loc) : Prop := v = some (.int (1 : Int32)) ∧ Fr n0 L
set_option maxRecDepth 65536 in
set_option maxHeartbeats 40000000 in
theorem rm0 (l : Launch) (Z : State) (a0 : Array Value) (hw : ∀ d ∈ tables_1, d.before a0 Z = true) (ws : List Jvm.Cond) (x1 : Int32) (x2 : Int32) (x3 : Int64) (h0 : Heap) (n0 : Nat) (Z0 : n0 ≤ h0.size) :
    MetFree l x (head1 (Jvm.Cond.code x code maxLocals ret :: ws) room_1) (fun a U => a = #[(.int x1), (.int x2), (.long x3)] ∧ Z.Warmed39 U.vm ∧ U.heap = h0) (fun _ _ _ _ _ => True) (fun _ U oc U' => ∃ v L, oc = .returned v ∧ Q0 Z x1 x2 x3 h0 n0 v U'.heap L ∧ FrameEnd U oc U' L room_1.cells room_1.slots) := by
  refine MetFree.of_bodySF (plainFor_of_name own_pn2) hisR ?_
  intro p e s m args below meth c s₁ Bd hml0 hP hK
  obtain ⟨rfl, hZ, hh⟩ := hP
  have hx := Bd.exec
  have hby := Bd.bytes
  have hml : c.maxLocals = 16 := hml0
  have hown : s.vm.findClass "com/example/even_shard/evenshard/IdComposePinLaw" = some m.cls := findClass_of_methodNamed Bd.named
  have hnm := (name_of_methodNamed Bd.named Bd.method).1
  have X0 : Stand p l e room_1 s m #[(.int x1), (.int x2), (.long x3)] below meth c s₁ [] 0 0 := Stand.of_body Bd
  have e0 : s₁.heap = h0 := by rw [← hh, Bd.state]; rfl
  have N0 := Fr.nil n0
  have pre0 : ∀ t, Steps p.tables e below (s₁.setTop (mkF m 0 #[iv x1, iv x2, lv x3, .second, .unset, .unset, .unset, .unset, .unset, .unset, .unset, .unset, .unset, .unset, .unset, .unset] [])) t → Steps p.tables e below (s₁.setTop (entryFrame m #[(.int x1), (.int x2), (.long x3)] maxLocals)) t := fun t k => castTop (ef0 m x1 x2 x3) k
  obtain ⟨y4, hy4⟩ : ∃ z, z = (x1 &&& (65535 : Int32)) := ⟨_, rfl⟩
  obtain ⟨y16, hy16⟩ : ∃ z, z = ((1 : Int32) + ((x2 &&& (2147483647 : Int32)) % (1023 : Int32))) := ⟨_, rfl⟩
  obtain ⟨y29, hy29⟩ : ∃ z, z = ((1 : Int64) + ((x3 &&& (9223372036854775807 : Int64)) - ((x3 &&& (9223372036854775807 : Int64)) / (68719476735 : Int64)) * (68719476735 : Int64))) := ⟨_, rfl⟩
  obtain ⟨T1, h1, X1, e1, E1, A1, D1, -, st1⟩ := newO X0 hx hZ hown (own_w hw 4 rfl) (own_w hw 5 rfl) (own_w hw 6 rfl) e0 (g := (mkF m 31 #[iv x1, iv x2, lv x3, .second, iv y4, iv y16, lv y29, .second, .unset, .unset, .unset, .unset, .unset, .unset, .unset, .unset] [])) rfl (hb hby at_31) (by decide) (by decide)
  obtain ⟨b1, g1⟩ : ∃ z, z = h0.size := ⟨_, rfl⟩
  rw [← g1] at A1 D1 st1
  have g_b1 : n0 ≤ b1 := Nat.le_trans Z0 (Nat.le_of_eq g1.symm)
  have F_bucket_b1 : Fld Z h1 b1 "com/example/even_shard/evenshard/Id" "bucket" "I" (.int (0 : Int32)) := D1 (Or.inr (own_w hw 24 rfl)) (ty := .int) (by decide)
  have F_type_b1 : Fld Z h1 b1 "com/example/even_shard/evenshard/Id" "type" "I" (.int (0 : Int32)) := D1 (Or.inr (own_w hw 26 rfl)) (ty := .int) (by decide)
  have F_local_b1 : Fld Z h1 b1 "com/example/even_shard/evenshard/Id" "local" "J" (.long (0 : Int64)) := D1 (Or.inr (own_w hw 28 rfl)) (ty := .long) (by decide)
  have hp2_k1 : ¬ (y4 < (0 : Int32)) := (by have q : 0 ≤ y4.toInt ∧ y4.toInt ≤ 65535 := (by rw [hy4]; exact own_b x1); rw [Int32.lt_iff_toInt_lt]; have e1 : (0 : Int32).toInt = 0 := rfl; omega)
  have hp2_k2 : ¬ ((65535 : Int32) < y4) := (by have q : 0 ≤ y4.toInt ∧ y4.toInt ≤ 65535 := (by rw [hy4]; exact own_b x1); rw [Int32.lt_iff_toInt_lt]; have e1 : (65535 : Int32).toInt = 65535 := rfl; omega)
  have hp2_k3 : ¬ (y16 < (1 : Int32)) := (by have q : 1 ≤ y16.toInt ∧ y16.toInt ≤ 1023 := (by rw [hy16]; exact own_t x2); rw [Int32.lt_iff_toInt_lt]; have e1 : (1 : Int32).toInt = 1 := rfl; omega)
  have hp2_k4 : ¬ ((1023 : Int32) < y16) := (by have q : 1 ≤ y16.toInt ∧ y16.toInt ≤ 1023 := (by rw [hy16]; exact own_t x2); rw [Int32.lt_iff_toInt_lt]; have e1 : (1023 : Int32).toInt = 1023 := rfl; omega)
  have hp2_k5 : ¬ (y29 < (1 : Int64)) := (by have q : 1 ≤ y29.toInt ∧ y29.toInt ≤ 68719476735 := (by rw [hy29]; exact own_l x3); rw [Int64.lt_iff_toInt_lt]; have e1 : (1 : Int64).toInt = 1 := rfl; omega)
  have hp2_k6 : ¬ ((68719476735 : Int64) < y29) := (by have q : 1 ≤ y29.toInt ∧ y29.toInt ≤ 68719476735 := (by rw [hy29]; exact own_l x3); rw [Int64.lt_iff_toInt_lt]; have e1 : (68719476735 : Int64).toInt = 68719476735 := rfl; omega)
  have Zc3 : n0 ≤ h1.size := (Nat.le_trans Z0 E1.1)
  obtain ⟨_, _, ⟨T2, Lw2, kw2, nw2⟩, -, X2, ⟨Lc2, hQ2, l2, y2, z2⟩, st2⟩ := X1.specialBack hx (y := (⟨"com/example/even_shard/evenshard/Id", "<init>", "(IIJ)V"⟩ : MethodName)) rfl hown (mvT hZ (own_w hw 7 rfl)) (mvT hZ (own_w hw 8 rfl)) (mvT hZ (own_w hw 9 rfl)) (by decide) (backOf (W := 1) (rm1 l Z a0 hw [] b1 y4 y16 y29 (.int (0 : Int32)) (.int (0 : Int32)) (.long (0 : Int64)) h1 n0 Zc3 hp2_k1 hp2_k2 hp2_k3 hp2_k4 hp2_k5 hp2_k6 A1 F_bucket_b1 g_b1 F_type_b1 F_local_b1) hZ (own_w hw 9 rfl) (own_w hw 6 rfl) (by decide) (by decide)) (g := (mkF m 41 #[iv x1, iv x2, lv x3, .second, iv y4, iv y16, lv y29, .second, .unset, .unset, .unset, .unset, .unset, .unset, .unset, .unset] [(.long y29), (.int y16), (.int y4), (.ref b1), (.ref b1)])) rfl (by rw [hml]; rfl) (Steps.refl _) (a := b1) (argsL := [(.int y4), (.int y16), (.long y29)]) (rest := [(.ref b1)]) (lenOf own_pd2 rfl) rfl (by show 2 * 0 + _ ≤ _; exact Nat.le_of_eq rfl) (hb hby at_41) (fun _ _ => ⟨rfl, e1, (by decide : 1 + 0 ≤ _), (by decide : 3 + 0 ≤ _)⟩)
  dsimp only [Pt.U, Pt.locs, Pt.cells, Pt.slots] at X2 l2 y2 z2 st2 hQ2
  subst l2 y2 z2
  obtain ⟨rfl, Nq2, K2, pf2_0, pf2_1, pf2_2, pf2_3⟩ := hQ2
  have N2 := Fr.app N0 Nq2
  have Zc5 : n0 ≤ T2.heap.size := (Nat.le_trans Zc3 K2.1)
  obtain ⟨cq4, kq4, q4a, q4b, q4c⟩ := isOf hZ rfl pf2_0
  obtain ⟨_, _, ⟨T4, Lw4, kw4, nw4⟩, -, X4, ⟨Lc4, hQ4, l4, y4, z4⟩, st4⟩ := X2.virtualBack hx (y := (⟨"com/example/even_shard/evenshard/Id", "compose", "()J"⟩ : MethodName)) (z := (⟨"com/example/even_shard/evenshard/Id", "compose", "()J"⟩ : MethodName)) hown (mvT hZ (own_w hw 29 rfl)) (mvT hZ (own_w hw 30 rfl)) (notFace_of_selects (args := #[]) (mvT hZ (own_w hw 32 rfl))) (mvT hZ (own_w hw 32 rfl)) (mvT hZ (own_w hw 31 rfl)) (by decide) (backOf (W := 0) (rm5 l Z a0 hw [] b1 y4 y16 y29 T2.heap n0 Zc5 pf2_1 pf2_2 pf2_3) hZ (own_w hw 33 rfl) (own_w hw 6 rfl) (by decide) (by decide)) q4a q4c (g := (mkF m 44 #[iv x1, iv x2, lv x3, .second, iv y4, iv y16, lv y29, .second, .unset, .unset, .unset, .unset, .unset, .unset, .unset, .unset] [(.ref b1)])) rfl (by rw [hml]; rfl) (Steps.refl _) (argsL := []) (rest := []) (lenOf own_pd3 rfl) rfl (by show 2 * 0 + _ ≤ _; exact Nat.le_of_eq rfl) (hb hby at_44) (fun _ _ => ⟨rfl, rfl, (by decide : 1 + 0 ≤ _), (by decide : 3 + 0 ≤ _)⟩)
  dsimp only [Pt.U, Pt.locs, Pt.cells, Pt.slots] at X4 l4 y4 z4 st4 hQ4
  subst l4 y4 z4
  obtain ⟨rfl, Nq4, eh4⟩ := hQ4
  have N4 := Fr.app N2 Nq4
  obtain ⟨y47, hy47⟩ : ∃ z, z = ((((y4.toInt64) <<< ((46 : Int32) &&& 0x3f).toInt64) ||| ((y16.toInt64) <<< ((36 : Int32) &&& 0x3f).toInt64)) ||| y29) := ⟨_, rfl⟩
  obtain ⟨y75, hy75⟩ : ∃ z, z = ((((y4.toInt64) * (70368744177664 : Int64)) + ((y16.toInt64) * (68719476736 : Int64))) + y29) := ⟨_, rfl⟩
  have hc82 : y47 = y75 := Classical.byContradiction fun hc82 => by
    exact hc82 (own_all y4 y16 y29 (by rw [hy4]; exact own_b x1) (by rw [hy16]; exact own_t x2) (by rw [hy29]; exact own_l x3) y47 y75 hy47 hy75).1
  have hc89 : (0 : Int64) < y47 := Classical.byContradiction fun hc89 => by
    exact hc89 (own_all y4 y16 y29 (by rw [hy4]; exact own_b x1) (by rw [hy16]; exact own_t x2) (by rw [hy29]; exact own_l x3) y47 y75 hy47 hy75).2.1
  have hc101 : (y47 / (70368744177664 : Int64)) = (y4.toInt64) := Classical.byContradiction fun hc101 => by
    exact hc101 (own_all y4 y16 y29 (by rw [hy4]; exact own_b x1) (by rw [hy16]; exact own_t x2) (by rw [hy29]; exact own_l x3) y47 y75 hy47 hy75).2.2.1
  have hc117 : ((y47 / (68719476736 : Int64)) - ((y47 / (68719476736 : Int64)) / (1024 : Int64)) * (1024 : Int64)) = (y16.toInt64) := Classical.byContradiction fun hc117 => by
    exact hc117 (own_all y4 y16 y29 (by rw [hy4]; exact own_b x1) (by rw [hy16]; exact own_t x2) (by rw [hy29]; exact own_l x3) y47 y75 hy47 hy75).2.2.2.1
  have hc128 : (y47 - (y47 / (68719476736 : Int64)) * (68719476736 : Int64)) = y29 := Classical.byContradiction fun hc128 => by
    exact hc128 (own_all y4 y16 y29 (by rw [hy4]; exact own_b x1) (by rw [hy16]; exact own_t x2) (by rw [hy29]; exact own_l x3) y47 y75 hy47 hy75).2.2.2.2
  have pre6 : ∀ tz, oS p e below T4 m 136 #[iv x1, iv x2, lv x3, .second, iv y4, iv y16, lv y29, .second, lv y47, .second, lv (70368744177664 : Int64), .second, lv (68719476736 : Int64), .second, lv y75, .second] [(.int (1 : Int32))] tz → oS p e below s₁ m 0 #[iv x1, iv x2, lv x3, .second, .unset, .unset, .unset, .unset, .unset, .unset, .unset, .unset, .unset, .unset, .unset, .unset] [] tz := fun tz kt => by
    show oS p e below s₁ m 0 #[iv x1, iv x2, lv x3, .second, .unset, .unset, .unset, .unset, .unset, .unset, .unset, .unset, .unset, .unset, .unset, .unset] [] _
    refine XS.iloadN X0.here hx rfl (hb hby at_0) rfl ?_
    refine X0.ldcInt hx hown (mvT hZ (own_w hw 0 rfl)) (g := (mkF m 1 #[iv x1, iv x2, lv x3, .second, .unset, .unset, .unset, .unset, .unset, .unset, .unset, .unset, .unset, .unset, .unset, .unset] [(.int x1)])) rfl (hb hby at_1) _ ?_
    refine XS.iand X0.here hx rfl (hb hby at_3) rfl ?_
    refine XS.istore X0.here hx rfl (hb hby at_4) rfl (l' := #[iv x1, iv x2, lv x3, .second, iv y4, .unset, .unset, .unset, .unset, .unset, .unset, .unset, .unset, .unset, .unset, .unset]) (by rw [hy4]; rfl) ?_
    show oS p e below s₁ m 6 #[iv x1, iv x2, lv x3, .second, iv y4, .unset, .unset, .unset, .unset, .unset, .unset, .unset, .unset, .unset, .unset, .unset] [] _
    refine XS.iconst X0.here hx rfl (hb hby at_6) ?_
    refine XS.iloadN X0.here hx rfl (hb hby at_7) rfl ?_
    refine X0.ldcInt hx hown (mvT hZ (own_w hw 1 rfl)) (g := (mkF m 8 #[iv x1, iv x2, lv x3, .second, iv y4, .unset, .unset, .unset, .unset, .unset, .unset, .unset, .unset, .unset, .unset, .unset] [(.int x2), (.int (1 : Int32))])) rfl (hb hby at_8) _ ?_
    refine XS.iand X0.here hx rfl (hb hby at_10) rfl ?_
    show oS p e below s₁ m 11 #[iv x1, iv x2, lv x3, .second, iv y4, .unset, .unset, .unset, .unset, .unset, .unset, .unset, .unset, .unset, .unset, .unset] [(.int (x2 &&& (2147483647 : Int32))), (.int (1 : Int32))] _
    refine XS.sipush X0.here hx rfl (hb hby at_11) ?_
    refine iremM X0 hx rfl (hb hby at_14) rfl (by decide) ?_
    refine XS.iadd X0.here hx rfl (hb hby at_15) rfl ?_
    refine XS.istore X0.here hx rfl (hb hby at_16) rfl (l' := #[iv x1, iv x2, lv x3, .second, iv y4, iv y16, .unset, .unset, .unset, .unset, .unset, .unset, .unset, .unset, .unset, .unset]) (by rw [hy16]; rfl) ?_
    show oS p e below s₁ m 18 #[iv x1, iv x2, lv x3, .second, iv y4, iv y16, .unset, .unset, .unset, .unset, .unset, .unset, .unset, .unset, .unset, .unset] [] _
    refine XS.lconst X0.here hx rfl (hb hby at_18) ?_
    refine XS.lloadN X0.here hx rfl (hb hby at_19) rfl ?_
    refine X0.ldc2Long hx hown (mvT hZ (own_w hw 2 rfl)) (g := (mkF m 20 #[iv x1, iv x2, lv x3, .second, iv y4, iv y16, .unset, .unset, .unset, .unset, .unset, .unset, .unset, .unset, .unset, .unset] [(.long x3), (.long (1 : Int64))])) rfl (hb hby at_20) _ ?_
    refine XS.land X0.here hx rfl (hb hby at_23) rfl ?_
    show oS p e below s₁ m 24 #[iv x1, iv x2, lv x3, .second, iv y4, iv y16, .unset, .unset, .unset, .unset, .unset, .unset, .unset, .unset, .unset, .unset] [(.long (x3 &&& (9223372036854775807 : Int64))), (.long (1 : Int64))] _
    refine X0.ldc2Long hx hown (mvT hZ (own_w hw 3 rfl)) (g := (mkF m 24 #[iv x1, iv x2, lv x3, .second, iv y4, iv y16, .unset, .unset, .unset, .unset, .unset, .unset, .unset, .unset, .unset, .unset] [(.long (x3 &&& (9223372036854775807 : Int64))), (.long (1 : Int64))])) rfl (hb hby at_24) _ ?_
    refine XS.lrem X0.here hx rfl (hb hby at_27) rfl (by decide) ?_
    refine XS.ladd X0.here hx rfl (hb hby at_28) rfl ?_
    refine XS.lstore X0.here hx rfl (hb hby at_29) rfl (l' := #[iv x1, iv x2, lv x3, .second, iv y4, iv y16, lv y29, .second, .unset, .unset, .unset, .unset, .unset, .unset, .unset, .unset]) (by rw [hy29]; rfl) ?_
    show oS p e below s₁ m 31 #[iv x1, iv x2, lv x3, .second, iv y4, iv y16, lv y29, .second, .unset, .unset, .unset, .unset, .unset, .unset, .unset, .unset] [] _
    refine st1 _ ?_
    refine XS.dup X1.here hx rfl (hb hby at_34) rfl rfl ?_
    refine XS.iload X1.here hx rfl (hb hby at_35) rfl ?_
    refine XS.iload X1.here hx rfl (hb hby at_37) rfl ?_
    show oS p e below T1 m 39 #[iv x1, iv x2, lv x3, .second, iv y4, iv y16, lv y29, .second, .unset, .unset, .unset, .unset, .unset, .unset, .unset, .unset] [(.int y16), (.int y4), (.ref b1), (.ref b1)] _
    refine XS.lload X1.here hx rfl (hb hby at_39) rfl ?_
    show oS p e below T1 m 41 #[iv x1, iv x2, lv x3, .second, iv y4, iv y16, lv y29, .second, .unset, .unset, .unset, .unset, .unset, .unset, .unset, .unset] [(.long y29), (.int y16), (.int y4), (.ref b1), (.ref b1)] _
    refine st2.trans ?_
    show oS p e below T2 m 44 #[iv x1, iv x2, lv x3, .second, iv y4, iv y16, lv y29, .second, .unset, .unset, .unset, .unset, .unset, .unset, .unset, .unset] [(.ref b1)] _
    refine st4.trans ?_
    refine XS.lstore X4.here hx rfl (hb hby at_47) rfl (l' := #[iv x1, iv x2, lv x3, .second, iv y4, iv y16, lv y29, .second, lv y47, .second, .unset, .unset, .unset, .unset, .unset, .unset]) (by rw [hy47]; rfl) ?_
    refine X4.ldc2Long hx hown (mvT hZ (own_w hw 34 rfl)) (g := (mkF m 49 #[iv x1, iv x2, lv x3, .second, iv y4, iv y16, lv y29, .second, lv y47, .second, .unset, .unset, .unset, .unset, .unset, .unset] [])) rfl (hb hby at_49) _ ?_
    refine XS.lstore X4.here hx rfl (hb hby at_52) rfl (l' := #[iv x1, iv x2, lv x3, .second, iv y4, iv y16, lv y29, .second, lv y47, .second, lv (70368744177664 : Int64), .second, .unset, .unset, .unset, .unset]) rfl ?_
    show oS p e below T4 m 54 #[iv x1, iv x2, lv x3, .second, iv y4, iv y16, lv y29, .second, lv y47, .second, lv (70368744177664 : Int64), .second, .unset, .unset, .unset, .unset] [] _
    refine X4.ldc2Long hx hown (mvT hZ (own_w hw 35 rfl)) (g := (mkF m 54 #[iv x1, iv x2, lv x3, .second, iv y4, iv y16, lv y29, .second, lv y47, .second, lv (70368744177664 : Int64), .second, .unset, .unset, .unset, .unset] [])) rfl (hb hby at_54) _ ?_
    refine XS.lstore X4.here hx rfl (hb hby at_57) rfl (l' := #[iv x1, iv x2, lv x3, .second, iv y4, iv y16, lv y29, .second, lv y47, .second, lv (70368744177664 : Int64), .second, lv (68719476736 : Int64), .second, .unset, .unset]) rfl ?_
    refine XS.iload X4.here hx rfl (hb hby at_59) rfl ?_
    refine XS.i2l X4.here hx rfl (hb hby at_61) rfl ?_
    show oS p e below T4 m 62 #[iv x1, iv x2, lv x3, .second, iv y4, iv y16, lv y29, .second, lv y47, .second, lv (70368744177664 : Int64), .second, lv (68719476736 : Int64), .second, .unset, .unset] [(.long (y4.toInt64))] _
    refine XS.lload X4.here hx rfl (hb hby at_62) rfl ?_
    refine XS.lmul X4.here hx rfl (hb hby at_64) rfl ?_
    refine XS.iload X4.here hx rfl (hb hby at_65) rfl ?_
    refine XS.i2l X4.here hx rfl (hb hby at_67) rfl ?_
    show oS p e below T4 m 68 #[iv x1, iv x2, lv x3, .second, iv y4, iv y16, lv y29, .second, lv y47, .second, lv (70368744177664 : Int64), .second, lv (68719476736 : Int64), .second, .unset, .unset] [(.long (y16.toInt64)), (.long ((y4.toInt64) * (70368744177664 : Int64)))] _
    refine XS.lload X4.here hx rfl (hb hby at_68) rfl ?_
    refine XS.lmul X4.here hx rfl (hb hby at_70) rfl ?_
    refine XS.ladd X4.here hx rfl (hb hby at_71) rfl ?_
    refine XS.lload X4.here hx rfl (hb hby at_72) rfl ?_
    show oS p e below T4 m 74 #[iv x1, iv x2, lv x3, .second, iv y4, iv y16, lv y29, .second, lv y47, .second, lv (70368744177664 : Int64), .second, lv (68719476736 : Int64), .second, .unset, .unset] [(.long y29), (.long (((y4.toInt64) * (70368744177664 : Int64)) + ((y16.toInt64) * (68719476736 : Int64))))] _
    refine XS.ladd X4.here hx rfl (hb hby at_74) rfl ?_
    refine XS.lstore X4.here hx rfl (hb hby at_75) rfl (l' := #[iv x1, iv x2, lv x3, .second, iv y4, iv y16, lv y29, .second, lv y47, .second, lv (70368744177664 : Int64), .second, lv (68719476736 : Int64), .second, lv y75, .second]) (by rw [hy75]; rfl) ?_
    refine XS.lload X4.here hx rfl (hb hby at_77) rfl ?_
    refine XS.lload X4.here hx rfl (hb hby at_79) rfl ?_
    show oS p e below T4 m 81 #[iv x1, iv x2, lv x3, .second, iv y4, iv y16, lv y29, .second, lv y47, .second, lv (70368744177664 : Int64), .second, lv (68719476736 : Int64), .second, lv y75, .second] [(.long y75), (.long y47)] _
    refine XS.lcmp X4.here hx rfl (hb hby at_81) rfl ?_
    refine XS.ifNo X4.here hx rfl (hb hby at_82) rfl ((if0 _ _).trans (teq ((lw_eq y47 y75).mpr hc82)).2) ?_
    refine XS.lload X4.here hx rfl (hb hby at_85) rfl ?_
    refine XS.lconst X4.here hx rfl (hb hby at_87) ?_
    show oS p e below T4 m 88 #[iv x1, iv x2, lv x3, .second, iv y4, iv y16, lv y29, .second, lv y47, .second, lv (70368744177664 : Int64), .second, lv (68719476736 : Int64), .second, lv y75, .second] [(.long (0 : Int64)), (.long y47)] _
    refine XS.lcmp X4.here hx rfl (hb hby at_88) rfl ?_
    refine XS.ifNo X4.here hx rfl (hb hby at_89) rfl ((if0 _ _).trans (tlt ((lw_gt y47 (0 : Int64)).mpr hc89)).2.2.2) ?_
    refine XS.lload X4.here hx rfl (hb hby at_92) rfl ?_
    refine XS.lload X4.here hx rfl (hb hby at_94) rfl ?_
    show oS p e below T4 m 96 #[iv x1, iv x2, lv x3, .second, iv y4, iv y16, lv y29, .second, lv y47, .second, lv (70368744177664 : Int64), .second, lv (68719476736 : Int64), .second, lv y75, .second] [(.long (70368744177664 : Int64)), (.long y47)] _
    refine XS.ldiv X4.here hx rfl (hb hby at_96) rfl (by decide) ?_
    refine XS.iload X4.here hx rfl (hb hby at_97) rfl ?_
    refine XS.i2l X4.here hx rfl (hb hby at_99) rfl ?_
    refine XS.lcmp X4.here hx rfl (hb hby at_100) rfl ?_
    show oS p e below T4 m 101 #[iv x1, iv x2, lv x3, .second, iv y4, iv y16, lv y29, .second, lv y47, .second, lv (70368744177664 : Int64), .second, lv (68719476736 : Int64), .second, lv y75, .second] [(.int (lcmpW (y47 / (70368744177664 : Int64)) (y4.toInt64)))] _
    refine XS.ifNo X4.here hx rfl (hb hby at_101) rfl ((if0 _ _).trans (teq ((lw_eq (y47 / (70368744177664 : Int64)) (y4.toInt64)).mpr hc101)).2) ?_
    refine XS.lload X4.here hx rfl (hb hby at_104) rfl ?_
    refine XS.lload X4.here hx rfl (hb hby at_106) rfl ?_
    refine XS.ldiv X4.here hx rfl (hb hby at_108) rfl (by decide) ?_
    show oS p e below T4 m 109 #[iv x1, iv x2, lv x3, .second, iv y4, iv y16, lv y29, .second, lv y47, .second, lv (70368744177664 : Int64), .second, lv (68719476736 : Int64), .second, lv y75, .second] [(.long (y47 / (68719476736 : Int64)))] _
    refine X4.ldc2Long hx hown (mvT hZ (own_w hw 36 rfl)) (g := (mkF m 109 #[iv x1, iv x2, lv x3, .second, iv y4, iv y16, lv y29, .second, lv y47, .second, lv (70368744177664 : Int64), .second, lv (68719476736 : Int64), .second, lv y75, .second] [(.long (y47 / (68719476736 : Int64)))])) rfl (hb hby at_109) _ ?_
    refine XS.lrem X4.here hx rfl (hb hby at_112) rfl (by decide) ?_
    refine XS.iload X4.here hx rfl (hb hby at_113) rfl ?_
    refine XS.i2l X4.here hx rfl (hb hby at_115) rfl ?_
    show oS p e below T4 m 116 #[iv x1, iv x2, lv x3, .second, iv y4, iv y16, lv y29, .second, lv y47, .second, lv (70368744177664 : Int64), .second, lv (68719476736 : Int64), .second, lv y75, .second] [(.long (y16.toInt64)), (.long ((y47 / (68719476736 : Int64)) - ((y47 / (68719476736 : Int64)) / (1024 : Int64)) * (1024 : Int64)))] _
    refine XS.lcmp X4.here hx rfl (hb hby at_116) rfl ?_
    refine XS.ifNo X4.here hx rfl (hb hby at_117) rfl ((if0 _ _).trans (teq ((lw_eq ((y47 / (68719476736 : Int64)) - ((y47 / (68719476736 : Int64)) / (1024 : Int64)) * (1024 : Int64)) (y16.toInt64)).mpr hc117)).2) ?_
    refine XS.lload X4.here hx rfl (hb hby at_120) rfl ?_
    refine XS.lload X4.here hx rfl (hb hby at_122) rfl ?_
    show oS p e below T4 m 124 #[iv x1, iv x2, lv x3, .second, iv y4, iv y16, lv y29, .second, lv y47, .second, lv (70368744177664 : Int64), .second, lv (68719476736 : Int64), .second, lv y75, .second] [(.long (68719476736 : Int64)), (.long y47)] _
    refine XS.lrem X4.here hx rfl (hb hby at_124) rfl (by decide) ?_
    refine XS.lload X4.here hx rfl (hb hby at_125) rfl ?_
    refine XS.lcmp X4.here hx rfl (hb hby at_127) rfl ?_
    refine XS.ifNo X4.here hx rfl (hb hby at_128) rfl ((if0 _ _).trans (teq ((lw_eq (y47 - (y47 / (68719476736 : Int64)) * (68719476736 : Int64)) y29).mpr hc128)).2) ?_
    show oS p e below T4 m 131 #[iv x1, iv x2, lv x3, .second, iv y4, iv y16, lv y29, .second, lv y47, .second, lv (70368744177664 : Int64), .second, lv (68719476736 : Int64), .second, lv y75, .second] [] _
    refine XS.iconst X4.here hx rfl (hb hby at_131) ?_
    refine XS.goto X4.here hx rfl (pc0 := 132) (pc' := 136) rfl (hb hby at_132) (by decide) (by decide) ?_
    exact kt
  obtain ⟨fs, hr, hrun, hended, hW, hsame⟩ := X4.leave (v := some (.int (1 : Int32))) (fun h => by rw [Bd.returns] at h; cases h)
  refine ⟨_, _, pre0 _ (pre6 _ ?_), hrun, hended, _, _, rfl, ?_, ⟨_, rfl⟩, hW, hsame.mono (by decide) (by decide)⟩
  · show oS p e below T4 m 136 #[iv x1, iv x2, lv x3, .second, iv y4, iv y16, lv y29, .second, lv y47, .second, lv (70368744177664 : Int64), .second, lv (68719476736 : Int64), .second, lv y75, .second] [(.int (1 : Int32))] _
    exact retN X4 hx (t := .boolean) Bd.returns (by simp) (hb hby at_136) hr
  · show Q0 Z x1 x2 x3 h0 n0 _ T4.heap _
    rw [eh4]
    exact ⟨rfl, N4⟩
set_option maxRecDepth 65536 in
set_option maxHeartbeats 40000000 in
theorem comes_1 {Post : Tables → Env → Array Value → State → Outcome → State → Prop} (hpost : ∀ tb e args s v u, (limb_1_1.after args s (.returned v) u = true ∧ limb_1_2.after args s (.returned v) u = true ∧ True) → FrameEnd s (.returned v) u (Jvm.fieldLocs frame_1_writes args s ++ Jvm.arrayLocs frame_1_arrays args s ++ Jvm.staticLocs frame_1_statics s) 16 128 → Post tb e args s (.returned v) u) :
    ArmFor flags0 classFile x code maxLocals ret World_1 tables_1 room_1 Calls_1 rest_1 Pre_1 Post := by
  intro l hfl _ _ p e ha hc hk s m args below hf hA hF happ hP
  obtain ⟨hcalls, hrest, hpre⟩ := hP
  obtain ⟨-, -, -, hnamed, -, -, -, hat⟩ := (Spec.applies_iff hf).mp happ
  obtain ⟨hg, hn⟩ := and_e (Cond.before_iff.mp (show (Jvm.Cond.and given_1 narrow_1).before args s = true from hpre))
  obtain ⟨gc, gr0⟩ := and_e hg
  obtain ⟨ga0, gr1⟩ := and_e gr0
  obtain ⟨ga1, gr2⟩ := and_e gr1
  have ga2 := gr2
  obtain ⟨w0, w1, w2, rfl⟩ : ∃ w0 w1 w2 : Value, args = #[w0, w1, w2] := by
    have hs : args.size = 3 := by simpa [Cond.value, given_1] using gc
    obtain ⟨L⟩ := args
    match L, hs with
    | [w0, w1, w2], _ => exact ⟨w0, w1, w2, rfl⟩
  have hw := fun d (hd : d ∈ tables_1) => atoms_spec (ws := Jvm.Cond.code x code maxLocals ret :: tables_1) hat d (List.mem_cons_of_mem _ hd)
  obtain ⟨i0, ei0⟩ := is_v ga0
  obtain rfl : w0 = (.int i0) := Option.some.inj ei0
  obtain ⟨i1, ei1⟩ := is_v ga1
  obtain rfl : w1 = (.int i1) := Option.some.inj ei1
  obtain ⟨i2, ei2⟩ := isL_v ga2
  obtain rfl : w2 = (.long i2) := Option.some.inj ei2
  obtain ⟨n, o, h1, h2, h3, _, L, rfl, ⟨rfl, N⟩, hq⟩ := rm0 l s _ hw tables_1 i0 i1 i2 s.heap s.heap.size (Nat.le_refl _)  p e ha hc hk s m _ below hf ((Spec.applies_iff_loose hf).mp happ).1 ⟨rfl, State.Warmed39.refl s, rfl⟩ trivial
  refine ⟨n, _, h1, h2, h3, hpost _ _ _ _ _ _ ⟨Cond.after_iff.mpr rfl, Cond.after_iff.mpr (eq_i res_at (Term.int_eval (1)) rfl), trivial⟩ ⟨hq.1, hq.2.1, (hq.2.2.sift fun y hy => Or.inr (N y hy)).mono (by decide) (by decide)⟩⟩
theorem main_1_1 : Claimed_1_1 := comes_1 fun _ _ _ _ _ _ h hF => ⟨h.1, hF⟩
theorem main_1_2 : Claimed_1_2 := comes_1 fun _ _ _ _ _ _ h hF => ⟨h.2.1, hF⟩
end Jvm.Pilot.@@N@@
namespace Jvm.Pilot.@@N@@
open Jvm Jvm.ClassFile Sem Op Lib Jvm.Free Jvm.Stand Jvm.Pilot.@@N@@.Jvm.D
/-! MADE BY PROGRAM (witnessworld.py) out of the Statement's table words and the real class files: 10 classes; the members and pool entries that the words name. The judged class is class 1, her method 1. -/
namespace start1
open Jvm.ClassFile
def u (s : String) : CpInfo := .utf8 (stringToUtf16 s)
/-- a pool by its gaps: so many unusable entries, then the entry; so many at the end -/
def gap : Nat → List CpInfo → List CpInfo
  | 0, r => r
  | n + 1, r => .unusable :: gap n r
def poolList (es : List (Nat × CpInfo)) (last : Nat) : List CpInfo := es.foldr (fun e r => gap e.1 (e.2 :: r)) (gap last [])
def pool (es : List (Nat × CpInfo)) (last : Nat) : Array CpInfo := ⟨poolList es last⟩
def fileOf (pool : Array CpInfo) (this : Nat) (attrs : Array Attribute := #[]) (ms : Array MethodInfo := #[]) (fl : Nat := 33) (sup : Nat := 0) (ifs : Array Nat := #[]) (fds : Array FieldInfo := #[]) : ClassFile where
  minorVersion := 0
  majorVersion := 65
  constantPool := pool
  accessFlags := fl
  thisClass := this
  superClass := sup
  interfaces := ifs
  fields := fds
  methods := ms
  attributes := attrs
def plain (name : String) (sup : Option ClassId) : Class where
  name := name
  kind := .ordinary
  loader := none
  accessFlags := 33
  super := sup
  interfaces := #[]
  cf := none
  fields := #[]
  methods := #[]
  instanceTypes := #[]
  staticTypes := #[]
  resolved := #[]
  callSites := []
  init := .initialized
  statics := none
  mirror := none

def pool0 : Array CpInfo := pool [(5, u "<init>"), (0, u "()V"), (1, .class_ 10), (1, u "java/lang/Object")] 113

def k0c0 : Code := { maxStack := 0, maxLocals := 1, code := object_method_1_code, exceptionTable := #[], attributes := #[] }
def k0m0 : Method := { name := "<init>", desc := "()V", sig := { parameters := [], returnType := none }, accessFlags := 1, code := some k0c0 }
/-- java/lang/Object -/
def k0 : Class := { plain "java/lang/Object" none with
  accessFlags := 33
  interfaces := #[]
  cf := some (fileOf pool0 8 #[] #[{ accessFlags := 1, nameIndex := 5, descriptorIndex := 6, attributes := #[] }] 33 0 #[] #[])
  fields := #[]
  methods := #[k0m0]
  instanceTypes := #[]
  staticTypes := #[]
  resolved := Array.replicate 124 none
  statics := none }

def pool1 : Array CpInfo := pool [(2, .class_ 4), (1, u "java/lang/Object"), (0, u "<init>"), (0, u "()V"), (0, .integer 65535), (0, .integer 2147483647), (0, .long 9223372036854775807), (1, .long 68719476735), (1, .class_ 14), (0, u "com/example/even_shard/evenshard/Id"), (0, .methodref 13 16), (0, .nameAndType 5 17), (0, u "(IIJ)V"), (0, .methodref 13 19), (0, .nameAndType 20 21), (0, u "compose"), (0, u "()J"), (0, .long 70368744177664), (1, .long 68719476736), (1, .long 1024), (1, .class_ 29), (0, u "com/example/even_shard/evenshard/IdComposePinLaw"), (2, u "law"), (0, u "(IIJ)Z")] 3

def k1m0 : Method := { name := "<init>", desc := "()V", sig := { parameters := [], returnType := none }, accessFlags := 1, code := none }
def k1c1 : Code := { maxStack := 6, maxLocals := 16, code := code, exceptionTable := #[], attributes := #[] }
def k1m1 : Method := { name := "law", desc := "(IIJ)Z", sig := { parameters := [.int, .int, .long], returnType := some .boolean }, accessFlags := 9, code := some k1c1 }
/-- com/example/even_shard/evenshard/IdComposePinLaw -/
def k1 : Class := { plain "com/example/even_shard/evenshard/IdComposePinLaw" (some 0) with
  accessFlags := 49
  interfaces := #[]
  cf := some (fileOf pool1 28 #[] #[{ accessFlags := 1, nameIndex := 5, descriptorIndex := 6, attributes := #[] }, { accessFlags := 9, nameIndex := 32, descriptorIndex := 33, attributes := #[] }] 49 2 #[] #[])
  fields := #[]
  methods := #[k1m0, k1m1]
  instanceTypes := #[]
  staticTypes := #[]
  resolved := Array.replicate 37 none
  statics := none }

def pool2 : Array CpInfo := pool [(1, .methodref 2 3), (0, .class_ 4), (0, .nameAndType 5 6), (0, u "java/lang/Object"), (0, u "<init>"), (0, u "()V"), (0, .class_ 8), (0, u "java/lang/Record")] 13

def k2c0 : Code := { maxStack := 1, maxLocals := 1, code := jdk_30_method_1_code, exceptionTable := #[], attributes := #[] }
def k2m0 : Method := { name := "<init>", desc := "()V", sig := { parameters := [], returnType := none }, accessFlags := 4, code := some k2c0 }
/-- java/lang/Record -/
def k2 : Class := { plain "java/lang/Record" (some 0) with
  accessFlags := 1057
  interfaces := #[]
  cf := some (fileOf pool2 7 #[] #[{ accessFlags := 4, nameIndex := 5, descriptorIndex := 6, attributes := #[] }] 1057 2 #[] #[])
  fields := #[]
  methods := #[k2m0]
  instanceTypes := #[]
  staticTypes := #[]
  resolved := Array.replicate 22 none
  statics := none }

def pool3 : Array CpInfo := pool [(3, .methodref 4 5), (0, .class_ 6), (0, .nameAndType 7 8), (0, u "java/lang/Record"), (0, u "<init>"), (0, u "()V"), (0, .class_ 10), (0, u "com/example/even_shard/evenshard/Id"), (0, .integer 65535), (9, .methodref 9 22), (0, .nameAndType 23 24), (0, u "requireType"), (0, u "(I)I"), (0, .long 68719476735), (4, .fieldref 9 31), (0, .nameAndType 32 33), (0, u "bucket"), (0, u "I"), (0, .fieldref 9 35), (0, .nameAndType 36 33), (0, u "type"), (0, .fieldref 9 38), (0, .nameAndType 39 40), (0, u "local"), (0, u "J"), (6, u "(IIJ)V"), (26, u "MIN_BUCKET"), (2, u "MAX_BUCKET"), (0, u "MIN_TYPE"), (1, u "MAX_TYPE"), (1, u "MIN_LOCAL"), (2, u "MAX_LOCAL"), (0, u "BUCKET_SHIFT"), (1, u "TYPE_SHIFT"), (1, u "ZERO_BITS_SHIFT"), (8, u "compose"), (0, u "()J")] 40

def k3c0 : Code := { maxStack := 4, maxLocals := 5, code := prog_20_method_1_code, exceptionTable := #[], attributes := #[] }
def k3m0 : Method := { name := "<init>", desc := "(IIJ)V", sig := { parameters := [.int, .int, .long], returnType := none }, accessFlags := 1, code := some k3c0 }
def k3c1 : Code := { maxStack := 3, maxLocals := 1, code := prog_20_method_2_code, exceptionTable := #[], attributes := #[] }
def k3m1 : Method := { name := "requireType", desc := "(I)I", sig := { parameters := [.int], returnType := some .int }, accessFlags := 8, code := some k3c1 }
def k3c2 : Code := { maxStack := 5, maxLocals := 1, code := prog_20_method_6_code, exceptionTable := #[], attributes := #[] }
def k3m2 : Method := { name := "compose", desc := "()J", sig := { parameters := [], returnType := some .long }, accessFlags := 1, code := some k3c2 }
/-- com/example/even_shard/evenshard/Id -/
def k3 : Class := { plain "com/example/even_shard/evenshard/Id" (some 2) with
  accessFlags := 49
  interfaces := #[]
  cf := some (fileOf pool3 9 #[] #[{ accessFlags := 1, nameIndex := 7, descriptorIndex := 47, attributes := #[] }, { accessFlags := 8, nameIndex := 23, descriptorIndex := 24, attributes := #[] }, { accessFlags := 1, nameIndex := 99, descriptorIndex := 100, attributes := #[] }] 49 4 #[] #[{ accessFlags := 18, nameIndex := 32, descriptorIndex := 33, attributes := #[] }, { accessFlags := 18, nameIndex := 36, descriptorIndex := 33, attributes := #[] }, { accessFlags := 18, nameIndex := 39, descriptorIndex := 40, attributes := #[] }, { accessFlags := 25, nameIndex := 74, descriptorIndex := 33, attributes := #[] }, { accessFlags := 25, nameIndex := 77, descriptorIndex := 33, attributes := #[] }, { accessFlags := 25, nameIndex := 78, descriptorIndex := 33, attributes := #[] }, { accessFlags := 25, nameIndex := 80, descriptorIndex := 33, attributes := #[] }, { accessFlags := 25, nameIndex := 82, descriptorIndex := 40, attributes := #[] }, { accessFlags := 25, nameIndex := 85, descriptorIndex := 40, attributes := #[] }, { accessFlags := 26, nameIndex := 86, descriptorIndex := 33, attributes := #[] }, { accessFlags := 26, nameIndex := 88, descriptorIndex := 33, attributes := #[] }, { accessFlags := 26, nameIndex := 90, descriptorIndex := 33, attributes := #[] }])
  fields := #[{ name := "bucket", type := .int, accessFlags := 18, slot := 0, constantValue := 0 }, { name := "type", type := .int, accessFlags := 18, slot := 1, constantValue := 0 }, { name := "local", type := .long, accessFlags := 18, slot := 2, constantValue := 0 }, { name := "MIN_BUCKET", type := .int, accessFlags := 25, slot := 0, constantValue := 0 }, { name := "MAX_BUCKET", type := .int, accessFlags := 25, slot := 1, constantValue := 0 }, { name := "MIN_TYPE", type := .int, accessFlags := 25, slot := 2, constantValue := 0 }, { name := "MAX_TYPE", type := .int, accessFlags := 25, slot := 3, constantValue := 0 }, { name := "MIN_LOCAL", type := .long, accessFlags := 25, slot := 4, constantValue := 0 }, { name := "MAX_LOCAL", type := .long, accessFlags := 25, slot := 5, constantValue := 0 }, { name := "BUCKET_SHIFT", type := .int, accessFlags := 26, slot := 6, constantValue := 0 }, { name := "TYPE_SHIFT", type := .int, accessFlags := 26, slot := 7, constantValue := 0 }, { name := "ZERO_BITS_SHIFT", type := .int, accessFlags := 26, slot := 8, constantValue := 0 }]
  methods := #[k3m0, k3m1, k3m2]
  instanceTypes := #[.int, .int, .long]
  staticTypes := #[.int, .int, .int, .int, .long, .long, .int, .int, .int]
  resolved := Array.replicate 141 none
  statics := none }

def pool4 : Array CpInfo := pool [(1, u "java/lang/Cloneable"), (0, .class_ 1), (0, u "java/lang/Object"), (0, .class_ 3)] 3

/-- java/lang/Cloneable -/
def k4 : Class := { plain "java/lang/Cloneable" (some 0) with
  accessFlags := 1537
  interfaces := #[]
  cf := some (fileOf pool4 2 #[] #[] 1537 4 #[] #[])
  fields := #[]
  methods := #[]
  instanceTypes := #[]
  staticTypes := #[]
  resolved := Array.replicate 8 none
  statics := none }

def pool5 : Array CpInfo := pool [(1, u "java/io/Serializable"), (0, .class_ 1), (0, u "java/lang/Object"), (0, .class_ 3)] 3

/-- java/io/Serializable -/
def k5 : Class := { plain "java/io/Serializable" (some 0) with
  accessFlags := 1537
  interfaces := #[]
  cf := some (fileOf pool5 2 #[] #[] 1537 4 #[] #[])
  fields := #[]
  methods := #[]
  instanceTypes := #[]
  staticTypes := #[]
  resolved := Array.replicate 8 none
  statics := none }

/-- the primitive byte -/
def k6 : Class := { plain "byte" none with kind := .primitive 'B', accessFlags := 0x411 }
/-- [B -/
def k7 : Class := { plain "[B" (some 0) with kind := .array 6 .byte, interfaces := #[4, 5], accessFlags := 1041 }

/-- the primitive int -/
def k8 : Class := { plain "int" none with kind := .primitive 'I', accessFlags := 0x411 }
/-- [I -/
def k9 : Class := { plain "[I" (some 0) with kind := .array 8 .int, interfaces := #[4, 5], accessFlags := 1041 }

def heap : Heap := #[]
def classes : Array Class := #[k0, k1, k2, k3, k4, k5, k6, k7, k8, k9]
def interned : List (Array UInt16 × Addr) := []
def slotsUsed : Nat := 0
def theMethod : MethodId := ⟨1, 1⟩
def args0 : Array Value := #[.int 5, .int 6, .long 7]
def aboutOver (below : List Frame) : State where
  vm := { classes := classes, interned := interned.toArray }
  heap := heap
  slotsUsed := slotsUsed
  threads := #[{ frames := .invoking theMethod args0 :: below }]
def below0 : List Frame := [.native { method := ⟨0, 0⟩, args := #[] }]
def about1 : State := aboutOver below0
def p0 : Program := .bare "" "" ""
def e0 : Env := launch0.env 0 0 0
theorem w_frames : about1.frames = Frame.invoking theMethod args0 :: below0 := rfl
set_option maxRecDepth 65536 in
theorem w_args : argsFit about1.vm theMethod args0 = true := by decide +kernel
set_option maxRecDepth 65536 in
theorem w_heap : heapFits about1 = true := by decide +kernel
set_option maxRecDepth 65536 in
theorem w_runnable : about1.curStatus? = some .runnable := by decide +kernel
set_option maxRecDepth 65536 in
theorem w_alone : about1.alone = true := by decide +kernel
set_option maxRecDepth 65536 in
theorem w_named : about1.methodNamed? x = some theMethod := by decide +kernel
set_option maxRecDepth 65536 in
theorem w_hears : about1.hears theMethod below0 = true := by decide +kernel
set_option maxRecDepth 65536 in
theorem w_ripe : about1.ripe theMethod args0 below0 = true := by decide +kernel
theorem w_running : about1.status = .running := rfl
set_option maxRecDepth 65536 in
theorem w_room : about1.hasRoom e0.platform room_1 = true :=
  launch0.hasRoom_least _ room_1 (by decide +kernel) (by decide +kernel) (by decide +kernel) (by decide +kernel) (by decide +kernel) (by decide +kernel)
theorem allAtoms_all (ts : List Jvm.Cond) (a : Array Jvm.Value) (st : Jvm.State) : (allAtoms ts).before a st = ts.all (fun c => c.before a st) := by
  induction ts with
  | nil => rfl
  | cons c t ih =>
    show (Jvm.Cond.and c (allAtoms t)).before a st = _
    rw [Jvm.Cond.before_and, ih, List.all_cons]
def words1 : List Jvm.Cond := Jvm.Cond.code x code maxLocals ret :: tables_1
/-- a 'code' word, met by the world's own term for the bytes: nothing is compared byte by byte -/
theorem code_word {y : MethodName} {bytes : ByteArray} {mx : Nat} {rt : Option FieldType} {a : Array Value} {s : State} {m : MethodId} {meth : Method} {c : Code} (h1 : s.methodNamed? y = some m) (h2 : s.vm.method? m = some meth) (h3 : meth.code = some c) (h4 : c.code = bytes)
    (h5 : (c.maxLocals == mx && c.exceptionTable.isEmpty && decide (c.maxStack ≤ mostOperands) && decide (meth.sig.returnType = rt) && !meth.locks && decide (parseMethodDescriptor y.desc = some meth.sig)) = true) : (Jvm.Cond.code y bytes mx rt).before a s = true := by
  simp only [Bool.and_eq_true, beq_iff_eq, Bool.not_eq_true', decide_eq_true_eq] at h5
  obtain ⟨⟨⟨⟨⟨g1, g2⟩, g3⟩, g4⟩, g5⟩, g6⟩ := h5
  simp [Cond.before, Cond.holds, Cond.value, h1, h2, h3, h4, g1, g2, g3, g4, g5, g6]
def isCode : Jvm.Cond → Bool
  | .code _ _ _ _ => true
  | _ => false
theorem all_split {L : List Jvm.Cond} {P : Jvm.Cond → Bool} (h1 : L.all (fun c => isCode c || P c) = true) (h2 : ∀ c ∈ L.filter isCode, P c = true) : L.all P = true := by
  refine List.all_eq_true.mpr fun c hc => ?_
  have h := List.all_eq_true.mp h1 c hc
  rcases Bool.eq_false_or_eq_true (isCode c) with hi | hi
  · exact h2 c (List.mem_filter.mpr ⟨hc, hi⟩)
  · simpa [hi] using h
set_option maxRecDepth 65536 in
theorem w_c0 : (Jvm.Cond.code x code maxLocals ret).before args0 about1 = true := code_word (m := ⟨1, 1⟩) (meth := k1m1) (c := k1c1) (by decide +kernel) rfl rfl rfl (by decide +kernel)
set_option maxRecDepth 65536 in
theorem w_c1 : (Jvm.Cond.code ({ cls := "com/example/even_shard/evenshard/Id", name := "<init>", desc := "(IIJ)V" } : Jvm.MethodName) prog_20_method_1_code (5 : Nat) (Option.none : Option Jvm.ClassFile.FieldType)).before args0 about1 = true := code_word (m := ⟨3, 0⟩) (meth := k3m0) (c := k3c0) (by decide +kernel) rfl rfl rfl (by decide +kernel)
set_option maxRecDepth 65536 in
theorem w_c2 : (Jvm.Cond.code ({ cls := "java/lang/Record", name := "<init>", desc := "()V" } : Jvm.MethodName) jdk_30_method_1_code (1 : Nat) (Option.none : Option Jvm.ClassFile.FieldType)).before args0 about1 = true := code_word (m := ⟨2, 0⟩) (meth := k2m0) (c := k2c0) (by decide +kernel) rfl rfl rfl (by decide +kernel)
set_option maxRecDepth 65536 in
theorem w_c3 : (Jvm.Cond.code ({ cls := "java/lang/Object", name := "<init>", desc := "()V" } : Jvm.MethodName) object_method_1_code (1 : Nat) (Option.none : Option Jvm.ClassFile.FieldType)).before args0 about1 = true := code_word (m := ⟨0, 0⟩) (meth := k0m0) (c := k0c0) (by decide +kernel) rfl rfl rfl (by decide +kernel)
set_option maxRecDepth 65536 in
theorem w_c4 : (Jvm.Cond.code ({ cls := "com/example/even_shard/evenshard/Id", name := "requireType", desc := "(I)I" } : Jvm.MethodName) prog_20_method_2_code (1 : Nat) (Option.some Jvm.ClassFile.FieldType.int)).before args0 about1 = true := code_word (m := ⟨3, 1⟩) (meth := k3m1) (c := k3c1) (by decide +kernel) rfl rfl rfl (by decide +kernel)
set_option maxRecDepth 65536 in
theorem w_c5 : (Jvm.Cond.code ({ cls := "com/example/even_shard/evenshard/Id", name := "compose", desc := "()J" } : Jvm.MethodName) prog_20_method_6_code (1 : Nat) (Option.some Jvm.ClassFile.FieldType.long)).before args0 about1 = true := code_word (m := ⟨3, 2⟩) (meth := k3m2) (c := k3c2) (by decide +kernel) rfl rfl rfl (by decide +kernel)
def codes1 : List Jvm.Cond := [Jvm.Cond.code x code maxLocals ret, Jvm.Cond.code ({ cls := "com/example/even_shard/evenshard/Id", name := "<init>", desc := "(IIJ)V" } : Jvm.MethodName) prog_20_method_1_code (5 : Nat) (Option.none : Option Jvm.ClassFile.FieldType), Jvm.Cond.code ({ cls := "java/lang/Record", name := "<init>", desc := "()V" } : Jvm.MethodName) jdk_30_method_1_code (1 : Nat) (Option.none : Option Jvm.ClassFile.FieldType), Jvm.Cond.code ({ cls := "java/lang/Object", name := "<init>", desc := "()V" } : Jvm.MethodName) object_method_1_code (1 : Nat) (Option.none : Option Jvm.ClassFile.FieldType), Jvm.Cond.code ({ cls := "com/example/even_shard/evenshard/Id", name := "requireType", desc := "(I)I" } : Jvm.MethodName) prog_20_method_2_code (1 : Nat) (Option.some Jvm.ClassFile.FieldType.int), Jvm.Cond.code ({ cls := "com/example/even_shard/evenshard/Id", name := "compose", desc := "()J" } : Jvm.MethodName) prog_20_method_6_code (1 : Nat) (Option.some Jvm.ClassFile.FieldType.long)]
set_option maxRecDepth 65536 in
theorem codes_eq : words1.filter isCode = codes1 := rfl
theorem w_codes : ∀ c ∈ words1.filter isCode, c.before args0 about1 = true := by
  rw [codes_eq]
  intro c hc
  simp only [codes1, List.mem_cons, List.not_mem_nil, or_false] at hc
  rcases hc with rfl | rfl | rfl | rfl | rfl | rfl
  · exact w_c0
  · exact w_c1
  · exact w_c2
  · exact w_c3
  · exact w_c4
  · exact w_c5
set_option maxRecDepth 65536 in
theorem w_t1 : (words1.take 24).all (fun c => isCode c || c.before args0 about1) = true := by decide +kernel
set_option maxRecDepth 65536 in
theorem w_t2 : (words1.drop 24).all (fun c => isCode c || c.before args0 about1) = true := by decide +kernel
theorem w_tables : (allAtoms (Jvm.Cond.code x code maxLocals ret :: tables_1)).before args0 about1 = true := by
  rw [allAtoms_all]
  show words1.all (fun c => c.before args0 about1) = true
  refine all_split ?_ w_codes
  rw [← List.take_append_drop 24 words1, List.all_append, w_t1, w_t2]
  rfl
set_option maxRecDepth 65536 in
theorem w_case : (Jvm.Cond.and given_1 narrow_1).before args0 about1 = true := by decide +kernel
theorem w_applies : (headSpec (Jvm.Cond.code x code maxLocals ret :: tables_1) room_1).applies x e0.platform about1 = true :=
  (Spec.applies_iff w_frames).mpr ⟨w_running, w_runnable, w_alone, w_named, w_hears, w_ripe, w_room, w_tables⟩
theorem atStart : AtStart classFile x code maxLocals ret World_1 tables_1 room_1 Calls_1 rest_1 Pre_1 launch0 p0 e0 about1 theMethod args0 below0 :=
  ⟨lists_1, trivial, launch0.admits_env _ _ _, launch0.least_env, fairChoices_fair.cas, fairChoices_fair.clock, w_frames, w_args, w_heap, w_applies, trivial, trivial, w_case⟩
end start1
theorem witness_1 : WitnessClaimed_1 := ⟨start1.p0, start1.e0, start1.about1, start1.theMethod, start1.args0, start1.below0, start1.atStart⟩
end Jvm.Pilot.@@N@@
