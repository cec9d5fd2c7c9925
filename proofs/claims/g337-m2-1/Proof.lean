import JvmDerived
import JvmDerived.Pilot.@@N@@Statement
import JvmDerived.Pilot.@@N@@Code
set_option linter.unusedVariables false
set_option linter.unusedSimpArgs false
namespace Jvm.Pilot.@@N@@
open Jvm Jvm.ClassFile Sem Op Lib Jvm.Free Jvm.Stand Jvm.LawKit Jvm.RoadKit Bundle Jvm.Pilot.@@N@@.Jvm.D
theorem own_w {a0 : Array Value} {Z : State} (hw : ∀ d ∈ tables_1, d.before a0 Z = true) (i : Nat) {d : Jvm.Cond} (h : tables_1[i]? = some d) : d.before a0 Z = true := hw _ (List.mem_of_getElem? h)
abbrev oS (p : Program) (e : Env) (b : List Frame) (T : State) (m : MethodId) (pc : Nat) (L : Array Slot) (S : List Value) (t : State) : Prop := Steps p.tables e b (T.setTop (mkF m pc L S)) t
abbrev lv (x : Int64) : Slot := .val (.long x)
theorem own_join {α : Type} {p : Program} {l : Launch} {e : Env} {R : Room} {s : State} {m : MethodId} {args : Array Value} {below : List Frame} {meth : Method} {c : Code} {T : State} {locs : List Loc} {cells slots n0 : Nat} {h : Heap}
    (_ : Stand p l e R s m args below meth c T locs cells slots) (_ : Fr n0 locs) (_ : T.heap = h) (A : JFrame) (B : α → JFrame) (P : α → Prop)
    (k : ∃ (v : α) (T' : State) (locs' : List Loc), P v ∧ Fr n0 locs' ∧ Stand p l e R s m args below meth c T' locs' cells slots ∧ T'.heap = h ∧ ∀ t, Steps p.tables e below (T'.setTop (B v)) t → Steps p.tables e below (T.setTop A) t) :
    ∃ (v : α) (T' : State) (locs' : List Loc), P v ∧ Fr n0 locs' ∧ Stand p l e R s m args below meth c T' locs' cells slots ∧ T'.heap = h ∧ ∀ t, Steps p.tables e below (T'.setTop (B v)) t → Steps p.tables e below (T.setTop A) t := k
theorem own_joinH {α : Type} {p : Program} {l : Launch} {e : Env} {R : Room} {s : State} {m : MethodId} {args : Array Value} {below : List Frame} {meth : Method} {c : Code} {T : State} {locs : List Loc} {cells slots n0 : Nat} {h : Heap}
    (_ : Stand p l e R s m args below meth c T locs cells slots) (_ : Fr n0 locs) (_ : T.heap = h) (A : JFrame) (B : α → JFrame) (P : α → Heap → Prop)
    (k : ∃ (v : α) (T' : State) (h' : Heap) (locs' : List Loc), P v h' ∧ Fr n0 locs' ∧ Stand p l e R s m args below meth c T' locs' cells slots ∧ T'.heap = h' ∧ ∀ t, Steps p.tables e below (T'.setTop (B v)) t → Steps p.tables e below (T.setTop A) t) :
    ∃ (v : α) (T' : State) (h' : Heap) (locs' : List Loc), P v h' ∧ Fr n0 locs' ∧ Stand p l e R s m args below meth c T' locs' cells slots ∧ T'.heap = h' ∧ ∀ t, Steps p.tables e below (T'.setTop (B v)) t → Steps p.tables e below (T.setTop A) t := k
theorem own_selp {s Z : State} {a0 args : Array Value} {y : MethodName} {n : Nat} (hZ : Z.Warmed39 s.vm) (wi : (Cond.instantiable y.cls n).before a0 Z = true) (wp : (Cond.privateMethod y).before a0 Z = true) (wm : (Cond.instanceMethod y).before a0 Z = true)
    (hy : y.cls ≠ "java/lang/invoke/MethodHandle" ∧ y.cls ≠ "java/lang/invoke/VarHandle") : (Cond.selects y.cls y y).before args s = true := by
  have wi' : (Cond.instantiable y.cls n).before args s = true := mvT hZ wi
  obtain ⟨c, k, h1, h2, h3, h4, -⟩ := Cond.instantiable_spec wi'
  exact Stand.selects_self_of_private h1 h2 (Bool.or_eq_false_iff.mp h4).1 (Cond.privateMethod_at (mvP hZ wp (args := #[]))) (mvT hZ wm) hy
def own_rd (f : Nat → Int32) : Nat → Nat → Int32 → Int32
  | _, 0, acc => acc
  | i, k + 1, acc => if f i < (48 : Int32) then (-1 : Int32) else (if (57 : Int32) < f i then (-1 : Int32) else own_rd f (i + 1) k (((acc * (10 : Int32)) + f i) - (48 : Int32)))
def own_p10 (k : Nat) : Int64 := ([1, 10, 100, 1000, 10000, 100000, 1000000, 10000000, 100000000] : List Int64).getD k 0
theorem own_getp (k : Nat) (h : k < 9) : ([.long 1, .long 10, .long 100, .long 1000, .long 10000, .long 100000, .long 1000000, .long 10000000, .long 100000000] : List Value).getD k (.long (0 : Int64)) = .long (own_p10 k) := by
  match k, h with
  | 0, _ => rfl
  | 1, _ => rfl
  | 2, _ => rfl
  | 3, _ => rfl
  | 4, _ => rfl
  | 5, _ => rfl
  | 6, _ => rfl
  | 7, _ => rfl
  | 8, _ => rfl
def own_Arr (Z : State) (h : Heap) (a : Addr) (f : Nat → Int32) : Prop := ∃ cl : Cell, Arr Z h a cl .byte ∧ cl.slots.size = (12 : Int32).toNatClampNeg ∧ ∀ i, i < 12 → cl.slots[i]? = some (.int (f i))
theorem own_Arr.of {Z : State} {h : Heap} {a : Addr} {k : ClassId} (ps : List Int32) (V : Arv Z h a k .byte (12 : Int32) (ps.map Value.int) (.int (0 : Int32))) : own_Arr Z h a (fun j => ps.getD j 0) := by
  obtain ⟨c, A, -, S, -, H, -⟩ := V
  refine ⟨c, A, S, fun i hi => ?_⟩
  rw [H i (by rw [S]; exact hi)]
  simp only [List.getD, List.getElem?_map]
  cases ps[i]? <;> rfl
theorem own_of (i : Nat) (h : i ≤ 100) : (Int32.ofNat i).toInt = i := Int32.toInt_ofNat_small (by omega)
theorem own_tn (i : Nat) (h : i ≤ 100) : (Int32.ofNat i).toNatClampNeg = i := by
  have := own_of i h
  simp only [Int32.toNatClampNeg]; omega
theorem own_s1 (i : Nat) (h : i ≤ 99) : Int32.ofNat i + (1 : Int32) = Int32.ofNat (i + 1) := by
  have h1 := own_of i (by omega)
  have h2 := own_of (i + 1) (by omega)
  have h3 := c_iadd (Int32.ofNat i) 1
  have e1 : (1 : Int32).toInt = 1 := rfl
  have r := rng32 (Int32.ofNat i + 1)
  apply Int32.toInt_inj.mp
  omega
theorem own_ltN (i j : Nat) (hi : i ≤ 100) (hj : j ≤ 100) : Int32.ofNat i < Int32.ofNat j ↔ i < j := by
  rw [Int32.lt_iff_toInt_lt, own_of i hi, own_of j hj]; omega
theorem own_inA (i : Nat) (h : i < 12) : ¬ (Int32.ofNat i) < 0 ∧ (Int32.ofNat i) < (12 : Int32) := by
  have h1 := own_of i (by omega)
  have e0 : (0 : Int32).toInt = 0 := rfl
  have e1 : (12 : Int32).toInt = 12 := rfl
  rw [Int32.lt_iff_toInt_lt, Int32.lt_iff_toInt_lt]
  omega
theorem d1_0 : decode method_3_code 0 = .ok (.iload 4, 2) := by decide +kernel
theorem d1_2 : decode method_3_code 2 = .ok (.bipush 8, 2) := by decide +kernel
theorem d1_4 : decode method_3_code 4 = .ok (.if_icmp .ge 15, 3) := by decide +kernel
theorem d1_7 : decode method_3_code 7 = .ok (.lload_n 0, 1) := by decide +kernel
theorem d1_8 : decode method_3_code 8 = .ok (.bipush 8, 2) := by decide +kernel
theorem d1_10 : decode method_3_code 10 = .ok (.iload 4, 2) := by decide +kernel
theorem d1_12 : decode method_3_code 12 = .ok (.imul, 1) := by decide +kernel
theorem d1_13 : decode method_3_code 13 = .ok (.lushr, 1) := by decide +kernel
theorem d1_14 : decode method_3_code 14 = .ok (.l2i, 1) := by decide +kernel
theorem d1_15 : decode method_3_code 15 = .ok (.i2b, 1) := by decide +kernel
theorem d1_16 : decode method_3_code 16 = .ok (.goto 14, 3) := by decide +kernel
theorem d1_19 : decode method_3_code 19 = .ok (.iload_n 2, 1) := by decide +kernel
theorem d1_20 : decode method_3_code 20 = .ok (.bipush 8, 2) := by decide +kernel
theorem d1_22 : decode method_3_code 22 = .ok (.iload 4, 2) := by decide +kernel
theorem d1_24 : decode method_3_code 24 = .ok (.bipush 8, 2) := by decide +kernel
theorem d1_26 : decode method_3_code 26 = .ok (.isub, 1) := by decide +kernel
theorem d1_27 : decode method_3_code 27 = .ok (.imul, 1) := by decide +kernel
theorem d1_28 : decode method_3_code 28 = .ok (.iushr, 1) := by decide +kernel
theorem d1_29 : decode method_3_code 29 = .ok (.i2b, 1) := by decide +kernel
theorem d1_30 : decode method_3_code 30 = .ok (.istore 5, 2) := by decide +kernel
theorem d1_32 : decode method_3_code 32 = .ok (.iload_n 3, 1) := by decide +kernel
theorem d1_33 : decode method_3_code 33 = .ok (.iload 4, 2) := by decide +kernel
theorem d1_35 : decode method_3_code 35 = .ok (.iushr, 1) := by decide +kernel
theorem d1_36 : decode method_3_code 36 = .ok (.iconst 1, 1) := by decide +kernel
theorem d1_37 : decode method_3_code 37 = .ok (.iand, 1) := by decide +kernel
theorem d1_38 : decode method_3_code 38 = .ok (.ifCond .ne 17, 3) := by decide +kernel
theorem d1_41 : decode method_3_code 41 = .ok (.bipush 48, 2) := by decide +kernel
theorem d1_43 : decode method_3_code 43 = .ok (.iload 5, 2) := by decide +kernel
theorem d1_45 : decode method_3_code 45 = .ok (.sipush 255, 3) := by decide +kernel
theorem d1_48 : decode method_3_code 48 = .ok (.iand, 1) := by decide +kernel
theorem d1_49 : decode method_3_code 49 = .ok (.bipush 10, 2) := by decide +kernel
theorem d1_51 : decode method_3_code 51 = .ok (.irem, 1) := by decide +kernel
theorem d1_52 : decode method_3_code 52 = .ok (.iadd, 1) := by decide +kernel
theorem d1_53 : decode method_3_code 53 = .ok (.i2b, 1) := by decide +kernel
theorem d1_54 : decode method_3_code 54 = .ok (.ireturn, 1) := by decide +kernel
theorem d1_55 : decode method_3_code 55 = .ok (.iload 5, 2) := by decide +kernel
theorem d1_57 : decode method_3_code 57 = .ok (.ireturn, 1) := by decide +kernel
theorem own_pn0 : plainName "com/example/planwright/planwright/io/DigitsReadPinLaw" = true := by first | (simp [plainName, overriddenIn]; done) | decide +kernel
theorem ef1 (m : MethodId) (x1 : Int64) (x2 : Int32) (x3 : Int32) (x4 : Int32) : entryFrame m #[(.long x1), (.int x2), (.int x3), (.int x4)] 6 = mkF m 0 #[lv x1, .second, iv x2, iv x3, iv x4, .unset] [] := by first | (simp [entryFrame, mkF, argsToLocals, Value.category]; done) | rfl
def Q1 (Z : State) (x1 : Int64) (x2 : Int32) (x3 : Int32) (x4 : Int32) (h0 : Heap) (n0 : Nat) (v : Option Value) (h : Heap) (L : List Loc) : Prop := ∃ (r : Int32), v = some (.int r) ∧ Fr n0 L ∧ h = h0
set_option maxRecDepth 65536 in
set_option maxHeartbeats 40000000 in
theorem rm1 (l : Launch) (Z : State) (a0 : Array Value) (hw : ∀ d ∈ tables_1, d.before a0 Z = true) (ws : List Jvm.Cond) (x1 : Int64) (x2 : Int32) (x3 : Int32) (x4 : Int32) (h0 : Heap) (n0 : Nat) (Z0 : n0 ≤ h0.size) :
    MetFree l (⟨"com/example/planwright/planwright/io/DigitsReadPinLaw", "pick", "(JIII)B"⟩ : MethodName) (head1 (Jvm.Cond.code (⟨"com/example/planwright/planwright/io/DigitsReadPinLaw", "pick", "(JIII)B"⟩ : MethodName) method_3_code 6 (some .byte) :: ws) ({ frames := 0, cells := 0, slots := 0, locals := 0 } : Room)) (fun a U => a = #[(.long x1), (.int x2), (.int x3), (.int x4)] ∧ Z.Warmed39 U.vm ∧ U.heap = h0) (fun _ _ _ _ _ => True) (fun _ U oc U' => ∃ v L, oc = .returned v ∧ Q1 Z x1 x2 x3 x4 h0 n0 v U'.heap L ∧ FrameEnd U oc U' L ({ frames := 0, cells := 0, slots := 0, locals := 0 } : Room).cells ({ frames := 0, cells := 0, slots := 0, locals := 0 } : Room).slots) := by
  refine MetFree.of_bodySF (plainFor_of_name own_pn0) hisR ?_
  intro p e s m args below meth c s₁ Bd hml0 hP hK
  obtain ⟨rfl, hZ, hh⟩ := hP
  have hx := Bd.exec
  have hby := Bd.bytes
  have hml : c.maxLocals = 6 := hml0
  have hown : s.vm.findClass "com/example/planwright/planwright/io/DigitsReadPinLaw" = some m.cls := findClass_of_methodNamed Bd.named
  have hnm := (name_of_methodNamed Bd.named Bd.method).1
  have X0 : Stand p l e ({ frames := 0, cells := 0, slots := 0, locals := 0 } : Room) s m #[(.long x1), (.int x2), (.int x3), (.int x4)] below meth c s₁ [] 0 0 := Stand.of_body Bd
  have e0 : s₁.heap = h0 := by rw [← hh, Bd.state]; rfl
  have N0 := Fr.nil n0
  have pre0 : ∀ t, Steps p.tables e below (s₁.setTop (mkF m 0 #[lv x1, .second, iv x2, iv x3, iv x4, .unset] [])) t → Steps p.tables e below (s₁.setTop (entryFrame m #[(.long x1), (.int x2), (.int x3), (.int x4)] 6)) t := fun t k => castTop (ef1 m x1 x2 x3 x4) k
  have pre1 : ∀ tz, oS p e below s₁ m 4 #[lv x1, .second, iv x2, iv x3, iv x4, .unset] [(.int (8 : Int32)), (.int x4)] tz → oS p e below s₁ m 0 #[lv x1, .second, iv x2, iv x3, iv x4, .unset] [] tz := fun tz kt => by
    show oS p e below s₁ m 0 #[lv x1, .second, iv x2, iv x3, iv x4, .unset] [] _
    refine XS.iload X0.here hx rfl (hb hby d1_0) rfl ?_
    refine XS.bipush X0.here hx rfl (hb hby d1_2) ?_
    exact kt
  obtain ⟨v30, T4, Lj4, jv4, N4, X4, e4, st4⟩ := own_join (α := Int32) X0 N0 e0 (mkF m 4 #[lv x1, .second, iv x2, iv x3, iv x4, .unset] [(.int (8 : Int32)), (.int x4)]) (fun v => (mkF m 30 #[lv x1, .second, iv x2, iv x3, iv x4, .unset] [(.int v)])) (fun v => v = (if x4 < (8 : Int32) then ((((x1.toUInt64 >>> (((8 : Int32) * x4) &&& 0x3f).toInt64.toUInt64).toInt64).toInt32).toInt8.toInt32) else (((x2.toUInt32 >>> (((8 : Int32) * (x4 - (8 : Int32))) &&& 31).toUInt32).toInt32).toInt8.toInt32))) (by
      by_cases hc4 : x4 < (8 : Int32)
      · have pre2 : ∀ tz, oS p e below s₁ m 30 #[lv x1, .second, iv x2, iv x3, iv x4, .unset] [(.int ((((x1.toUInt64 >>> (((8 : Int32) * x4) &&& 0x3f).toInt64.toUInt64).toInt64).toInt32).toInt8.toInt32))] tz → oS p e below s₁ m 4 #[lv x1, .second, iv x2, iv x3, iv x4, .unset] [(.int (8 : Int32)), (.int x4)] tz := fun tz kt => by
          show oS p e below s₁ m 4 #[lv x1, .second, iv x2, iv x3, iv x4, .unset] [(.int (8 : Int32)), (.int x4)] _
          refine XS.icmpNo X0.here hx rfl (hb hby d1_4) rfl (tlt hc4).2.1 ?_
          refine XS.lloadN X0.here hx rfl (hb hby d1_7) rfl ?_
          refine XS.bipush X0.here hx rfl (hb hby d1_8) ?_
          refine XS.iload X0.here hx rfl (hb hby d1_10) rfl ?_
          show oS p e below s₁ m 12 #[lv x1, .second, iv x2, iv x3, iv x4, .unset] [(.int x4), (.int (8 : Int32)), (.long x1)] _
          refine XS.imul X0.here hx rfl (hb hby d1_12) rfl ?_
          refine XS.lushr X0.here hx rfl (hb hby d1_13) rfl ?_
          refine XS.l2i X0.here hx rfl (hb hby d1_14) rfl ?_
          refine XS.i2b X0.here hx rfl (hb hby d1_15) rfl ?_
          show oS p e below s₁ m 16 #[lv x1, .second, iv x2, iv x3, iv x4, .unset] [(.int ((((x1.toUInt64 >>> (((8 : Int32) * x4) &&& 0x3f).toInt64.toUInt64).toInt64).toInt32).toInt8.toInt32))] _
          refine XS.goto X0.here hx rfl (pc0 := 16) (pc' := 30) rfl (hb hby d1_16) (by decide) (by decide) ?_
          exact kt
        exact ⟨((((x1.toUInt64 >>> (((8 : Int32) * x4) &&& 0x3f).toInt64.toUInt64).toInt64).toInt32).toInt8.toInt32), s₁, _, (by rw [if_pos hc4]), N0, X0, e0, fun tz kt => (pre2 _ kt)⟩
      · have pre3 : ∀ tz, oS p e below s₁ m 30 #[lv x1, .second, iv x2, iv x3, iv x4, .unset] [(.int (((x2.toUInt32 >>> (((8 : Int32) * (x4 - (8 : Int32))) &&& 31).toUInt32).toInt32).toInt8.toInt32))] tz → oS p e below s₁ m 4 #[lv x1, .second, iv x2, iv x3, iv x4, .unset] [(.int (8 : Int32)), (.int x4)] tz := fun tz kt => by
          show oS p e below s₁ m 4 #[lv x1, .second, iv x2, iv x3, iv x4, .unset] [(.int (8 : Int32)), (.int x4)] _
          refine XS.icmpYes X0.here hx rfl (pc0 := 4) (pc' := 19) rfl (hb hby d1_4) rfl (flt hc4).2.1 (by decide) (by decide) ?_
          refine XS.iloadN X0.here hx rfl (hb hby d1_19) rfl ?_
          refine XS.bipush X0.here hx rfl (hb hby d1_20) ?_
          refine XS.iload X0.here hx rfl (hb hby d1_22) rfl ?_
          show oS p e below s₁ m 24 #[lv x1, .second, iv x2, iv x3, iv x4, .unset] [(.int x4), (.int (8 : Int32)), (.int x2)] _
          refine XS.bipush X0.here hx rfl (hb hby d1_24) ?_
          refine XS.isub X0.here hx rfl (hb hby d1_26) rfl ?_
          refine XS.imul X0.here hx rfl (hb hby d1_27) rfl ?_
          refine XS.iushr X0.here hx rfl (hb hby d1_28) rfl ?_
          show oS p e below s₁ m 29 #[lv x1, .second, iv x2, iv x3, iv x4, .unset] [(.int ((x2.toUInt32 >>> (((8 : Int32) * (x4 - (8 : Int32))) &&& 31).toUInt32).toInt32))] _
          refine XS.i2b X0.here hx rfl (hb hby d1_29) rfl ?_
          exact kt
        exact ⟨(((x2.toUInt32 >>> (((8 : Int32) * (x4 - (8 : Int32))) &&& 31).toUInt32).toInt32).toInt8.toInt32), s₁, _, (by rw [if_neg hc4]), N0, X0, e0, fun tz kt => (pre3 _ kt)⟩)
  have hv30 : v30 = (if x4 < (8 : Int32) then ((((x1.toUInt64 >>> (((8 : Int32) * x4) &&& 0x3f).toInt64.toUInt64).toInt64).toInt32).toInt8.toInt32) else (((x2.toUInt32 >>> (((8 : Int32) * (x4 - (8 : Int32))) &&& 31).toUInt32).toInt32).toInt8.toInt32)) := jv4
  have pre5 : ∀ tz, oS p e below T4 m 38 #[lv x1, .second, iv x2, iv x3, iv x4, iv v30] [(.int (((x3.toUInt32 >>> (x4 &&& 31).toUInt32).toInt32) &&& (1 : Int32)))] tz → oS p e below s₁ m 4 #[lv x1, .second, iv x2, iv x3, iv x4, .unset] [(.int (8 : Int32)), (.int x4)] tz := fun tz kt => by
    show oS p e below s₁ m 4 #[lv x1, .second, iv x2, iv x3, iv x4, .unset] [(.int (8 : Int32)), (.int x4)] _
    refine st4 _ ?_
    refine XS.istore X4.here hx rfl (hb hby d1_30) rfl (l' := #[lv x1, .second, iv x2, iv x3, iv x4, iv v30]) rfl ?_
    refine XS.iloadN X4.here hx rfl (hb hby d1_32) rfl ?_
    refine XS.iload X4.here hx rfl (hb hby d1_33) rfl ?_
    show oS p e below T4 m 35 #[lv x1, .second, iv x2, iv x3, iv x4, iv v30] [(.int x4), (.int x3)] _
    refine XS.iushr X4.here hx rfl (hb hby d1_35) rfl ?_
    refine XS.iconst X4.here hx rfl (hb hby d1_36) ?_
    refine XS.iand X4.here hx rfl (hb hby d1_37) rfl ?_
    exact kt
  by_cases hc38 : (((x3.toUInt32 >>> (x4 &&& 31).toUInt32).toInt32) &&& (1 : Int32)) = (0 : Int32)
  · have pre6 : ∀ tz, oS p e below T4 m 54 #[lv x1, .second, iv x2, iv x3, iv x4, iv v30] [(.int (((48 : Int32) + ((v30 &&& (255 : Int32)) % (10 : Int32))).toInt8.toInt32))] tz → oS p e below T4 m 38 #[lv x1, .second, iv x2, iv x3, iv x4, iv v30] [(.int (((x3.toUInt32 >>> (x4 &&& 31).toUInt32).toInt32) &&& (1 : Int32)))] tz := fun tz kt => by
      show oS p e below T4 m 38 #[lv x1, .second, iv x2, iv x3, iv x4, iv v30] [(.int (((x3.toUInt32 >>> (x4 &&& 31).toUInt32).toInt32) &&& (1 : Int32)))] _
      refine XS.ifNo X4.here hx rfl (hb hby d1_38) rfl ((if0 _ _).trans (teq hc38).2) ?_
      refine XS.bipush X4.here hx rfl (hb hby d1_41) ?_
      refine XS.iload X4.here hx rfl (hb hby d1_43) rfl ?_
      refine XS.sipush X4.here hx rfl (hb hby d1_45) ?_
      show oS p e below T4 m 48 #[lv x1, .second, iv x2, iv x3, iv x4, iv v30] [(.int (255 : Int32)), (.int v30), (.int (48 : Int32))] _
      refine XS.iand X4.here hx rfl (hb hby d1_48) rfl ?_
      refine XS.bipush X4.here hx rfl (hb hby d1_49) ?_
      refine iremM X4 hx rfl (hb hby d1_51) rfl (by decide) ?_
      refine XS.iadd X4.here hx rfl (hb hby d1_52) rfl ?_
      show oS p e below T4 m 53 #[lv x1, .second, iv x2, iv x3, iv x4, iv v30] [(.int ((48 : Int32) + ((v30 &&& (255 : Int32)) % (10 : Int32))))] _
      refine XS.i2b X4.here hx rfl (hb hby d1_53) rfl ?_
      exact kt
    obtain ⟨fs, hr, hrun, hended, hW, hsame⟩ := X4.leave (v := some (.int (nar .byte (((48 : Int32) + ((v30 &&& (255 : Int32)) % (10 : Int32))).toInt8.toInt32)))) (fun h => by rw [Bd.returns] at h; cases h)
    refine ⟨_, _, pre0 _ (pre1 _ (pre5 _ (pre6 _ ?_))), hrun, hended, _, _, rfl, ?_, ⟨_, rfl⟩, hW, hsame.mono (by decide) (by decide)⟩
    · show oS p e below T4 m 54 #[lv x1, .second, iv x2, iv x3, iv x4, iv v30] [(.int (((48 : Int32) + ((v30 &&& (255 : Int32)) % (10 : Int32))).toInt8.toInt32))] _
      exact retN X4 hx (t := .byte) Bd.returns (by simp) (hb hby d1_54) hr
    · show Q1 Z x1 x2 x3 x4 h0 n0 _ T4.heap _
      rw [e4]
      exact ⟨(nar .byte (((48 : Int32) + ((v30 &&& (255 : Int32)) % (10 : Int32))).toInt8.toInt32)), rfl, N4, rfl⟩
  · have pre7 : ∀ tz, oS p e below T4 m 57 #[lv x1, .second, iv x2, iv x3, iv x4, iv v30] [(.int v30)] tz → oS p e below T4 m 38 #[lv x1, .second, iv x2, iv x3, iv x4, iv v30] [(.int (((x3.toUInt32 >>> (x4 &&& 31).toUInt32).toInt32) &&& (1 : Int32)))] tz := fun tz kt => by
      show oS p e below T4 m 38 #[lv x1, .second, iv x2, iv x3, iv x4, iv v30] [(.int (((x3.toUInt32 >>> (x4 &&& 31).toUInt32).toInt32) &&& (1 : Int32)))] _
      refine XS.ifYes X4.here hx rfl (pc0 := 38) (pc' := 55) rfl (hb hby d1_38) rfl ((if0 _ _).trans (feq hc38).2) (by decide) (by decide) ?_
      refine XS.iload X4.here hx rfl (hb hby d1_55) rfl ?_
      exact kt
    obtain ⟨fs, hr, hrun, hended, hW, hsame⟩ := X4.leave (v := some (.int (nar .byte v30))) (fun h => by rw [Bd.returns] at h; cases h)
    refine ⟨_, _, pre0 _ (pre1 _ (pre5 _ (pre7 _ ?_))), hrun, hended, _, _, rfl, ?_, ⟨_, rfl⟩, hW, hsame.mono (by decide) (by decide)⟩
    · show oS p e below T4 m 57 #[lv x1, .second, iv x2, iv x3, iv x4, iv v30] [(.int v30)] _
      exact retN X4 hx (t := .byte) Bd.returns (by simp) (hb hby d1_57) hr
    · show Q1 Z x1 x2 x3 x4 h0 n0 _ T4.heap _
      rw [e4]
      exact ⟨(nar .byte v30), rfl, N4, rfl⟩
theorem own_n9 {x : Int32} (h : ¬ x < 0 ∧ x < (9 : Int32)) : x.toNatClampNeg < 9 := by
  obtain ⟨h1, h2⟩ := h
  rw [Int32.lt_iff_toInt_lt] at h1 h2
  have e0 : (0 : Int32).toInt = 0 := rfl
  have e1 : (9 : Int32).toInt = 9 := rfl
  simp only [Int32.toNatClampNeg]; omega
theorem d5_0 : decode method_6_code 0 = .ok (.bipush 9, 2) := by decide +kernel
theorem d5_2 : decode method_6_code 2 = .ok (.newarray .long, 2) := by decide +kernel
theorem d5_4 : decode method_6_code 4 = .ok (.dup, 1) := by decide +kernel
theorem d5_5 : decode method_6_code 5 = .ok (.iconst 0, 1) := by decide +kernel
theorem d5_6 : decode method_6_code 6 = .ok (.lconst 1, 1) := by decide +kernel
theorem d5_7 : decode method_6_code 7 = .ok (.lastore, 1) := by decide +kernel
theorem d5_8 : decode method_6_code 8 = .ok (.dup, 1) := by decide +kernel
theorem d5_9 : decode method_6_code 9 = .ok (.iconst 1, 1) := by decide +kernel
theorem d5_10 : decode method_6_code 10 = .ok (.ldc2_w 34, 3) := by decide +kernel
theorem d5_13 : decode method_6_code 13 = .ok (.lastore, 1) := by decide +kernel
theorem d5_14 : decode method_6_code 14 = .ok (.dup, 1) := by decide +kernel
theorem d5_15 : decode method_6_code 15 = .ok (.iconst 2, 1) := by decide +kernel
theorem d5_16 : decode method_6_code 16 = .ok (.ldc2_w 36, 3) := by decide +kernel
theorem d5_19 : decode method_6_code 19 = .ok (.lastore, 1) := by decide +kernel
theorem d5_20 : decode method_6_code 20 = .ok (.dup, 1) := by decide +kernel
theorem d5_21 : decode method_6_code 21 = .ok (.iconst 3, 1) := by decide +kernel
theorem d5_22 : decode method_6_code 22 = .ok (.ldc2_w 38, 3) := by decide +kernel
theorem d5_25 : decode method_6_code 25 = .ok (.lastore, 1) := by decide +kernel
theorem d5_26 : decode method_6_code 26 = .ok (.dup, 1) := by decide +kernel
theorem d5_27 : decode method_6_code 27 = .ok (.iconst 4, 1) := by decide +kernel
theorem d5_28 : decode method_6_code 28 = .ok (.ldc2_w 40, 3) := by decide +kernel
theorem d5_31 : decode method_6_code 31 = .ok (.lastore, 1) := by decide +kernel
theorem d5_32 : decode method_6_code 32 = .ok (.dup, 1) := by decide +kernel
theorem d5_33 : decode method_6_code 33 = .ok (.iconst 5, 1) := by decide +kernel
theorem d5_34 : decode method_6_code 34 = .ok (.ldc2_w 42, 3) := by decide +kernel
theorem d5_37 : decode method_6_code 37 = .ok (.lastore, 1) := by decide +kernel
theorem d5_38 : decode method_6_code 38 = .ok (.dup, 1) := by decide +kernel
theorem d5_39 : decode method_6_code 39 = .ok (.bipush 6, 2) := by decide +kernel
theorem d5_41 : decode method_6_code 41 = .ok (.ldc2_w 44, 3) := by decide +kernel
theorem d5_44 : decode method_6_code 44 = .ok (.lastore, 1) := by decide +kernel
theorem d5_45 : decode method_6_code 45 = .ok (.dup, 1) := by decide +kernel
theorem d5_46 : decode method_6_code 46 = .ok (.bipush 7, 2) := by decide +kernel
theorem d5_48 : decode method_6_code 48 = .ok (.ldc2_w 46, 3) := by decide +kernel
theorem d5_51 : decode method_6_code 51 = .ok (.lastore, 1) := by decide +kernel
theorem d5_52 : decode method_6_code 52 = .ok (.dup, 1) := by decide +kernel
theorem d5_53 : decode method_6_code 53 = .ok (.bipush 8, 2) := by decide +kernel
theorem d5_55 : decode method_6_code 55 = .ok (.ldc2_w 48, 3) := by decide +kernel
theorem d5_58 : decode method_6_code 58 = .ok (.lastore, 1) := by decide +kernel
theorem d5_59 : decode method_6_code 59 = .ok (.astore_n 1, 1) := by decide +kernel
theorem d5_60 : decode method_6_code 60 = .ok (.aload_n 1, 1) := by decide +kernel
theorem d5_61 : decode method_6_code 61 = .ok (.iload_n 0, 1) := by decide +kernel
theorem d5_62 : decode method_6_code 62 = .ok (.laload, 1) := by decide +kernel
theorem d5_63 : decode method_6_code 63 = .ok (.lreturn, 1) := by decide +kernel
theorem ef5 (m : MethodId) (x1 : Int32) : entryFrame m #[(.int x1)] 2 = mkF m 0 #[iv x1, .unset] [] := by first | (simp [entryFrame, mkF, argsToLocals, Value.category]; done) | rfl
def Q5 (Z : State) (x1 : Int32) (h0 : Heap) (n0 : Nat) (v : Option Value) (h : Heap) (L : List Loc) : Prop := v = some (.long (own_p10 x1.toNatClampNeg)) ∧ Fr n0 L ∧ Keep h0 h []
set_option maxRecDepth 65536 in
set_option maxHeartbeats 40000000 in
theorem rm5 (l : Launch) (Z : State) (a0 : Array Value) (hw : ∀ d ∈ tables_1, d.before a0 Z = true) (ws : List Jvm.Cond) (x1 : Int32) (h0 : Heap) (n0 : Nat) (Z0 : n0 ≤ h0.size) (hb9 : ¬ x1 < 0 ∧ x1 < (9 : Int32)) :
    MetFree l (⟨"com/example/planwright/planwright/io/DigitsReadPinLaw", "pow10", "(I)J"⟩ : MethodName) (head1 (Jvm.Cond.code (⟨"com/example/planwright/planwright/io/DigitsReadPinLaw", "pow10", "(I)J"⟩ : MethodName) method_6_code 2 (some .long) :: ws) ({ frames := 0, cells := 1, slots := 9, locals := 0 } : Room)) (fun a U => a = #[(.int x1)] ∧ Z.Warmed39 U.vm ∧ U.heap = h0) (fun _ _ _ _ _ => True) (fun _ U oc U' => ∃ v L, oc = .returned v ∧ Q5 Z x1 h0 n0 v U'.heap L ∧ FrameEnd U oc U' L ({ frames := 0, cells := 1, slots := 9, locals := 0 } : Room).cells ({ frames := 0, cells := 1, slots := 9, locals := 0 } : Room).slots) := by
  refine MetFree.of_bodySF (plainFor_of_name own_pn0) hisR ?_
  intro p e s m args below meth c s₁ Bd hml0 hP hK
  obtain ⟨rfl, hZ, hh⟩ := hP
  have hx := Bd.exec
  have hby := Bd.bytes
  have hml : c.maxLocals = 2 := hml0
  have hown : s.vm.findClass "com/example/planwright/planwright/io/DigitsReadPinLaw" = some m.cls := findClass_of_methodNamed Bd.named
  have hnm := (name_of_methodNamed Bd.named Bd.method).1
  have X0 : Stand p l e ({ frames := 0, cells := 1, slots := 9, locals := 0 } : Room) s m #[(.int x1)] below meth c s₁ [] 0 0 := Stand.of_body Bd
  have e0 : s₁.heap = h0 := by rw [← hh, Bd.state]; rfl
  have N0 := Fr.nil n0
  have pre0 : ∀ t, Steps p.tables e below (s₁.setTop (mkF m 0 #[iv x1, .unset] [])) t → Steps p.tables e below (s₁.setTop (entryFrame m #[(.int x1)] 2)) t := fun t k => castTop (ef5 m x1) k
  obtain ⟨T1, h1, kk1, X1, e1, E1, A1, st1⟩ := newP X0 hx hZ (own_w hw 19 rfl) e0 (g := (mkF m 2 #[iv x1, .unset] [(.int (9 : Int32))])) rfl (hb hby d5_2) rfl (by decide) (cap := 9) (by decide) (by decide) (by decide) (by decide)
  obtain ⟨b1, g1⟩ : ∃ z, z = h0.size := ⟨_, rfl⟩
  rw [← g1] at A1 st1
  have g_b1 : n0 ≤ b1 := Nat.le_trans Z0 (Nat.le_of_eq g1.symm)
  have sz_b1 : h0.size ≤ b1 := Nat.le_trans (Keep.refl h0 []).1 (Nat.le_of_eq g1.symm)
  have V_b1 : Arv Z h1 b1 kk1 .long (9 : Int32) [(.long (0 : Int64)), (.long (0 : Int64)), (.long (0 : Int64)), (.long (0 : Int64)), (.long (0 : Int64)), (.long (0 : Int64)), (.long (0 : Int64)), (.long (0 : Int64)), (.long (0 : Int64))] (.long (0 : Int64)) := (Arv.new A1 (by decide)).pad (pad_rep [] (.long (0 : Int64)) 9)
  obtain ⟨cl2, Ar2, qk2, Sz2, Ng2, Hs2, Gt2⟩ := id V_b1
  have hin2 : ¬ ((0 : Int32) < 0 ∨ cl2.slots.size ≤ ((0 : Int32)).toNatClampNeg) := inb_of Sz2 ⟨by decide, by decide⟩
  obtain ⟨T3, h3, X3, e3, W3, st3⟩ := stJ X1 hx hZ e1 Ar2 (j := (0 : Int32)) hin2 (g := (mkF m 7 #[iv x1, .unset] [(.long (1 : Int64)), (.int (0 : Int32)), (.ref b1), (.ref b1)])) rfl rfl (hb hby d5_7)
  have Va3 : Arv Z h3 b1 kk1 .long (9 : Int32) [(.long (1 : Int64)), (.long (0 : Int64)), (.long (0 : Int64)), (.long (0 : Int64)), (.long (0 : Int64)), (.long (0 : Int64)), (.long (0 : Int64)), (.long (0 : Int64)), (.long (0 : Int64))] (.long (0 : Int64)) := Arv.set Ar2 qk2 Sz2 Ng2 Hs2 Gt2 rfl W3 0 rfl (Nat.le_of_ble_eq_true rfl)
  have N3 := Fr.snoc X3 N0 g_b1
  obtain ⟨cl4, Ar4, qk4, Sz4, Ng4, Hs4, Gt4⟩ := id Va3
  have hin4 : ¬ ((1 : Int32) < 0 ∨ cl4.slots.size ≤ ((1 : Int32)).toNatClampNeg) := inb_of Sz4 ⟨by decide, by decide⟩
  obtain ⟨T5, h5, X5, e5, W5, st5⟩ := stJ X3 hx hZ e3 Ar4 (j := (1 : Int32)) hin4 (g := (mkF m 13 #[iv x1, .unset] [(.long (10 : Int64)), (.int (1 : Int32)), (.ref b1), (.ref b1)])) rfl rfl (hb hby d5_13)
  have Va5 : Arv Z h5 b1 kk1 .long (9 : Int32) [(.long (1 : Int64)), (.long (10 : Int64)), (.long (0 : Int64)), (.long (0 : Int64)), (.long (0 : Int64)), (.long (0 : Int64)), (.long (0 : Int64)), (.long (0 : Int64)), (.long (0 : Int64))] (.long (0 : Int64)) := Arv.set Ar4 qk4 Sz4 Ng4 Hs4 Gt4 rfl W5 1 rfl (Nat.le_of_ble_eq_true rfl)
  have N5 := Fr.snoc X5 N3 g_b1
  obtain ⟨cl6, Ar6, qk6, Sz6, Ng6, Hs6, Gt6⟩ := id Va5
  have hin6 : ¬ ((2 : Int32) < 0 ∨ cl6.slots.size ≤ ((2 : Int32)).toNatClampNeg) := inb_of Sz6 ⟨by decide, by decide⟩
  obtain ⟨T7, h7, X7, e7, W7, st7⟩ := stJ X5 hx hZ e5 Ar6 (j := (2 : Int32)) hin6 (g := (mkF m 19 #[iv x1, .unset] [(.long (100 : Int64)), (.int (2 : Int32)), (.ref b1), (.ref b1)])) rfl rfl (hb hby d5_19)
  have Va7 : Arv Z h7 b1 kk1 .long (9 : Int32) [(.long (1 : Int64)), (.long (10 : Int64)), (.long (100 : Int64)), (.long (0 : Int64)), (.long (0 : Int64)), (.long (0 : Int64)), (.long (0 : Int64)), (.long (0 : Int64)), (.long (0 : Int64))] (.long (0 : Int64)) := Arv.set Ar6 qk6 Sz6 Ng6 Hs6 Gt6 rfl W7 2 rfl (Nat.le_of_ble_eq_true rfl)
  have N7 := Fr.snoc X7 N5 g_b1
  obtain ⟨cl8, Ar8, qk8, Sz8, Ng8, Hs8, Gt8⟩ := id Va7
  have hin8 : ¬ ((3 : Int32) < 0 ∨ cl8.slots.size ≤ ((3 : Int32)).toNatClampNeg) := inb_of Sz8 ⟨by decide, by decide⟩
  obtain ⟨T9, h9, X9, e9, W9, st9⟩ := stJ X7 hx hZ e7 Ar8 (j := (3 : Int32)) hin8 (g := (mkF m 25 #[iv x1, .unset] [(.long (1000 : Int64)), (.int (3 : Int32)), (.ref b1), (.ref b1)])) rfl rfl (hb hby d5_25)
  have Va9 : Arv Z h9 b1 kk1 .long (9 : Int32) [(.long (1 : Int64)), (.long (10 : Int64)), (.long (100 : Int64)), (.long (1000 : Int64)), (.long (0 : Int64)), (.long (0 : Int64)), (.long (0 : Int64)), (.long (0 : Int64)), (.long (0 : Int64))] (.long (0 : Int64)) := Arv.set Ar8 qk8 Sz8 Ng8 Hs8 Gt8 rfl W9 3 rfl (Nat.le_of_ble_eq_true rfl)
  have N9 := Fr.snoc X9 N7 g_b1
  obtain ⟨cl10, Ar10, qk10, Sz10, Ng10, Hs10, Gt10⟩ := id Va9
  have hin10 : ¬ ((4 : Int32) < 0 ∨ cl10.slots.size ≤ ((4 : Int32)).toNatClampNeg) := inb_of Sz10 ⟨by decide, by decide⟩
  obtain ⟨T11, h11, X11, e11, W11, st11⟩ := stJ X9 hx hZ e9 Ar10 (j := (4 : Int32)) hin10 (g := (mkF m 31 #[iv x1, .unset] [(.long (10000 : Int64)), (.int (4 : Int32)), (.ref b1), (.ref b1)])) rfl rfl (hb hby d5_31)
  have Va11 : Arv Z h11 b1 kk1 .long (9 : Int32) [(.long (1 : Int64)), (.long (10 : Int64)), (.long (100 : Int64)), (.long (1000 : Int64)), (.long (10000 : Int64)), (.long (0 : Int64)), (.long (0 : Int64)), (.long (0 : Int64)), (.long (0 : Int64))] (.long (0 : Int64)) := Arv.set Ar10 qk10 Sz10 Ng10 Hs10 Gt10 rfl W11 4 rfl (Nat.le_of_ble_eq_true rfl)
  have N11 := Fr.snoc X11 N9 g_b1
  obtain ⟨cl12, Ar12, qk12, Sz12, Ng12, Hs12, Gt12⟩ := id Va11
  have hin12 : ¬ ((5 : Int32) < 0 ∨ cl12.slots.size ≤ ((5 : Int32)).toNatClampNeg) := inb_of Sz12 ⟨by decide, by decide⟩
  obtain ⟨T13, h13, X13, e13, W13, st13⟩ := stJ X11 hx hZ e11 Ar12 (j := (5 : Int32)) hin12 (g := (mkF m 37 #[iv x1, .unset] [(.long (100000 : Int64)), (.int (5 : Int32)), (.ref b1), (.ref b1)])) rfl rfl (hb hby d5_37)
  have Va13 : Arv Z h13 b1 kk1 .long (9 : Int32) [(.long (1 : Int64)), (.long (10 : Int64)), (.long (100 : Int64)), (.long (1000 : Int64)), (.long (10000 : Int64)), (.long (100000 : Int64)), (.long (0 : Int64)), (.long (0 : Int64)), (.long (0 : Int64))] (.long (0 : Int64)) := Arv.set Ar12 qk12 Sz12 Ng12 Hs12 Gt12 rfl W13 5 rfl (Nat.le_of_ble_eq_true rfl)
  have N13 := Fr.snoc X13 N11 g_b1
  obtain ⟨cl14, Ar14, qk14, Sz14, Ng14, Hs14, Gt14⟩ := id Va13
  have hin14 : ¬ ((6 : Int32) < 0 ∨ cl14.slots.size ≤ ((6 : Int32)).toNatClampNeg) := inb_of Sz14 ⟨by decide, by decide⟩
  obtain ⟨T15, h15, X15, e15, W15, st15⟩ := stJ X13 hx hZ e13 Ar14 (j := (6 : Int32)) hin14 (g := (mkF m 44 #[iv x1, .unset] [(.long (1000000 : Int64)), (.int (6 : Int32)), (.ref b1), (.ref b1)])) rfl rfl (hb hby d5_44)
  have Va15 : Arv Z h15 b1 kk1 .long (9 : Int32) [(.long (1 : Int64)), (.long (10 : Int64)), (.long (100 : Int64)), (.long (1000 : Int64)), (.long (10000 : Int64)), (.long (100000 : Int64)), (.long (1000000 : Int64)), (.long (0 : Int64)), (.long (0 : Int64))] (.long (0 : Int64)) := Arv.set Ar14 qk14 Sz14 Ng14 Hs14 Gt14 rfl W15 6 rfl (Nat.le_of_ble_eq_true rfl)
  have N15 := Fr.snoc X15 N13 g_b1
  obtain ⟨cl16, Ar16, qk16, Sz16, Ng16, Hs16, Gt16⟩ := id Va15
  have hin16 : ¬ ((7 : Int32) < 0 ∨ cl16.slots.size ≤ ((7 : Int32)).toNatClampNeg) := inb_of Sz16 ⟨by decide, by decide⟩
  obtain ⟨T17, h17, X17, e17, W17, st17⟩ := stJ X15 hx hZ e15 Ar16 (j := (7 : Int32)) hin16 (g := (mkF m 51 #[iv x1, .unset] [(.long (10000000 : Int64)), (.int (7 : Int32)), (.ref b1), (.ref b1)])) rfl rfl (hb hby d5_51)
  have Va17 : Arv Z h17 b1 kk1 .long (9 : Int32) [(.long (1 : Int64)), (.long (10 : Int64)), (.long (100 : Int64)), (.long (1000 : Int64)), (.long (10000 : Int64)), (.long (100000 : Int64)), (.long (1000000 : Int64)), (.long (10000000 : Int64)), (.long (0 : Int64))] (.long (0 : Int64)) := Arv.set Ar16 qk16 Sz16 Ng16 Hs16 Gt16 rfl W17 7 rfl (Nat.le_of_ble_eq_true rfl)
  have N17 := Fr.snoc X17 N15 g_b1
  obtain ⟨cl18, Ar18, qk18, Sz18, Ng18, Hs18, Gt18⟩ := id Va17
  have hin18 : ¬ ((8 : Int32) < 0 ∨ cl18.slots.size ≤ ((8 : Int32)).toNatClampNeg) := inb_of Sz18 ⟨by decide, by decide⟩
  obtain ⟨T19, h19, X19, e19, W19, st19⟩ := stJ X17 hx hZ e17 Ar18 (j := (8 : Int32)) hin18 (g := (mkF m 58 #[iv x1, .unset] [(.long (100000000 : Int64)), (.int (8 : Int32)), (.ref b1), (.ref b1)])) rfl rfl (hb hby d5_58)
  have Va19 : Arv Z h19 b1 kk1 .long (9 : Int32) [(.long (1 : Int64)), (.long (10 : Int64)), (.long (100 : Int64)), (.long (1000 : Int64)), (.long (10000 : Int64)), (.long (100000 : Int64)), (.long (1000000 : Int64)), (.long (10000000 : Int64)), (.long (100000000 : Int64))] (.long (0 : Int64)) := Arv.set Ar18 qk18 Sz18 Ng18 Hs18 Gt18 rfl W19 8 rfl (Nat.le_of_ble_eq_true rfl)
  have N19 := Fr.snoc X19 N17 g_b1
  obtain ⟨cl20, Ar20, qk20, Sz20, Ng20, Hs20, Gt20⟩ := id Va19
  have hin20 : ¬ (x1 < 0 ∨ cl20.slots.size ≤ (x1).toNatClampNeg) := inb_of Sz20 hb9
  have hlt20 : x1.toNatClampNeg < 9 := own_n9 hb9
  have hat20 : cl20.slots[(x1).toNatClampNeg]? = some (.long (own_p10 x1.toNatClampNeg)) := Hs20.at hin20 (own_getp _ hlt20)
  have pre21 : ∀ tz, oS p e below T19 m 63 #[iv x1, rv b1] [(.long (own_p10 x1.toNatClampNeg))] tz → oS p e below s₁ m 0 #[iv x1, .unset] [] tz := fun tz kt => by
    show oS p e below s₁ m 0 #[iv x1, .unset] [] _
    refine XS.bipush X0.here hx rfl (hb hby d5_0) ?_
    show oS p e below s₁ m 2 #[iv x1, .unset] [(.int (9 : Int32))] _
    refine st1 _ ?_
    refine XS.dup X1.here hx rfl (hb hby d5_4) rfl rfl ?_
    refine XS.iconst X1.here hx rfl (hb hby d5_5) ?_
    refine XS.lconst X1.here hx rfl (hb hby d5_6) ?_
    show oS p e below T1 m 7 #[iv x1, .unset] [(.long (1 : Int64)), (.int (0 : Int32)), (.ref b1), (.ref b1)] _
    refine st3 _ ?_
    refine XS.dup X3.here hx rfl (hb hby d5_8) rfl rfl ?_
    refine XS.iconst X3.here hx rfl (hb hby d5_9) ?_
    refine X3.ldc2Long hx hown (mvT hZ (own_w hw 20 rfl)) (g := (mkF m 10 #[iv x1, .unset] [(.int (1 : Int32)), (.ref b1), (.ref b1)])) rfl (hb hby d5_10) _ ?_
    show oS p e below T3 m 13 #[iv x1, .unset] [(.long (10 : Int64)), (.int (1 : Int32)), (.ref b1), (.ref b1)] _
    refine st5 _ ?_
    refine XS.dup X5.here hx rfl (hb hby d5_14) rfl rfl ?_
    refine XS.iconst X5.here hx rfl (hb hby d5_15) ?_
    refine X5.ldc2Long hx hown (mvT hZ (own_w hw 21 rfl)) (g := (mkF m 16 #[iv x1, .unset] [(.int (2 : Int32)), (.ref b1), (.ref b1)])) rfl (hb hby d5_16) _ ?_
    show oS p e below T5 m 19 #[iv x1, .unset] [(.long (100 : Int64)), (.int (2 : Int32)), (.ref b1), (.ref b1)] _
    refine st7 _ ?_
    refine XS.dup X7.here hx rfl (hb hby d5_20) rfl rfl ?_
    refine XS.iconst X7.here hx rfl (hb hby d5_21) ?_
    refine X7.ldc2Long hx hown (mvT hZ (own_w hw 22 rfl)) (g := (mkF m 22 #[iv x1, .unset] [(.int (3 : Int32)), (.ref b1), (.ref b1)])) rfl (hb hby d5_22) _ ?_
    show oS p e below T7 m 25 #[iv x1, .unset] [(.long (1000 : Int64)), (.int (3 : Int32)), (.ref b1), (.ref b1)] _
    refine st9 _ ?_
    refine XS.dup X9.here hx rfl (hb hby d5_26) rfl rfl ?_
    refine XS.iconst X9.here hx rfl (hb hby d5_27) ?_
    refine X9.ldc2Long hx hown (mvT hZ (own_w hw 23 rfl)) (g := (mkF m 28 #[iv x1, .unset] [(.int (4 : Int32)), (.ref b1), (.ref b1)])) rfl (hb hby d5_28) _ ?_
    show oS p e below T9 m 31 #[iv x1, .unset] [(.long (10000 : Int64)), (.int (4 : Int32)), (.ref b1), (.ref b1)] _
    refine st11 _ ?_
    refine XS.dup X11.here hx rfl (hb hby d5_32) rfl rfl ?_
    refine XS.iconst X11.here hx rfl (hb hby d5_33) ?_
    refine X11.ldc2Long hx hown (mvT hZ (own_w hw 24 rfl)) (g := (mkF m 34 #[iv x1, .unset] [(.int (5 : Int32)), (.ref b1), (.ref b1)])) rfl (hb hby d5_34) _ ?_
    show oS p e below T11 m 37 #[iv x1, .unset] [(.long (100000 : Int64)), (.int (5 : Int32)), (.ref b1), (.ref b1)] _
    refine st13 _ ?_
    refine XS.dup X13.here hx rfl (hb hby d5_38) rfl rfl ?_
    refine XS.bipush X13.here hx rfl (hb hby d5_39) ?_
    refine X13.ldc2Long hx hown (mvT hZ (own_w hw 25 rfl)) (g := (mkF m 41 #[iv x1, .unset] [(.int (6 : Int32)), (.ref b1), (.ref b1)])) rfl (hb hby d5_41) _ ?_
    show oS p e below T13 m 44 #[iv x1, .unset] [(.long (1000000 : Int64)), (.int (6 : Int32)), (.ref b1), (.ref b1)] _
    refine st15 _ ?_
    refine XS.dup X15.here hx rfl (hb hby d5_45) rfl rfl ?_
    refine XS.bipush X15.here hx rfl (hb hby d5_46) ?_
    refine X15.ldc2Long hx hown (mvT hZ (own_w hw 26 rfl)) (g := (mkF m 48 #[iv x1, .unset] [(.int (7 : Int32)), (.ref b1), (.ref b1)])) rfl (hb hby d5_48) _ ?_
    show oS p e below T15 m 51 #[iv x1, .unset] [(.long (10000000 : Int64)), (.int (7 : Int32)), (.ref b1), (.ref b1)] _
    refine st17 _ ?_
    refine XS.dup X17.here hx rfl (hb hby d5_52) rfl rfl ?_
    refine XS.bipush X17.here hx rfl (hb hby d5_53) ?_
    refine X17.ldc2Long hx hown (mvT hZ (own_w hw 27 rfl)) (g := (mkF m 55 #[iv x1, .unset] [(.int (8 : Int32)), (.ref b1), (.ref b1)])) rfl (hb hby d5_55) _ ?_
    show oS p e below T17 m 58 #[iv x1, .unset] [(.long (100000000 : Int64)), (.int (8 : Int32)), (.ref b1), (.ref b1)] _
    refine st19 _ ?_
    refine XS.astoreN X19.here hx rfl (hb hby d5_59) rfl rfl (l' := #[iv x1, rv b1]) rfl ?_
    refine XS.aloadN X19.here hx rfl (hb hby d5_60) rfl rfl ?_
    refine XS.iloadN X19.here hx rfl (hb hby d5_61) rfl ?_
    show oS p e below T19 m 62 #[iv x1, rv b1] [(.int x1), (.ref b1)] _
    refine X19.laload hx (j := x1) (v := .long (own_p10 x1.toNatClampNeg)) (by rw [e19]; exact Ar20.1) (State.isArrayOf_alike hZ.alike Ar20.2.1) Ar20.2.2 hin20 hat20 (g := (mkF m 62 #[iv x1, rv b1] [(.int x1), (.ref b1)])) rfl rfl (hb hby d5_62) _ ?_
    exact kt
  have KP22 : Keep h0 h19 [] := (((((((((((Keep.refl h0 []).ext E1).wr W3 (Or.inr sz_b1)).wr W5 (Or.inr sz_b1)).wr W7 (Or.inr sz_b1)).wr W9 (Or.inr sz_b1)).wr W11 (Or.inr sz_b1)).wr W13 (Or.inr sz_b1)).wr W15 (Or.inr sz_b1)).wr W17 (Or.inr sz_b1)).wr W19 (Or.inr sz_b1))
  obtain ⟨fs, hr, hrun, hended, hW, hsame⟩ := X19.leave (v := some (.long (own_p10 x1.toNatClampNeg))) (fun h => by rw [Bd.returns] at h; cases h)
  refine ⟨_, _, pre0 _ (pre21 _ ?_), hrun, hended, _, _, rfl, ?_, ⟨_, rfl⟩, hW, hsame.mono (by decide) (by decide)⟩
  · show oS p e below T19 m 63 #[iv x1, rv b1] [(.long (own_p10 x1.toNatClampNeg))] _
    exact retOut X19 hx Bd.returns rfl (Or.inr (Or.inl ⟨rfl, rfl, _, rfl⟩)) (hb hby d5_63) hr
  · show Q5 Z x1 h0 n0 _ T19.heap _
    rw [e19]
    exact ⟨rfl, N19, KP22⟩
theorem own_pd0 : parseMethodDescriptor "(I)J" = some ⟨[.int], some .long⟩ := by decide +kernel
theorem d4_0 : decode method_5_code 0 = .ok (.iload_n 0, 1) := by decide +kernel
theorem d4_1 : decode method_5_code 1 = .ok (.ifCond .ge 5, 3) := by decide +kernel
theorem d4_4 : decode method_5_code 4 = .ok (.lconst 0, 1) := by decide +kernel
theorem d4_5 : decode method_5_code 5 = .ok (.lreturn, 1) := by decide +kernel
theorem d4_6 : decode method_5_code 6 = .ok (.iload_n 0, 1) := by decide +kernel
theorem d4_7 : decode method_5_code 7 = .ok (.i2l, 1) := by decide +kernel
theorem d4_8 : decode method_5_code 8 = .ok (.iload_n 1, 1) := by decide +kernel
theorem d4_9 : decode method_5_code 9 = .ok (.iconst 1, 1) := by decide +kernel
theorem d4_10 : decode method_5_code 10 = .ok (.isub, 1) := by decide +kernel
theorem d4_11 : decode method_5_code 11 = .ok (.iload_n 2, 1) := by decide +kernel
theorem d4_12 : decode method_5_code 12 = .ok (.isub, 1) := by decide +kernel
theorem d4_13 : decode method_5_code 13 = .ok (.invokestatic 30, 3) := by decide +kernel
theorem d4_16 : decode method_5_code 16 = .ok (.lmul, 1) := by decide +kernel
theorem d4_17 : decode method_5_code 17 = .ok (.lreturn, 1) := by decide +kernel
theorem ef4 (m : MethodId) (x1 : Int32) (x2 : Int32) (x3 : Int32) : entryFrame m #[(.int x1), (.int x2), (.int x3)] 3 = mkF m 0 #[iv x1, iv x2, iv x3] [] := by first | (simp [entryFrame, mkF, argsToLocals, Value.category]; done) | rfl
def Q4 (Z : State) (x1 : Int32) (x2 : Int32) (x3 : Int32) (h0 : Heap) (n0 : Nat) (v : Option Value) (h : Heap) (L : List Loc) : Prop := v = some (.long (if x1 < (0 : Int32) then (0 : Int64) else ((x1.toInt64) * (own_p10 ((x2 - (1 : Int32)) - x3).toNatClampNeg)))) ∧ Fr n0 L ∧ Keep h0 h []
set_option maxRecDepth 65536 in
set_option maxHeartbeats 40000000 in
theorem rm4 (l : Launch) (Z : State) (a0 : Array Value) (hw : ∀ d ∈ tables_1, d.before a0 Z = true) (ws : List Jvm.Cond) (x1 : Int32) (x2 : Int32) (x3 : Int32) (h0 : Heap) (n0 : Nat) (Z0 : n0 ≤ h0.size) (hv : ¬ (x1 < (0 : Int32)) → ¬ ((x2 - (1 : Int32)) - x3) < 0 ∧ ((x2 - (1 : Int32)) - x3) < (9 : Int32)) :
    MetFree l (⟨"com/example/planwright/planwright/io/DigitsReadPinLaw", "val", "(III)J"⟩ : MethodName) (head1 (Jvm.Cond.code (⟨"com/example/planwright/planwright/io/DigitsReadPinLaw", "val", "(III)J"⟩ : MethodName) method_5_code 3 (some .long) :: ws) ({ frames := 1, cells := 1, slots := 9, locals := 15 } : Room)) (fun a U => a = #[(.int x1), (.int x2), (.int x3)] ∧ Z.Warmed39 U.vm ∧ U.heap = h0) (fun _ _ _ _ _ => True) (fun _ U oc U' => ∃ v L, oc = .returned v ∧ Q4 Z x1 x2 x3 h0 n0 v U'.heap L ∧ FrameEnd U oc U' L ({ frames := 1, cells := 1, slots := 9, locals := 15 } : Room).cells ({ frames := 1, cells := 1, slots := 9, locals := 15 } : Room).slots) := by
  refine MetFree.of_bodySF (plainFor_of_name own_pn0) hisR ?_
  intro p e s m args below meth c s₁ Bd hml0 hP hK
  obtain ⟨rfl, hZ, hh⟩ := hP
  have hx := Bd.exec
  have hby := Bd.bytes
  have hml : c.maxLocals = 3 := hml0
  have hown : s.vm.findClass "com/example/planwright/planwright/io/DigitsReadPinLaw" = some m.cls := findClass_of_methodNamed Bd.named
  have hnm := (name_of_methodNamed Bd.named Bd.method).1
  have X0 : Stand p l e ({ frames := 1, cells := 1, slots := 9, locals := 15 } : Room) s m #[(.int x1), (.int x2), (.int x3)] below meth c s₁ [] 0 0 := Stand.of_body Bd
  have e0 : s₁.heap = h0 := by rw [← hh, Bd.state]; rfl
  have N0 := Fr.nil n0
  have pre0 : ∀ t, Steps p.tables e below (s₁.setTop (mkF m 0 #[iv x1, iv x2, iv x3] [])) t → Steps p.tables e below (s₁.setTop (entryFrame m #[(.int x1), (.int x2), (.int x3)] 3)) t := fun t k => castTop (ef4 m x1 x2 x3) k
  have pre1 : ∀ tz, oS p e below s₁ m 1 #[iv x1, iv x2, iv x3] [(.int x1)] tz → oS p e below s₁ m 0 #[iv x1, iv x2, iv x3] [] tz := fun tz kt => by
    show oS p e below s₁ m 0 #[iv x1, iv x2, iv x3] [] _
    refine XS.iloadN X0.here hx rfl (hb hby d4_0) rfl ?_
    exact kt
  by_cases hc1 : x1 < (0 : Int32)
  · have pre2 : ∀ tz, oS p e below s₁ m 5 #[iv x1, iv x2, iv x3] [(.long (0 : Int64))] tz → oS p e below s₁ m 1 #[iv x1, iv x2, iv x3] [(.int x1)] tz := fun tz kt => by
      show oS p e below s₁ m 1 #[iv x1, iv x2, iv x3] [(.int x1)] _
      refine XS.ifNo X0.here hx rfl (hb hby d4_1) rfl ((if0 _ _).trans (tlt hc1).2.1) ?_
      refine XS.lconst X0.here hx rfl (hb hby d4_4) ?_
      exact kt
    obtain ⟨fs, hr, hrun, hended, hW, hsame⟩ := X0.leave (v := some (.long (0 : Int64))) (fun h => by rw [Bd.returns] at h; cases h)
    refine ⟨_, _, pre0 _ (pre1 _ (pre2 _ ?_)), hrun, hended, _, _, rfl, ?_, ⟨_, rfl⟩, hW, hsame.mono (by decide) (by decide)⟩
    · show oS p e below s₁ m 5 #[iv x1, iv x2, iv x3] [(.long (0 : Int64))] _
      exact retOut X0 hx Bd.returns rfl (Or.inr (Or.inl ⟨rfl, rfl, _, rfl⟩)) (hb hby d4_5) hr
    · show Q4 Z x1 x2 x3 h0 n0 _ s₁.heap _
      rw [e0]
      exact ⟨(by first | rfl | simp only [if_pos hc1]), N0, (Keep.refl h0 [])⟩
  · have hp3_hb9 : ¬ ((x2 - (1 : Int32)) - x3) < 0 ∧ ((x2 - (1 : Int32)) - x3) < (9 : Int32) := (hv hc1)
    obtain ⟨_, _, ⟨T3, Lw3, kw3, nw3⟩, -, X3, ⟨Lc3, hQ3, l3, y3, z3⟩, st3⟩ := Jvm.LawKit.callS X0 hx (y := (⟨"com/example/planwright/planwright/io/DigitsReadPinLaw", "pow10", "(I)J"⟩ : MethodName)) hown (mvT hZ (own_w hw 16 rfl)) (mvT hZ (own_w hw 17 rfl)) (mvT hZ (own_w hw 4 rfl)) (mvT hZ (own_w hw 18 rfl)) (by decide) (backOf (W := 2) (rm5 l Z a0 hw [] ((x2 - (1 : Int32)) - x3) h0 n0 Z0 hp3_hb9) hZ (own_w hw 18 rfl) (own_w hw 4 rfl) (by decide) (by decide)) (g := (mkF m 13 #[iv x1, iv x2, iv x3] [(.int ((x2 - (1 : Int32)) - x3)), (.long (x1.toInt64))])) rfl (by rw [hml]; rfl) (argsL := [(.int ((x2 - (1 : Int32)) - x3))]) (rest := [(.long (x1.toInt64))]) (lenOf own_pd0 rfl) rfl (by show 2 * 0 + _ ≤ _; exact Nat.le_of_eq rfl) (hb hby d4_13) (fun _ _ => ⟨rfl, e0, (by decide : 0 + 1 ≤ _), (by decide : 0 + 9 ≤ _)⟩)
    dsimp only [Pt.U, Pt.locs, Pt.cells, Pt.slots] at X3 l3 y3 z3 st3 hQ3
    replace y3 : kw3 = 1 := y3
    replace z3 : nw3 = 9 := z3
    rw [l3, y3, z3] at X3
    obtain ⟨rfl, Nq3, K3⟩ := hQ3
    have N3 := Fr.app N0 Nq3
    have pre4 : ∀ tz, oS p e below T3 m 17 #[iv x1, iv x2, iv x3] [(.long ((x1.toInt64) * (own_p10 ((x2 - (1 : Int32)) - x3).toNatClampNeg)))] tz → oS p e below s₁ m 1 #[iv x1, iv x2, iv x3] [(.int x1)] tz := fun tz kt => by
      show oS p e below s₁ m 1 #[iv x1, iv x2, iv x3] [(.int x1)] _
      refine XS.ifYes X0.here hx rfl (pc0 := 1) (pc' := 6) rfl (hb hby d4_1) rfl ((if0 _ _).trans (flt hc1).2.1) (by decide) (by decide) ?_
      refine XS.iloadN X0.here hx rfl (hb hby d4_6) rfl ?_
      refine XS.i2l X0.here hx rfl (hb hby d4_7) rfl ?_
      refine XS.iloadN X0.here hx rfl (hb hby d4_8) rfl ?_
      show oS p e below s₁ m 9 #[iv x1, iv x2, iv x3] [(.int x2), (.long (x1.toInt64))] _
      refine XS.iconst X0.here hx rfl (hb hby d4_9) ?_
      refine XS.isub X0.here hx rfl (hb hby d4_10) rfl ?_
      refine XS.iloadN X0.here hx rfl (hb hby d4_11) rfl ?_
      refine XS.isub X0.here hx rfl (hb hby d4_12) rfl ?_
      show oS p e below s₁ m 13 #[iv x1, iv x2, iv x3] [(.int ((x2 - (1 : Int32)) - x3)), (.long (x1.toInt64))] _
      refine st3 _ ?_
      refine XS.lmul X3.here hx rfl (hb hby d4_16) rfl ?_
      exact kt
    have KP5 : Keep h0 T3.heap [] := ((Keep.refl h0 []).trans K3 all0)
    obtain ⟨fs, hr, hrun, hended, hW, hsame⟩ := X3.leave (v := some (.long ((x1.toInt64) * (own_p10 ((x2 - (1 : Int32)) - x3).toNatClampNeg)))) (fun h => by rw [Bd.returns] at h; cases h)
    refine ⟨_, _, pre0 _ (pre1 _ (pre4 _ ?_)), hrun, hended, _, _, rfl, ?_, ⟨_, rfl⟩, hW, hsame.mono (by decide) (by decide)⟩
    · show oS p e below T3 m 17 #[iv x1, iv x2, iv x3] [(.long ((x1.toInt64) * (own_p10 ((x2 - (1 : Int32)) - x3).toNatClampNeg)))] _
      exact retOut X3 hx Bd.returns rfl (Or.inr (Or.inl ⟨rfl, rfl, _, rfl⟩)) (hb hby d4_17) hr
    · show Q4 Z x1 x2 x3 h0 n0 _ T3.heap _
      exact ⟨(by first | rfl | simp only [if_neg hc1]), N3, KP5⟩
theorem own_n12 {x : Int32} (h : ¬ x < 0 ∧ x < (12 : Int32)) : x.toNatClampNeg < 12 := by
  obtain ⟨h1, h2⟩ := h
  rw [Int32.lt_iff_toInt_lt] at h1 h2
  have e0 : (0 : Int32).toInt = 0 := rfl
  have e1 : (12 : Int32).toInt = 12 := rfl
  simp only [Int32.toNatClampNeg]; omega
theorem d3_0 : decode method_4_code 0 = .ok (.iload_n 3, 1) := by decide +kernel
theorem d3_1 : decode method_4_code 1 = .ok (.iload_n 2, 1) := by decide +kernel
theorem d3_2 : decode method_4_code 2 = .ok (.if_icmp .lt 6, 3) := by decide +kernel
theorem d3_5 : decode method_4_code 5 = .ok (.bipush (-2), 2) := by decide +kernel
theorem d3_7 : decode method_4_code 7 = .ok (.ireturn, 1) := by decide +kernel
theorem d3_8 : decode method_4_code 8 = .ok (.aload_n 0, 1) := by decide +kernel
theorem d3_9 : decode method_4_code 9 = .ok (.iload_n 1, 1) := by decide +kernel
theorem d3_10 : decode method_4_code 10 = .ok (.iload_n 3, 1) := by decide +kernel
theorem d3_11 : decode method_4_code 11 = .ok (.iadd, 1) := by decide +kernel
theorem d3_12 : decode method_4_code 12 = .ok (.baload, 1) := by decide +kernel
theorem d3_13 : decode method_4_code 13 = .ok (.istore 4, 2) := by decide +kernel
theorem d3_15 : decode method_4_code 15 = .ok (.iload 4, 2) := by decide +kernel
theorem d3_17 : decode method_4_code 17 = .ok (.bipush 48, 2) := by decide +kernel
theorem d3_19 : decode method_4_code 19 = .ok (.if_icmp .lt 10, 3) := by decide +kernel
theorem d3_22 : decode method_4_code 22 = .ok (.iload 4, 2) := by decide +kernel
theorem d3_24 : decode method_4_code 24 = .ok (.bipush 57, 2) := by decide +kernel
theorem d3_26 : decode method_4_code 26 = .ok (.if_icmp .le 5, 3) := by decide +kernel
theorem d3_29 : decode method_4_code 29 = .ok (.iconst (-1), 1) := by decide +kernel
theorem d3_30 : decode method_4_code 30 = .ok (.ireturn, 1) := by decide +kernel
theorem d3_31 : decode method_4_code 31 = .ok (.iload 4, 2) := by decide +kernel
theorem d3_33 : decode method_4_code 33 = .ok (.bipush 48, 2) := by decide +kernel
theorem d3_35 : decode method_4_code 35 = .ok (.isub, 1) := by decide +kernel
theorem d3_36 : decode method_4_code 36 = .ok (.ireturn, 1) := by decide +kernel
theorem ef3 (m : MethodId) (x1 : Addr) (x2 : Int32) (x3 : Int32) (x4 : Int32) : entryFrame m #[(.ref x1), (.int x2), (.int x3), (.int x4)] 5 = mkF m 0 #[rv x1, iv x2, iv x3, iv x4, .unset] [] := by first | (simp [entryFrame, mkF, argsToLocals, Value.category]; done) | rfl
def Q3 (Z : State) (x1 : Addr) (x2 : Int32) (x3 : Int32) (x4 : Int32) (f : Nat → Int32) (h0 : Heap) (n0 : Nat) (v : Option Value) (h : Heap) (L : List Loc) : Prop := v = some (.int (if x4 < x3 then (if (f (x2 + x4).toNatClampNeg) < (48 : Int32) then (-1 : Int32) else (if (57 : Int32) < (f (x2 + x4).toNatClampNeg) then (-1 : Int32) else ((f (x2 + x4).toNatClampNeg) - (48 : Int32)))) else (-2 : Int32))) ∧ Fr n0 L ∧ h = h0
set_option maxRecDepth 65536 in
set_option maxHeartbeats 40000000 in
theorem rm3 (l : Launch) (Z : State) (a0 : Array Value) (hw : ∀ d ∈ tables_1, d.before a0 Z = true) (ws : List Jvm.Cond) (x1 : Addr) (x2 : Int32) (x3 : Int32) (x4 : Int32) (f : Nat → Int32) (h0 : Heap) (n0 : Nat) (Z0 : n0 ≤ h0.size) (X_x1 : own_Arr Z h0 x1 f) (hd : x4 < x3 → ¬ (x2 + x4) < 0 ∧ (x2 + x4) < (12 : Int32)) :
    MetFree l (⟨"com/example/planwright/planwright/io/DigitsReadPinLaw", "dig", "([BIII)I"⟩ : MethodName) (head1 (Jvm.Cond.code (⟨"com/example/planwright/planwright/io/DigitsReadPinLaw", "dig", "([BIII)I"⟩ : MethodName) method_4_code 5 (some .int) :: ws) ({ frames := 0, cells := 0, slots := 0, locals := 0 } : Room)) (fun a U => a = #[(.ref x1), (.int x2), (.int x3), (.int x4)] ∧ Z.Warmed39 U.vm ∧ U.heap = h0) (fun _ _ _ _ _ => True) (fun _ U oc U' => ∃ v L, oc = .returned v ∧ Q3 Z x1 x2 x3 x4 f h0 n0 v U'.heap L ∧ FrameEnd U oc U' L ({ frames := 0, cells := 0, slots := 0, locals := 0 } : Room).cells ({ frames := 0, cells := 0, slots := 0, locals := 0 } : Room).slots) := by
  refine MetFree.of_bodySF (plainFor_of_name own_pn0) hisR ?_
  intro p e s m args below meth c s₁ Bd hml0 hP hK
  obtain ⟨rfl, hZ, hh⟩ := hP
  have hx := Bd.exec
  have hby := Bd.bytes
  have hml : c.maxLocals = 5 := hml0
  have hown : s.vm.findClass "com/example/planwright/planwright/io/DigitsReadPinLaw" = some m.cls := findClass_of_methodNamed Bd.named
  have hnm := (name_of_methodNamed Bd.named Bd.method).1
  have X0 : Stand p l e ({ frames := 0, cells := 0, slots := 0, locals := 0 } : Room) s m #[(.ref x1), (.int x2), (.int x3), (.int x4)] below meth c s₁ [] 0 0 := Stand.of_body Bd
  have e0 : s₁.heap = h0 := by rw [← hh, Bd.state]; rfl
  have N0 := Fr.nil n0
  have pre0 : ∀ t, Steps p.tables e below (s₁.setTop (mkF m 0 #[rv x1, iv x2, iv x3, iv x4, .unset] [])) t → Steps p.tables e below (s₁.setTop (entryFrame m #[(.ref x1), (.int x2), (.int x3), (.int x4)] 5)) t := fun t k => castTop (ef3 m x1 x2 x3 x4) k
  obtain ⟨cl, Ar, sz, hat⟩ := X_x1
  have pre1 : ∀ tz, oS p e below s₁ m 2 #[rv x1, iv x2, iv x3, iv x4, .unset] [(.int x3), (.int x4)] tz → oS p e below s₁ m 0 #[rv x1, iv x2, iv x3, iv x4, .unset] [] tz := fun tz kt => by
    show oS p e below s₁ m 0 #[rv x1, iv x2, iv x3, iv x4, .unset] [] _
    refine XS.iloadN X0.here hx rfl (hb hby d3_0) rfl ?_
    refine XS.iloadN X0.here hx rfl (hb hby d3_1) rfl ?_
    exact kt
  by_cases hc2 : x4 < x3
  · have hbd := hd (hc2)
    have hin : ¬ ((x2 + x4) < 0 ∨ cl.slots.size ≤ ((x2 + x4)).toNatClampNeg) := inb_of sz hbd
    have ha : cl.slots[((x2 + x4)).toNatClampNeg]? = some (.int (f (x2 + x4).toNatClampNeg)) := hat _ (own_n12 hbd)
    have pre2 : ∀ tz, oS p e below s₁ m 19 #[rv x1, iv x2, iv x3, iv x4, iv (f (x2 + x4).toNatClampNeg)] [(.int (48 : Int32)), (.int (f (x2 + x4).toNatClampNeg))] tz → oS p e below s₁ m 2 #[rv x1, iv x2, iv x3, iv x4, .unset] [(.int x3), (.int x4)] tz := fun tz kt => by
      show oS p e below s₁ m 2 #[rv x1, iv x2, iv x3, iv x4, .unset] [(.int x3), (.int x4)] _
      refine XS.icmpYes X0.here hx rfl (pc0 := 2) (pc' := 8) rfl (hb hby d3_2) rfl (tlt hc2).1 (by decide) (by decide) ?_
      refine XS.aloadN X0.here hx rfl (hb hby d3_8) rfl rfl ?_
      refine XS.iloadN X0.here hx rfl (hb hby d3_9) rfl ?_
      refine XS.iloadN X0.here hx rfl (hb hby d3_10) rfl ?_
      show oS p e below s₁ m 11 #[rv x1, iv x2, iv x3, iv x4, .unset] [(.int x4), (.int x2), (.ref x1)] _
      refine XS.iadd X0.here hx rfl (hb hby d3_11) rfl ?_
      refine X0.baloadBytes hx (j := (x2 + x4)) (v := .int (f (x2 + x4).toNatClampNeg)) (by rw [e0]; exact Ar.1) (State.isArrayOf_alike hZ.alike Ar.2.1) Ar.2.2 hin ha (g := (mkF m 12 #[rv x1, iv x2, iv x3, iv x4, .unset] [(.int (x2 + x4)), (.ref x1)])) rfl rfl (hb hby d3_12) _ ?_
      refine XS.istore X0.here hx rfl (hb hby d3_13) rfl (l' := #[rv x1, iv x2, iv x3, iv x4, iv (f (x2 + x4).toNatClampNeg)]) rfl ?_
      refine XS.iload X0.here hx rfl (hb hby d3_15) rfl ?_
      show oS p e below s₁ m 17 #[rv x1, iv x2, iv x3, iv x4, iv (f (x2 + x4).toNatClampNeg)] [(.int (f (x2 + x4).toNatClampNeg))] _
      refine XS.bipush X0.here hx rfl (hb hby d3_17) ?_
      exact kt
    by_cases hc19 : (f (x2 + x4).toNatClampNeg) < (48 : Int32)
    · have pre3 : ∀ tz, oS p e below s₁ m 30 #[rv x1, iv x2, iv x3, iv x4, iv (f (x2 + x4).toNatClampNeg)] [(.int (-1 : Int32))] tz → oS p e below s₁ m 19 #[rv x1, iv x2, iv x3, iv x4, iv (f (x2 + x4).toNatClampNeg)] [(.int (48 : Int32)), (.int (f (x2 + x4).toNatClampNeg))] tz := fun tz kt => by
        show oS p e below s₁ m 19 #[rv x1, iv x2, iv x3, iv x4, iv (f (x2 + x4).toNatClampNeg)] [(.int (48 : Int32)), (.int (f (x2 + x4).toNatClampNeg))] _
        refine XS.icmpYes X0.here hx rfl (pc0 := 19) (pc' := 29) rfl (hb hby d3_19) rfl (tlt hc19).1 (by decide) (by decide) ?_
        refine XS.iconst X0.here hx rfl (hb hby d3_29) ?_
        exact kt
      obtain ⟨fs, hr, hrun, hended, hW, hsame⟩ := X0.leave (v := some (.int (-1 : Int32))) (fun h => by rw [Bd.returns] at h; cases h)
      refine ⟨_, _, pre0 _ (pre1 _ (pre2 _ (pre3 _ ?_))), hrun, hended, _, _, rfl, ?_, ⟨_, rfl⟩, hW, hsame.mono (by decide) (by decide)⟩
      · show oS p e below s₁ m 30 #[rv x1, iv x2, iv x3, iv x4, iv (f (x2 + x4).toNatClampNeg)] [(.int (-1 : Int32))] _
        exact retOut X0 hx Bd.returns rfl (Or.inl ⟨rfl, Or.inl rfl, _, rfl⟩) (hb hby d3_30) hr
      · show Q3 Z x1 x2 x3 x4 f h0 n0 _ s₁.heap _
        rw [e0]
        exact ⟨(by first | rfl | simp only [if_pos hc2, if_pos hc19]), N0, rfl⟩
    · have pre4 : ∀ tz, oS p e below s₁ m 26 #[rv x1, iv x2, iv x3, iv x4, iv (f (x2 + x4).toNatClampNeg)] [(.int (57 : Int32)), (.int (f (x2 + x4).toNatClampNeg))] tz → oS p e below s₁ m 19 #[rv x1, iv x2, iv x3, iv x4, iv (f (x2 + x4).toNatClampNeg)] [(.int (48 : Int32)), (.int (f (x2 + x4).toNatClampNeg))] tz := fun tz kt => by
        show oS p e below s₁ m 19 #[rv x1, iv x2, iv x3, iv x4, iv (f (x2 + x4).toNatClampNeg)] [(.int (48 : Int32)), (.int (f (x2 + x4).toNatClampNeg))] _
        refine XS.icmpNo X0.here hx rfl (hb hby d3_19) rfl (flt hc19).1 ?_
        refine XS.iload X0.here hx rfl (hb hby d3_22) rfl ?_
        refine XS.bipush X0.here hx rfl (hb hby d3_24) ?_
        exact kt
      by_cases hc26 : (57 : Int32) < (f (x2 + x4).toNatClampNeg)
      · have pre5 : ∀ tz, oS p e below s₁ m 30 #[rv x1, iv x2, iv x3, iv x4, iv (f (x2 + x4).toNatClampNeg)] [(.int (-1 : Int32))] tz → oS p e below s₁ m 26 #[rv x1, iv x2, iv x3, iv x4, iv (f (x2 + x4).toNatClampNeg)] [(.int (57 : Int32)), (.int (f (x2 + x4).toNatClampNeg))] tz := fun tz kt => by
          show oS p e below s₁ m 26 #[rv x1, iv x2, iv x3, iv x4, iv (f (x2 + x4).toNatClampNeg)] [(.int (57 : Int32)), (.int (f (x2 + x4).toNatClampNeg))] _
          refine XS.icmpNo X0.here hx rfl (hb hby d3_26) rfl (tlt hc26).2.2.2 ?_
          refine XS.iconst X0.here hx rfl (hb hby d3_29) ?_
          exact kt
        obtain ⟨fs, hr, hrun, hended, hW, hsame⟩ := X0.leave (v := some (.int (-1 : Int32))) (fun h => by rw [Bd.returns] at h; cases h)
        refine ⟨_, _, pre0 _ (pre1 _ (pre2 _ (pre4 _ (pre5 _ ?_)))), hrun, hended, _, _, rfl, ?_, ⟨_, rfl⟩, hW, hsame.mono (by decide) (by decide)⟩
        · show oS p e below s₁ m 30 #[rv x1, iv x2, iv x3, iv x4, iv (f (x2 + x4).toNatClampNeg)] [(.int (-1 : Int32))] _
          exact retOut X0 hx Bd.returns rfl (Or.inl ⟨rfl, Or.inl rfl, _, rfl⟩) (hb hby d3_30) hr
        · show Q3 Z x1 x2 x3 x4 f h0 n0 _ s₁.heap _
          rw [e0]
          exact ⟨(by first | rfl | simp only [if_pos hc2, if_neg hc19, if_pos hc26]), N0, rfl⟩
      · have pre6 : ∀ tz, oS p e below s₁ m 36 #[rv x1, iv x2, iv x3, iv x4, iv (f (x2 + x4).toNatClampNeg)] [(.int ((f (x2 + x4).toNatClampNeg) - (48 : Int32)))] tz → oS p e below s₁ m 26 #[rv x1, iv x2, iv x3, iv x4, iv (f (x2 + x4).toNatClampNeg)] [(.int (57 : Int32)), (.int (f (x2 + x4).toNatClampNeg))] tz := fun tz kt => by
          show oS p e below s₁ m 26 #[rv x1, iv x2, iv x3, iv x4, iv (f (x2 + x4).toNatClampNeg)] [(.int (57 : Int32)), (.int (f (x2 + x4).toNatClampNeg))] _
          refine XS.icmpYes X0.here hx rfl (pc0 := 26) (pc' := 31) rfl (hb hby d3_26) rfl (flt hc26).2.2.2 (by decide) (by decide) ?_
          refine XS.iload X0.here hx rfl (hb hby d3_31) rfl ?_
          refine XS.bipush X0.here hx rfl (hb hby d3_33) ?_
          refine XS.isub X0.here hx rfl (hb hby d3_35) rfl ?_
          exact kt
        obtain ⟨fs, hr, hrun, hended, hW, hsame⟩ := X0.leave (v := some (.int ((f (x2 + x4).toNatClampNeg) - (48 : Int32)))) (fun h => by rw [Bd.returns] at h; cases h)
        refine ⟨_, _, pre0 _ (pre1 _ (pre2 _ (pre4 _ (pre6 _ ?_)))), hrun, hended, _, _, rfl, ?_, ⟨_, rfl⟩, hW, hsame.mono (by decide) (by decide)⟩
        · show oS p e below s₁ m 36 #[rv x1, iv x2, iv x3, iv x4, iv (f (x2 + x4).toNatClampNeg)] [(.int ((f (x2 + x4).toNatClampNeg) - (48 : Int32)))] _
          exact retOut X0 hx Bd.returns rfl (Or.inl ⟨rfl, Or.inl rfl, _, rfl⟩) (hb hby d3_36) hr
        · show Q3 Z x1 x2 x3 x4 f h0 n0 _ s₁.heap _
          rw [e0]
          exact ⟨(by first | rfl | simp only [if_pos hc2, if_neg hc19, if_neg hc26]), N0, rfl⟩
  · have pre7 : ∀ tz, oS p e below s₁ m 7 #[rv x1, iv x2, iv x3, iv x4, .unset] [(.int (-2 : Int32))] tz → oS p e below s₁ m 2 #[rv x1, iv x2, iv x3, iv x4, .unset] [(.int x3), (.int x4)] tz := fun tz kt => by
      show oS p e below s₁ m 2 #[rv x1, iv x2, iv x3, iv x4, .unset] [(.int x3), (.int x4)] _
      refine XS.icmpNo X0.here hx rfl (hb hby d3_2) rfl (flt hc2).1 ?_
      refine XS.bipush X0.here hx rfl (hb hby d3_5) ?_
      exact kt
    obtain ⟨fs, hr, hrun, hended, hW, hsame⟩ := X0.leave (v := some (.int (-2 : Int32))) (fun h => by rw [Bd.returns] at h; cases h)
    refine ⟨_, _, pre0 _ (pre1 _ (pre7 _ ?_)), hrun, hended, _, _, rfl, ?_, ⟨_, rfl⟩, hW, hsame.mono (by decide) (by decide)⟩
    · show oS p e below s₁ m 7 #[rv x1, iv x2, iv x3, iv x4, .unset] [(.int (-2 : Int32))] _
      exact retOut X0 hx Bd.returns rfl (Or.inl ⟨rfl, Or.inl rfl, _, rfl⟩) (hb hby d3_7) hr
    · show Q3 Z x1 x2 x3 x4 f h0 n0 _ s₁.heap _
      rw [e0]
      exact ⟨(by first | rfl | simp only [if_neg hc2]), N0, rfl⟩
theorem d2_5 : decode prog_28_method_2_code 5 = .ok (.iload 4, 2) := by decide +kernel
theorem d2_7 : decode prog_28_method_2_code 7 = .ok (.iload_n 2, 1) := by decide +kernel
theorem d2_8 : decode prog_28_method_2_code 8 = .ok (.if_icmp .ge 42, 3) := by decide +kernel
theorem d2_11 : decode prog_28_method_2_code 11 = .ok (.aload_n 0, 1) := by decide +kernel
theorem d2_12 : decode prog_28_method_2_code 12 = .ok (.iload 4, 2) := by decide +kernel
theorem d2_14 : decode prog_28_method_2_code 14 = .ok (.baload, 1) := by decide +kernel
theorem d2_15 : decode prog_28_method_2_code 15 = .ok (.bipush 48, 2) := by decide +kernel
theorem d2_17 : decode prog_28_method_2_code 17 = .ok (.if_icmp .lt 12, 3) := by decide +kernel
theorem d2_20 : decode prog_28_method_2_code 20 = .ok (.aload_n 0, 1) := by decide +kernel
theorem d2_21 : decode prog_28_method_2_code 21 = .ok (.iload 4, 2) := by decide +kernel
theorem d2_23 : decode prog_28_method_2_code 23 = .ok (.baload, 1) := by decide +kernel
theorem d2_24 : decode prog_28_method_2_code 24 = .ok (.bipush 57, 2) := by decide +kernel
theorem d2_26 : decode prog_28_method_2_code 26 = .ok (.if_icmp .le 5, 3) := by decide +kernel
theorem d2_29 : decode prog_28_method_2_code 29 = .ok (.iconst (-1), 1) := by decide +kernel
theorem d2_30 : decode prog_28_method_2_code 30 = .ok (.ireturn, 1) := by decide +kernel
theorem d2_31 : decode prog_28_method_2_code 31 = .ok (.iload_n 3, 1) := by decide +kernel
theorem d2_32 : decode prog_28_method_2_code 32 = .ok (.bipush 10, 2) := by decide +kernel
theorem d2_34 : decode prog_28_method_2_code 34 = .ok (.imul, 1) := by decide +kernel
theorem d2_35 : decode prog_28_method_2_code 35 = .ok (.aload_n 0, 1) := by decide +kernel
theorem d2_36 : decode prog_28_method_2_code 36 = .ok (.iload 4, 2) := by decide +kernel
theorem d2_38 : decode prog_28_method_2_code 38 = .ok (.baload, 1) := by decide +kernel
theorem d2_39 : decode prog_28_method_2_code 39 = .ok (.iadd, 1) := by decide +kernel
theorem d2_40 : decode prog_28_method_2_code 40 = .ok (.bipush 48, 2) := by decide +kernel
theorem d2_42 : decode prog_28_method_2_code 42 = .ok (.isub, 1) := by decide +kernel
theorem d2_43 : decode prog_28_method_2_code 43 = .ok (.istore_n 3, 1) := by decide +kernel
theorem d2_44 : decode prog_28_method_2_code 44 = .ok (.iinc 4 1, 3) := by decide +kernel
theorem d2_47 : decode prog_28_method_2_code 47 = .ok (.goto (-42), 3) := by decide +kernel
theorem d2_50 : decode prog_28_method_2_code 50 = .ok (.iload_n 3, 1) := by decide +kernel
theorem d2_51 : decode prog_28_method_2_code 51 = .ok (.ireturn, 1) := by decide +kernel
set_option maxRecDepth 65536 in
set_option maxHeartbeats 40000000 in
theorem own_loop {p : Program} {l : Launch} {e : Env} {R : Room} {s : State} {m : MethodId} {args : Array Value} {below : List Frame} {meth : Method} {c : Code} {cells slots n0 : Nat} {Z : State} {h0 : Heap} (x1 : Addr) (x2 x3 : Int32) (f : Nat → Int32) (cl : Cell) (Ar : Arr Z h0 x1 cl .byte) (sz : cl.slots.size = (12 : Int32).toNatClampNeg)
    (hat : ∀ i, i < 12 → cl.slots[i]? = some (.int (f i))) (hx : p.tables.exec = Jvm.exec) (hZ : Z.Warmed39 s.vm) (hby : c.code = prog_28_method_2_code) :
    ∀ (k i : Nat) (acc : Int32) (T0 : State) (locs : List Loc), i + k ≤ 12 → x3 = Int32.ofNat (i + k) → Stand p l e R s m args below meth c T0 locs cells slots → Fr n0 locs → T0.heap = h0 →
      ∃ (T' : State) (locs' : List Loc) (pcE : Nat) (LE : Array Slot), decode c.code pcE = .ok (.ireturn, 1) ∧ Fr n0 locs' ∧ Stand p l e R s m args below meth c T' locs' cells slots ∧ T'.heap = h0 ∧
        ∀ t, oS p e below T' m pcE LE [.int (own_rd f i k acc)] t → oS p e below T0 m 5 #[rv x1, iv x2, iv x3, iv acc, iv (Int32.ofNat i)] [] t := by
  intro k
  induction k with
  | zero =>
    intro i acc T0 locs h2 h3 X0 N0 e0
    have hnl : ¬ (Int32.ofNat i) < x3 := by rw [h3, own_ltN _ _ (by omega) (by omega)]; omega
    have pre1 : ∀ tz, oS p e below T0 m 51 #[rv x1, iv x2, iv x3, iv acc, iv (Int32.ofNat i)] [(.int acc)] tz → oS p e below T0 m 5 #[rv x1, iv x2, iv x3, iv acc, iv (Int32.ofNat i)] [] tz := fun tz kt => by
      show oS p e below T0 m 5 #[rv x1, iv x2, iv x3, iv acc, iv (Int32.ofNat i)] [] _
      refine XS.iload X0.here hx rfl (hb hby d2_5) rfl ?_
      refine XS.iloadN X0.here hx rfl (hb hby d2_7) rfl ?_
      refine XS.icmpYes X0.here hx rfl (pc0 := 8) (pc' := 50) rfl (hb hby d2_8) rfl (flt hnl).2.1 (by decide) (by decide) ?_
      refine XS.iloadN X0.here hx rfl (hb hby d2_50) rfl ?_
      exact kt
    show ∃ (T' : State) (locs' : List Loc) (pcE : Nat) (LE : Array Slot), _ ∧ _ ∧ _ ∧ _ ∧ ∀ t, oS p e below T' m pcE LE [.int acc] t → _
    exact ⟨T0, _, 51, #[rv x1, iv x2, iv x3, iv acc, iv (Int32.ofNat i)], (hb hby d2_51), N0, X0, e0, fun t kt => (pre1 _ kt)⟩
  | succ k ih =>
    intro i acc T0 locs h2 h3 X0 N0 e0
    have hlt : (Int32.ofNat i) < x3 := by rw [h3, own_ltN _ _ (by omega) (by omega)]; omega
    have hin : ¬ ((Int32.ofNat i) < 0 ∨ cl.slots.size ≤ (Int32.ofNat i).toNatClampNeg) := inb_of sz (own_inA i (by omega))
    have ha : cl.slots[(Int32.ofNat i).toNatClampNeg]? = some (.int (f i)) := by rw [own_tn i (by omega)]; exact hat i (by omega)
    have pre2 : ∀ tz, oS p e below T0 m 17 #[rv x1, iv x2, iv x3, iv acc, iv (Int32.ofNat i)] [(.int (48 : Int32)), (.int (f i))] tz → oS p e below T0 m 5 #[rv x1, iv x2, iv x3, iv acc, iv (Int32.ofNat i)] [] tz := fun tz kt => by
      show oS p e below T0 m 5 #[rv x1, iv x2, iv x3, iv acc, iv (Int32.ofNat i)] [] _
      refine XS.iload X0.here hx rfl (hb hby d2_5) rfl ?_
      refine XS.iloadN X0.here hx rfl (hb hby d2_7) rfl ?_
      refine XS.icmpNo X0.here hx rfl (hb hby d2_8) rfl (tlt hlt).2.1 ?_
      refine XS.aloadN X0.here hx rfl (hb hby d2_11) rfl rfl ?_
      show oS p e below T0 m 12 #[rv x1, iv x2, iv x3, iv acc, iv (Int32.ofNat i)] [(.ref x1)] _
      refine XS.iload X0.here hx rfl (hb hby d2_12) rfl ?_
      refine X0.baloadBytes hx (j := (Int32.ofNat i)) (v := .int (f i)) (by rw [e0]; exact Ar.1) (State.isArrayOf_alike hZ.alike Ar.2.1) Ar.2.2 hin ha (g := (mkF m 14 #[rv x1, iv x2, iv x3, iv acc, iv (Int32.ofNat i)] [(.int (Int32.ofNat i)), (.ref x1)])) rfl rfl (hb hby d2_14) _ ?_
      refine XS.bipush X0.here hx rfl (hb hby d2_15) ?_
      exact kt
    by_cases hc17 : (f i) < (48 : Int32)
    · have pre3 : ∀ tz, oS p e below T0 m 30 #[rv x1, iv x2, iv x3, iv acc, iv (Int32.ofNat i)] [(.int (-1 : Int32))] tz → oS p e below T0 m 17 #[rv x1, iv x2, iv x3, iv acc, iv (Int32.ofNat i)] [(.int (48 : Int32)), (.int (f i))] tz := fun tz kt => by
        show oS p e below T0 m 17 #[rv x1, iv x2, iv x3, iv acc, iv (Int32.ofNat i)] [(.int (48 : Int32)), (.int (f i))] _
        refine XS.icmpYes X0.here hx rfl (pc0 := 17) (pc' := 29) rfl (hb hby d2_17) rfl (tlt hc17).1 (by decide) (by decide) ?_
        refine XS.iconst X0.here hx rfl (hb hby d2_29) ?_
        exact kt
      have hr : own_rd f i (k + 1) acc = (-1 : Int32) := by simp only [own_rd, if_pos hc17]
      rw [hr]
      exact ⟨T0, _, 30, #[rv x1, iv x2, iv x3, iv acc, iv (Int32.ofNat i)], (hb hby d2_30), N0, X0, e0, fun t kt => (pre2 _ (pre3 _ kt))⟩
    · have pre4 : ∀ tz, oS p e below T0 m 26 #[rv x1, iv x2, iv x3, iv acc, iv (Int32.ofNat i)] [(.int (57 : Int32)), (.int (f i))] tz → oS p e below T0 m 17 #[rv x1, iv x2, iv x3, iv acc, iv (Int32.ofNat i)] [(.int (48 : Int32)), (.int (f i))] tz := fun tz kt => by
        show oS p e below T0 m 17 #[rv x1, iv x2, iv x3, iv acc, iv (Int32.ofNat i)] [(.int (48 : Int32)), (.int (f i))] _
        refine XS.icmpNo X0.here hx rfl (hb hby d2_17) rfl (flt hc17).1 ?_
        refine XS.aloadN X0.here hx rfl (hb hby d2_20) rfl rfl ?_
        refine XS.iload X0.here hx rfl (hb hby d2_21) rfl ?_
        refine X0.baloadBytes hx (j := (Int32.ofNat i)) (v := .int (f i)) (by rw [e0]; exact Ar.1) (State.isArrayOf_alike hZ.alike Ar.2.1) Ar.2.2 hin ha (g := (mkF m 23 #[rv x1, iv x2, iv x3, iv acc, iv (Int32.ofNat i)] [(.int (Int32.ofNat i)), (.ref x1)])) rfl rfl (hb hby d2_23) _ ?_
        show oS p e below T0 m 24 #[rv x1, iv x2, iv x3, iv acc, iv (Int32.ofNat i)] [(.int (f i))] _
        refine XS.bipush X0.here hx rfl (hb hby d2_24) ?_
        exact kt
      by_cases hc26 : (57 : Int32) < (f i)
      · have pre5 : ∀ tz, oS p e below T0 m 30 #[rv x1, iv x2, iv x3, iv acc, iv (Int32.ofNat i)] [(.int (-1 : Int32))] tz → oS p e below T0 m 26 #[rv x1, iv x2, iv x3, iv acc, iv (Int32.ofNat i)] [(.int (57 : Int32)), (.int (f i))] tz := fun tz kt => by
          show oS p e below T0 m 26 #[rv x1, iv x2, iv x3, iv acc, iv (Int32.ofNat i)] [(.int (57 : Int32)), (.int (f i))] _
          refine XS.icmpNo X0.here hx rfl (hb hby d2_26) rfl (tlt hc26).2.2.2 ?_
          refine XS.iconst X0.here hx rfl (hb hby d2_29) ?_
          exact kt
        have hr : own_rd f i (k + 1) acc = (-1 : Int32) := by simp only [own_rd, if_neg hc17, if_pos hc26]
        rw [hr]
        exact ⟨T0, _, 30, #[rv x1, iv x2, iv x3, iv acc, iv (Int32.ofNat i)], (hb hby d2_30), N0, X0, e0, fun t kt => (pre2 _ (pre4 _ (pre5 _ kt)))⟩
      · have pre6 : ∀ tz, oS p e below T0 m 5 #[rv x1, iv x2, iv x3, iv (((acc * (10 : Int32)) + (f i)) - (48 : Int32)), iv ((Int32.ofNat i) + (1 : Int32))] [] tz → oS p e below T0 m 26 #[rv x1, iv x2, iv x3, iv acc, iv (Int32.ofNat i)] [(.int (57 : Int32)), (.int (f i))] tz := fun tz kt => by
          show oS p e below T0 m 26 #[rv x1, iv x2, iv x3, iv acc, iv (Int32.ofNat i)] [(.int (57 : Int32)), (.int (f i))] _
          refine XS.icmpYes X0.here hx rfl (pc0 := 26) (pc' := 31) rfl (hb hby d2_26) rfl (flt hc26).2.2.2 (by decide) (by decide) ?_
          refine XS.iloadN X0.here hx rfl (hb hby d2_31) rfl ?_
          refine XS.bipush X0.here hx rfl (hb hby d2_32) ?_
          refine XS.imul X0.here hx rfl (hb hby d2_34) rfl ?_
          show oS p e below T0 m 35 #[rv x1, iv x2, iv x3, iv acc, iv (Int32.ofNat i)] [(.int (acc * (10 : Int32)))] _
          refine XS.aloadN X0.here hx rfl (hb hby d2_35) rfl rfl ?_
          refine XS.iload X0.here hx rfl (hb hby d2_36) rfl ?_
          refine X0.baloadBytes hx (j := (Int32.ofNat i)) (v := .int (f i)) (by rw [e0]; exact Ar.1) (State.isArrayOf_alike hZ.alike Ar.2.1) Ar.2.2 hin ha (g := (mkF m 38 #[rv x1, iv x2, iv x3, iv acc, iv (Int32.ofNat i)] [(.int (Int32.ofNat i)), (.ref x1), (.int (acc * (10 : Int32)))])) rfl rfl (hb hby d2_38) _ ?_
          refine XS.iadd X0.here hx rfl (hb hby d2_39) rfl ?_
          show oS p e below T0 m 40 #[rv x1, iv x2, iv x3, iv acc, iv (Int32.ofNat i)] [(.int ((acc * (10 : Int32)) + (f i)))] _
          refine XS.bipush X0.here hx rfl (hb hby d2_40) ?_
          refine XS.isub X0.here hx rfl (hb hby d2_42) rfl ?_
          refine XS.istoreN X0.here hx rfl (hb hby d2_43) rfl (l' := #[rv x1, iv x2, iv x3, iv (((acc * (10 : Int32)) + (f i)) - (48 : Int32)), iv (Int32.ofNat i)]) rfl ?_
          refine XS.iinc X0.here hx rfl (hb hby d2_44) rfl (l' := #[rv x1, iv x2, iv x3, iv (((acc * (10 : Int32)) + (f i)) - (48 : Int32)), iv ((Int32.ofNat i) + (1 : Int32))]) rfl ?_
          show oS p e below T0 m 47 #[rv x1, iv x2, iv x3, iv (((acc * (10 : Int32)) + (f i)) - (48 : Int32)), iv ((Int32.ofNat i) + (1 : Int32))] [] _
          refine XS.goto X0.here hx rfl (pc0 := 47) (pc' := 5) rfl (hb hby d2_47) (by decide) (by decide) ?_
          exact kt
        obtain ⟨T9, L9, pcE, LE, hdE, N9, X9, e9, st9⟩ := ih (i + 1) (((acc * (10 : Int32)) + (f i)) - (48 : Int32)) T0 _ (by omega) (by rw [h3]; congr 1; omega) X0 N0 e0
        have hr : own_rd f i (k + 1) acc = own_rd f (i + 1) k (((acc * (10 : Int32)) + (f i)) - (48 : Int32)) := by simp only [own_rd, if_neg hc17, if_neg hc26]
        rw [hr]
        refine ⟨T9, L9, pcE, LE, hdE, N9, X9, e9, fun t kt => (pre2 _ (pre4 _ (pre6 _ ?_)))⟩
        rw [own_s1 i (by omega)]
        exact st9 t kt
theorem d2_0 : decode prog_28_method_2_code 0 = .ok (.iconst 0, 1) := by decide +kernel
theorem d2_1 : decode prog_28_method_2_code 1 = .ok (.istore_n 3, 1) := by decide +kernel
theorem d2_2 : decode prog_28_method_2_code 2 = .ok (.iload_n 1, 1) := by decide +kernel
theorem d2_3 : decode prog_28_method_2_code 3 = .ok (.istore 4, 2) := by decide +kernel
theorem own_pn1 : plainName "com/example/planwright/planwright/io/Digits" = true := by first | (simp [plainName, overriddenIn]; done) | decide +kernel
theorem ef2 (m : MethodId) (x1 : Addr) (x2 : Int32) (x3 : Int32) : entryFrame m #[(.ref x1), (.int x2), (.int x3)] 5 = mkF m 0 #[rv x1, iv x2, iv x3, .unset, .unset] [] := by first | (simp [entryFrame, mkF, argsToLocals, Value.category]; done) | rfl
def Q2 (Z : State) (x1 : Addr) (x2 : Int32) (x3 : Int32) (f : Nat → Int32) (a : Nat) (k : Nat) (h0 : Heap) (n0 : Nat) (v : Option Value) (h : Heap) (L : List Loc) : Prop := v = some (.int (own_rd f a k (0 : Int32))) ∧ Fr n0 L ∧ h = h0
set_option maxRecDepth 65536 in
set_option maxHeartbeats 40000000 in
theorem rm2 (l : Launch) (Z : State) (a0 : Array Value) (hw : ∀ d ∈ tables_1, d.before a0 Z = true) (ws : List Jvm.Cond) (x1 : Addr) (x2 : Int32) (x3 : Int32) (f : Nat → Int32) (a : Nat) (k : Nat) (h0 : Heap) (n0 : Nat) (Z0 : n0 ≤ h0.size) (X_x1 : own_Arr Z h0 x1 f) (h2 : x2 = Int32.ofNat a) (h3 : x3 = Int32.ofNat (a + k)) (hle : a + k ≤ 12) :
    MetFree l (⟨"com/example/planwright/planwright/io/Digits", "read", "([BII)I"⟩ : MethodName) (head1 (Jvm.Cond.code (⟨"com/example/planwright/planwright/io/Digits", "read", "([BII)I"⟩ : MethodName) prog_28_method_2_code 5 (some .int) :: ws) ({ frames := 0, cells := 0, slots := 0, locals := 0 } : Room)) (fun a U => a = #[(.ref x1), (.int x2), (.int x3)] ∧ Z.Warmed39 U.vm ∧ U.heap = h0) (fun _ _ _ _ _ => True) (fun _ U oc U' => ∃ v L, oc = .returned v ∧ Q2 Z x1 x2 x3 f a k h0 n0 v U'.heap L ∧ FrameEnd U oc U' L ({ frames := 0, cells := 0, slots := 0, locals := 0 } : Room).cells ({ frames := 0, cells := 0, slots := 0, locals := 0 } : Room).slots) := by
  refine MetFree.of_bodySF (plainFor_of_name own_pn1) hisR ?_
  intro p e s m args below meth c s₁ Bd hml0 hP hK
  obtain ⟨rfl, hZ, hh⟩ := hP
  have hx := Bd.exec
  have hby := Bd.bytes
  have hml : c.maxLocals = 5 := hml0
  have hown : s.vm.findClass "com/example/planwright/planwright/io/Digits" = some m.cls := findClass_of_methodNamed Bd.named
  have hnm := (name_of_methodNamed Bd.named Bd.method).1
  have X0 : Stand p l e ({ frames := 0, cells := 0, slots := 0, locals := 0 } : Room) s m #[(.ref x1), (.int x2), (.int x3)] below meth c s₁ [] 0 0 := Stand.of_body Bd
  have e0 : s₁.heap = h0 := by rw [← hh, Bd.state]; rfl
  have N0 := Fr.nil n0
  have pre0 : ∀ t, Steps p.tables e below (s₁.setTop (mkF m 0 #[rv x1, iv x2, iv x3, .unset, .unset] [])) t → Steps p.tables e below (s₁.setTop (entryFrame m #[(.ref x1), (.int x2), (.int x3)] 5)) t := fun t k => castTop (ef2 m x1 x2 x3) k
  obtain ⟨cl, Ar, sz, hat⟩ := X_x1
  have pre1 : ∀ tz, oS p e below s₁ m 5 #[rv x1, iv x2, iv x3, iv (0 : Int32), iv x2] [] tz → oS p e below s₁ m 0 #[rv x1, iv x2, iv x3, .unset, .unset] [] tz := fun tz kt => by
    show oS p e below s₁ m 0 #[rv x1, iv x2, iv x3, .unset, .unset] [] _
    refine XS.iconst X0.here hx rfl (hb hby d2_0) ?_
    refine XS.istoreN X0.here hx rfl (hb hby d2_1) rfl (l' := #[rv x1, iv x2, iv x3, iv (0 : Int32), .unset]) rfl ?_
    refine XS.iloadN X0.here hx rfl (hb hby d2_2) rfl ?_
    refine XS.istore X0.here hx rfl (hb hby d2_3) rfl (l' := #[rv x1, iv x2, iv x3, iv (0 : Int32), iv x2]) rfl ?_
    exact kt
  obtain ⟨T2, L2, pcE, LE, hdE, N2, X2, e2, st2⟩ := own_loop x1 x2 x3 f cl Ar sz hat hx hZ hby k a (0 : Int32) s₁ _ hle h3 X0 N0 e0
  have preL : ∀ t, oS p e below T2 m pcE LE [.int (own_rd f a k (0 : Int32))] t → oS p e below s₁ m 5 #[rv x1, iv x2, iv x3, iv (0 : Int32), iv x2] [] t := fun t kt => by
    have q := st2 t kt
    rw [← h2] at q
    exact q
  obtain ⟨fs, hr, hrun, hended, hW, hsame⟩ := X2.leave (v := some (.int (own_rd f a k (0 : Int32)))) (fun h => by rw [Bd.returns] at h; cases h)
  refine ⟨_, _, pre0 _ (pre1 _ (preL _ ?_)), hrun, hended, _, _, rfl, ?_, ⟨_, rfl⟩, hW, hsame.mono (by decide) (by decide)⟩
  · exact retOut X2 hx Bd.returns rfl (Or.inl ⟨rfl, Or.inl rfl, _, rfl⟩) hdE hr
  · show Q2 Z x1 x2 x3 f a k h0 n0 _ T2.heap _
    rw [e2]
    exact ⟨rfl, N2, rfl⟩
theorem own_n (x y : Int32) (hy : y = ((x &&& (2147483647 : Int32)) % (10 : Int32))) : ∃ n : Nat, n ≤ 9 ∧ y = Int32.ofNat n := by
  have h1 := c_mask x 2147483647 31 (by decide) (by decide)
  have h2 := (c_irem (x &&& 2147483647) 10 10 (by decide)).1 (by omega)
  rw [← hy] at h2
  refine ⟨y.toInt.toNat, by omega, ?_⟩
  apply Int32.toInt_inj.mp
  rw [own_of _ (by omega)]
  omega
theorem own_13 (n : Nat) (h : n ≤ 9) : ((13 : Int32) - Int32.ofNat n).toInt = 13 - n := by
  have h1 := own_of n (by omega)
  have h2 := c_isub 13 (Int32.ofNat n)
  have r := rng32 ((13 : Int32) - Int32.ofNat n)
  have e : (13 : Int32).toInt = 13 := rfl
  omega
theorem own_13z (n : Nat) (h : n ≤ 9) (y : Int32) (hy : y = Int32.ofNat n) : ((13 : Int32) - y) ≠ 0 := by
  intro q
  have h1 := own_13 n h
  rw [← hy, q] at h1
  have e : (0 : Int32).toInt = 0 := rfl
  omega
theorem own_a (x y z : Int32) (n : Nat) (h : n ≤ 9) (hy : y = Int32.ofNat n) (hz : z = ((x &&& (2147483647 : Int32)) % ((13 : Int32) - y))) : ∃ a : Nat, a + n ≤ 12 ∧ z = Int32.ofNat a := by
  have h1 := c_mask x 2147483647 31 (by decide) (by decide)
  have h3 := own_13 n h
  rw [← hy] at h3
  have h2 := (c_iremV (x &&& 2147483647) ((13 : Int32) - y)).1 (by omega) (by omega)
  rw [← hz] at h2
  refine ⟨z.toInt.toNat, by omega, ?_⟩
  apply Int32.toInt_inj.mp
  rw [own_of _ (by omega)]
  omega
theorem own_addN (a n : Nat) (h : a + n ≤ 50) : Int32.ofNat a + Int32.ofNat n = Int32.ofNat (a + n) := by
  have h1 := own_of a (by omega)
  have h2 := own_of n (by omega)
  have h4 := own_of (a + n) (by omega)
  have h3 := c_iadd (Int32.ofNat a) (Int32.ofNat n)
  have r := rng32 (Int32.ofNat a + Int32.ofNat n)
  apply Int32.toInt_inj.mp
  omega
theorem own_dig (a n i : Nat) (han : a + n ≤ 12) (y8 y21 : Int32) (h8 : y8 = Int32.ofNat n) (h21 : y21 = Int32.ofNat a) (hi : i ≤ 12) (q : Int32.ofNat i < y8) : ¬ (y21 + Int32.ofNat i) < 0 ∧ (y21 + Int32.ofNat i) < (12 : Int32) := by
  rw [h8, own_ltN _ _ (by omega) (by omega)] at q
  rw [h21, own_addN _ _ (by omega)]
  exact own_inA _ (by omega)
def own_W : Nat → Int
  | 0 => 1
  | k + 1 => 10 * own_W k
def own_V (f : Nat → Int32) : Nat → Nat → Int
  | _, 0 => 0
  | i, k + 1 => ((f i).toInt - 48) * own_W k + own_V f (i + 1) k
def own_ok (F : Int32) : Prop := ¬ F < (48 : Int32) ∧ ¬ (57 : Int32) < F
theorem own_okr {F : Int32} (h : own_ok F) : 48 ≤ F.toInt ∧ F.toInt ≤ 57 := by
  obtain ⟨h1, h2⟩ := h
  rw [Int32.lt_iff_toInt_lt] at h1 h2
  have e1 : (48 : Int32).toInt = 48 := rfl
  have e2 : (57 : Int32).toInt = 57 := rfl
  omega
theorem own_Wpos : ∀ k, 1 ≤ own_W k
  | 0 => Int.le_refl _
  | k + 1 => by have := own_Wpos k; simp only [own_W]; omega
theorem own_rd_bad (f : Nat → Int32) : ∀ (k i j : Nat) (acc : Int32), j < k → ¬ own_ok (f (i + j)) → own_rd f i k acc = -1 := by
  intro k
  induction k with
  | zero => intro i j acc h; omega
  | succ k ih =>
    intro i j acc h hb
    simp only [own_rd]
    by_cases c1 : f i < (48 : Int32)
    · rw [if_pos c1]
    · rw [if_neg c1]
      by_cases c2 : (57 : Int32) < f i
      · rw [if_pos c2]
      · rw [if_neg c2]
        match j, h, hb with
        | 0, _, hb => exact absurd ⟨c1, c2⟩ hb
        | j + 1, h, hb => exact ih (i + 1) j _ (by omega) (by rw [show i + 1 + j = i + (j + 1) by omega]; exact hb)
theorem own_rd_good (f : Nat → Int32) : ∀ (k i : Nat) (acc : Int32), (∀ j, j < k → own_ok (f (i + j))) → 0 ≤ acc.toInt → (acc.toInt + 1) * own_W k ≤ 1000000000 → (own_rd f i k acc).toInt = acc.toInt * own_W k + own_V f i k := by
  intro k
  induction k with
  | zero => intro i acc _ _ _; simp only [own_rd, own_W, own_V]; omega
  | succ k ih =>
    intro i acc hg h0 hb
    have g0 := hg 0 (by omega)
    rw [Nat.add_zero] at g0
    have r0 := own_okr g0
    have wp := own_Wpos k
    simp only [own_W] at hb
    have hb2 : (acc.toInt + 1) * 10 * own_W k ≤ 1000000000 := by rw [Int.mul_assoc]; exact hb
    have hsm : (acc.toInt + 1) * 10 ≤ 1000000000 := by
      have q : (acc.toInt + 1) * 10 * 1 ≤ (acc.toInt + 1) * 10 * own_W k := Int.mul_le_mul_of_nonneg_left wp (by omega)
      omega
    have m1 := c_imul acc 10
    have a1 := c_iadd (acc * 10) (f i)
    have s1 := c_isub ((acc * 10) + f i) 48
    have e1 : (10 : Int32).toInt = 10 := rfl
    have e2 : (48 : Int32).toInt = 48 := rfl
    have q1 := rng32 (acc * 10)
    have q2 := rng32 ((acc * 10) + f i)
    have q3 := rng32 (((acc * 10) + f i) - 48)
    rw [e1] at m1
    rw [e2] at s1
    have hacc : (((acc * (10 : Int32)) + f i) - (48 : Int32)).toInt = acc.toInt * 10 + ((f i).toInt - 48) := by omega
    simp only [own_rd, if_neg g0.1, if_neg g0.2]
    rw [ih (i + 1) _ (fun j hj => by rw [show i + 1 + j = i + (j + 1) by omega]; exact hg (j + 1) (by omega)) (by omega) ?_, hacc]
    · simp only [own_V, own_W]
      rw [Int.add_mul, Int.mul_assoc, Int.add_assoc]
    · rw [hacc]
      have q : (acc.toInt * 10 + ((f i).toInt - 48) + 1) * own_W k ≤ (acc.toInt + 1) * 10 * own_W k := Int.mul_le_mul_of_nonneg_right (by omega) (by omega)
      omega
theorem own_ix (a j : Nat) (h : a + j ≤ 50) (y : Int32) (hy : y = Int32.ofNat a) : (y + Int32.ofNat j).toNatClampNeg = a + j := by
  rw [hy, own_addN a j h, own_tn _ (by omega)]
theorem own_k (n j : Nat) (hn : n ≤ 9) (hj : j < n) (y : Int32) (hy : y = Int32.ofNat n) : ((y - (1 : Int32)) - Int32.ofNat j).toInt = n - 1 - j := by
  have h1 := own_of n (by omega)
  have h2 := own_of j (by omega)
  have s1 := c_isub y 1
  have s2 := c_isub (y - 1) (Int32.ofNat j)
  have e1 : (1 : Int32).toInt = 1 := rfl
  have q1 := rng32 (y - 1)
  have q2 := rng32 ((y - 1) - Int32.ofNat j)
  rw [← hy] at h1
  omega
theorem own_valb (f : Nat → Int32) (y8 y21 : Int32) (a n i : Nat) (hn9 : n ≤ 9) (han : a + n ≤ 12) (hn : y8 = Int32.ofNat n) (ha : y21 = Int32.ofNat a) (hi : i ≤ 8) (d : Int32)
    (hd : d = (if Int32.ofNat i < y8 then (if (f (y21 + Int32.ofNat i).toNatClampNeg) < (48 : Int32) then (-1 : Int32) else (if (57 : Int32) < (f (y21 + Int32.ofNat i).toNatClampNeg) then (-1 : Int32) else ((f (y21 + Int32.ofNat i).toNatClampNeg) - (48 : Int32)))) else (-2 : Int32))) : ¬ (d < (0 : Int32)) → ¬ ((y8 - (1 : Int32)) - Int32.ofNat i) < 0 ∧ ((y8 - (1 : Int32)) - Int32.ofNat i) < (9 : Int32) := by
  intro q
  by_cases c : Int32.ofNat i < y8
  · rw [hn, own_ltN _ _ (by omega) (by omega)] at c
    have h := own_k n i hn9 c y8 hn
    have e0 : (0 : Int32).toInt = 0 := rfl
    have e9 : (9 : Int32).toInt = 9 := rfl
    rw [Int32.lt_iff_toInt_lt, Int32.lt_iff_toInt_lt]
    omega
  · rw [if_neg c] at hd
    subst hd
    exact absurd (by decide) q
theorem own_T (d : Int32) (p : Int64) (P : Int) (h0 : 0 ≤ d.toInt) (h9 : d.toInt ≤ 9) (hp : p.toInt = P) (h1 : 0 ≤ P) (h2 : P ≤ 100000000) : (if d < (0 : Int32) then (0 : Int64) else ((d.toInt64) * p)).toInt = d.toInt * P ∧ 0 ≤ d.toInt * P ∧ d.toInt * P ≤ 900000000 := by
  have e0 : (0 : Int32).toInt = 0 := rfl
  have c : ¬ d < (0 : Int32) := by rw [Int32.lt_iff_toInt_lt]; omega
  rw [if_neg c]
  have m := c_lmul d.toInt64 p
  rw [c_i2l, hp] at m
  have r := rng64 (d.toInt64 * p)
  have b1 : 0 ≤ d.toInt * P := Int.mul_nonneg h0 h1
  have b2 : d.toInt * P ≤ 9 * P := Int.mul_le_mul_of_nonneg_right h9 h1
  omega
theorem own_sum9 (t0 t1 t2 t3 t4 t5 t6 t7 t8 : Int64) (b0 : 0 ≤ t0.toInt ∧ t0.toInt ≤ 900000000) (b1 : 0 ≤ t1.toInt ∧ t1.toInt ≤ 900000000) (b2 : 0 ≤ t2.toInt ∧ t2.toInt ≤ 900000000) (b3 : 0 ≤ t3.toInt ∧ t3.toInt ≤ 900000000) (b4 : 0 ≤ t4.toInt ∧ t4.toInt ≤ 900000000) (b5 : 0 ≤ t5.toInt ∧ t5.toInt ≤ 900000000) (b6 : 0 ≤ t6.toInt ∧ t6.toInt ≤ 900000000) (b7 : 0 ≤ t7.toInt ∧ t7.toInt ≤ 900000000) (b8 : 0 ≤ t8.toInt ∧ t8.toInt ≤ 900000000) : (((((((((t0 + t1) + t2) + t3) + t4) + t5) + t6) + t7) + t8)).toInt = t0.toInt + t1.toInt + t2.toInt + t3.toInt + t4.toInt + t5.toInt + t6.toInt + t7.toInt + t8.toInt := by
  have s1 := c_ladd (t0) t1
  have s2 := c_ladd ((t0 + t1)) t2
  have s3 := c_ladd (((t0 + t1) + t2)) t3
  have s4 := c_ladd ((((t0 + t1) + t2) + t3)) t4
  have s5 := c_ladd (((((t0 + t1) + t2) + t3) + t4)) t5
  have s6 := c_ladd ((((((t0 + t1) + t2) + t3) + t4) + t5)) t6
  have s7 := c_ladd (((((((t0 + t1) + t2) + t3) + t4) + t5) + t6)) t7
  have s8 := c_ladd ((((((((t0 + t1) + t2) + t3) + t4) + t5) + t6) + t7)) t8
  have r1 := rng64 ((t0 + t1))
  have r2 := rng64 (((t0 + t1) + t2))
  have r3 := rng64 ((((t0 + t1) + t2) + t3))
  have r4 := rng64 (((((t0 + t1) + t2) + t3) + t4))
  have r5 := rng64 ((((((t0 + t1) + t2) + t3) + t4) + t5))
  have r6 := rng64 (((((((t0 + t1) + t2) + t3) + t4) + t5) + t6))
  have r7 := rng64 ((((((((t0 + t1) + t2) + t3) + t4) + t5) + t6) + t7))
  have r8 := rng64 (((((((((t0 + t1) + t2) + t3) + t4) + t5) + t6) + t7) + t8))
  have u1 : (t0 + t1).toInt = t0.toInt + t1.toInt := by omega
  have u2 : (((t0 + t1) + t2)).toInt = t0.toInt + t1.toInt + t2.toInt := by omega
  have u3 : ((((t0 + t1) + t2) + t3)).toInt = t0.toInt + t1.toInt + t2.toInt + t3.toInt := by omega
  have u4 : (((((t0 + t1) + t2) + t3) + t4)).toInt = t0.toInt + t1.toInt + t2.toInt + t3.toInt + t4.toInt := by omega
  have u5 : ((((((t0 + t1) + t2) + t3) + t4) + t5)).toInt = t0.toInt + t1.toInt + t2.toInt + t3.toInt + t4.toInt + t5.toInt := by omega
  have u6 : (((((((t0 + t1) + t2) + t3) + t4) + t5) + t6)).toInt = t0.toInt + t1.toInt + t2.toInt + t3.toInt + t4.toInt + t5.toInt + t6.toInt := by omega
  have u7 : ((((((((t0 + t1) + t2) + t3) + t4) + t5) + t6) + t7)).toInt = t0.toInt + t1.toInt + t2.toInt + t3.toInt + t4.toInt + t5.toInt + t6.toInt + t7.toInt := by omega
  have u8 : (((((((((t0 + t1) + t2) + t3) + t4) + t5) + t6) + t7) + t8)).toInt = t0.toInt + t1.toInt + t2.toInt + t3.toInt + t4.toInt + t5.toInt + t6.toInt + t7.toInt + t8.toInt := by omega
  exact u8
theorem own_bad0 (d0 d1 d2 d3 d4 d5 d6 d7 d8 : Int32) (h : (if d0 = (-1 : Int32) then (1 : Int32) else (if d1 = (-1 : Int32) then (1 : Int32) else (if d2 = (-1 : Int32) then (1 : Int32) else (if d3 = (-1 : Int32) then (1 : Int32) else (if d4 = (-1 : Int32) then (1 : Int32) else (if d5 = (-1 : Int32) then (1 : Int32) else (if d6 = (-1 : Int32) then (1 : Int32) else (if d7 = (-1 : Int32) then (1 : Int32) else (if d8 = (-1 : Int32) then (1 : Int32) else (0 : Int32)))))))))) = 0) : ¬ d0 = (-1 : Int32) ∧ ¬ d1 = (-1 : Int32) ∧ ¬ d2 = (-1 : Int32) ∧ ¬ d3 = (-1 : Int32) ∧ ¬ d4 = (-1 : Int32) ∧ ¬ d5 = (-1 : Int32) ∧ ¬ d6 = (-1 : Int32) ∧ ¬ d7 = (-1 : Int32) ∧ ¬ d8 = (-1 : Int32) := by
  have c0 : ¬ d0 = (-1 : Int32) := fun q => by
    rw [if_pos q] at h; exact absurd h (by decide)
  have c1 : ¬ d1 = (-1 : Int32) := fun q => by
    rw [if_neg c0, if_pos q] at h; exact absurd h (by decide)
  have c2 : ¬ d2 = (-1 : Int32) := fun q => by
    rw [if_neg c0, if_neg c1, if_pos q] at h; exact absurd h (by decide)
  have c3 : ¬ d3 = (-1 : Int32) := fun q => by
    rw [if_neg c0, if_neg c1, if_neg c2, if_pos q] at h; exact absurd h (by decide)
  have c4 : ¬ d4 = (-1 : Int32) := fun q => by
    rw [if_neg c0, if_neg c1, if_neg c2, if_neg c3, if_pos q] at h; exact absurd h (by decide)
  have c5 : ¬ d5 = (-1 : Int32) := fun q => by
    rw [if_neg c0, if_neg c1, if_neg c2, if_neg c3, if_neg c4, if_pos q] at h; exact absurd h (by decide)
  have c6 : ¬ d6 = (-1 : Int32) := fun q => by
    rw [if_neg c0, if_neg c1, if_neg c2, if_neg c3, if_neg c4, if_neg c5, if_pos q] at h; exact absurd h (by decide)
  have c7 : ¬ d7 = (-1 : Int32) := fun q => by
    rw [if_neg c0, if_neg c1, if_neg c2, if_neg c3, if_neg c4, if_neg c5, if_neg c6, if_pos q] at h; exact absurd h (by decide)
  have c8 : ¬ d8 = (-1 : Int32) := fun q => by
    rw [if_neg c0, if_neg c1, if_neg c2, if_neg c3, if_neg c4, if_neg c5, if_neg c6, if_neg c7, if_pos q] at h; exact absurd h (by decide)
  exact ⟨c0, c1, c2, c3, c4, c5, c6, c7, c8⟩
theorem own_bad1 (d0 d1 d2 d3 d4 d5 d6 d7 d8 : Int32) (h : ¬ (if d0 = (-1 : Int32) then (1 : Int32) else (if d1 = (-1 : Int32) then (1 : Int32) else (if d2 = (-1 : Int32) then (1 : Int32) else (if d3 = (-1 : Int32) then (1 : Int32) else (if d4 = (-1 : Int32) then (1 : Int32) else (if d5 = (-1 : Int32) then (1 : Int32) else (if d6 = (-1 : Int32) then (1 : Int32) else (if d7 = (-1 : Int32) then (1 : Int32) else (if d8 = (-1 : Int32) then (1 : Int32) else (0 : Int32)))))))))) = 0) : d0 = (-1 : Int32) ∨ d1 = (-1 : Int32) ∨ d2 = (-1 : Int32) ∨ d3 = (-1 : Int32) ∨ d4 = (-1 : Int32) ∨ d5 = (-1 : Int32) ∨ d6 = (-1 : Int32) ∨ d7 = (-1 : Int32) ∨ d8 = (-1 : Int32) := by
  by_cases c0 : d0 = (-1 : Int32)
  · exact Or.inl c0
  by_cases c1 : d1 = (-1 : Int32)
  · exact Or.inr (Or.inl c1)
  by_cases c2 : d2 = (-1 : Int32)
  · exact Or.inr (Or.inr (Or.inl c2))
  by_cases c3 : d3 = (-1 : Int32)
  · exact Or.inr (Or.inr (Or.inr (Or.inl c3)))
  by_cases c4 : d4 = (-1 : Int32)
  · exact Or.inr (Or.inr (Or.inr (Or.inr (Or.inl c4))))
  by_cases c5 : d5 = (-1 : Int32)
  · exact Or.inr (Or.inr (Or.inr (Or.inr (Or.inr (Or.inl c5)))))
  by_cases c6 : d6 = (-1 : Int32)
  · exact Or.inr (Or.inr (Or.inr (Or.inr (Or.inr (Or.inr (Or.inl c6))))))
  by_cases c7 : d7 = (-1 : Int32)
  · exact Or.inr (Or.inr (Or.inr (Or.inr (Or.inr (Or.inr (Or.inr (Or.inl c7)))))))
  by_cases c8 : d8 = (-1 : Int32)
  · exact Or.inr (Or.inr (Or.inr (Or.inr (Or.inr (Or.inr (Or.inr (Or.inr (c8))))))))
  rw [if_neg c0, if_neg c1, if_neg c2, if_neg c3, if_neg c4, if_neg c5, if_neg c6, if_neg c7, if_neg c8] at h
  exact absurd rfl h
theorem own_dok (F : Int32) (h : ¬ (if F < (48 : Int32) then (-1 : Int32) else (if (57 : Int32) < F then (-1 : Int32) else (F - (48 : Int32)))) = (-1 : Int32)) : own_ok F := by
  constructor
  · intro q; rw [if_pos q] at h; exact h rfl
  · intro q
    by_cases c : F < (48 : Int32)
    · rw [if_pos c] at h; exact h rfl
    · rw [if_neg c, if_pos q] at h; exact h rfl
theorem own_dval (F : Int32) (h : own_ok F) : (if F < (48 : Int32) then (-1 : Int32) else (if (57 : Int32) < F then (-1 : Int32) else (F - (48 : Int32)))).toInt = F.toInt - 48 ∧ 0 ≤ (if F < (48 : Int32) then (-1 : Int32) else (if (57 : Int32) < F then (-1 : Int32) else (F - (48 : Int32)))).toInt ∧ (if F < (48 : Int32) then (-1 : Int32) else (if (57 : Int32) < F then (-1 : Int32) else (F - (48 : Int32)))).toInt ≤ 9 := by
  rw [if_neg h.1, if_neg h.2]
  have r := own_okr h
  have s := c_isub F 48
  have e : (48 : Int32).toInt = 48 := rfl
  have q := rng32 (F - 48)
  omega
theorem own_dbad (F : Int32) (h : (if F < (48 : Int32) then (-1 : Int32) else (if (57 : Int32) < F then (-1 : Int32) else (F - (48 : Int32)))) = (-1 : Int32)) : ¬ own_ok F := by
  intro q
  have r := own_dval F q
  rw [h] at r
  have e : (-1 : Int32).toInt = -1 := rfl
  omega
theorem own_g0 (f : Nat → Int32) (a : Nat) (han : a + 0 ≤ 12) (y8 y21 : Int32) (h8 : y8 = Int32.ofNat 0) (h21 : y21 = Int32.ofNat a) (d0 d1 d2 d3 d4 d5 d6 d7 d8 : Int32) (hd0 : d0 = (if (0 : Int32) < y8 then (if (f (y21 + (0 : Int32)).toNatClampNeg) < (48 : Int32) then (-1 : Int32) else (if (57 : Int32) < (f (y21 + (0 : Int32)).toNatClampNeg) then (-1 : Int32) else ((f (y21 + (0 : Int32)).toNatClampNeg) - (48 : Int32)))) else (-2 : Int32))) (hd1 : d1 = (if (1 : Int32) < y8 then (if (f (y21 + (1 : Int32)).toNatClampNeg) < (48 : Int32) then (-1 : Int32) else (if (57 : Int32) < (f (y21 + (1 : Int32)).toNatClampNeg) then (-1 : Int32) else ((f (y21 + (1 : Int32)).toNatClampNeg) - (48 : Int32)))) else (-2 : Int32))) (hd2 : d2 = (if (2 : Int32) < y8 then (if (f (y21 + (2 : Int32)).toNatClampNeg) < (48 : Int32) then (-1 : Int32) else (if (57 : Int32) < (f (y21 + (2 : Int32)).toNatClampNeg) then (-1 : Int32) else ((f (y21 + (2 : Int32)).toNatClampNeg) - (48 : Int32)))) else (-2 : Int32))) (hd3 : d3 = (if (3 : Int32) < y8 then (if (f (y21 + (3 : Int32)).toNatClampNeg) < (48 : Int32) then (-1 : Int32) else (if (57 : Int32) < (f (y21 + (3 : Int32)).toNatClampNeg) then (-1 : Int32) else ((f (y21 + (3 : Int32)).toNatClampNeg) - (48 : Int32)))) else (-2 : Int32))) (hd4 : d4 = (if (4 : Int32) < y8 then (if (f (y21 + (4 : Int32)).toNatClampNeg) < (48 : Int32) then (-1 : Int32) else (if (57 : Int32) < (f (y21 + (4 : Int32)).toNatClampNeg) then (-1 : Int32) else ((f (y21 + (4 : Int32)).toNatClampNeg) - (48 : Int32)))) else (-2 : Int32))) (hd5 : d5 = (if (5 : Int32) < y8 then (if (f (y21 + (5 : Int32)).toNatClampNeg) < (48 : Int32) then (-1 : Int32) else (if (57 : Int32) < (f (y21 + (5 : Int32)).toNatClampNeg) then (-1 : Int32) else ((f (y21 + (5 : Int32)).toNatClampNeg) - (48 : Int32)))) else (-2 : Int32))) (hd6 : d6 = (if (6 : Int32) < y8 then (if (f (y21 + (6 : Int32)).toNatClampNeg) < (48 : Int32) then (-1 : Int32) else (if (57 : Int32) < (f (y21 + (6 : Int32)).toNatClampNeg) then (-1 : Int32) else ((f (y21 + (6 : Int32)).toNatClampNeg) - (48 : Int32)))) else (-2 : Int32))) (hd7 : d7 = (if (7 : Int32) < y8 then (if (f (y21 + (7 : Int32)).toNatClampNeg) < (48 : Int32) then (-1 : Int32) else (if (57 : Int32) < (f (y21 + (7 : Int32)).toNatClampNeg) then (-1 : Int32) else ((f (y21 + (7 : Int32)).toNatClampNeg) - (48 : Int32)))) else (-2 : Int32))) (hd8 : d8 = (if (8 : Int32) < y8 then (if (f (y21 + (8 : Int32)).toNatClampNeg) < (48 : Int32) then (-1 : Int32) else (if (57 : Int32) < (f (y21 + (8 : Int32)).toNatClampNeg) then (-1 : Int32) else ((f (y21 + (8 : Int32)).toNatClampNeg) - (48 : Int32)))) else (-2 : Int32))) (hg : ∀ j, j < 0 → own_ok (f (a + j))) : (((((((((if d0 < (0 : Int32) then (0 : Int64) else ((d0.toInt64) * (own_p10 ((y8 - (1 : Int32)) - (0 : Int32)).toNatClampNeg))) + (if d1 < (0 : Int32) then (0 : Int64) else ((d1.toInt64) * (own_p10 ((y8 - (1 : Int32)) - (1 : Int32)).toNatClampNeg)))) + (if d2 < (0 : Int32) then (0 : Int64) else ((d2.toInt64) * (own_p10 ((y8 - (1 : Int32)) - (2 : Int32)).toNatClampNeg)))) + (if d3 < (0 : Int32) then (0 : Int64) else ((d3.toInt64) * (own_p10 ((y8 - (1 : Int32)) - (3 : Int32)).toNatClampNeg)))) + (if d4 < (0 : Int32) then (0 : Int64) else ((d4.toInt64) * (own_p10 ((y8 - (1 : Int32)) - (4 : Int32)).toNatClampNeg)))) + (if d5 < (0 : Int32) then (0 : Int64) else ((d5.toInt64) * (own_p10 ((y8 - (1 : Int32)) - (5 : Int32)).toNatClampNeg)))) + (if d6 < (0 : Int32) then (0 : Int64) else ((d6.toInt64) * (own_p10 ((y8 - (1 : Int32)) - (6 : Int32)).toNatClampNeg)))) + (if d7 < (0 : Int32) then (0 : Int64) else ((d7.toInt64) * (own_p10 ((y8 - (1 : Int32)) - (7 : Int32)).toNatClampNeg)))) + (if d8 < (0 : Int32) then (0 : Int64) else ((d8.toInt64) * (own_p10 ((y8 - (1 : Int32)) - (8 : Int32)).toNatClampNeg)))).toInt = own_V f a 0 := by
  have c0 : ¬ (0 : Int32) < y8 := by rw [h8]; decide
  rw [if_neg c0] at hd0
  have t0 : (if d0 < (0 : Int32) then (0 : Int64) else ((d0.toInt64) * (own_p10 ((y8 - (1 : Int32)) - (0 : Int32)).toNatClampNeg))).toInt = 0 ∧ (0 : Int) ≤ 0 ∧ (0 : Int) ≤ 900000000 := by
    rw [if_pos (by rw [hd0]; decide)]; decide
  have c1 : ¬ (1 : Int32) < y8 := by rw [h8]; decide
  rw [if_neg c1] at hd1
  have t1 : (if d1 < (0 : Int32) then (0 : Int64) else ((d1.toInt64) * (own_p10 ((y8 - (1 : Int32)) - (1 : Int32)).toNatClampNeg))).toInt = 0 ∧ (0 : Int) ≤ 0 ∧ (0 : Int) ≤ 900000000 := by
    rw [if_pos (by rw [hd1]; decide)]; decide
  have c2 : ¬ (2 : Int32) < y8 := by rw [h8]; decide
  rw [if_neg c2] at hd2
  have t2 : (if d2 < (0 : Int32) then (0 : Int64) else ((d2.toInt64) * (own_p10 ((y8 - (1 : Int32)) - (2 : Int32)).toNatClampNeg))).toInt = 0 ∧ (0 : Int) ≤ 0 ∧ (0 : Int) ≤ 900000000 := by
    rw [if_pos (by rw [hd2]; decide)]; decide
  have c3 : ¬ (3 : Int32) < y8 := by rw [h8]; decide
  rw [if_neg c3] at hd3
  have t3 : (if d3 < (0 : Int32) then (0 : Int64) else ((d3.toInt64) * (own_p10 ((y8 - (1 : Int32)) - (3 : Int32)).toNatClampNeg))).toInt = 0 ∧ (0 : Int) ≤ 0 ∧ (0 : Int) ≤ 900000000 := by
    rw [if_pos (by rw [hd3]; decide)]; decide
  have c4 : ¬ (4 : Int32) < y8 := by rw [h8]; decide
  rw [if_neg c4] at hd4
  have t4 : (if d4 < (0 : Int32) then (0 : Int64) else ((d4.toInt64) * (own_p10 ((y8 - (1 : Int32)) - (4 : Int32)).toNatClampNeg))).toInt = 0 ∧ (0 : Int) ≤ 0 ∧ (0 : Int) ≤ 900000000 := by
    rw [if_pos (by rw [hd4]; decide)]; decide
  have c5 : ¬ (5 : Int32) < y8 := by rw [h8]; decide
  rw [if_neg c5] at hd5
  have t5 : (if d5 < (0 : Int32) then (0 : Int64) else ((d5.toInt64) * (own_p10 ((y8 - (1 : Int32)) - (5 : Int32)).toNatClampNeg))).toInt = 0 ∧ (0 : Int) ≤ 0 ∧ (0 : Int) ≤ 900000000 := by
    rw [if_pos (by rw [hd5]; decide)]; decide
  have c6 : ¬ (6 : Int32) < y8 := by rw [h8]; decide
  rw [if_neg c6] at hd6
  have t6 : (if d6 < (0 : Int32) then (0 : Int64) else ((d6.toInt64) * (own_p10 ((y8 - (1 : Int32)) - (6 : Int32)).toNatClampNeg))).toInt = 0 ∧ (0 : Int) ≤ 0 ∧ (0 : Int) ≤ 900000000 := by
    rw [if_pos (by rw [hd6]; decide)]; decide
  have c7 : ¬ (7 : Int32) < y8 := by rw [h8]; decide
  rw [if_neg c7] at hd7
  have t7 : (if d7 < (0 : Int32) then (0 : Int64) else ((d7.toInt64) * (own_p10 ((y8 - (1 : Int32)) - (7 : Int32)).toNatClampNeg))).toInt = 0 ∧ (0 : Int) ≤ 0 ∧ (0 : Int) ≤ 900000000 := by
    rw [if_pos (by rw [hd7]; decide)]; decide
  have c8 : ¬ (8 : Int32) < y8 := by rw [h8]; decide
  rw [if_neg c8] at hd8
  have t8 : (if d8 < (0 : Int32) then (0 : Int64) else ((d8.toInt64) * (own_p10 ((y8 - (1 : Int32)) - (8 : Int32)).toNatClampNeg))).toInt = 0 ∧ (0 : Int) ≤ 0 ∧ (0 : Int) ≤ 900000000 := by
    rw [if_pos (by rw [hd8]; decide)]; decide
  rw [own_sum9 _ _ _ _ _ _ _ _ _ (by rw [t0.1]; exact t0.2) (by rw [t1.1]; exact t1.2) (by rw [t2.1]; exact t2.2) (by rw [t3.1]; exact t3.2) (by rw [t4.1]; exact t4.2) (by rw [t5.1]; exact t5.2) (by rw [t6.1]; exact t6.2) (by rw [t7.1]; exact t7.2) (by rw [t8.1]; exact t8.2)]
  rw [t0.1, t1.1, t2.1, t3.1, t4.1, t5.1, t6.1, t7.1, t8.1]
  simp only [own_V, own_W, Nat.add_assoc, Nat.reduceAdd]
  clear hd0 hd1 hd2 hd3 hd4 hd5 hd6 hd7 hd8 hg h8 h21 c0 c1 c2 c3 c4 c5 c6 c7 c8 t0 t1 t2 t3 t4 t5 t6 t7 t8
  omega
theorem own_g1 (f : Nat → Int32) (a : Nat) (han : a + 1 ≤ 12) (y8 y21 : Int32) (h8 : y8 = Int32.ofNat 1) (h21 : y21 = Int32.ofNat a) (d0 d1 d2 d3 d4 d5 d6 d7 d8 : Int32) (hd0 : d0 = (if (0 : Int32) < y8 then (if (f (y21 + (0 : Int32)).toNatClampNeg) < (48 : Int32) then (-1 : Int32) else (if (57 : Int32) < (f (y21 + (0 : Int32)).toNatClampNeg) then (-1 : Int32) else ((f (y21 + (0 : Int32)).toNatClampNeg) - (48 : Int32)))) else (-2 : Int32))) (hd1 : d1 = (if (1 : Int32) < y8 then (if (f (y21 + (1 : Int32)).toNatClampNeg) < (48 : Int32) then (-1 : Int32) else (if (57 : Int32) < (f (y21 + (1 : Int32)).toNatClampNeg) then (-1 : Int32) else ((f (y21 + (1 : Int32)).toNatClampNeg) - (48 : Int32)))) else (-2 : Int32))) (hd2 : d2 = (if (2 : Int32) < y8 then (if (f (y21 + (2 : Int32)).toNatClampNeg) < (48 : Int32) then (-1 : Int32) else (if (57 : Int32) < (f (y21 + (2 : Int32)).toNatClampNeg) then (-1 : Int32) else ((f (y21 + (2 : Int32)).toNatClampNeg) - (48 : Int32)))) else (-2 : Int32))) (hd3 : d3 = (if (3 : Int32) < y8 then (if (f (y21 + (3 : Int32)).toNatClampNeg) < (48 : Int32) then (-1 : Int32) else (if (57 : Int32) < (f (y21 + (3 : Int32)).toNatClampNeg) then (-1 : Int32) else ((f (y21 + (3 : Int32)).toNatClampNeg) - (48 : Int32)))) else (-2 : Int32))) (hd4 : d4 = (if (4 : Int32) < y8 then (if (f (y21 + (4 : Int32)).toNatClampNeg) < (48 : Int32) then (-1 : Int32) else (if (57 : Int32) < (f (y21 + (4 : Int32)).toNatClampNeg) then (-1 : Int32) else ((f (y21 + (4 : Int32)).toNatClampNeg) - (48 : Int32)))) else (-2 : Int32))) (hd5 : d5 = (if (5 : Int32) < y8 then (if (f (y21 + (5 : Int32)).toNatClampNeg) < (48 : Int32) then (-1 : Int32) else (if (57 : Int32) < (f (y21 + (5 : Int32)).toNatClampNeg) then (-1 : Int32) else ((f (y21 + (5 : Int32)).toNatClampNeg) - (48 : Int32)))) else (-2 : Int32))) (hd6 : d6 = (if (6 : Int32) < y8 then (if (f (y21 + (6 : Int32)).toNatClampNeg) < (48 : Int32) then (-1 : Int32) else (if (57 : Int32) < (f (y21 + (6 : Int32)).toNatClampNeg) then (-1 : Int32) else ((f (y21 + (6 : Int32)).toNatClampNeg) - (48 : Int32)))) else (-2 : Int32))) (hd7 : d7 = (if (7 : Int32) < y8 then (if (f (y21 + (7 : Int32)).toNatClampNeg) < (48 : Int32) then (-1 : Int32) else (if (57 : Int32) < (f (y21 + (7 : Int32)).toNatClampNeg) then (-1 : Int32) else ((f (y21 + (7 : Int32)).toNatClampNeg) - (48 : Int32)))) else (-2 : Int32))) (hd8 : d8 = (if (8 : Int32) < y8 then (if (f (y21 + (8 : Int32)).toNatClampNeg) < (48 : Int32) then (-1 : Int32) else (if (57 : Int32) < (f (y21 + (8 : Int32)).toNatClampNeg) then (-1 : Int32) else ((f (y21 + (8 : Int32)).toNatClampNeg) - (48 : Int32)))) else (-2 : Int32))) (hg : ∀ j, j < 1 → own_ok (f (a + j))) : (((((((((if d0 < (0 : Int32) then (0 : Int64) else ((d0.toInt64) * (own_p10 ((y8 - (1 : Int32)) - (0 : Int32)).toNatClampNeg))) + (if d1 < (0 : Int32) then (0 : Int64) else ((d1.toInt64) * (own_p10 ((y8 - (1 : Int32)) - (1 : Int32)).toNatClampNeg)))) + (if d2 < (0 : Int32) then (0 : Int64) else ((d2.toInt64) * (own_p10 ((y8 - (1 : Int32)) - (2 : Int32)).toNatClampNeg)))) + (if d3 < (0 : Int32) then (0 : Int64) else ((d3.toInt64) * (own_p10 ((y8 - (1 : Int32)) - (3 : Int32)).toNatClampNeg)))) + (if d4 < (0 : Int32) then (0 : Int64) else ((d4.toInt64) * (own_p10 ((y8 - (1 : Int32)) - (4 : Int32)).toNatClampNeg)))) + (if d5 < (0 : Int32) then (0 : Int64) else ((d5.toInt64) * (own_p10 ((y8 - (1 : Int32)) - (5 : Int32)).toNatClampNeg)))) + (if d6 < (0 : Int32) then (0 : Int64) else ((d6.toInt64) * (own_p10 ((y8 - (1 : Int32)) - (6 : Int32)).toNatClampNeg)))) + (if d7 < (0 : Int32) then (0 : Int64) else ((d7.toInt64) * (own_p10 ((y8 - (1 : Int32)) - (7 : Int32)).toNatClampNeg)))) + (if d8 < (0 : Int32) then (0 : Int64) else ((d8.toInt64) * (own_p10 ((y8 - (1 : Int32)) - (8 : Int32)).toNatClampNeg)))).toInt = own_V f a 1 := by
  have c0 : (0 : Int32) < y8 := by rw [h8]; decide
  rw [if_pos c0, show (y21 + (0 : Int32)).toNatClampNeg = a from own_ix a 0 (by omega) y21 h21] at hd0
  have v0 := own_dval (f (a)) (hg 0 (by omega))
  rw [← hd0] at v0
  have t0 := own_T d0 (own_p10 ((y8 - (1 : Int32)) - (0 : Int32)).toNatClampNeg) 1 v0.2.1 v0.2.2 (by rw [h8]; decide) (by decide) (by decide)
  have c1 : ¬ (1 : Int32) < y8 := by rw [h8]; decide
  rw [if_neg c1] at hd1
  have t1 : (if d1 < (0 : Int32) then (0 : Int64) else ((d1.toInt64) * (own_p10 ((y8 - (1 : Int32)) - (1 : Int32)).toNatClampNeg))).toInt = 0 ∧ (0 : Int) ≤ 0 ∧ (0 : Int) ≤ 900000000 := by
    rw [if_pos (by rw [hd1]; decide)]; decide
  have c2 : ¬ (2 : Int32) < y8 := by rw [h8]; decide
  rw [if_neg c2] at hd2
  have t2 : (if d2 < (0 : Int32) then (0 : Int64) else ((d2.toInt64) * (own_p10 ((y8 - (1 : Int32)) - (2 : Int32)).toNatClampNeg))).toInt = 0 ∧ (0 : Int) ≤ 0 ∧ (0 : Int) ≤ 900000000 := by
    rw [if_pos (by rw [hd2]; decide)]; decide
  have c3 : ¬ (3 : Int32) < y8 := by rw [h8]; decide
  rw [if_neg c3] at hd3
  have t3 : (if d3 < (0 : Int32) then (0 : Int64) else ((d3.toInt64) * (own_p10 ((y8 - (1 : Int32)) - (3 : Int32)).toNatClampNeg))).toInt = 0 ∧ (0 : Int) ≤ 0 ∧ (0 : Int) ≤ 900000000 := by
    rw [if_pos (by rw [hd3]; decide)]; decide
  have c4 : ¬ (4 : Int32) < y8 := by rw [h8]; decide
  rw [if_neg c4] at hd4
  have t4 : (if d4 < (0 : Int32) then (0 : Int64) else ((d4.toInt64) * (own_p10 ((y8 - (1 : Int32)) - (4 : Int32)).toNatClampNeg))).toInt = 0 ∧ (0 : Int) ≤ 0 ∧ (0 : Int) ≤ 900000000 := by
    rw [if_pos (by rw [hd4]; decide)]; decide
  have c5 : ¬ (5 : Int32) < y8 := by rw [h8]; decide
  rw [if_neg c5] at hd5
  have t5 : (if d5 < (0 : Int32) then (0 : Int64) else ((d5.toInt64) * (own_p10 ((y8 - (1 : Int32)) - (5 : Int32)).toNatClampNeg))).toInt = 0 ∧ (0 : Int) ≤ 0 ∧ (0 : Int) ≤ 900000000 := by
    rw [if_pos (by rw [hd5]; decide)]; decide
  have c6 : ¬ (6 : Int32) < y8 := by rw [h8]; decide
  rw [if_neg c6] at hd6
  have t6 : (if d6 < (0 : Int32) then (0 : Int64) else ((d6.toInt64) * (own_p10 ((y8 - (1 : Int32)) - (6 : Int32)).toNatClampNeg))).toInt = 0 ∧ (0 : Int) ≤ 0 ∧ (0 : Int) ≤ 900000000 := by
    rw [if_pos (by rw [hd6]; decide)]; decide
  have c7 : ¬ (7 : Int32) < y8 := by rw [h8]; decide
  rw [if_neg c7] at hd7
  have t7 : (if d7 < (0 : Int32) then (0 : Int64) else ((d7.toInt64) * (own_p10 ((y8 - (1 : Int32)) - (7 : Int32)).toNatClampNeg))).toInt = 0 ∧ (0 : Int) ≤ 0 ∧ (0 : Int) ≤ 900000000 := by
    rw [if_pos (by rw [hd7]; decide)]; decide
  have c8 : ¬ (8 : Int32) < y8 := by rw [h8]; decide
  rw [if_neg c8] at hd8
  have t8 : (if d8 < (0 : Int32) then (0 : Int64) else ((d8.toInt64) * (own_p10 ((y8 - (1 : Int32)) - (8 : Int32)).toNatClampNeg))).toInt = 0 ∧ (0 : Int) ≤ 0 ∧ (0 : Int) ≤ 900000000 := by
    rw [if_pos (by rw [hd8]; decide)]; decide
  rw [own_sum9 _ _ _ _ _ _ _ _ _ (by rw [t0.1]; exact t0.2) (by rw [t1.1]; exact t1.2) (by rw [t2.1]; exact t2.2) (by rw [t3.1]; exact t3.2) (by rw [t4.1]; exact t4.2) (by rw [t5.1]; exact t5.2) (by rw [t6.1]; exact t6.2) (by rw [t7.1]; exact t7.2) (by rw [t8.1]; exact t8.2)]
  rw [t0.1, t1.1, t2.1, t3.1, t4.1, t5.1, t6.1, t7.1, t8.1]
  simp only [own_V, own_W, Nat.add_assoc, Nat.reduceAdd]
  clear hd0 hd1 hd2 hd3 hd4 hd5 hd6 hd7 hd8 hg h8 h21 c0 c1 c2 c3 c4 c5 c6 c7 c8 t0 t1 t2 t3 t4 t5 t6 t7 t8
  omega
theorem own_g2 (f : Nat → Int32) (a : Nat) (han : a + 2 ≤ 12) (y8 y21 : Int32) (h8 : y8 = Int32.ofNat 2) (h21 : y21 = Int32.ofNat a) (d0 d1 d2 d3 d4 d5 d6 d7 d8 : Int32) (hd0 : d0 = (if (0 : Int32) < y8 then (if (f (y21 + (0 : Int32)).toNatClampNeg) < (48 : Int32) then (-1 : Int32) else (if (57 : Int32) < (f (y21 + (0 : Int32)).toNatClampNeg) then (-1 : Int32) else ((f (y21 + (0 : Int32)).toNatClampNeg) - (48 : Int32)))) else (-2 : Int32))) (hd1 : d1 = (if (1 : Int32) < y8 then (if (f (y21 + (1 : Int32)).toNatClampNeg) < (48 : Int32) then (-1 : Int32) else (if (57 : Int32) < (f (y21 + (1 : Int32)).toNatClampNeg) then (-1 : Int32) else ((f (y21 + (1 : Int32)).toNatClampNeg) - (48 : Int32)))) else (-2 : Int32))) (hd2 : d2 = (if (2 : Int32) < y8 then (if (f (y21 + (2 : Int32)).toNatClampNeg) < (48 : Int32) then (-1 : Int32) else (if (57 : Int32) < (f (y21 + (2 : Int32)).toNatClampNeg) then (-1 : Int32) else ((f (y21 + (2 : Int32)).toNatClampNeg) - (48 : Int32)))) else (-2 : Int32))) (hd3 : d3 = (if (3 : Int32) < y8 then (if (f (y21 + (3 : Int32)).toNatClampNeg) < (48 : Int32) then (-1 : Int32) else (if (57 : Int32) < (f (y21 + (3 : Int32)).toNatClampNeg) then (-1 : Int32) else ((f (y21 + (3 : Int32)).toNatClampNeg) - (48 : Int32)))) else (-2 : Int32))) (hd4 : d4 = (if (4 : Int32) < y8 then (if (f (y21 + (4 : Int32)).toNatClampNeg) < (48 : Int32) then (-1 : Int32) else (if (57 : Int32) < (f (y21 + (4 : Int32)).toNatClampNeg) then (-1 : Int32) else ((f (y21 + (4 : Int32)).toNatClampNeg) - (48 : Int32)))) else (-2 : Int32))) (hd5 : d5 = (if (5 : Int32) < y8 then (if (f (y21 + (5 : Int32)).toNatClampNeg) < (48 : Int32) then (-1 : Int32) else (if (57 : Int32) < (f (y21 + (5 : Int32)).toNatClampNeg) then (-1 : Int32) else ((f (y21 + (5 : Int32)).toNatClampNeg) - (48 : Int32)))) else (-2 : Int32))) (hd6 : d6 = (if (6 : Int32) < y8 then (if (f (y21 + (6 : Int32)).toNatClampNeg) < (48 : Int32) then (-1 : Int32) else (if (57 : Int32) < (f (y21 + (6 : Int32)).toNatClampNeg) then (-1 : Int32) else ((f (y21 + (6 : Int32)).toNatClampNeg) - (48 : Int32)))) else (-2 : Int32))) (hd7 : d7 = (if (7 : Int32) < y8 then (if (f (y21 + (7 : Int32)).toNatClampNeg) < (48 : Int32) then (-1 : Int32) else (if (57 : Int32) < (f (y21 + (7 : Int32)).toNatClampNeg) then (-1 : Int32) else ((f (y21 + (7 : Int32)).toNatClampNeg) - (48 : Int32)))) else (-2 : Int32))) (hd8 : d8 = (if (8 : Int32) < y8 then (if (f (y21 + (8 : Int32)).toNatClampNeg) < (48 : Int32) then (-1 : Int32) else (if (57 : Int32) < (f (y21 + (8 : Int32)).toNatClampNeg) then (-1 : Int32) else ((f (y21 + (8 : Int32)).toNatClampNeg) - (48 : Int32)))) else (-2 : Int32))) (hg : ∀ j, j < 2 → own_ok (f (a + j))) : (((((((((if d0 < (0 : Int32) then (0 : Int64) else ((d0.toInt64) * (own_p10 ((y8 - (1 : Int32)) - (0 : Int32)).toNatClampNeg))) + (if d1 < (0 : Int32) then (0 : Int64) else ((d1.toInt64) * (own_p10 ((y8 - (1 : Int32)) - (1 : Int32)).toNatClampNeg)))) + (if d2 < (0 : Int32) then (0 : Int64) else ((d2.toInt64) * (own_p10 ((y8 - (1 : Int32)) - (2 : Int32)).toNatClampNeg)))) + (if d3 < (0 : Int32) then (0 : Int64) else ((d3.toInt64) * (own_p10 ((y8 - (1 : Int32)) - (3 : Int32)).toNatClampNeg)))) + (if d4 < (0 : Int32) then (0 : Int64) else ((d4.toInt64) * (own_p10 ((y8 - (1 : Int32)) - (4 : Int32)).toNatClampNeg)))) + (if d5 < (0 : Int32) then (0 : Int64) else ((d5.toInt64) * (own_p10 ((y8 - (1 : Int32)) - (5 : Int32)).toNatClampNeg)))) + (if d6 < (0 : Int32) then (0 : Int64) else ((d6.toInt64) * (own_p10 ((y8 - (1 : Int32)) - (6 : Int32)).toNatClampNeg)))) + (if d7 < (0 : Int32) then (0 : Int64) else ((d7.toInt64) * (own_p10 ((y8 - (1 : Int32)) - (7 : Int32)).toNatClampNeg)))) + (if d8 < (0 : Int32) then (0 : Int64) else ((d8.toInt64) * (own_p10 ((y8 - (1 : Int32)) - (8 : Int32)).toNatClampNeg)))).toInt = own_V f a 2 := by
  have c0 : (0 : Int32) < y8 := by rw [h8]; decide
  rw [if_pos c0, show (y21 + (0 : Int32)).toNatClampNeg = a from own_ix a 0 (by omega) y21 h21] at hd0
  have v0 := own_dval (f (a)) (hg 0 (by omega))
  rw [← hd0] at v0
  have t0 := own_T d0 (own_p10 ((y8 - (1 : Int32)) - (0 : Int32)).toNatClampNeg) 10 v0.2.1 v0.2.2 (by rw [h8]; decide) (by decide) (by decide)
  have c1 : (1 : Int32) < y8 := by rw [h8]; decide
  rw [if_pos c1, show (y21 + (1 : Int32)).toNatClampNeg = a + 1 from own_ix a 1 (by omega) y21 h21] at hd1
  have v1 := own_dval (f (a + 1)) (hg 1 (by omega))
  rw [← hd1] at v1
  have t1 := own_T d1 (own_p10 ((y8 - (1 : Int32)) - (1 : Int32)).toNatClampNeg) 1 v1.2.1 v1.2.2 (by rw [h8]; decide) (by decide) (by decide)
  have c2 : ¬ (2 : Int32) < y8 := by rw [h8]; decide
  rw [if_neg c2] at hd2
  have t2 : (if d2 < (0 : Int32) then (0 : Int64) else ((d2.toInt64) * (own_p10 ((y8 - (1 : Int32)) - (2 : Int32)).toNatClampNeg))).toInt = 0 ∧ (0 : Int) ≤ 0 ∧ (0 : Int) ≤ 900000000 := by
    rw [if_pos (by rw [hd2]; decide)]; decide
  have c3 : ¬ (3 : Int32) < y8 := by rw [h8]; decide
  rw [if_neg c3] at hd3
  have t3 : (if d3 < (0 : Int32) then (0 : Int64) else ((d3.toInt64) * (own_p10 ((y8 - (1 : Int32)) - (3 : Int32)).toNatClampNeg))).toInt = 0 ∧ (0 : Int) ≤ 0 ∧ (0 : Int) ≤ 900000000 := by
    rw [if_pos (by rw [hd3]; decide)]; decide
  have c4 : ¬ (4 : Int32) < y8 := by rw [h8]; decide
  rw [if_neg c4] at hd4
  have t4 : (if d4 < (0 : Int32) then (0 : Int64) else ((d4.toInt64) * (own_p10 ((y8 - (1 : Int32)) - (4 : Int32)).toNatClampNeg))).toInt = 0 ∧ (0 : Int) ≤ 0 ∧ (0 : Int) ≤ 900000000 := by
    rw [if_pos (by rw [hd4]; decide)]; decide
  have c5 : ¬ (5 : Int32) < y8 := by rw [h8]; decide
  rw [if_neg c5] at hd5
  have t5 : (if d5 < (0 : Int32) then (0 : Int64) else ((d5.toInt64) * (own_p10 ((y8 - (1 : Int32)) - (5 : Int32)).toNatClampNeg))).toInt = 0 ∧ (0 : Int) ≤ 0 ∧ (0 : Int) ≤ 900000000 := by
    rw [if_pos (by rw [hd5]; decide)]; decide
  have c6 : ¬ (6 : Int32) < y8 := by rw [h8]; decide
  rw [if_neg c6] at hd6
  have t6 : (if d6 < (0 : Int32) then (0 : Int64) else ((d6.toInt64) * (own_p10 ((y8 - (1 : Int32)) - (6 : Int32)).toNatClampNeg))).toInt = 0 ∧ (0 : Int) ≤ 0 ∧ (0 : Int) ≤ 900000000 := by
    rw [if_pos (by rw [hd6]; decide)]; decide
  have c7 : ¬ (7 : Int32) < y8 := by rw [h8]; decide
  rw [if_neg c7] at hd7
  have t7 : (if d7 < (0 : Int32) then (0 : Int64) else ((d7.toInt64) * (own_p10 ((y8 - (1 : Int32)) - (7 : Int32)).toNatClampNeg))).toInt = 0 ∧ (0 : Int) ≤ 0 ∧ (0 : Int) ≤ 900000000 := by
    rw [if_pos (by rw [hd7]; decide)]; decide
  have c8 : ¬ (8 : Int32) < y8 := by rw [h8]; decide
  rw [if_neg c8] at hd8
  have t8 : (if d8 < (0 : Int32) then (0 : Int64) else ((d8.toInt64) * (own_p10 ((y8 - (1 : Int32)) - (8 : Int32)).toNatClampNeg))).toInt = 0 ∧ (0 : Int) ≤ 0 ∧ (0 : Int) ≤ 900000000 := by
    rw [if_pos (by rw [hd8]; decide)]; decide
  rw [own_sum9 _ _ _ _ _ _ _ _ _ (by rw [t0.1]; exact t0.2) (by rw [t1.1]; exact t1.2) (by rw [t2.1]; exact t2.2) (by rw [t3.1]; exact t3.2) (by rw [t4.1]; exact t4.2) (by rw [t5.1]; exact t5.2) (by rw [t6.1]; exact t6.2) (by rw [t7.1]; exact t7.2) (by rw [t8.1]; exact t8.2)]
  rw [t0.1, t1.1, t2.1, t3.1, t4.1, t5.1, t6.1, t7.1, t8.1]
  simp only [own_V, own_W, Nat.add_assoc, Nat.reduceAdd]
  clear hd0 hd1 hd2 hd3 hd4 hd5 hd6 hd7 hd8 hg h8 h21 c0 c1 c2 c3 c4 c5 c6 c7 c8 t0 t1 t2 t3 t4 t5 t6 t7 t8
  omega
theorem own_g3 (f : Nat → Int32) (a : Nat) (han : a + 3 ≤ 12) (y8 y21 : Int32) (h8 : y8 = Int32.ofNat 3) (h21 : y21 = Int32.ofNat a) (d0 d1 d2 d3 d4 d5 d6 d7 d8 : Int32) (hd0 : d0 = (if (0 : Int32) < y8 then (if (f (y21 + (0 : Int32)).toNatClampNeg) < (48 : Int32) then (-1 : Int32) else (if (57 : Int32) < (f (y21 + (0 : Int32)).toNatClampNeg) then (-1 : Int32) else ((f (y21 + (0 : Int32)).toNatClampNeg) - (48 : Int32)))) else (-2 : Int32))) (hd1 : d1 = (if (1 : Int32) < y8 then (if (f (y21 + (1 : Int32)).toNatClampNeg) < (48 : Int32) then (-1 : Int32) else (if (57 : Int32) < (f (y21 + (1 : Int32)).toNatClampNeg) then (-1 : Int32) else ((f (y21 + (1 : Int32)).toNatClampNeg) - (48 : Int32)))) else (-2 : Int32))) (hd2 : d2 = (if (2 : Int32) < y8 then (if (f (y21 + (2 : Int32)).toNatClampNeg) < (48 : Int32) then (-1 : Int32) else (if (57 : Int32) < (f (y21 + (2 : Int32)).toNatClampNeg) then (-1 : Int32) else ((f (y21 + (2 : Int32)).toNatClampNeg) - (48 : Int32)))) else (-2 : Int32))) (hd3 : d3 = (if (3 : Int32) < y8 then (if (f (y21 + (3 : Int32)).toNatClampNeg) < (48 : Int32) then (-1 : Int32) else (if (57 : Int32) < (f (y21 + (3 : Int32)).toNatClampNeg) then (-1 : Int32) else ((f (y21 + (3 : Int32)).toNatClampNeg) - (48 : Int32)))) else (-2 : Int32))) (hd4 : d4 = (if (4 : Int32) < y8 then (if (f (y21 + (4 : Int32)).toNatClampNeg) < (48 : Int32) then (-1 : Int32) else (if (57 : Int32) < (f (y21 + (4 : Int32)).toNatClampNeg) then (-1 : Int32) else ((f (y21 + (4 : Int32)).toNatClampNeg) - (48 : Int32)))) else (-2 : Int32))) (hd5 : d5 = (if (5 : Int32) < y8 then (if (f (y21 + (5 : Int32)).toNatClampNeg) < (48 : Int32) then (-1 : Int32) else (if (57 : Int32) < (f (y21 + (5 : Int32)).toNatClampNeg) then (-1 : Int32) else ((f (y21 + (5 : Int32)).toNatClampNeg) - (48 : Int32)))) else (-2 : Int32))) (hd6 : d6 = (if (6 : Int32) < y8 then (if (f (y21 + (6 : Int32)).toNatClampNeg) < (48 : Int32) then (-1 : Int32) else (if (57 : Int32) < (f (y21 + (6 : Int32)).toNatClampNeg) then (-1 : Int32) else ((f (y21 + (6 : Int32)).toNatClampNeg) - (48 : Int32)))) else (-2 : Int32))) (hd7 : d7 = (if (7 : Int32) < y8 then (if (f (y21 + (7 : Int32)).toNatClampNeg) < (48 : Int32) then (-1 : Int32) else (if (57 : Int32) < (f (y21 + (7 : Int32)).toNatClampNeg) then (-1 : Int32) else ((f (y21 + (7 : Int32)).toNatClampNeg) - (48 : Int32)))) else (-2 : Int32))) (hd8 : d8 = (if (8 : Int32) < y8 then (if (f (y21 + (8 : Int32)).toNatClampNeg) < (48 : Int32) then (-1 : Int32) else (if (57 : Int32) < (f (y21 + (8 : Int32)).toNatClampNeg) then (-1 : Int32) else ((f (y21 + (8 : Int32)).toNatClampNeg) - (48 : Int32)))) else (-2 : Int32))) (hg : ∀ j, j < 3 → own_ok (f (a + j))) : (((((((((if d0 < (0 : Int32) then (0 : Int64) else ((d0.toInt64) * (own_p10 ((y8 - (1 : Int32)) - (0 : Int32)).toNatClampNeg))) + (if d1 < (0 : Int32) then (0 : Int64) else ((d1.toInt64) * (own_p10 ((y8 - (1 : Int32)) - (1 : Int32)).toNatClampNeg)))) + (if d2 < (0 : Int32) then (0 : Int64) else ((d2.toInt64) * (own_p10 ((y8 - (1 : Int32)) - (2 : Int32)).toNatClampNeg)))) + (if d3 < (0 : Int32) then (0 : Int64) else ((d3.toInt64) * (own_p10 ((y8 - (1 : Int32)) - (3 : Int32)).toNatClampNeg)))) + (if d4 < (0 : Int32) then (0 : Int64) else ((d4.toInt64) * (own_p10 ((y8 - (1 : Int32)) - (4 : Int32)).toNatClampNeg)))) + (if d5 < (0 : Int32) then (0 : Int64) else ((d5.toInt64) * (own_p10 ((y8 - (1 : Int32)) - (5 : Int32)).toNatClampNeg)))) + (if d6 < (0 : Int32) then (0 : Int64) else ((d6.toInt64) * (own_p10 ((y8 - (1 : Int32)) - (6 : Int32)).toNatClampNeg)))) + (if d7 < (0 : Int32) then (0 : Int64) else ((d7.toInt64) * (own_p10 ((y8 - (1 : Int32)) - (7 : Int32)).toNatClampNeg)))) + (if d8 < (0 : Int32) then (0 : Int64) else ((d8.toInt64) * (own_p10 ((y8 - (1 : Int32)) - (8 : Int32)).toNatClampNeg)))).toInt = own_V f a 3 := by
  have c0 : (0 : Int32) < y8 := by rw [h8]; decide
  rw [if_pos c0, show (y21 + (0 : Int32)).toNatClampNeg = a from own_ix a 0 (by omega) y21 h21] at hd0
  have v0 := own_dval (f (a)) (hg 0 (by omega))
  rw [← hd0] at v0
  have t0 := own_T d0 (own_p10 ((y8 - (1 : Int32)) - (0 : Int32)).toNatClampNeg) 100 v0.2.1 v0.2.2 (by rw [h8]; decide) (by decide) (by decide)
  have c1 : (1 : Int32) < y8 := by rw [h8]; decide
  rw [if_pos c1, show (y21 + (1 : Int32)).toNatClampNeg = a + 1 from own_ix a 1 (by omega) y21 h21] at hd1
  have v1 := own_dval (f (a + 1)) (hg 1 (by omega))
  rw [← hd1] at v1
  have t1 := own_T d1 (own_p10 ((y8 - (1 : Int32)) - (1 : Int32)).toNatClampNeg) 10 v1.2.1 v1.2.2 (by rw [h8]; decide) (by decide) (by decide)
  have c2 : (2 : Int32) < y8 := by rw [h8]; decide
  rw [if_pos c2, show (y21 + (2 : Int32)).toNatClampNeg = a + 2 from own_ix a 2 (by omega) y21 h21] at hd2
  have v2 := own_dval (f (a + 2)) (hg 2 (by omega))
  rw [← hd2] at v2
  have t2 := own_T d2 (own_p10 ((y8 - (1 : Int32)) - (2 : Int32)).toNatClampNeg) 1 v2.2.1 v2.2.2 (by rw [h8]; decide) (by decide) (by decide)
  have c3 : ¬ (3 : Int32) < y8 := by rw [h8]; decide
  rw [if_neg c3] at hd3
  have t3 : (if d3 < (0 : Int32) then (0 : Int64) else ((d3.toInt64) * (own_p10 ((y8 - (1 : Int32)) - (3 : Int32)).toNatClampNeg))).toInt = 0 ∧ (0 : Int) ≤ 0 ∧ (0 : Int) ≤ 900000000 := by
    rw [if_pos (by rw [hd3]; decide)]; decide
  have c4 : ¬ (4 : Int32) < y8 := by rw [h8]; decide
  rw [if_neg c4] at hd4
  have t4 : (if d4 < (0 : Int32) then (0 : Int64) else ((d4.toInt64) * (own_p10 ((y8 - (1 : Int32)) - (4 : Int32)).toNatClampNeg))).toInt = 0 ∧ (0 : Int) ≤ 0 ∧ (0 : Int) ≤ 900000000 := by
    rw [if_pos (by rw [hd4]; decide)]; decide
  have c5 : ¬ (5 : Int32) < y8 := by rw [h8]; decide
  rw [if_neg c5] at hd5
  have t5 : (if d5 < (0 : Int32) then (0 : Int64) else ((d5.toInt64) * (own_p10 ((y8 - (1 : Int32)) - (5 : Int32)).toNatClampNeg))).toInt = 0 ∧ (0 : Int) ≤ 0 ∧ (0 : Int) ≤ 900000000 := by
    rw [if_pos (by rw [hd5]; decide)]; decide
  have c6 : ¬ (6 : Int32) < y8 := by rw [h8]; decide
  rw [if_neg c6] at hd6
  have t6 : (if d6 < (0 : Int32) then (0 : Int64) else ((d6.toInt64) * (own_p10 ((y8 - (1 : Int32)) - (6 : Int32)).toNatClampNeg))).toInt = 0 ∧ (0 : Int) ≤ 0 ∧ (0 : Int) ≤ 900000000 := by
    rw [if_pos (by rw [hd6]; decide)]; decide
  have c7 : ¬ (7 : Int32) < y8 := by rw [h8]; decide
  rw [if_neg c7] at hd7
  have t7 : (if d7 < (0 : Int32) then (0 : Int64) else ((d7.toInt64) * (own_p10 ((y8 - (1 : Int32)) - (7 : Int32)).toNatClampNeg))).toInt = 0 ∧ (0 : Int) ≤ 0 ∧ (0 : Int) ≤ 900000000 := by
    rw [if_pos (by rw [hd7]; decide)]; decide
  have c8 : ¬ (8 : Int32) < y8 := by rw [h8]; decide
  rw [if_neg c8] at hd8
  have t8 : (if d8 < (0 : Int32) then (0 : Int64) else ((d8.toInt64) * (own_p10 ((y8 - (1 : Int32)) - (8 : Int32)).toNatClampNeg))).toInt = 0 ∧ (0 : Int) ≤ 0 ∧ (0 : Int) ≤ 900000000 := by
    rw [if_pos (by rw [hd8]; decide)]; decide
  rw [own_sum9 _ _ _ _ _ _ _ _ _ (by rw [t0.1]; exact t0.2) (by rw [t1.1]; exact t1.2) (by rw [t2.1]; exact t2.2) (by rw [t3.1]; exact t3.2) (by rw [t4.1]; exact t4.2) (by rw [t5.1]; exact t5.2) (by rw [t6.1]; exact t6.2) (by rw [t7.1]; exact t7.2) (by rw [t8.1]; exact t8.2)]
  rw [t0.1, t1.1, t2.1, t3.1, t4.1, t5.1, t6.1, t7.1, t8.1]
  simp only [own_V, own_W, Nat.add_assoc, Nat.reduceAdd]
  clear hd0 hd1 hd2 hd3 hd4 hd5 hd6 hd7 hd8 hg h8 h21 c0 c1 c2 c3 c4 c5 c6 c7 c8 t0 t1 t2 t3 t4 t5 t6 t7 t8
  omega
theorem own_g4 (f : Nat → Int32) (a : Nat) (han : a + 4 ≤ 12) (y8 y21 : Int32) (h8 : y8 = Int32.ofNat 4) (h21 : y21 = Int32.ofNat a) (d0 d1 d2 d3 d4 d5 d6 d7 d8 : Int32) (hd0 : d0 = (if (0 : Int32) < y8 then (if (f (y21 + (0 : Int32)).toNatClampNeg) < (48 : Int32) then (-1 : Int32) else (if (57 : Int32) < (f (y21 + (0 : Int32)).toNatClampNeg) then (-1 : Int32) else ((f (y21 + (0 : Int32)).toNatClampNeg) - (48 : Int32)))) else (-2 : Int32))) (hd1 : d1 = (if (1 : Int32) < y8 then (if (f (y21 + (1 : Int32)).toNatClampNeg) < (48 : Int32) then (-1 : Int32) else (if (57 : Int32) < (f (y21 + (1 : Int32)).toNatClampNeg) then (-1 : Int32) else ((f (y21 + (1 : Int32)).toNatClampNeg) - (48 : Int32)))) else (-2 : Int32))) (hd2 : d2 = (if (2 : Int32) < y8 then (if (f (y21 + (2 : Int32)).toNatClampNeg) < (48 : Int32) then (-1 : Int32) else (if (57 : Int32) < (f (y21 + (2 : Int32)).toNatClampNeg) then (-1 : Int32) else ((f (y21 + (2 : Int32)).toNatClampNeg) - (48 : Int32)))) else (-2 : Int32))) (hd3 : d3 = (if (3 : Int32) < y8 then (if (f (y21 + (3 : Int32)).toNatClampNeg) < (48 : Int32) then (-1 : Int32) else (if (57 : Int32) < (f (y21 + (3 : Int32)).toNatClampNeg) then (-1 : Int32) else ((f (y21 + (3 : Int32)).toNatClampNeg) - (48 : Int32)))) else (-2 : Int32))) (hd4 : d4 = (if (4 : Int32) < y8 then (if (f (y21 + (4 : Int32)).toNatClampNeg) < (48 : Int32) then (-1 : Int32) else (if (57 : Int32) < (f (y21 + (4 : Int32)).toNatClampNeg) then (-1 : Int32) else ((f (y21 + (4 : Int32)).toNatClampNeg) - (48 : Int32)))) else (-2 : Int32))) (hd5 : d5 = (if (5 : Int32) < y8 then (if (f (y21 + (5 : Int32)).toNatClampNeg) < (48 : Int32) then (-1 : Int32) else (if (57 : Int32) < (f (y21 + (5 : Int32)).toNatClampNeg) then (-1 : Int32) else ((f (y21 + (5 : Int32)).toNatClampNeg) - (48 : Int32)))) else (-2 : Int32))) (hd6 : d6 = (if (6 : Int32) < y8 then (if (f (y21 + (6 : Int32)).toNatClampNeg) < (48 : Int32) then (-1 : Int32) else (if (57 : Int32) < (f (y21 + (6 : Int32)).toNatClampNeg) then (-1 : Int32) else ((f (y21 + (6 : Int32)).toNatClampNeg) - (48 : Int32)))) else (-2 : Int32))) (hd7 : d7 = (if (7 : Int32) < y8 then (if (f (y21 + (7 : Int32)).toNatClampNeg) < (48 : Int32) then (-1 : Int32) else (if (57 : Int32) < (f (y21 + (7 : Int32)).toNatClampNeg) then (-1 : Int32) else ((f (y21 + (7 : Int32)).toNatClampNeg) - (48 : Int32)))) else (-2 : Int32))) (hd8 : d8 = (if (8 : Int32) < y8 then (if (f (y21 + (8 : Int32)).toNatClampNeg) < (48 : Int32) then (-1 : Int32) else (if (57 : Int32) < (f (y21 + (8 : Int32)).toNatClampNeg) then (-1 : Int32) else ((f (y21 + (8 : Int32)).toNatClampNeg) - (48 : Int32)))) else (-2 : Int32))) (hg : ∀ j, j < 4 → own_ok (f (a + j))) : (((((((((if d0 < (0 : Int32) then (0 : Int64) else ((d0.toInt64) * (own_p10 ((y8 - (1 : Int32)) - (0 : Int32)).toNatClampNeg))) + (if d1 < (0 : Int32) then (0 : Int64) else ((d1.toInt64) * (own_p10 ((y8 - (1 : Int32)) - (1 : Int32)).toNatClampNeg)))) + (if d2 < (0 : Int32) then (0 : Int64) else ((d2.toInt64) * (own_p10 ((y8 - (1 : Int32)) - (2 : Int32)).toNatClampNeg)))) + (if d3 < (0 : Int32) then (0 : Int64) else ((d3.toInt64) * (own_p10 ((y8 - (1 : Int32)) - (3 : Int32)).toNatClampNeg)))) + (if d4 < (0 : Int32) then (0 : Int64) else ((d4.toInt64) * (own_p10 ((y8 - (1 : Int32)) - (4 : Int32)).toNatClampNeg)))) + (if d5 < (0 : Int32) then (0 : Int64) else ((d5.toInt64) * (own_p10 ((y8 - (1 : Int32)) - (5 : Int32)).toNatClampNeg)))) + (if d6 < (0 : Int32) then (0 : Int64) else ((d6.toInt64) * (own_p10 ((y8 - (1 : Int32)) - (6 : Int32)).toNatClampNeg)))) + (if d7 < (0 : Int32) then (0 : Int64) else ((d7.toInt64) * (own_p10 ((y8 - (1 : Int32)) - (7 : Int32)).toNatClampNeg)))) + (if d8 < (0 : Int32) then (0 : Int64) else ((d8.toInt64) * (own_p10 ((y8 - (1 : Int32)) - (8 : Int32)).toNatClampNeg)))).toInt = own_V f a 4 := by
  have c0 : (0 : Int32) < y8 := by rw [h8]; decide
  rw [if_pos c0, show (y21 + (0 : Int32)).toNatClampNeg = a from own_ix a 0 (by omega) y21 h21] at hd0
  have v0 := own_dval (f (a)) (hg 0 (by omega))
  rw [← hd0] at v0
  have t0 := own_T d0 (own_p10 ((y8 - (1 : Int32)) - (0 : Int32)).toNatClampNeg) 1000 v0.2.1 v0.2.2 (by rw [h8]; decide) (by decide) (by decide)
  have c1 : (1 : Int32) < y8 := by rw [h8]; decide
  rw [if_pos c1, show (y21 + (1 : Int32)).toNatClampNeg = a + 1 from own_ix a 1 (by omega) y21 h21] at hd1
  have v1 := own_dval (f (a + 1)) (hg 1 (by omega))
  rw [← hd1] at v1
  have t1 := own_T d1 (own_p10 ((y8 - (1 : Int32)) - (1 : Int32)).toNatClampNeg) 100 v1.2.1 v1.2.2 (by rw [h8]; decide) (by decide) (by decide)
  have c2 : (2 : Int32) < y8 := by rw [h8]; decide
  rw [if_pos c2, show (y21 + (2 : Int32)).toNatClampNeg = a + 2 from own_ix a 2 (by omega) y21 h21] at hd2
  have v2 := own_dval (f (a + 2)) (hg 2 (by omega))
  rw [← hd2] at v2
  have t2 := own_T d2 (own_p10 ((y8 - (1 : Int32)) - (2 : Int32)).toNatClampNeg) 10 v2.2.1 v2.2.2 (by rw [h8]; decide) (by decide) (by decide)
  have c3 : (3 : Int32) < y8 := by rw [h8]; decide
  rw [if_pos c3, show (y21 + (3 : Int32)).toNatClampNeg = a + 3 from own_ix a 3 (by omega) y21 h21] at hd3
  have v3 := own_dval (f (a + 3)) (hg 3 (by omega))
  rw [← hd3] at v3
  have t3 := own_T d3 (own_p10 ((y8 - (1 : Int32)) - (3 : Int32)).toNatClampNeg) 1 v3.2.1 v3.2.2 (by rw [h8]; decide) (by decide) (by decide)
  have c4 : ¬ (4 : Int32) < y8 := by rw [h8]; decide
  rw [if_neg c4] at hd4
  have t4 : (if d4 < (0 : Int32) then (0 : Int64) else ((d4.toInt64) * (own_p10 ((y8 - (1 : Int32)) - (4 : Int32)).toNatClampNeg))).toInt = 0 ∧ (0 : Int) ≤ 0 ∧ (0 : Int) ≤ 900000000 := by
    rw [if_pos (by rw [hd4]; decide)]; decide
  have c5 : ¬ (5 : Int32) < y8 := by rw [h8]; decide
  rw [if_neg c5] at hd5
  have t5 : (if d5 < (0 : Int32) then (0 : Int64) else ((d5.toInt64) * (own_p10 ((y8 - (1 : Int32)) - (5 : Int32)).toNatClampNeg))).toInt = 0 ∧ (0 : Int) ≤ 0 ∧ (0 : Int) ≤ 900000000 := by
    rw [if_pos (by rw [hd5]; decide)]; decide
  have c6 : ¬ (6 : Int32) < y8 := by rw [h8]; decide
  rw [if_neg c6] at hd6
  have t6 : (if d6 < (0 : Int32) then (0 : Int64) else ((d6.toInt64) * (own_p10 ((y8 - (1 : Int32)) - (6 : Int32)).toNatClampNeg))).toInt = 0 ∧ (0 : Int) ≤ 0 ∧ (0 : Int) ≤ 900000000 := by
    rw [if_pos (by rw [hd6]; decide)]; decide
  have c7 : ¬ (7 : Int32) < y8 := by rw [h8]; decide
  rw [if_neg c7] at hd7
  have t7 : (if d7 < (0 : Int32) then (0 : Int64) else ((d7.toInt64) * (own_p10 ((y8 - (1 : Int32)) - (7 : Int32)).toNatClampNeg))).toInt = 0 ∧ (0 : Int) ≤ 0 ∧ (0 : Int) ≤ 900000000 := by
    rw [if_pos (by rw [hd7]; decide)]; decide
  have c8 : ¬ (8 : Int32) < y8 := by rw [h8]; decide
  rw [if_neg c8] at hd8
  have t8 : (if d8 < (0 : Int32) then (0 : Int64) else ((d8.toInt64) * (own_p10 ((y8 - (1 : Int32)) - (8 : Int32)).toNatClampNeg))).toInt = 0 ∧ (0 : Int) ≤ 0 ∧ (0 : Int) ≤ 900000000 := by
    rw [if_pos (by rw [hd8]; decide)]; decide
  rw [own_sum9 _ _ _ _ _ _ _ _ _ (by rw [t0.1]; exact t0.2) (by rw [t1.1]; exact t1.2) (by rw [t2.1]; exact t2.2) (by rw [t3.1]; exact t3.2) (by rw [t4.1]; exact t4.2) (by rw [t5.1]; exact t5.2) (by rw [t6.1]; exact t6.2) (by rw [t7.1]; exact t7.2) (by rw [t8.1]; exact t8.2)]
  rw [t0.1, t1.1, t2.1, t3.1, t4.1, t5.1, t6.1, t7.1, t8.1]
  simp only [own_V, own_W, Nat.add_assoc, Nat.reduceAdd]
  clear hd0 hd1 hd2 hd3 hd4 hd5 hd6 hd7 hd8 hg h8 h21 c0 c1 c2 c3 c4 c5 c6 c7 c8 t0 t1 t2 t3 t4 t5 t6 t7 t8
  omega
theorem own_g5 (f : Nat → Int32) (a : Nat) (han : a + 5 ≤ 12) (y8 y21 : Int32) (h8 : y8 = Int32.ofNat 5) (h21 : y21 = Int32.ofNat a) (d0 d1 d2 d3 d4 d5 d6 d7 d8 : Int32) (hd0 : d0 = (if (0 : Int32) < y8 then (if (f (y21 + (0 : Int32)).toNatClampNeg) < (48 : Int32) then (-1 : Int32) else (if (57 : Int32) < (f (y21 + (0 : Int32)).toNatClampNeg) then (-1 : Int32) else ((f (y21 + (0 : Int32)).toNatClampNeg) - (48 : Int32)))) else (-2 : Int32))) (hd1 : d1 = (if (1 : Int32) < y8 then (if (f (y21 + (1 : Int32)).toNatClampNeg) < (48 : Int32) then (-1 : Int32) else (if (57 : Int32) < (f (y21 + (1 : Int32)).toNatClampNeg) then (-1 : Int32) else ((f (y21 + (1 : Int32)).toNatClampNeg) - (48 : Int32)))) else (-2 : Int32))) (hd2 : d2 = (if (2 : Int32) < y8 then (if (f (y21 + (2 : Int32)).toNatClampNeg) < (48 : Int32) then (-1 : Int32) else (if (57 : Int32) < (f (y21 + (2 : Int32)).toNatClampNeg) then (-1 : Int32) else ((f (y21 + (2 : Int32)).toNatClampNeg) - (48 : Int32)))) else (-2 : Int32))) (hd3 : d3 = (if (3 : Int32) < y8 then (if (f (y21 + (3 : Int32)).toNatClampNeg) < (48 : Int32) then (-1 : Int32) else (if (57 : Int32) < (f (y21 + (3 : Int32)).toNatClampNeg) then (-1 : Int32) else ((f (y21 + (3 : Int32)).toNatClampNeg) - (48 : Int32)))) else (-2 : Int32))) (hd4 : d4 = (if (4 : Int32) < y8 then (if (f (y21 + (4 : Int32)).toNatClampNeg) < (48 : Int32) then (-1 : Int32) else (if (57 : Int32) < (f (y21 + (4 : Int32)).toNatClampNeg) then (-1 : Int32) else ((f (y21 + (4 : Int32)).toNatClampNeg) - (48 : Int32)))) else (-2 : Int32))) (hd5 : d5 = (if (5 : Int32) < y8 then (if (f (y21 + (5 : Int32)).toNatClampNeg) < (48 : Int32) then (-1 : Int32) else (if (57 : Int32) < (f (y21 + (5 : Int32)).toNatClampNeg) then (-1 : Int32) else ((f (y21 + (5 : Int32)).toNatClampNeg) - (48 : Int32)))) else (-2 : Int32))) (hd6 : d6 = (if (6 : Int32) < y8 then (if (f (y21 + (6 : Int32)).toNatClampNeg) < (48 : Int32) then (-1 : Int32) else (if (57 : Int32) < (f (y21 + (6 : Int32)).toNatClampNeg) then (-1 : Int32) else ((f (y21 + (6 : Int32)).toNatClampNeg) - (48 : Int32)))) else (-2 : Int32))) (hd7 : d7 = (if (7 : Int32) < y8 then (if (f (y21 + (7 : Int32)).toNatClampNeg) < (48 : Int32) then (-1 : Int32) else (if (57 : Int32) < (f (y21 + (7 : Int32)).toNatClampNeg) then (-1 : Int32) else ((f (y21 + (7 : Int32)).toNatClampNeg) - (48 : Int32)))) else (-2 : Int32))) (hd8 : d8 = (if (8 : Int32) < y8 then (if (f (y21 + (8 : Int32)).toNatClampNeg) < (48 : Int32) then (-1 : Int32) else (if (57 : Int32) < (f (y21 + (8 : Int32)).toNatClampNeg) then (-1 : Int32) else ((f (y21 + (8 : Int32)).toNatClampNeg) - (48 : Int32)))) else (-2 : Int32))) (hg : ∀ j, j < 5 → own_ok (f (a + j))) : (((((((((if d0 < (0 : Int32) then (0 : Int64) else ((d0.toInt64) * (own_p10 ((y8 - (1 : Int32)) - (0 : Int32)).toNatClampNeg))) + (if d1 < (0 : Int32) then (0 : Int64) else ((d1.toInt64) * (own_p10 ((y8 - (1 : Int32)) - (1 : Int32)).toNatClampNeg)))) + (if d2 < (0 : Int32) then (0 : Int64) else ((d2.toInt64) * (own_p10 ((y8 - (1 : Int32)) - (2 : Int32)).toNatClampNeg)))) + (if d3 < (0 : Int32) then (0 : Int64) else ((d3.toInt64) * (own_p10 ((y8 - (1 : Int32)) - (3 : Int32)).toNatClampNeg)))) + (if d4 < (0 : Int32) then (0 : Int64) else ((d4.toInt64) * (own_p10 ((y8 - (1 : Int32)) - (4 : Int32)).toNatClampNeg)))) + (if d5 < (0 : Int32) then (0 : Int64) else ((d5.toInt64) * (own_p10 ((y8 - (1 : Int32)) - (5 : Int32)).toNatClampNeg)))) + (if d6 < (0 : Int32) then (0 : Int64) else ((d6.toInt64) * (own_p10 ((y8 - (1 : Int32)) - (6 : Int32)).toNatClampNeg)))) + (if d7 < (0 : Int32) then (0 : Int64) else ((d7.toInt64) * (own_p10 ((y8 - (1 : Int32)) - (7 : Int32)).toNatClampNeg)))) + (if d8 < (0 : Int32) then (0 : Int64) else ((d8.toInt64) * (own_p10 ((y8 - (1 : Int32)) - (8 : Int32)).toNatClampNeg)))).toInt = own_V f a 5 := by
  have c0 : (0 : Int32) < y8 := by rw [h8]; decide
  rw [if_pos c0, show (y21 + (0 : Int32)).toNatClampNeg = a from own_ix a 0 (by omega) y21 h21] at hd0
  have v0 := own_dval (f (a)) (hg 0 (by omega))
  rw [← hd0] at v0
  have t0 := own_T d0 (own_p10 ((y8 - (1 : Int32)) - (0 : Int32)).toNatClampNeg) 10000 v0.2.1 v0.2.2 (by rw [h8]; decide) (by decide) (by decide)
  have c1 : (1 : Int32) < y8 := by rw [h8]; decide
  rw [if_pos c1, show (y21 + (1 : Int32)).toNatClampNeg = a + 1 from own_ix a 1 (by omega) y21 h21] at hd1
  have v1 := own_dval (f (a + 1)) (hg 1 (by omega))
  rw [← hd1] at v1
  have t1 := own_T d1 (own_p10 ((y8 - (1 : Int32)) - (1 : Int32)).toNatClampNeg) 1000 v1.2.1 v1.2.2 (by rw [h8]; decide) (by decide) (by decide)
  have c2 : (2 : Int32) < y8 := by rw [h8]; decide
  rw [if_pos c2, show (y21 + (2 : Int32)).toNatClampNeg = a + 2 from own_ix a 2 (by omega) y21 h21] at hd2
  have v2 := own_dval (f (a + 2)) (hg 2 (by omega))
  rw [← hd2] at v2
  have t2 := own_T d2 (own_p10 ((y8 - (1 : Int32)) - (2 : Int32)).toNatClampNeg) 100 v2.2.1 v2.2.2 (by rw [h8]; decide) (by decide) (by decide)
  have c3 : (3 : Int32) < y8 := by rw [h8]; decide
  rw [if_pos c3, show (y21 + (3 : Int32)).toNatClampNeg = a + 3 from own_ix a 3 (by omega) y21 h21] at hd3
  have v3 := own_dval (f (a + 3)) (hg 3 (by omega))
  rw [← hd3] at v3
  have t3 := own_T d3 (own_p10 ((y8 - (1 : Int32)) - (3 : Int32)).toNatClampNeg) 10 v3.2.1 v3.2.2 (by rw [h8]; decide) (by decide) (by decide)
  have c4 : (4 : Int32) < y8 := by rw [h8]; decide
  rw [if_pos c4, show (y21 + (4 : Int32)).toNatClampNeg = a + 4 from own_ix a 4 (by omega) y21 h21] at hd4
  have v4 := own_dval (f (a + 4)) (hg 4 (by omega))
  rw [← hd4] at v4
  have t4 := own_T d4 (own_p10 ((y8 - (1 : Int32)) - (4 : Int32)).toNatClampNeg) 1 v4.2.1 v4.2.2 (by rw [h8]; decide) (by decide) (by decide)
  have c5 : ¬ (5 : Int32) < y8 := by rw [h8]; decide
  rw [if_neg c5] at hd5
  have t5 : (if d5 < (0 : Int32) then (0 : Int64) else ((d5.toInt64) * (own_p10 ((y8 - (1 : Int32)) - (5 : Int32)).toNatClampNeg))).toInt = 0 ∧ (0 : Int) ≤ 0 ∧ (0 : Int) ≤ 900000000 := by
    rw [if_pos (by rw [hd5]; decide)]; decide
  have c6 : ¬ (6 : Int32) < y8 := by rw [h8]; decide
  rw [if_neg c6] at hd6
  have t6 : (if d6 < (0 : Int32) then (0 : Int64) else ((d6.toInt64) * (own_p10 ((y8 - (1 : Int32)) - (6 : Int32)).toNatClampNeg))).toInt = 0 ∧ (0 : Int) ≤ 0 ∧ (0 : Int) ≤ 900000000 := by
    rw [if_pos (by rw [hd6]; decide)]; decide
  have c7 : ¬ (7 : Int32) < y8 := by rw [h8]; decide
  rw [if_neg c7] at hd7
  have t7 : (if d7 < (0 : Int32) then (0 : Int64) else ((d7.toInt64) * (own_p10 ((y8 - (1 : Int32)) - (7 : Int32)).toNatClampNeg))).toInt = 0 ∧ (0 : Int) ≤ 0 ∧ (0 : Int) ≤ 900000000 := by
    rw [if_pos (by rw [hd7]; decide)]; decide
  have c8 : ¬ (8 : Int32) < y8 := by rw [h8]; decide
  rw [if_neg c8] at hd8
  have t8 : (if d8 < (0 : Int32) then (0 : Int64) else ((d8.toInt64) * (own_p10 ((y8 - (1 : Int32)) - (8 : Int32)).toNatClampNeg))).toInt = 0 ∧ (0 : Int) ≤ 0 ∧ (0 : Int) ≤ 900000000 := by
    rw [if_pos (by rw [hd8]; decide)]; decide
  rw [own_sum9 _ _ _ _ _ _ _ _ _ (by rw [t0.1]; exact t0.2) (by rw [t1.1]; exact t1.2) (by rw [t2.1]; exact t2.2) (by rw [t3.1]; exact t3.2) (by rw [t4.1]; exact t4.2) (by rw [t5.1]; exact t5.2) (by rw [t6.1]; exact t6.2) (by rw [t7.1]; exact t7.2) (by rw [t8.1]; exact t8.2)]
  rw [t0.1, t1.1, t2.1, t3.1, t4.1, t5.1, t6.1, t7.1, t8.1]
  simp only [own_V, own_W, Nat.add_assoc, Nat.reduceAdd]
  clear hd0 hd1 hd2 hd3 hd4 hd5 hd6 hd7 hd8 hg h8 h21 c0 c1 c2 c3 c4 c5 c6 c7 c8 t0 t1 t2 t3 t4 t5 t6 t7 t8
  omega
theorem own_g6 (f : Nat → Int32) (a : Nat) (han : a + 6 ≤ 12) (y8 y21 : Int32) (h8 : y8 = Int32.ofNat 6) (h21 : y21 = Int32.ofNat a) (d0 d1 d2 d3 d4 d5 d6 d7 d8 : Int32) (hd0 : d0 = (if (0 : Int32) < y8 then (if (f (y21 + (0 : Int32)).toNatClampNeg) < (48 : Int32) then (-1 : Int32) else (if (57 : Int32) < (f (y21 + (0 : Int32)).toNatClampNeg) then (-1 : Int32) else ((f (y21 + (0 : Int32)).toNatClampNeg) - (48 : Int32)))) else (-2 : Int32))) (hd1 : d1 = (if (1 : Int32) < y8 then (if (f (y21 + (1 : Int32)).toNatClampNeg) < (48 : Int32) then (-1 : Int32) else (if (57 : Int32) < (f (y21 + (1 : Int32)).toNatClampNeg) then (-1 : Int32) else ((f (y21 + (1 : Int32)).toNatClampNeg) - (48 : Int32)))) else (-2 : Int32))) (hd2 : d2 = (if (2 : Int32) < y8 then (if (f (y21 + (2 : Int32)).toNatClampNeg) < (48 : Int32) then (-1 : Int32) else (if (57 : Int32) < (f (y21 + (2 : Int32)).toNatClampNeg) then (-1 : Int32) else ((f (y21 + (2 : Int32)).toNatClampNeg) - (48 : Int32)))) else (-2 : Int32))) (hd3 : d3 = (if (3 : Int32) < y8 then (if (f (y21 + (3 : Int32)).toNatClampNeg) < (48 : Int32) then (-1 : Int32) else (if (57 : Int32) < (f (y21 + (3 : Int32)).toNatClampNeg) then (-1 : Int32) else ((f (y21 + (3 : Int32)).toNatClampNeg) - (48 : Int32)))) else (-2 : Int32))) (hd4 : d4 = (if (4 : Int32) < y8 then (if (f (y21 + (4 : Int32)).toNatClampNeg) < (48 : Int32) then (-1 : Int32) else (if (57 : Int32) < (f (y21 + (4 : Int32)).toNatClampNeg) then (-1 : Int32) else ((f (y21 + (4 : Int32)).toNatClampNeg) - (48 : Int32)))) else (-2 : Int32))) (hd5 : d5 = (if (5 : Int32) < y8 then (if (f (y21 + (5 : Int32)).toNatClampNeg) < (48 : Int32) then (-1 : Int32) else (if (57 : Int32) < (f (y21 + (5 : Int32)).toNatClampNeg) then (-1 : Int32) else ((f (y21 + (5 : Int32)).toNatClampNeg) - (48 : Int32)))) else (-2 : Int32))) (hd6 : d6 = (if (6 : Int32) < y8 then (if (f (y21 + (6 : Int32)).toNatClampNeg) < (48 : Int32) then (-1 : Int32) else (if (57 : Int32) < (f (y21 + (6 : Int32)).toNatClampNeg) then (-1 : Int32) else ((f (y21 + (6 : Int32)).toNatClampNeg) - (48 : Int32)))) else (-2 : Int32))) (hd7 : d7 = (if (7 : Int32) < y8 then (if (f (y21 + (7 : Int32)).toNatClampNeg) < (48 : Int32) then (-1 : Int32) else (if (57 : Int32) < (f (y21 + (7 : Int32)).toNatClampNeg) then (-1 : Int32) else ((f (y21 + (7 : Int32)).toNatClampNeg) - (48 : Int32)))) else (-2 : Int32))) (hd8 : d8 = (if (8 : Int32) < y8 then (if (f (y21 + (8 : Int32)).toNatClampNeg) < (48 : Int32) then (-1 : Int32) else (if (57 : Int32) < (f (y21 + (8 : Int32)).toNatClampNeg) then (-1 : Int32) else ((f (y21 + (8 : Int32)).toNatClampNeg) - (48 : Int32)))) else (-2 : Int32))) (hg : ∀ j, j < 6 → own_ok (f (a + j))) : (((((((((if d0 < (0 : Int32) then (0 : Int64) else ((d0.toInt64) * (own_p10 ((y8 - (1 : Int32)) - (0 : Int32)).toNatClampNeg))) + (if d1 < (0 : Int32) then (0 : Int64) else ((d1.toInt64) * (own_p10 ((y8 - (1 : Int32)) - (1 : Int32)).toNatClampNeg)))) + (if d2 < (0 : Int32) then (0 : Int64) else ((d2.toInt64) * (own_p10 ((y8 - (1 : Int32)) - (2 : Int32)).toNatClampNeg)))) + (if d3 < (0 : Int32) then (0 : Int64) else ((d3.toInt64) * (own_p10 ((y8 - (1 : Int32)) - (3 : Int32)).toNatClampNeg)))) + (if d4 < (0 : Int32) then (0 : Int64) else ((d4.toInt64) * (own_p10 ((y8 - (1 : Int32)) - (4 : Int32)).toNatClampNeg)))) + (if d5 < (0 : Int32) then (0 : Int64) else ((d5.toInt64) * (own_p10 ((y8 - (1 : Int32)) - (5 : Int32)).toNatClampNeg)))) + (if d6 < (0 : Int32) then (0 : Int64) else ((d6.toInt64) * (own_p10 ((y8 - (1 : Int32)) - (6 : Int32)).toNatClampNeg)))) + (if d7 < (0 : Int32) then (0 : Int64) else ((d7.toInt64) * (own_p10 ((y8 - (1 : Int32)) - (7 : Int32)).toNatClampNeg)))) + (if d8 < (0 : Int32) then (0 : Int64) else ((d8.toInt64) * (own_p10 ((y8 - (1 : Int32)) - (8 : Int32)).toNatClampNeg)))).toInt = own_V f a 6 := by
  have c0 : (0 : Int32) < y8 := by rw [h8]; decide
  rw [if_pos c0, show (y21 + (0 : Int32)).toNatClampNeg = a from own_ix a 0 (by omega) y21 h21] at hd0
  have v0 := own_dval (f (a)) (hg 0 (by omega))
  rw [← hd0] at v0
  have t0 := own_T d0 (own_p10 ((y8 - (1 : Int32)) - (0 : Int32)).toNatClampNeg) 100000 v0.2.1 v0.2.2 (by rw [h8]; decide) (by decide) (by decide)
  have c1 : (1 : Int32) < y8 := by rw [h8]; decide
  rw [if_pos c1, show (y21 + (1 : Int32)).toNatClampNeg = a + 1 from own_ix a 1 (by omega) y21 h21] at hd1
  have v1 := own_dval (f (a + 1)) (hg 1 (by omega))
  rw [← hd1] at v1
  have t1 := own_T d1 (own_p10 ((y8 - (1 : Int32)) - (1 : Int32)).toNatClampNeg) 10000 v1.2.1 v1.2.2 (by rw [h8]; decide) (by decide) (by decide)
  have c2 : (2 : Int32) < y8 := by rw [h8]; decide
  rw [if_pos c2, show (y21 + (2 : Int32)).toNatClampNeg = a + 2 from own_ix a 2 (by omega) y21 h21] at hd2
  have v2 := own_dval (f (a + 2)) (hg 2 (by omega))
  rw [← hd2] at v2
  have t2 := own_T d2 (own_p10 ((y8 - (1 : Int32)) - (2 : Int32)).toNatClampNeg) 1000 v2.2.1 v2.2.2 (by rw [h8]; decide) (by decide) (by decide)
  have c3 : (3 : Int32) < y8 := by rw [h8]; decide
  rw [if_pos c3, show (y21 + (3 : Int32)).toNatClampNeg = a + 3 from own_ix a 3 (by omega) y21 h21] at hd3
  have v3 := own_dval (f (a + 3)) (hg 3 (by omega))
  rw [← hd3] at v3
  have t3 := own_T d3 (own_p10 ((y8 - (1 : Int32)) - (3 : Int32)).toNatClampNeg) 100 v3.2.1 v3.2.2 (by rw [h8]; decide) (by decide) (by decide)
  have c4 : (4 : Int32) < y8 := by rw [h8]; decide
  rw [if_pos c4, show (y21 + (4 : Int32)).toNatClampNeg = a + 4 from own_ix a 4 (by omega) y21 h21] at hd4
  have v4 := own_dval (f (a + 4)) (hg 4 (by omega))
  rw [← hd4] at v4
  have t4 := own_T d4 (own_p10 ((y8 - (1 : Int32)) - (4 : Int32)).toNatClampNeg) 10 v4.2.1 v4.2.2 (by rw [h8]; decide) (by decide) (by decide)
  have c5 : (5 : Int32) < y8 := by rw [h8]; decide
  rw [if_pos c5, show (y21 + (5 : Int32)).toNatClampNeg = a + 5 from own_ix a 5 (by omega) y21 h21] at hd5
  have v5 := own_dval (f (a + 5)) (hg 5 (by omega))
  rw [← hd5] at v5
  have t5 := own_T d5 (own_p10 ((y8 - (1 : Int32)) - (5 : Int32)).toNatClampNeg) 1 v5.2.1 v5.2.2 (by rw [h8]; decide) (by decide) (by decide)
  have c6 : ¬ (6 : Int32) < y8 := by rw [h8]; decide
  rw [if_neg c6] at hd6
  have t6 : (if d6 < (0 : Int32) then (0 : Int64) else ((d6.toInt64) * (own_p10 ((y8 - (1 : Int32)) - (6 : Int32)).toNatClampNeg))).toInt = 0 ∧ (0 : Int) ≤ 0 ∧ (0 : Int) ≤ 900000000 := by
    rw [if_pos (by rw [hd6]; decide)]; decide
  have c7 : ¬ (7 : Int32) < y8 := by rw [h8]; decide
  rw [if_neg c7] at hd7
  have t7 : (if d7 < (0 : Int32) then (0 : Int64) else ((d7.toInt64) * (own_p10 ((y8 - (1 : Int32)) - (7 : Int32)).toNatClampNeg))).toInt = 0 ∧ (0 : Int) ≤ 0 ∧ (0 : Int) ≤ 900000000 := by
    rw [if_pos (by rw [hd7]; decide)]; decide
  have c8 : ¬ (8 : Int32) < y8 := by rw [h8]; decide
  rw [if_neg c8] at hd8
  have t8 : (if d8 < (0 : Int32) then (0 : Int64) else ((d8.toInt64) * (own_p10 ((y8 - (1 : Int32)) - (8 : Int32)).toNatClampNeg))).toInt = 0 ∧ (0 : Int) ≤ 0 ∧ (0 : Int) ≤ 900000000 := by
    rw [if_pos (by rw [hd8]; decide)]; decide
  rw [own_sum9 _ _ _ _ _ _ _ _ _ (by rw [t0.1]; exact t0.2) (by rw [t1.1]; exact t1.2) (by rw [t2.1]; exact t2.2) (by rw [t3.1]; exact t3.2) (by rw [t4.1]; exact t4.2) (by rw [t5.1]; exact t5.2) (by rw [t6.1]; exact t6.2) (by rw [t7.1]; exact t7.2) (by rw [t8.1]; exact t8.2)]
  rw [t0.1, t1.1, t2.1, t3.1, t4.1, t5.1, t6.1, t7.1, t8.1]
  simp only [own_V, own_W, Nat.add_assoc, Nat.reduceAdd]
  clear hd0 hd1 hd2 hd3 hd4 hd5 hd6 hd7 hd8 hg h8 h21 c0 c1 c2 c3 c4 c5 c6 c7 c8 t0 t1 t2 t3 t4 t5 t6 t7 t8
  omega
theorem own_g7 (f : Nat → Int32) (a : Nat) (han : a + 7 ≤ 12) (y8 y21 : Int32) (h8 : y8 = Int32.ofNat 7) (h21 : y21 = Int32.ofNat a) (d0 d1 d2 d3 d4 d5 d6 d7 d8 : Int32) (hd0 : d0 = (if (0 : Int32) < y8 then (if (f (y21 + (0 : Int32)).toNatClampNeg) < (48 : Int32) then (-1 : Int32) else (if (57 : Int32) < (f (y21 + (0 : Int32)).toNatClampNeg) then (-1 : Int32) else ((f (y21 + (0 : Int32)).toNatClampNeg) - (48 : Int32)))) else (-2 : Int32))) (hd1 : d1 = (if (1 : Int32) < y8 then (if (f (y21 + (1 : Int32)).toNatClampNeg) < (48 : Int32) then (-1 : Int32) else (if (57 : Int32) < (f (y21 + (1 : Int32)).toNatClampNeg) then (-1 : Int32) else ((f (y21 + (1 : Int32)).toNatClampNeg) - (48 : Int32)))) else (-2 : Int32))) (hd2 : d2 = (if (2 : Int32) < y8 then (if (f (y21 + (2 : Int32)).toNatClampNeg) < (48 : Int32) then (-1 : Int32) else (if (57 : Int32) < (f (y21 + (2 : Int32)).toNatClampNeg) then (-1 : Int32) else ((f (y21 + (2 : Int32)).toNatClampNeg) - (48 : Int32)))) else (-2 : Int32))) (hd3 : d3 = (if (3 : Int32) < y8 then (if (f (y21 + (3 : Int32)).toNatClampNeg) < (48 : Int32) then (-1 : Int32) else (if (57 : Int32) < (f (y21 + (3 : Int32)).toNatClampNeg) then (-1 : Int32) else ((f (y21 + (3 : Int32)).toNatClampNeg) - (48 : Int32)))) else (-2 : Int32))) (hd4 : d4 = (if (4 : Int32) < y8 then (if (f (y21 + (4 : Int32)).toNatClampNeg) < (48 : Int32) then (-1 : Int32) else (if (57 : Int32) < (f (y21 + (4 : Int32)).toNatClampNeg) then (-1 : Int32) else ((f (y21 + (4 : Int32)).toNatClampNeg) - (48 : Int32)))) else (-2 : Int32))) (hd5 : d5 = (if (5 : Int32) < y8 then (if (f (y21 + (5 : Int32)).toNatClampNeg) < (48 : Int32) then (-1 : Int32) else (if (57 : Int32) < (f (y21 + (5 : Int32)).toNatClampNeg) then (-1 : Int32) else ((f (y21 + (5 : Int32)).toNatClampNeg) - (48 : Int32)))) else (-2 : Int32))) (hd6 : d6 = (if (6 : Int32) < y8 then (if (f (y21 + (6 : Int32)).toNatClampNeg) < (48 : Int32) then (-1 : Int32) else (if (57 : Int32) < (f (y21 + (6 : Int32)).toNatClampNeg) then (-1 : Int32) else ((f (y21 + (6 : Int32)).toNatClampNeg) - (48 : Int32)))) else (-2 : Int32))) (hd7 : d7 = (if (7 : Int32) < y8 then (if (f (y21 + (7 : Int32)).toNatClampNeg) < (48 : Int32) then (-1 : Int32) else (if (57 : Int32) < (f (y21 + (7 : Int32)).toNatClampNeg) then (-1 : Int32) else ((f (y21 + (7 : Int32)).toNatClampNeg) - (48 : Int32)))) else (-2 : Int32))) (hd8 : d8 = (if (8 : Int32) < y8 then (if (f (y21 + (8 : Int32)).toNatClampNeg) < (48 : Int32) then (-1 : Int32) else (if (57 : Int32) < (f (y21 + (8 : Int32)).toNatClampNeg) then (-1 : Int32) else ((f (y21 + (8 : Int32)).toNatClampNeg) - (48 : Int32)))) else (-2 : Int32))) (hg : ∀ j, j < 7 → own_ok (f (a + j))) : (((((((((if d0 < (0 : Int32) then (0 : Int64) else ((d0.toInt64) * (own_p10 ((y8 - (1 : Int32)) - (0 : Int32)).toNatClampNeg))) + (if d1 < (0 : Int32) then (0 : Int64) else ((d1.toInt64) * (own_p10 ((y8 - (1 : Int32)) - (1 : Int32)).toNatClampNeg)))) + (if d2 < (0 : Int32) then (0 : Int64) else ((d2.toInt64) * (own_p10 ((y8 - (1 : Int32)) - (2 : Int32)).toNatClampNeg)))) + (if d3 < (0 : Int32) then (0 : Int64) else ((d3.toInt64) * (own_p10 ((y8 - (1 : Int32)) - (3 : Int32)).toNatClampNeg)))) + (if d4 < (0 : Int32) then (0 : Int64) else ((d4.toInt64) * (own_p10 ((y8 - (1 : Int32)) - (4 : Int32)).toNatClampNeg)))) + (if d5 < (0 : Int32) then (0 : Int64) else ((d5.toInt64) * (own_p10 ((y8 - (1 : Int32)) - (5 : Int32)).toNatClampNeg)))) + (if d6 < (0 : Int32) then (0 : Int64) else ((d6.toInt64) * (own_p10 ((y8 - (1 : Int32)) - (6 : Int32)).toNatClampNeg)))) + (if d7 < (0 : Int32) then (0 : Int64) else ((d7.toInt64) * (own_p10 ((y8 - (1 : Int32)) - (7 : Int32)).toNatClampNeg)))) + (if d8 < (0 : Int32) then (0 : Int64) else ((d8.toInt64) * (own_p10 ((y8 - (1 : Int32)) - (8 : Int32)).toNatClampNeg)))).toInt = own_V f a 7 := by
  have c0 : (0 : Int32) < y8 := by rw [h8]; decide
  rw [if_pos c0, show (y21 + (0 : Int32)).toNatClampNeg = a from own_ix a 0 (by omega) y21 h21] at hd0
  have v0 := own_dval (f (a)) (hg 0 (by omega))
  rw [← hd0] at v0
  have t0 := own_T d0 (own_p10 ((y8 - (1 : Int32)) - (0 : Int32)).toNatClampNeg) 1000000 v0.2.1 v0.2.2 (by rw [h8]; decide) (by decide) (by decide)
  have c1 : (1 : Int32) < y8 := by rw [h8]; decide
  rw [if_pos c1, show (y21 + (1 : Int32)).toNatClampNeg = a + 1 from own_ix a 1 (by omega) y21 h21] at hd1
  have v1 := own_dval (f (a + 1)) (hg 1 (by omega))
  rw [← hd1] at v1
  have t1 := own_T d1 (own_p10 ((y8 - (1 : Int32)) - (1 : Int32)).toNatClampNeg) 100000 v1.2.1 v1.2.2 (by rw [h8]; decide) (by decide) (by decide)
  have c2 : (2 : Int32) < y8 := by rw [h8]; decide
  rw [if_pos c2, show (y21 + (2 : Int32)).toNatClampNeg = a + 2 from own_ix a 2 (by omega) y21 h21] at hd2
  have v2 := own_dval (f (a + 2)) (hg 2 (by omega))
  rw [← hd2] at v2
  have t2 := own_T d2 (own_p10 ((y8 - (1 : Int32)) - (2 : Int32)).toNatClampNeg) 10000 v2.2.1 v2.2.2 (by rw [h8]; decide) (by decide) (by decide)
  have c3 : (3 : Int32) < y8 := by rw [h8]; decide
  rw [if_pos c3, show (y21 + (3 : Int32)).toNatClampNeg = a + 3 from own_ix a 3 (by omega) y21 h21] at hd3
  have v3 := own_dval (f (a + 3)) (hg 3 (by omega))
  rw [← hd3] at v3
  have t3 := own_T d3 (own_p10 ((y8 - (1 : Int32)) - (3 : Int32)).toNatClampNeg) 1000 v3.2.1 v3.2.2 (by rw [h8]; decide) (by decide) (by decide)
  have c4 : (4 : Int32) < y8 := by rw [h8]; decide
  rw [if_pos c4, show (y21 + (4 : Int32)).toNatClampNeg = a + 4 from own_ix a 4 (by omega) y21 h21] at hd4
  have v4 := own_dval (f (a + 4)) (hg 4 (by omega))
  rw [← hd4] at v4
  have t4 := own_T d4 (own_p10 ((y8 - (1 : Int32)) - (4 : Int32)).toNatClampNeg) 100 v4.2.1 v4.2.2 (by rw [h8]; decide) (by decide) (by decide)
  have c5 : (5 : Int32) < y8 := by rw [h8]; decide
  rw [if_pos c5, show (y21 + (5 : Int32)).toNatClampNeg = a + 5 from own_ix a 5 (by omega) y21 h21] at hd5
  have v5 := own_dval (f (a + 5)) (hg 5 (by omega))
  rw [← hd5] at v5
  have t5 := own_T d5 (own_p10 ((y8 - (1 : Int32)) - (5 : Int32)).toNatClampNeg) 10 v5.2.1 v5.2.2 (by rw [h8]; decide) (by decide) (by decide)
  have c6 : (6 : Int32) < y8 := by rw [h8]; decide
  rw [if_pos c6, show (y21 + (6 : Int32)).toNatClampNeg = a + 6 from own_ix a 6 (by omega) y21 h21] at hd6
  have v6 := own_dval (f (a + 6)) (hg 6 (by omega))
  rw [← hd6] at v6
  have t6 := own_T d6 (own_p10 ((y8 - (1 : Int32)) - (6 : Int32)).toNatClampNeg) 1 v6.2.1 v6.2.2 (by rw [h8]; decide) (by decide) (by decide)
  have c7 : ¬ (7 : Int32) < y8 := by rw [h8]; decide
  rw [if_neg c7] at hd7
  have t7 : (if d7 < (0 : Int32) then (0 : Int64) else ((d7.toInt64) * (own_p10 ((y8 - (1 : Int32)) - (7 : Int32)).toNatClampNeg))).toInt = 0 ∧ (0 : Int) ≤ 0 ∧ (0 : Int) ≤ 900000000 := by
    rw [if_pos (by rw [hd7]; decide)]; decide
  have c8 : ¬ (8 : Int32) < y8 := by rw [h8]; decide
  rw [if_neg c8] at hd8
  have t8 : (if d8 < (0 : Int32) then (0 : Int64) else ((d8.toInt64) * (own_p10 ((y8 - (1 : Int32)) - (8 : Int32)).toNatClampNeg))).toInt = 0 ∧ (0 : Int) ≤ 0 ∧ (0 : Int) ≤ 900000000 := by
    rw [if_pos (by rw [hd8]; decide)]; decide
  rw [own_sum9 _ _ _ _ _ _ _ _ _ (by rw [t0.1]; exact t0.2) (by rw [t1.1]; exact t1.2) (by rw [t2.1]; exact t2.2) (by rw [t3.1]; exact t3.2) (by rw [t4.1]; exact t4.2) (by rw [t5.1]; exact t5.2) (by rw [t6.1]; exact t6.2) (by rw [t7.1]; exact t7.2) (by rw [t8.1]; exact t8.2)]
  rw [t0.1, t1.1, t2.1, t3.1, t4.1, t5.1, t6.1, t7.1, t8.1]
  simp only [own_V, own_W, Nat.add_assoc, Nat.reduceAdd]
  clear hd0 hd1 hd2 hd3 hd4 hd5 hd6 hd7 hd8 hg h8 h21 c0 c1 c2 c3 c4 c5 c6 c7 c8 t0 t1 t2 t3 t4 t5 t6 t7 t8
  omega
theorem own_g8 (f : Nat → Int32) (a : Nat) (han : a + 8 ≤ 12) (y8 y21 : Int32) (h8 : y8 = Int32.ofNat 8) (h21 : y21 = Int32.ofNat a) (d0 d1 d2 d3 d4 d5 d6 d7 d8 : Int32) (hd0 : d0 = (if (0 : Int32) < y8 then (if (f (y21 + (0 : Int32)).toNatClampNeg) < (48 : Int32) then (-1 : Int32) else (if (57 : Int32) < (f (y21 + (0 : Int32)).toNatClampNeg) then (-1 : Int32) else ((f (y21 + (0 : Int32)).toNatClampNeg) - (48 : Int32)))) else (-2 : Int32))) (hd1 : d1 = (if (1 : Int32) < y8 then (if (f (y21 + (1 : Int32)).toNatClampNeg) < (48 : Int32) then (-1 : Int32) else (if (57 : Int32) < (f (y21 + (1 : Int32)).toNatClampNeg) then (-1 : Int32) else ((f (y21 + (1 : Int32)).toNatClampNeg) - (48 : Int32)))) else (-2 : Int32))) (hd2 : d2 = (if (2 : Int32) < y8 then (if (f (y21 + (2 : Int32)).toNatClampNeg) < (48 : Int32) then (-1 : Int32) else (if (57 : Int32) < (f (y21 + (2 : Int32)).toNatClampNeg) then (-1 : Int32) else ((f (y21 + (2 : Int32)).toNatClampNeg) - (48 : Int32)))) else (-2 : Int32))) (hd3 : d3 = (if (3 : Int32) < y8 then (if (f (y21 + (3 : Int32)).toNatClampNeg) < (48 : Int32) then (-1 : Int32) else (if (57 : Int32) < (f (y21 + (3 : Int32)).toNatClampNeg) then (-1 : Int32) else ((f (y21 + (3 : Int32)).toNatClampNeg) - (48 : Int32)))) else (-2 : Int32))) (hd4 : d4 = (if (4 : Int32) < y8 then (if (f (y21 + (4 : Int32)).toNatClampNeg) < (48 : Int32) then (-1 : Int32) else (if (57 : Int32) < (f (y21 + (4 : Int32)).toNatClampNeg) then (-1 : Int32) else ((f (y21 + (4 : Int32)).toNatClampNeg) - (48 : Int32)))) else (-2 : Int32))) (hd5 : d5 = (if (5 : Int32) < y8 then (if (f (y21 + (5 : Int32)).toNatClampNeg) < (48 : Int32) then (-1 : Int32) else (if (57 : Int32) < (f (y21 + (5 : Int32)).toNatClampNeg) then (-1 : Int32) else ((f (y21 + (5 : Int32)).toNatClampNeg) - (48 : Int32)))) else (-2 : Int32))) (hd6 : d6 = (if (6 : Int32) < y8 then (if (f (y21 + (6 : Int32)).toNatClampNeg) < (48 : Int32) then (-1 : Int32) else (if (57 : Int32) < (f (y21 + (6 : Int32)).toNatClampNeg) then (-1 : Int32) else ((f (y21 + (6 : Int32)).toNatClampNeg) - (48 : Int32)))) else (-2 : Int32))) (hd7 : d7 = (if (7 : Int32) < y8 then (if (f (y21 + (7 : Int32)).toNatClampNeg) < (48 : Int32) then (-1 : Int32) else (if (57 : Int32) < (f (y21 + (7 : Int32)).toNatClampNeg) then (-1 : Int32) else ((f (y21 + (7 : Int32)).toNatClampNeg) - (48 : Int32)))) else (-2 : Int32))) (hd8 : d8 = (if (8 : Int32) < y8 then (if (f (y21 + (8 : Int32)).toNatClampNeg) < (48 : Int32) then (-1 : Int32) else (if (57 : Int32) < (f (y21 + (8 : Int32)).toNatClampNeg) then (-1 : Int32) else ((f (y21 + (8 : Int32)).toNatClampNeg) - (48 : Int32)))) else (-2 : Int32))) (hg : ∀ j, j < 8 → own_ok (f (a + j))) : (((((((((if d0 < (0 : Int32) then (0 : Int64) else ((d0.toInt64) * (own_p10 ((y8 - (1 : Int32)) - (0 : Int32)).toNatClampNeg))) + (if d1 < (0 : Int32) then (0 : Int64) else ((d1.toInt64) * (own_p10 ((y8 - (1 : Int32)) - (1 : Int32)).toNatClampNeg)))) + (if d2 < (0 : Int32) then (0 : Int64) else ((d2.toInt64) * (own_p10 ((y8 - (1 : Int32)) - (2 : Int32)).toNatClampNeg)))) + (if d3 < (0 : Int32) then (0 : Int64) else ((d3.toInt64) * (own_p10 ((y8 - (1 : Int32)) - (3 : Int32)).toNatClampNeg)))) + (if d4 < (0 : Int32) then (0 : Int64) else ((d4.toInt64) * (own_p10 ((y8 - (1 : Int32)) - (4 : Int32)).toNatClampNeg)))) + (if d5 < (0 : Int32) then (0 : Int64) else ((d5.toInt64) * (own_p10 ((y8 - (1 : Int32)) - (5 : Int32)).toNatClampNeg)))) + (if d6 < (0 : Int32) then (0 : Int64) else ((d6.toInt64) * (own_p10 ((y8 - (1 : Int32)) - (6 : Int32)).toNatClampNeg)))) + (if d7 < (0 : Int32) then (0 : Int64) else ((d7.toInt64) * (own_p10 ((y8 - (1 : Int32)) - (7 : Int32)).toNatClampNeg)))) + (if d8 < (0 : Int32) then (0 : Int64) else ((d8.toInt64) * (own_p10 ((y8 - (1 : Int32)) - (8 : Int32)).toNatClampNeg)))).toInt = own_V f a 8 := by
  have c0 : (0 : Int32) < y8 := by rw [h8]; decide
  rw [if_pos c0, show (y21 + (0 : Int32)).toNatClampNeg = a from own_ix a 0 (by omega) y21 h21] at hd0
  have v0 := own_dval (f (a)) (hg 0 (by omega))
  rw [← hd0] at v0
  have t0 := own_T d0 (own_p10 ((y8 - (1 : Int32)) - (0 : Int32)).toNatClampNeg) 10000000 v0.2.1 v0.2.2 (by rw [h8]; decide) (by decide) (by decide)
  have c1 : (1 : Int32) < y8 := by rw [h8]; decide
  rw [if_pos c1, show (y21 + (1 : Int32)).toNatClampNeg = a + 1 from own_ix a 1 (by omega) y21 h21] at hd1
  have v1 := own_dval (f (a + 1)) (hg 1 (by omega))
  rw [← hd1] at v1
  have t1 := own_T d1 (own_p10 ((y8 - (1 : Int32)) - (1 : Int32)).toNatClampNeg) 1000000 v1.2.1 v1.2.2 (by rw [h8]; decide) (by decide) (by decide)
  have c2 : (2 : Int32) < y8 := by rw [h8]; decide
  rw [if_pos c2, show (y21 + (2 : Int32)).toNatClampNeg = a + 2 from own_ix a 2 (by omega) y21 h21] at hd2
  have v2 := own_dval (f (a + 2)) (hg 2 (by omega))
  rw [← hd2] at v2
  have t2 := own_T d2 (own_p10 ((y8 - (1 : Int32)) - (2 : Int32)).toNatClampNeg) 100000 v2.2.1 v2.2.2 (by rw [h8]; decide) (by decide) (by decide)
  have c3 : (3 : Int32) < y8 := by rw [h8]; decide
  rw [if_pos c3, show (y21 + (3 : Int32)).toNatClampNeg = a + 3 from own_ix a 3 (by omega) y21 h21] at hd3
  have v3 := own_dval (f (a + 3)) (hg 3 (by omega))
  rw [← hd3] at v3
  have t3 := own_T d3 (own_p10 ((y8 - (1 : Int32)) - (3 : Int32)).toNatClampNeg) 10000 v3.2.1 v3.2.2 (by rw [h8]; decide) (by decide) (by decide)
  have c4 : (4 : Int32) < y8 := by rw [h8]; decide
  rw [if_pos c4, show (y21 + (4 : Int32)).toNatClampNeg = a + 4 from own_ix a 4 (by omega) y21 h21] at hd4
  have v4 := own_dval (f (a + 4)) (hg 4 (by omega))
  rw [← hd4] at v4
  have t4 := own_T d4 (own_p10 ((y8 - (1 : Int32)) - (4 : Int32)).toNatClampNeg) 1000 v4.2.1 v4.2.2 (by rw [h8]; decide) (by decide) (by decide)
  have c5 : (5 : Int32) < y8 := by rw [h8]; decide
  rw [if_pos c5, show (y21 + (5 : Int32)).toNatClampNeg = a + 5 from own_ix a 5 (by omega) y21 h21] at hd5
  have v5 := own_dval (f (a + 5)) (hg 5 (by omega))
  rw [← hd5] at v5
  have t5 := own_T d5 (own_p10 ((y8 - (1 : Int32)) - (5 : Int32)).toNatClampNeg) 100 v5.2.1 v5.2.2 (by rw [h8]; decide) (by decide) (by decide)
  have c6 : (6 : Int32) < y8 := by rw [h8]; decide
  rw [if_pos c6, show (y21 + (6 : Int32)).toNatClampNeg = a + 6 from own_ix a 6 (by omega) y21 h21] at hd6
  have v6 := own_dval (f (a + 6)) (hg 6 (by omega))
  rw [← hd6] at v6
  have t6 := own_T d6 (own_p10 ((y8 - (1 : Int32)) - (6 : Int32)).toNatClampNeg) 10 v6.2.1 v6.2.2 (by rw [h8]; decide) (by decide) (by decide)
  have c7 : (7 : Int32) < y8 := by rw [h8]; decide
  rw [if_pos c7, show (y21 + (7 : Int32)).toNatClampNeg = a + 7 from own_ix a 7 (by omega) y21 h21] at hd7
  have v7 := own_dval (f (a + 7)) (hg 7 (by omega))
  rw [← hd7] at v7
  have t7 := own_T d7 (own_p10 ((y8 - (1 : Int32)) - (7 : Int32)).toNatClampNeg) 1 v7.2.1 v7.2.2 (by rw [h8]; decide) (by decide) (by decide)
  have c8 : ¬ (8 : Int32) < y8 := by rw [h8]; decide
  rw [if_neg c8] at hd8
  have t8 : (if d8 < (0 : Int32) then (0 : Int64) else ((d8.toInt64) * (own_p10 ((y8 - (1 : Int32)) - (8 : Int32)).toNatClampNeg))).toInt = 0 ∧ (0 : Int) ≤ 0 ∧ (0 : Int) ≤ 900000000 := by
    rw [if_pos (by rw [hd8]; decide)]; decide
  rw [own_sum9 _ _ _ _ _ _ _ _ _ (by rw [t0.1]; exact t0.2) (by rw [t1.1]; exact t1.2) (by rw [t2.1]; exact t2.2) (by rw [t3.1]; exact t3.2) (by rw [t4.1]; exact t4.2) (by rw [t5.1]; exact t5.2) (by rw [t6.1]; exact t6.2) (by rw [t7.1]; exact t7.2) (by rw [t8.1]; exact t8.2)]
  rw [t0.1, t1.1, t2.1, t3.1, t4.1, t5.1, t6.1, t7.1, t8.1]
  simp only [own_V, own_W, Nat.add_assoc, Nat.reduceAdd]
  clear hd0 hd1 hd2 hd3 hd4 hd5 hd6 hd7 hd8 hg h8 h21 c0 c1 c2 c3 c4 c5 c6 c7 c8 t0 t1 t2 t3 t4 t5 t6 t7 t8
  omega
theorem own_g9 (f : Nat → Int32) (a : Nat) (han : a + 9 ≤ 12) (y8 y21 : Int32) (h8 : y8 = Int32.ofNat 9) (h21 : y21 = Int32.ofNat a) (d0 d1 d2 d3 d4 d5 d6 d7 d8 : Int32) (hd0 : d0 = (if (0 : Int32) < y8 then (if (f (y21 + (0 : Int32)).toNatClampNeg) < (48 : Int32) then (-1 : Int32) else (if (57 : Int32) < (f (y21 + (0 : Int32)).toNatClampNeg) then (-1 : Int32) else ((f (y21 + (0 : Int32)).toNatClampNeg) - (48 : Int32)))) else (-2 : Int32))) (hd1 : d1 = (if (1 : Int32) < y8 then (if (f (y21 + (1 : Int32)).toNatClampNeg) < (48 : Int32) then (-1 : Int32) else (if (57 : Int32) < (f (y21 + (1 : Int32)).toNatClampNeg) then (-1 : Int32) else ((f (y21 + (1 : Int32)).toNatClampNeg) - (48 : Int32)))) else (-2 : Int32))) (hd2 : d2 = (if (2 : Int32) < y8 then (if (f (y21 + (2 : Int32)).toNatClampNeg) < (48 : Int32) then (-1 : Int32) else (if (57 : Int32) < (f (y21 + (2 : Int32)).toNatClampNeg) then (-1 : Int32) else ((f (y21 + (2 : Int32)).toNatClampNeg) - (48 : Int32)))) else (-2 : Int32))) (hd3 : d3 = (if (3 : Int32) < y8 then (if (f (y21 + (3 : Int32)).toNatClampNeg) < (48 : Int32) then (-1 : Int32) else (if (57 : Int32) < (f (y21 + (3 : Int32)).toNatClampNeg) then (-1 : Int32) else ((f (y21 + (3 : Int32)).toNatClampNeg) - (48 : Int32)))) else (-2 : Int32))) (hd4 : d4 = (if (4 : Int32) < y8 then (if (f (y21 + (4 : Int32)).toNatClampNeg) < (48 : Int32) then (-1 : Int32) else (if (57 : Int32) < (f (y21 + (4 : Int32)).toNatClampNeg) then (-1 : Int32) else ((f (y21 + (4 : Int32)).toNatClampNeg) - (48 : Int32)))) else (-2 : Int32))) (hd5 : d5 = (if (5 : Int32) < y8 then (if (f (y21 + (5 : Int32)).toNatClampNeg) < (48 : Int32) then (-1 : Int32) else (if (57 : Int32) < (f (y21 + (5 : Int32)).toNatClampNeg) then (-1 : Int32) else ((f (y21 + (5 : Int32)).toNatClampNeg) - (48 : Int32)))) else (-2 : Int32))) (hd6 : d6 = (if (6 : Int32) < y8 then (if (f (y21 + (6 : Int32)).toNatClampNeg) < (48 : Int32) then (-1 : Int32) else (if (57 : Int32) < (f (y21 + (6 : Int32)).toNatClampNeg) then (-1 : Int32) else ((f (y21 + (6 : Int32)).toNatClampNeg) - (48 : Int32)))) else (-2 : Int32))) (hd7 : d7 = (if (7 : Int32) < y8 then (if (f (y21 + (7 : Int32)).toNatClampNeg) < (48 : Int32) then (-1 : Int32) else (if (57 : Int32) < (f (y21 + (7 : Int32)).toNatClampNeg) then (-1 : Int32) else ((f (y21 + (7 : Int32)).toNatClampNeg) - (48 : Int32)))) else (-2 : Int32))) (hd8 : d8 = (if (8 : Int32) < y8 then (if (f (y21 + (8 : Int32)).toNatClampNeg) < (48 : Int32) then (-1 : Int32) else (if (57 : Int32) < (f (y21 + (8 : Int32)).toNatClampNeg) then (-1 : Int32) else ((f (y21 + (8 : Int32)).toNatClampNeg) - (48 : Int32)))) else (-2 : Int32))) (hg : ∀ j, j < 9 → own_ok (f (a + j))) : (((((((((if d0 < (0 : Int32) then (0 : Int64) else ((d0.toInt64) * (own_p10 ((y8 - (1 : Int32)) - (0 : Int32)).toNatClampNeg))) + (if d1 < (0 : Int32) then (0 : Int64) else ((d1.toInt64) * (own_p10 ((y8 - (1 : Int32)) - (1 : Int32)).toNatClampNeg)))) + (if d2 < (0 : Int32) then (0 : Int64) else ((d2.toInt64) * (own_p10 ((y8 - (1 : Int32)) - (2 : Int32)).toNatClampNeg)))) + (if d3 < (0 : Int32) then (0 : Int64) else ((d3.toInt64) * (own_p10 ((y8 - (1 : Int32)) - (3 : Int32)).toNatClampNeg)))) + (if d4 < (0 : Int32) then (0 : Int64) else ((d4.toInt64) * (own_p10 ((y8 - (1 : Int32)) - (4 : Int32)).toNatClampNeg)))) + (if d5 < (0 : Int32) then (0 : Int64) else ((d5.toInt64) * (own_p10 ((y8 - (1 : Int32)) - (5 : Int32)).toNatClampNeg)))) + (if d6 < (0 : Int32) then (0 : Int64) else ((d6.toInt64) * (own_p10 ((y8 - (1 : Int32)) - (6 : Int32)).toNatClampNeg)))) + (if d7 < (0 : Int32) then (0 : Int64) else ((d7.toInt64) * (own_p10 ((y8 - (1 : Int32)) - (7 : Int32)).toNatClampNeg)))) + (if d8 < (0 : Int32) then (0 : Int64) else ((d8.toInt64) * (own_p10 ((y8 - (1 : Int32)) - (8 : Int32)).toNatClampNeg)))).toInt = own_V f a 9 := by
  have c0 : (0 : Int32) < y8 := by rw [h8]; decide
  rw [if_pos c0, show (y21 + (0 : Int32)).toNatClampNeg = a from own_ix a 0 (by omega) y21 h21] at hd0
  have v0 := own_dval (f (a)) (hg 0 (by omega))
  rw [← hd0] at v0
  have t0 := own_T d0 (own_p10 ((y8 - (1 : Int32)) - (0 : Int32)).toNatClampNeg) 100000000 v0.2.1 v0.2.2 (by rw [h8]; decide) (by decide) (by decide)
  have c1 : (1 : Int32) < y8 := by rw [h8]; decide
  rw [if_pos c1, show (y21 + (1 : Int32)).toNatClampNeg = a + 1 from own_ix a 1 (by omega) y21 h21] at hd1
  have v1 := own_dval (f (a + 1)) (hg 1 (by omega))
  rw [← hd1] at v1
  have t1 := own_T d1 (own_p10 ((y8 - (1 : Int32)) - (1 : Int32)).toNatClampNeg) 10000000 v1.2.1 v1.2.2 (by rw [h8]; decide) (by decide) (by decide)
  have c2 : (2 : Int32) < y8 := by rw [h8]; decide
  rw [if_pos c2, show (y21 + (2 : Int32)).toNatClampNeg = a + 2 from own_ix a 2 (by omega) y21 h21] at hd2
  have v2 := own_dval (f (a + 2)) (hg 2 (by omega))
  rw [← hd2] at v2
  have t2 := own_T d2 (own_p10 ((y8 - (1 : Int32)) - (2 : Int32)).toNatClampNeg) 1000000 v2.2.1 v2.2.2 (by rw [h8]; decide) (by decide) (by decide)
  have c3 : (3 : Int32) < y8 := by rw [h8]; decide
  rw [if_pos c3, show (y21 + (3 : Int32)).toNatClampNeg = a + 3 from own_ix a 3 (by omega) y21 h21] at hd3
  have v3 := own_dval (f (a + 3)) (hg 3 (by omega))
  rw [← hd3] at v3
  have t3 := own_T d3 (own_p10 ((y8 - (1 : Int32)) - (3 : Int32)).toNatClampNeg) 100000 v3.2.1 v3.2.2 (by rw [h8]; decide) (by decide) (by decide)
  have c4 : (4 : Int32) < y8 := by rw [h8]; decide
  rw [if_pos c4, show (y21 + (4 : Int32)).toNatClampNeg = a + 4 from own_ix a 4 (by omega) y21 h21] at hd4
  have v4 := own_dval (f (a + 4)) (hg 4 (by omega))
  rw [← hd4] at v4
  have t4 := own_T d4 (own_p10 ((y8 - (1 : Int32)) - (4 : Int32)).toNatClampNeg) 10000 v4.2.1 v4.2.2 (by rw [h8]; decide) (by decide) (by decide)
  have c5 : (5 : Int32) < y8 := by rw [h8]; decide
  rw [if_pos c5, show (y21 + (5 : Int32)).toNatClampNeg = a + 5 from own_ix a 5 (by omega) y21 h21] at hd5
  have v5 := own_dval (f (a + 5)) (hg 5 (by omega))
  rw [← hd5] at v5
  have t5 := own_T d5 (own_p10 ((y8 - (1 : Int32)) - (5 : Int32)).toNatClampNeg) 1000 v5.2.1 v5.2.2 (by rw [h8]; decide) (by decide) (by decide)
  have c6 : (6 : Int32) < y8 := by rw [h8]; decide
  rw [if_pos c6, show (y21 + (6 : Int32)).toNatClampNeg = a + 6 from own_ix a 6 (by omega) y21 h21] at hd6
  have v6 := own_dval (f (a + 6)) (hg 6 (by omega))
  rw [← hd6] at v6
  have t6 := own_T d6 (own_p10 ((y8 - (1 : Int32)) - (6 : Int32)).toNatClampNeg) 100 v6.2.1 v6.2.2 (by rw [h8]; decide) (by decide) (by decide)
  have c7 : (7 : Int32) < y8 := by rw [h8]; decide
  rw [if_pos c7, show (y21 + (7 : Int32)).toNatClampNeg = a + 7 from own_ix a 7 (by omega) y21 h21] at hd7
  have v7 := own_dval (f (a + 7)) (hg 7 (by omega))
  rw [← hd7] at v7
  have t7 := own_T d7 (own_p10 ((y8 - (1 : Int32)) - (7 : Int32)).toNatClampNeg) 10 v7.2.1 v7.2.2 (by rw [h8]; decide) (by decide) (by decide)
  have c8 : (8 : Int32) < y8 := by rw [h8]; decide
  rw [if_pos c8, show (y21 + (8 : Int32)).toNatClampNeg = a + 8 from own_ix a 8 (by omega) y21 h21] at hd8
  have v8 := own_dval (f (a + 8)) (hg 8 (by omega))
  rw [← hd8] at v8
  have t8 := own_T d8 (own_p10 ((y8 - (1 : Int32)) - (8 : Int32)).toNatClampNeg) 1 v8.2.1 v8.2.2 (by rw [h8]; decide) (by decide) (by decide)
  rw [own_sum9 _ _ _ _ _ _ _ _ _ (by rw [t0.1]; exact t0.2) (by rw [t1.1]; exact t1.2) (by rw [t2.1]; exact t2.2) (by rw [t3.1]; exact t3.2) (by rw [t4.1]; exact t4.2) (by rw [t5.1]; exact t5.2) (by rw [t6.1]; exact t6.2) (by rw [t7.1]; exact t7.2) (by rw [t8.1]; exact t8.2)]
  rw [t0.1, t1.1, t2.1, t3.1, t4.1, t5.1, t6.1, t7.1, t8.1]
  simp only [own_V, own_W, Nat.add_assoc, Nat.reduceAdd]
  clear hd0 hd1 hd2 hd3 hd4 hd5 hd6 hd7 hd8 hg h8 h21 c0 c1 c2 c3 c4 c5 c6 c7 c8 t0 t1 t2 t3 t4 t5 t6 t7 t8
  omega
theorem own_final (f : Nat → Int32) (a n : Nat) (han : a + n ≤ 12) (hn9 : n ≤ 9) (y8 y21 : Int32) (h8 : y8 = Int32.ofNat n) (h21 : y21 = Int32.ofNat a) (got d0 d1 d2 d3 d4 d5 d6 d7 d8 bad : Int32) (sum ex : Int64) (hgot : got = own_rd f a n (0 : Int32)) (hd0 : d0 = (if (0 : Int32) < y8 then (if (f (y21 + (0 : Int32)).toNatClampNeg) < (48 : Int32) then (-1 : Int32) else (if (57 : Int32) < (f (y21 + (0 : Int32)).toNatClampNeg) then (-1 : Int32) else ((f (y21 + (0 : Int32)).toNatClampNeg) - (48 : Int32)))) else (-2 : Int32))) (hd1 : d1 = (if (1 : Int32) < y8 then (if (f (y21 + (1 : Int32)).toNatClampNeg) < (48 : Int32) then (-1 : Int32) else (if (57 : Int32) < (f (y21 + (1 : Int32)).toNatClampNeg) then (-1 : Int32) else ((f (y21 + (1 : Int32)).toNatClampNeg) - (48 : Int32)))) else (-2 : Int32))) (hd2 : d2 = (if (2 : Int32) < y8 then (if (f (y21 + (2 : Int32)).toNatClampNeg) < (48 : Int32) then (-1 : Int32) else (if (57 : Int32) < (f (y21 + (2 : Int32)).toNatClampNeg) then (-1 : Int32) else ((f (y21 + (2 : Int32)).toNatClampNeg) - (48 : Int32)))) else (-2 : Int32))) (hd3 : d3 = (if (3 : Int32) < y8 then (if (f (y21 + (3 : Int32)).toNatClampNeg) < (48 : Int32) then (-1 : Int32) else (if (57 : Int32) < (f (y21 + (3 : Int32)).toNatClampNeg) then (-1 : Int32) else ((f (y21 + (3 : Int32)).toNatClampNeg) - (48 : Int32)))) else (-2 : Int32))) (hd4 : d4 = (if (4 : Int32) < y8 then (if (f (y21 + (4 : Int32)).toNatClampNeg) < (48 : Int32) then (-1 : Int32) else (if (57 : Int32) < (f (y21 + (4 : Int32)).toNatClampNeg) then (-1 : Int32) else ((f (y21 + (4 : Int32)).toNatClampNeg) - (48 : Int32)))) else (-2 : Int32))) (hd5 : d5 = (if (5 : Int32) < y8 then (if (f (y21 + (5 : Int32)).toNatClampNeg) < (48 : Int32) then (-1 : Int32) else (if (57 : Int32) < (f (y21 + (5 : Int32)).toNatClampNeg) then (-1 : Int32) else ((f (y21 + (5 : Int32)).toNatClampNeg) - (48 : Int32)))) else (-2 : Int32))) (hd6 : d6 = (if (6 : Int32) < y8 then (if (f (y21 + (6 : Int32)).toNatClampNeg) < (48 : Int32) then (-1 : Int32) else (if (57 : Int32) < (f (y21 + (6 : Int32)).toNatClampNeg) then (-1 : Int32) else ((f (y21 + (6 : Int32)).toNatClampNeg) - (48 : Int32)))) else (-2 : Int32))) (hd7 : d7 = (if (7 : Int32) < y8 then (if (f (y21 + (7 : Int32)).toNatClampNeg) < (48 : Int32) then (-1 : Int32) else (if (57 : Int32) < (f (y21 + (7 : Int32)).toNatClampNeg) then (-1 : Int32) else ((f (y21 + (7 : Int32)).toNatClampNeg) - (48 : Int32)))) else (-2 : Int32))) (hd8 : d8 = (if (8 : Int32) < y8 then (if (f (y21 + (8 : Int32)).toNatClampNeg) < (48 : Int32) then (-1 : Int32) else (if (57 : Int32) < (f (y21 + (8 : Int32)).toNatClampNeg) then (-1 : Int32) else ((f (y21 + (8 : Int32)).toNatClampNeg) - (48 : Int32)))) else (-2 : Int32))) (hbad : bad = (if d0 = (-1 : Int32) then (1 : Int32) else (if d1 = (-1 : Int32) then (1 : Int32) else (if d2 = (-1 : Int32) then (1 : Int32) else (if d3 = (-1 : Int32) then (1 : Int32) else (if d4 = (-1 : Int32) then (1 : Int32) else (if d5 = (-1 : Int32) then (1 : Int32) else (if d6 = (-1 : Int32) then (1 : Int32) else (if d7 = (-1 : Int32) then (1 : Int32) else (if d8 = (-1 : Int32) then (1 : Int32) else (0 : Int32))))))))))) (hsum : sum = (((((((((if d0 < (0 : Int32) then (0 : Int64) else ((d0.toInt64) * (own_p10 ((y8 - (1 : Int32)) - (0 : Int32)).toNatClampNeg))) + (if d1 < (0 : Int32) then (0 : Int64) else ((d1.toInt64) * (own_p10 ((y8 - (1 : Int32)) - (1 : Int32)).toNatClampNeg)))) + (if d2 < (0 : Int32) then (0 : Int64) else ((d2.toInt64) * (own_p10 ((y8 - (1 : Int32)) - (2 : Int32)).toNatClampNeg)))) + (if d3 < (0 : Int32) then (0 : Int64) else ((d3.toInt64) * (own_p10 ((y8 - (1 : Int32)) - (3 : Int32)).toNatClampNeg)))) + (if d4 < (0 : Int32) then (0 : Int64) else ((d4.toInt64) * (own_p10 ((y8 - (1 : Int32)) - (4 : Int32)).toNatClampNeg)))) + (if d5 < (0 : Int32) then (0 : Int64) else ((d5.toInt64) * (own_p10 ((y8 - (1 : Int32)) - (5 : Int32)).toNatClampNeg)))) + (if d6 < (0 : Int32) then (0 : Int64) else ((d6.toInt64) * (own_p10 ((y8 - (1 : Int32)) - (6 : Int32)).toNatClampNeg)))) + (if d7 < (0 : Int32) then (0 : Int64) else ((d7.toInt64) * (own_p10 ((y8 - (1 : Int32)) - (7 : Int32)).toNatClampNeg)))) + (if d8 < (0 : Int32) then (0 : Int64) else ((d8.toInt64) * (own_p10 ((y8 - (1 : Int32)) - (8 : Int32)).toNatClampNeg))))) (hex : ex = (if bad = (0 : Int32) then sum else (-1 : Int64))) : (got.toInt64) = ex := by
  by_cases hb : bad = (0 : Int32)
  · rw [if_pos hb] at hex
    rw [hbad] at hb
    obtain ⟨g0, g1, g2, g3, g4, g5, g6, g7, g8⟩ := own_bad0 _ _ _ _ _ _ _ _ _ hb
    have hg : ∀ j, j < n → own_ok (f (a + j)) := by
      intro j hj
      have k0 : 0 < n → own_ok (f (a + 0)) := fun q => by
        have c : (0 : Int32) < y8 := by rw [h8]; exact (own_ltN 0 n (by decide) (by omega)).mpr q
        rw [if_pos c, show (y21 + (0 : Int32)).toNatClampNeg = a + 0 from own_ix a 0 (by omega) y21 h21] at hd0
        rw [hd0] at g0
        exact own_dok _ g0
      have k1 : 1 < n → own_ok (f (a + 1)) := fun q => by
        have c : (1 : Int32) < y8 := by rw [h8]; exact (own_ltN 1 n (by decide) (by omega)).mpr q
        rw [if_pos c, show (y21 + (1 : Int32)).toNatClampNeg = a + 1 from own_ix a 1 (by omega) y21 h21] at hd1
        rw [hd1] at g1
        exact own_dok _ g1
      have k2 : 2 < n → own_ok (f (a + 2)) := fun q => by
        have c : (2 : Int32) < y8 := by rw [h8]; exact (own_ltN 2 n (by decide) (by omega)).mpr q
        rw [if_pos c, show (y21 + (2 : Int32)).toNatClampNeg = a + 2 from own_ix a 2 (by omega) y21 h21] at hd2
        rw [hd2] at g2
        exact own_dok _ g2
      have k3 : 3 < n → own_ok (f (a + 3)) := fun q => by
        have c : (3 : Int32) < y8 := by rw [h8]; exact (own_ltN 3 n (by decide) (by omega)).mpr q
        rw [if_pos c, show (y21 + (3 : Int32)).toNatClampNeg = a + 3 from own_ix a 3 (by omega) y21 h21] at hd3
        rw [hd3] at g3
        exact own_dok _ g3
      have k4 : 4 < n → own_ok (f (a + 4)) := fun q => by
        have c : (4 : Int32) < y8 := by rw [h8]; exact (own_ltN 4 n (by decide) (by omega)).mpr q
        rw [if_pos c, show (y21 + (4 : Int32)).toNatClampNeg = a + 4 from own_ix a 4 (by omega) y21 h21] at hd4
        rw [hd4] at g4
        exact own_dok _ g4
      have k5 : 5 < n → own_ok (f (a + 5)) := fun q => by
        have c : (5 : Int32) < y8 := by rw [h8]; exact (own_ltN 5 n (by decide) (by omega)).mpr q
        rw [if_pos c, show (y21 + (5 : Int32)).toNatClampNeg = a + 5 from own_ix a 5 (by omega) y21 h21] at hd5
        rw [hd5] at g5
        exact own_dok _ g5
      have k6 : 6 < n → own_ok (f (a + 6)) := fun q => by
        have c : (6 : Int32) < y8 := by rw [h8]; exact (own_ltN 6 n (by decide) (by omega)).mpr q
        rw [if_pos c, show (y21 + (6 : Int32)).toNatClampNeg = a + 6 from own_ix a 6 (by omega) y21 h21] at hd6
        rw [hd6] at g6
        exact own_dok _ g6
      have k7 : 7 < n → own_ok (f (a + 7)) := fun q => by
        have c : (7 : Int32) < y8 := by rw [h8]; exact (own_ltN 7 n (by decide) (by omega)).mpr q
        rw [if_pos c, show (y21 + (7 : Int32)).toNatClampNeg = a + 7 from own_ix a 7 (by omega) y21 h21] at hd7
        rw [hd7] at g7
        exact own_dok _ g7
      have k8 : 8 < n → own_ok (f (a + 8)) := fun q => by
        have c : (8 : Int32) < y8 := by rw [h8]; exact (own_ltN 8 n (by decide) (by omega)).mpr q
        rw [if_pos c, show (y21 + (8 : Int32)).toNatClampNeg = a + 8 from own_ix a 8 (by omega) y21 h21] at hd8
        rw [hd8] at g8
        exact own_dok _ g8
      match j, hj with
      | 0, hj => exact k0 hj
      | 1, hj => exact k1 hj
      | 2, hj => exact k2 hj
      | 3, hj => exact k3 hj
      | 4, hj => exact k4 hj
      | 5, hj => exact k5 hj
      | 6, hj => exact k6 hj
      | 7, hj => exact k7 hj
      | 8, hj => exact k8 hj
      | j + 9, hj => omega
    have hr := own_rd_good f n a 0 hg (by decide) (by
      match n, hn9 with
      | 0, _ => decide
      | 1, _ => decide
      | 2, _ => decide
      | 3, _ => decide
      | 4, _ => decide
      | 5, _ => decide
      | 6, _ => decide
      | 7, _ => decide
      | 8, _ => decide
      | 9, _ => decide
      )
    have e0 : (0 : Int32).toInt = 0 := rfl
    rw [e0, Int.zero_mul, Int.zero_add, ← hgot] at hr
    apply Int64.toInt_inj.mp
    rw [c_i2l, hr, hex, hsum]
    match n, hn9, han, h8, hg with
    | 0, _, han, h8, hg => exact (own_g0 f a han y8 y21 h8 h21 d0 d1 d2 d3 d4 d5 d6 d7 d8 hd0 hd1 hd2 hd3 hd4 hd5 hd6 hd7 hd8 hg).symm
    | 1, _, han, h8, hg => exact (own_g1 f a han y8 y21 h8 h21 d0 d1 d2 d3 d4 d5 d6 d7 d8 hd0 hd1 hd2 hd3 hd4 hd5 hd6 hd7 hd8 hg).symm
    | 2, _, han, h8, hg => exact (own_g2 f a han y8 y21 h8 h21 d0 d1 d2 d3 d4 d5 d6 d7 d8 hd0 hd1 hd2 hd3 hd4 hd5 hd6 hd7 hd8 hg).symm
    | 3, _, han, h8, hg => exact (own_g3 f a han y8 y21 h8 h21 d0 d1 d2 d3 d4 d5 d6 d7 d8 hd0 hd1 hd2 hd3 hd4 hd5 hd6 hd7 hd8 hg).symm
    | 4, _, han, h8, hg => exact (own_g4 f a han y8 y21 h8 h21 d0 d1 d2 d3 d4 d5 d6 d7 d8 hd0 hd1 hd2 hd3 hd4 hd5 hd6 hd7 hd8 hg).symm
    | 5, _, han, h8, hg => exact (own_g5 f a han y8 y21 h8 h21 d0 d1 d2 d3 d4 d5 d6 d7 d8 hd0 hd1 hd2 hd3 hd4 hd5 hd6 hd7 hd8 hg).symm
    | 6, _, han, h8, hg => exact (own_g6 f a han y8 y21 h8 h21 d0 d1 d2 d3 d4 d5 d6 d7 d8 hd0 hd1 hd2 hd3 hd4 hd5 hd6 hd7 hd8 hg).symm
    | 7, _, han, h8, hg => exact (own_g7 f a han y8 y21 h8 h21 d0 d1 d2 d3 d4 d5 d6 d7 d8 hd0 hd1 hd2 hd3 hd4 hd5 hd6 hd7 hd8 hg).symm
    | 8, _, han, h8, hg => exact (own_g8 f a han y8 y21 h8 h21 d0 d1 d2 d3 d4 d5 d6 d7 d8 hd0 hd1 hd2 hd3 hd4 hd5 hd6 hd7 hd8 hg).symm
    | 9, _, han, h8, hg => exact (own_g9 f a han y8 y21 h8 h21 d0 d1 d2 d3 d4 d5 d6 d7 d8 hd0 hd1 hd2 hd3 hd4 hd5 hd6 hd7 hd8 hg).symm
  · rw [if_neg hb] at hex
    rw [hbad] at hb
    have hr : own_rd f a n (0 : Int32) = -1 := by
      rcases own_bad1 _ _ _ _ _ _ _ _ _ hb with q | q | q | q | q | q | q | q | q
      · by_cases c : (0 : Int32) < y8
        · rw [if_pos c, show (y21 + (0 : Int32)).toNatClampNeg = a + 0 from own_ix a 0 (by omega) y21 h21] at hd0
          rw [hd0] at q
          rw [h8] at c
          exact own_rd_bad f n a 0 0 ((own_ltN 0 n (by decide) (by omega)).mp c) (own_dbad _ q)
        · rw [if_neg c] at hd0
          rw [hd0] at q
          exact absurd q (by decide)
      · by_cases c : (1 : Int32) < y8
        · rw [if_pos c, show (y21 + (1 : Int32)).toNatClampNeg = a + 1 from own_ix a 1 (by omega) y21 h21] at hd1
          rw [hd1] at q
          rw [h8] at c
          exact own_rd_bad f n a 1 0 ((own_ltN 1 n (by decide) (by omega)).mp c) (own_dbad _ q)
        · rw [if_neg c] at hd1
          rw [hd1] at q
          exact absurd q (by decide)
      · by_cases c : (2 : Int32) < y8
        · rw [if_pos c, show (y21 + (2 : Int32)).toNatClampNeg = a + 2 from own_ix a 2 (by omega) y21 h21] at hd2
          rw [hd2] at q
          rw [h8] at c
          exact own_rd_bad f n a 2 0 ((own_ltN 2 n (by decide) (by omega)).mp c) (own_dbad _ q)
        · rw [if_neg c] at hd2
          rw [hd2] at q
          exact absurd q (by decide)
      · by_cases c : (3 : Int32) < y8
        · rw [if_pos c, show (y21 + (3 : Int32)).toNatClampNeg = a + 3 from own_ix a 3 (by omega) y21 h21] at hd3
          rw [hd3] at q
          rw [h8] at c
          exact own_rd_bad f n a 3 0 ((own_ltN 3 n (by decide) (by omega)).mp c) (own_dbad _ q)
        · rw [if_neg c] at hd3
          rw [hd3] at q
          exact absurd q (by decide)
      · by_cases c : (4 : Int32) < y8
        · rw [if_pos c, show (y21 + (4 : Int32)).toNatClampNeg = a + 4 from own_ix a 4 (by omega) y21 h21] at hd4
          rw [hd4] at q
          rw [h8] at c
          exact own_rd_bad f n a 4 0 ((own_ltN 4 n (by decide) (by omega)).mp c) (own_dbad _ q)
        · rw [if_neg c] at hd4
          rw [hd4] at q
          exact absurd q (by decide)
      · by_cases c : (5 : Int32) < y8
        · rw [if_pos c, show (y21 + (5 : Int32)).toNatClampNeg = a + 5 from own_ix a 5 (by omega) y21 h21] at hd5
          rw [hd5] at q
          rw [h8] at c
          exact own_rd_bad f n a 5 0 ((own_ltN 5 n (by decide) (by omega)).mp c) (own_dbad _ q)
        · rw [if_neg c] at hd5
          rw [hd5] at q
          exact absurd q (by decide)
      · by_cases c : (6 : Int32) < y8
        · rw [if_pos c, show (y21 + (6 : Int32)).toNatClampNeg = a + 6 from own_ix a 6 (by omega) y21 h21] at hd6
          rw [hd6] at q
          rw [h8] at c
          exact own_rd_bad f n a 6 0 ((own_ltN 6 n (by decide) (by omega)).mp c) (own_dbad _ q)
        · rw [if_neg c] at hd6
          rw [hd6] at q
          exact absurd q (by decide)
      · by_cases c : (7 : Int32) < y8
        · rw [if_pos c, show (y21 + (7 : Int32)).toNatClampNeg = a + 7 from own_ix a 7 (by omega) y21 h21] at hd7
          rw [hd7] at q
          rw [h8] at c
          exact own_rd_bad f n a 7 0 ((own_ltN 7 n (by decide) (by omega)).mp c) (own_dbad _ q)
        · rw [if_neg c] at hd7
          rw [hd7] at q
          exact absurd q (by decide)
      · by_cases c : (8 : Int32) < y8
        · rw [if_pos c, show (y21 + (8 : Int32)).toNatClampNeg = a + 8 from own_ix a 8 (by omega) y21 h21] at hd8
          rw [hd8] at q
          rw [h8] at c
          exact own_rd_bad f n a 8 0 ((own_ltN 8 n (by decide) (by omega)).mp c) (own_dbad _ q)
        · rw [if_neg c] at hd8
          rw [hd8] at q
          exact absurd q (by decide)
    rw [hgot, hr, hex]
    decide
theorem own_pd1 : parseMethodDescriptor "(JIII)B" = some ⟨[.long, .int, .int, .int], some .byte⟩ := by decide +kernel
theorem own_pd2 : parseMethodDescriptor "([BII)I" = some ⟨[(.array .byte), .int, .int], some .int⟩ := by decide +kernel
theorem own_pd3 : parseMethodDescriptor "([BIII)I" = some ⟨[(.array .byte), .int, .int, .int], some .int⟩ := by decide +kernel
theorem own_pd4 : parseMethodDescriptor "(III)J" = some ⟨[.int, .int, .int], some .long⟩ := by decide +kernel
theorem ef0 (m : MethodId) (x1 : Int64) (x2 : Int32) (x3 : Int32) (x4 : Int32) (x5 : Int32) : entryFrame m #[(.long x1), (.int x2), (.int x3), (.int x4), (.int x5)] maxLocals = mkF m 0 #[lv x1, .second, iv x2, iv x3, iv x4, iv x5, .unset, .unset, .unset, .unset, .unset, .unset, .unset, .unset, .unset, .unset, .unset, .unset, .unset, .unset, .unset, .unset, .unset, .unset] [] := by first | (simp [entryFrame, mkF, argsToLocals, Value.category, maxLocals]; done) | rfl
def Q0 (Z : State) (x1 : Int64) (x2 : Int32) (x3 : Int32) (x4 : Int32) (x5 : Int32) (h0 : Heap) (n0 : Nat) (v : Option Value) (h : Heap) (L : List Loc) : Prop := v = some (.int (1 : Int32)) ∧ Fr n0 L
set_option maxRecDepth 65536 in
set_option maxHeartbeats 40000000 in
theorem rm0 (l : Launch) (Z : State) (a0 : Array Value) (hw : ∀ d ∈ tables_1, d.before a0 Z = true) (ws : List Jvm.Cond) (x1 : Int64) (x2 : Int32) (x3 : Int32) (x4 : Int32) (x5 : Int32) (h0 : Heap) (n0 : Nat) (Z0 : n0 ≤ h0.size) :
    MetFree l x (head1 (Jvm.Cond.code x code maxLocals ret :: ws) room_1) (fun a U => a = #[(.long x1), (.int x2), (.int x3), (.int x4), (.int x5)] ∧ Z.Warmed39 U.vm ∧ U.heap = h0) (fun _ _ _ _ _ => True) (fun _ U oc U' => ∃ v L, oc = .returned v ∧ Q0 Z x1 x2 x3 x4 x5 h0 n0 v U'.heap L ∧ FrameEnd U oc U' L room_1.cells room_1.slots) := by
  refine MetFree.of_bodySF (plainFor_of_name own_pn0) hisR ?_
  intro p e s m args below meth c s₁ Bd hml0 hP hK
  obtain ⟨rfl, hZ, hh⟩ := hP
  have hx := Bd.exec
  have hby := Bd.bytes
  have hml : c.maxLocals = 24 := hml0
  have hown : s.vm.findClass "com/example/planwright/planwright/io/DigitsReadPinLaw" = some m.cls := findClass_of_methodNamed Bd.named
  have hnm := (name_of_methodNamed Bd.named Bd.method).1
  have X0 : Stand p l e room_1 s m #[(.long x1), (.int x2), (.int x3), (.int x4), (.int x5)] below meth c s₁ [] 0 0 := Stand.of_body Bd
  have e0 : s₁.heap = h0 := by rw [← hh, Bd.state]; rfl
  have N0 := Fr.nil n0
  have pre0 : ∀ t, Steps p.tables e below (s₁.setTop (mkF m 0 #[lv x1, .second, iv x2, iv x3, iv x4, iv x5, .unset, .unset, .unset, .unset, .unset, .unset, .unset, .unset, .unset, .unset, .unset, .unset, .unset, .unset, .unset, .unset, .unset, .unset] [])) t → Steps p.tables e below (s₁.setTop (entryFrame m #[(.long x1), (.int x2), (.int x3), (.int x4), (.int x5)] maxLocals)) t := fun t k => castTop (ef0 m x1 x2 x3 x4 x5) k
  obtain ⟨y8, hy8⟩ : ∃ z, z = ((x4 &&& (2147483647 : Int32)) % (10 : Int32)) := ⟨_, rfl⟩
  obtain ⟨n, hn9, hn⟩ := own_n x4 y8 hy8
  obtain ⟨y21, hy21⟩ : ∃ z, z = ((x5 &&& (2147483647 : Int32)) % ((13 : Int32) - y8)) := ⟨_, rfl⟩
  obtain ⟨a, han, ha⟩ := own_a x5 y8 y21 n hn9 hn hy21
  obtain ⟨T1, h1, kk1, X1, e1, E1, A1, st1⟩ := newP X0 hx hZ (own_w hw 1 rfl) e0 (g := (mkF m 25 #[lv x1, .second, iv x2, iv x3, iv x4, iv x5, iv y8, iv y21, .unset, .unset, .unset, .unset, .unset, .unset, .unset, .unset, .unset, .unset, .unset, .unset, .unset, .unset, .unset, .unset] [(.int (12 : Int32))])) rfl (hb hby at_25) rfl (by decide) (cap := 12) (by decide) (by decide) (by decide) (by decide)
  obtain ⟨b1, g1⟩ : ∃ z, z = h0.size := ⟨_, rfl⟩
  rw [← g1] at A1 st1
  have g_b1 : n0 ≤ b1 := Nat.le_trans Z0 (Nat.le_of_eq g1.symm)
  have V_b1 : Arv Z h1 b1 kk1 .byte (12 : Int32) [(.int (0 : Int32)), (.int (0 : Int32)), (.int (0 : Int32)), (.int (0 : Int32)), (.int (0 : Int32)), (.int (0 : Int32)), (.int (0 : Int32)), (.int (0 : Int32)), (.int (0 : Int32)), (.int (0 : Int32)), (.int (0 : Int32)), (.int (0 : Int32))] (.int (0 : Int32)) := (Arv.new A1 (by decide)).pad (pad_rep [] (.int (0 : Int32)) 12)
  have Zc3 : n0 ≤ h1.size := (Nat.le_trans Z0 E1.1)
  obtain ⟨_, _, ⟨T2, Lw2, kw2, nw2⟩, -, X2, ⟨Lc2, hQ2, l2, y2, z2⟩, st2⟩ := Jvm.LawKit.callS X1 hx (y := (⟨"com/example/planwright/planwright/io/DigitsReadPinLaw", "pick", "(JIII)B"⟩ : MethodName)) hown (mvT hZ (own_w hw 2 rfl)) (mvT hZ (own_w hw 3 rfl)) (mvT hZ (own_w hw 4 rfl)) (mvT hZ (own_w hw 5 rfl)) (by decide) (backOf (W := 2) (rm1 l Z a0 hw [] x1 x2 x3 (0 : Int32) h1 n0 Zc3 ) hZ (own_w hw 5 rfl) (own_w hw 4 rfl) (by decide) (by decide)) (g := (mkF m 36 #[lv x1, .second, iv x2, iv x3, iv x4, iv x5, iv y8, iv y21, rv b1, .unset, .unset, .unset, .unset, .unset, .unset, .unset, .unset, .unset, .unset, .unset, .unset, .unset, .unset, .unset] [(.int (0 : Int32)), (.int x3), (.int x2), (.long x1), (.int (0 : Int32)), (.ref b1)])) rfl (by rw [hml]; rfl) (argsL := [(.long x1), (.int x2), (.int x3), (.int (0 : Int32))]) (rest := [(.int (0 : Int32)), (.ref b1)]) (lenOf own_pd1 rfl) rfl (by show 2 * 0 + _ ≤ _; exact Nat.le_of_eq rfl) (hb hby at_36) (fun _ _ => ⟨rfl, e1, (by decide : 1 + 0 ≤ _), (by decide : 12 + 0 ≤ _)⟩)
  dsimp only [Pt.U, Pt.locs, Pt.cells, Pt.slots] at X2 l2 y2 z2 st2 hQ2
  replace y2 : kw2 = 1 := y2
  replace z2 : nw2 = 12 := z2
  rw [l2, y2, z2] at X2
  obtain ⟨r2, rfl, Nq2, eh2⟩ := hQ2
  have N2 := Fr.app N0 Nq2
  obtain ⟨cl4, Ar4, qk4, Sz4, Ng4, Hs4, Gt4⟩ := id V_b1
  have hin4 : ¬ ((0 : Int32) < 0 ∨ cl4.slots.size ≤ ((0 : Int32)).toNatClampNeg) := inb_of Sz4 ⟨by decide, by decide⟩
  obtain ⟨T5, h5, X5, e5, W5, st5⟩ := stB X2 hx hZ eh2 Ar4 (j := (0 : Int32)) hin4 (g := (mkF m 39 #[lv x1, .second, iv x2, iv x3, iv x4, iv x5, iv y8, iv y21, rv b1, .unset, .unset, .unset, .unset, .unset, .unset, .unset, .unset, .unset, .unset, .unset, .unset, .unset, .unset, .unset] [(.int r2), (.int (0 : Int32)), (.ref b1)])) rfl rfl (hb hby at_39)
  have Va5 : Arv Z h5 b1 kk1 .byte (12 : Int32) [(.int (nar .byte r2)), (.int (0 : Int32)), (.int (0 : Int32)), (.int (0 : Int32)), (.int (0 : Int32)), (.int (0 : Int32)), (.int (0 : Int32)), (.int (0 : Int32)), (.int (0 : Int32)), (.int (0 : Int32)), (.int (0 : Int32)), (.int (0 : Int32))] (.int (0 : Int32)) := Arv.set Ar4 qk4 Sz4 Ng4 Hs4 Gt4 (fits_nar_byte _) W5 0 rfl (Nat.le_of_ble_eq_true rfl)
  have N5 := Fr.snoc X5 N2 g_b1
  have Zc7 : n0 ≤ h5.size := (Nat.le_trans Zc3 (Keep.of_wr W5).1)
  obtain ⟨_, _, ⟨T6, Lw6, kw6, nw6⟩, -, X6, ⟨Lc6, hQ6, l6, y6, z6⟩, st6⟩ := Jvm.LawKit.callS X5 hx (y := (⟨"com/example/planwright/planwright/io/DigitsReadPinLaw", "pick", "(JIII)B"⟩ : MethodName)) hown (mvT hZ (own_w hw 2 rfl)) (mvT hZ (own_w hw 3 rfl)) (mvT hZ (own_w hw 4 rfl)) (mvT hZ (own_w hw 5 rfl)) (by decide) (backOf (W := 2) (rm1 l Z a0 hw [] x1 x2 x3 (1 : Int32) h5 n0 Zc7 ) hZ (own_w hw 5 rfl) (own_w hw 4 rfl) (by decide) (by decide)) (g := (mkF m 47 #[lv x1, .second, iv x2, iv x3, iv x4, iv x5, iv y8, iv y21, rv b1, .unset, .unset, .unset, .unset, .unset, .unset, .unset, .unset, .unset, .unset, .unset, .unset, .unset, .unset, .unset] [(.int (1 : Int32)), (.int x3), (.int x2), (.long x1), (.int (1 : Int32)), (.ref b1)])) rfl (by rw [hml]; rfl) (argsL := [(.long x1), (.int x2), (.int x3), (.int (1 : Int32))]) (rest := [(.int (1 : Int32)), (.ref b1)]) (lenOf own_pd1 rfl) rfl (by show 2 * 0 + _ ≤ _; exact Nat.le_of_eq rfl) (hb hby at_47) (fun _ _ => ⟨rfl, e5, (by decide : 1 + 0 ≤ _), (by decide : 12 + 0 ≤ _)⟩)
  dsimp only [Pt.U, Pt.locs, Pt.cells, Pt.slots] at X6 l6 y6 z6 st6 hQ6
  replace y6 : kw6 = 1 := y6
  replace z6 : nw6 = 12 := z6
  rw [l6, y6, z6] at X6
  obtain ⟨r6, rfl, Nq6, eh6⟩ := hQ6
  have N6 := Fr.app N5 Nq6
  obtain ⟨cl8, Ar8, qk8, Sz8, Ng8, Hs8, Gt8⟩ := id Va5
  have hin8 : ¬ ((1 : Int32) < 0 ∨ cl8.slots.size ≤ ((1 : Int32)).toNatClampNeg) := inb_of Sz8 ⟨by decide, by decide⟩
  obtain ⟨T9, h9, X9, e9, W9, st9⟩ := stB X6 hx hZ eh6 Ar8 (j := (1 : Int32)) hin8 (g := (mkF m 50 #[lv x1, .second, iv x2, iv x3, iv x4, iv x5, iv y8, iv y21, rv b1, .unset, .unset, .unset, .unset, .unset, .unset, .unset, .unset, .unset, .unset, .unset, .unset, .unset, .unset, .unset] [(.int r6), (.int (1 : Int32)), (.ref b1)])) rfl rfl (hb hby at_50)
  have Va9 : Arv Z h9 b1 kk1 .byte (12 : Int32) [(.int (nar .byte r2)), (.int (nar .byte r6)), (.int (0 : Int32)), (.int (0 : Int32)), (.int (0 : Int32)), (.int (0 : Int32)), (.int (0 : Int32)), (.int (0 : Int32)), (.int (0 : Int32)), (.int (0 : Int32)), (.int (0 : Int32)), (.int (0 : Int32))] (.int (0 : Int32)) := Arv.set Ar8 qk8 Sz8 Ng8 Hs8 Gt8 (fits_nar_byte _) W9 1 rfl (Nat.le_of_ble_eq_true rfl)
  have N9 := Fr.snoc X9 N6 g_b1
  have Zc11 : n0 ≤ h9.size := (Nat.le_trans Zc7 (Keep.of_wr W9).1)
  obtain ⟨_, _, ⟨T10, Lw10, kw10, nw10⟩, -, X10, ⟨Lc10, hQ10, l10, y10, z10⟩, st10⟩ := Jvm.LawKit.callS X9 hx (y := (⟨"com/example/planwright/planwright/io/DigitsReadPinLaw", "pick", "(JIII)B"⟩ : MethodName)) hown (mvT hZ (own_w hw 2 rfl)) (mvT hZ (own_w hw 3 rfl)) (mvT hZ (own_w hw 4 rfl)) (mvT hZ (own_w hw 5 rfl)) (by decide) (backOf (W := 2) (rm1 l Z a0 hw [] x1 x2 x3 (2 : Int32) h9 n0 Zc11 ) hZ (own_w hw 5 rfl) (own_w hw 4 rfl) (by decide) (by decide)) (g := (mkF m 58 #[lv x1, .second, iv x2, iv x3, iv x4, iv x5, iv y8, iv y21, rv b1, .unset, .unset, .unset, .unset, .unset, .unset, .unset, .unset, .unset, .unset, .unset, .unset, .unset, .unset, .unset] [(.int (2 : Int32)), (.int x3), (.int x2), (.long x1), (.int (2 : Int32)), (.ref b1)])) rfl (by rw [hml]; rfl) (argsL := [(.long x1), (.int x2), (.int x3), (.int (2 : Int32))]) (rest := [(.int (2 : Int32)), (.ref b1)]) (lenOf own_pd1 rfl) rfl (by show 2 * 0 + _ ≤ _; exact Nat.le_of_eq rfl) (hb hby at_58) (fun _ _ => ⟨rfl, e9, (by decide : 1 + 0 ≤ _), (by decide : 12 + 0 ≤ _)⟩)
  dsimp only [Pt.U, Pt.locs, Pt.cells, Pt.slots] at X10 l10 y10 z10 st10 hQ10
  replace y10 : kw10 = 1 := y10
  replace z10 : nw10 = 12 := z10
  rw [l10, y10, z10] at X10
  obtain ⟨r10, rfl, Nq10, eh10⟩ := hQ10
  have N10 := Fr.app N9 Nq10
  obtain ⟨cl12, Ar12, qk12, Sz12, Ng12, Hs12, Gt12⟩ := id Va9
  have hin12 : ¬ ((2 : Int32) < 0 ∨ cl12.slots.size ≤ ((2 : Int32)).toNatClampNeg) := inb_of Sz12 ⟨by decide, by decide⟩
  obtain ⟨T13, h13, X13, e13, W13, st13⟩ := stB X10 hx hZ eh10 Ar12 (j := (2 : Int32)) hin12 (g := (mkF m 61 #[lv x1, .second, iv x2, iv x3, iv x4, iv x5, iv y8, iv y21, rv b1, .unset, .unset, .unset, .unset, .unset, .unset, .unset, .unset, .unset, .unset, .unset, .unset, .unset, .unset, .unset] [(.int r10), (.int (2 : Int32)), (.ref b1)])) rfl rfl (hb hby at_61)
  have Va13 : Arv Z h13 b1 kk1 .byte (12 : Int32) [(.int (nar .byte r2)), (.int (nar .byte r6)), (.int (nar .byte r10)), (.int (0 : Int32)), (.int (0 : Int32)), (.int (0 : Int32)), (.int (0 : Int32)), (.int (0 : Int32)), (.int (0 : Int32)), (.int (0 : Int32)), (.int (0 : Int32)), (.int (0 : Int32))] (.int (0 : Int32)) := Arv.set Ar12 qk12 Sz12 Ng12 Hs12 Gt12 (fits_nar_byte _) W13 2 rfl (Nat.le_of_ble_eq_true rfl)
  have N13 := Fr.snoc X13 N10 g_b1
  have Zc15 : n0 ≤ h13.size := (Nat.le_trans Zc11 (Keep.of_wr W13).1)
  obtain ⟨_, _, ⟨T14, Lw14, kw14, nw14⟩, -, X14, ⟨Lc14, hQ14, l14, y14, z14⟩, st14⟩ := Jvm.LawKit.callS X13 hx (y := (⟨"com/example/planwright/planwright/io/DigitsReadPinLaw", "pick", "(JIII)B"⟩ : MethodName)) hown (mvT hZ (own_w hw 2 rfl)) (mvT hZ (own_w hw 3 rfl)) (mvT hZ (own_w hw 4 rfl)) (mvT hZ (own_w hw 5 rfl)) (by decide) (backOf (W := 2) (rm1 l Z a0 hw [] x1 x2 x3 (3 : Int32) h13 n0 Zc15 ) hZ (own_w hw 5 rfl) (own_w hw 4 rfl) (by decide) (by decide)) (g := (mkF m 69 #[lv x1, .second, iv x2, iv x3, iv x4, iv x5, iv y8, iv y21, rv b1, .unset, .unset, .unset, .unset, .unset, .unset, .unset, .unset, .unset, .unset, .unset, .unset, .unset, .unset, .unset] [(.int (3 : Int32)), (.int x3), (.int x2), (.long x1), (.int (3 : Int32)), (.ref b1)])) rfl (by rw [hml]; rfl) (argsL := [(.long x1), (.int x2), (.int x3), (.int (3 : Int32))]) (rest := [(.int (3 : Int32)), (.ref b1)]) (lenOf own_pd1 rfl) rfl (by show 2 * 0 + _ ≤ _; exact Nat.le_of_eq rfl) (hb hby at_69) (fun _ _ => ⟨rfl, e13, (by decide : 1 + 0 ≤ _), (by decide : 12 + 0 ≤ _)⟩)
  dsimp only [Pt.U, Pt.locs, Pt.cells, Pt.slots] at X14 l14 y14 z14 st14 hQ14
  replace y14 : kw14 = 1 := y14
  replace z14 : nw14 = 12 := z14
  rw [l14, y14, z14] at X14
  obtain ⟨r14, rfl, Nq14, eh14⟩ := hQ14
  have N14 := Fr.app N13 Nq14
  obtain ⟨cl16, Ar16, qk16, Sz16, Ng16, Hs16, Gt16⟩ := id Va13
  have hin16 : ¬ ((3 : Int32) < 0 ∨ cl16.slots.size ≤ ((3 : Int32)).toNatClampNeg) := inb_of Sz16 ⟨by decide, by decide⟩
  obtain ⟨T17, h17, X17, e17, W17, st17⟩ := stB X14 hx hZ eh14 Ar16 (j := (3 : Int32)) hin16 (g := (mkF m 72 #[lv x1, .second, iv x2, iv x3, iv x4, iv x5, iv y8, iv y21, rv b1, .unset, .unset, .unset, .unset, .unset, .unset, .unset, .unset, .unset, .unset, .unset, .unset, .unset, .unset, .unset] [(.int r14), (.int (3 : Int32)), (.ref b1)])) rfl rfl (hb hby at_72)
  have Va17 : Arv Z h17 b1 kk1 .byte (12 : Int32) [(.int (nar .byte r2)), (.int (nar .byte r6)), (.int (nar .byte r10)), (.int (nar .byte r14)), (.int (0 : Int32)), (.int (0 : Int32)), (.int (0 : Int32)), (.int (0 : Int32)), (.int (0 : Int32)), (.int (0 : Int32)), (.int (0 : Int32)), (.int (0 : Int32))] (.int (0 : Int32)) := Arv.set Ar16 qk16 Sz16 Ng16 Hs16 Gt16 (fits_nar_byte _) W17 3 rfl (Nat.le_of_ble_eq_true rfl)
  have N17 := Fr.snoc X17 N14 g_b1
  have Zc19 : n0 ≤ h17.size := (Nat.le_trans Zc15 (Keep.of_wr W17).1)
  obtain ⟨_, _, ⟨T18, Lw18, kw18, nw18⟩, -, X18, ⟨Lc18, hQ18, l18, y18, z18⟩, st18⟩ := Jvm.LawKit.callS X17 hx (y := (⟨"com/example/planwright/planwright/io/DigitsReadPinLaw", "pick", "(JIII)B"⟩ : MethodName)) hown (mvT hZ (own_w hw 2 rfl)) (mvT hZ (own_w hw 3 rfl)) (mvT hZ (own_w hw 4 rfl)) (mvT hZ (own_w hw 5 rfl)) (by decide) (backOf (W := 2) (rm1 l Z a0 hw [] x1 x2 x3 (4 : Int32) h17 n0 Zc19 ) hZ (own_w hw 5 rfl) (own_w hw 4 rfl) (by decide) (by decide)) (g := (mkF m 80 #[lv x1, .second, iv x2, iv x3, iv x4, iv x5, iv y8, iv y21, rv b1, .unset, .unset, .unset, .unset, .unset, .unset, .unset, .unset, .unset, .unset, .unset, .unset, .unset, .unset, .unset] [(.int (4 : Int32)), (.int x3), (.int x2), (.long x1), (.int (4 : Int32)), (.ref b1)])) rfl (by rw [hml]; rfl) (argsL := [(.long x1), (.int x2), (.int x3), (.int (4 : Int32))]) (rest := [(.int (4 : Int32)), (.ref b1)]) (lenOf own_pd1 rfl) rfl (by show 2 * 0 + _ ≤ _; exact Nat.le_of_eq rfl) (hb hby at_80) (fun _ _ => ⟨rfl, e17, (by decide : 1 + 0 ≤ _), (by decide : 12 + 0 ≤ _)⟩)
  dsimp only [Pt.U, Pt.locs, Pt.cells, Pt.slots] at X18 l18 y18 z18 st18 hQ18
  replace y18 : kw18 = 1 := y18
  replace z18 : nw18 = 12 := z18
  rw [l18, y18, z18] at X18
  obtain ⟨r18, rfl, Nq18, eh18⟩ := hQ18
  have N18 := Fr.app N17 Nq18
  obtain ⟨cl20, Ar20, qk20, Sz20, Ng20, Hs20, Gt20⟩ := id Va17
  have hin20 : ¬ ((4 : Int32) < 0 ∨ cl20.slots.size ≤ ((4 : Int32)).toNatClampNeg) := inb_of Sz20 ⟨by decide, by decide⟩
  obtain ⟨T21, h21, X21, e21, W21, st21⟩ := stB X18 hx hZ eh18 Ar20 (j := (4 : Int32)) hin20 (g := (mkF m 83 #[lv x1, .second, iv x2, iv x3, iv x4, iv x5, iv y8, iv y21, rv b1, .unset, .unset, .unset, .unset, .unset, .unset, .unset, .unset, .unset, .unset, .unset, .unset, .unset, .unset, .unset] [(.int r18), (.int (4 : Int32)), (.ref b1)])) rfl rfl (hb hby at_83)
  have Va21 : Arv Z h21 b1 kk1 .byte (12 : Int32) [(.int (nar .byte r2)), (.int (nar .byte r6)), (.int (nar .byte r10)), (.int (nar .byte r14)), (.int (nar .byte r18)), (.int (0 : Int32)), (.int (0 : Int32)), (.int (0 : Int32)), (.int (0 : Int32)), (.int (0 : Int32)), (.int (0 : Int32)), (.int (0 : Int32))] (.int (0 : Int32)) := Arv.set Ar20 qk20 Sz20 Ng20 Hs20 Gt20 (fits_nar_byte _) W21 4 rfl (Nat.le_of_ble_eq_true rfl)
  have N21 := Fr.snoc X21 N18 g_b1
  have Zc23 : n0 ≤ h21.size := (Nat.le_trans Zc19 (Keep.of_wr W21).1)
  obtain ⟨_, _, ⟨T22, Lw22, kw22, nw22⟩, -, X22, ⟨Lc22, hQ22, l22, y22, z22⟩, st22⟩ := Jvm.LawKit.callS X21 hx (y := (⟨"com/example/planwright/planwright/io/DigitsReadPinLaw", "pick", "(JIII)B"⟩ : MethodName)) hown (mvT hZ (own_w hw 2 rfl)) (mvT hZ (own_w hw 3 rfl)) (mvT hZ (own_w hw 4 rfl)) (mvT hZ (own_w hw 5 rfl)) (by decide) (backOf (W := 2) (rm1 l Z a0 hw [] x1 x2 x3 (5 : Int32) h21 n0 Zc23 ) hZ (own_w hw 5 rfl) (own_w hw 4 rfl) (by decide) (by decide)) (g := (mkF m 91 #[lv x1, .second, iv x2, iv x3, iv x4, iv x5, iv y8, iv y21, rv b1, .unset, .unset, .unset, .unset, .unset, .unset, .unset, .unset, .unset, .unset, .unset, .unset, .unset, .unset, .unset] [(.int (5 : Int32)), (.int x3), (.int x2), (.long x1), (.int (5 : Int32)), (.ref b1)])) rfl (by rw [hml]; rfl) (argsL := [(.long x1), (.int x2), (.int x3), (.int (5 : Int32))]) (rest := [(.int (5 : Int32)), (.ref b1)]) (lenOf own_pd1 rfl) rfl (by show 2 * 0 + _ ≤ _; exact Nat.le_of_eq rfl) (hb hby at_91) (fun _ _ => ⟨rfl, e21, (by decide : 1 + 0 ≤ _), (by decide : 12 + 0 ≤ _)⟩)
  dsimp only [Pt.U, Pt.locs, Pt.cells, Pt.slots] at X22 l22 y22 z22 st22 hQ22
  replace y22 : kw22 = 1 := y22
  replace z22 : nw22 = 12 := z22
  rw [l22, y22, z22] at X22
  obtain ⟨r22, rfl, Nq22, eh22⟩ := hQ22
  have N22 := Fr.app N21 Nq22
  obtain ⟨cl24, Ar24, qk24, Sz24, Ng24, Hs24, Gt24⟩ := id Va21
  have hin24 : ¬ ((5 : Int32) < 0 ∨ cl24.slots.size ≤ ((5 : Int32)).toNatClampNeg) := inb_of Sz24 ⟨by decide, by decide⟩
  obtain ⟨T25, h25, X25, e25, W25, st25⟩ := stB X22 hx hZ eh22 Ar24 (j := (5 : Int32)) hin24 (g := (mkF m 94 #[lv x1, .second, iv x2, iv x3, iv x4, iv x5, iv y8, iv y21, rv b1, .unset, .unset, .unset, .unset, .unset, .unset, .unset, .unset, .unset, .unset, .unset, .unset, .unset, .unset, .unset] [(.int r22), (.int (5 : Int32)), (.ref b1)])) rfl rfl (hb hby at_94)
  have Va25 : Arv Z h25 b1 kk1 .byte (12 : Int32) [(.int (nar .byte r2)), (.int (nar .byte r6)), (.int (nar .byte r10)), (.int (nar .byte r14)), (.int (nar .byte r18)), (.int (nar .byte r22)), (.int (0 : Int32)), (.int (0 : Int32)), (.int (0 : Int32)), (.int (0 : Int32)), (.int (0 : Int32)), (.int (0 : Int32))] (.int (0 : Int32)) := Arv.set Ar24 qk24 Sz24 Ng24 Hs24 Gt24 (fits_nar_byte _) W25 5 rfl (Nat.le_of_ble_eq_true rfl)
  have N25 := Fr.snoc X25 N22 g_b1
  have Zc27 : n0 ≤ h25.size := (Nat.le_trans Zc23 (Keep.of_wr W25).1)
  obtain ⟨_, _, ⟨T26, Lw26, kw26, nw26⟩, -, X26, ⟨Lc26, hQ26, l26, y26, z26⟩, st26⟩ := Jvm.LawKit.callS X25 hx (y := (⟨"com/example/planwright/planwright/io/DigitsReadPinLaw", "pick", "(JIII)B"⟩ : MethodName)) hown (mvT hZ (own_w hw 2 rfl)) (mvT hZ (own_w hw 3 rfl)) (mvT hZ (own_w hw 4 rfl)) (mvT hZ (own_w hw 5 rfl)) (by decide) (backOf (W := 2) (rm1 l Z a0 hw [] x1 x2 x3 (6 : Int32) h25 n0 Zc27 ) hZ (own_w hw 5 rfl) (own_w hw 4 rfl) (by decide) (by decide)) (g := (mkF m 104 #[lv x1, .second, iv x2, iv x3, iv x4, iv x5, iv y8, iv y21, rv b1, .unset, .unset, .unset, .unset, .unset, .unset, .unset, .unset, .unset, .unset, .unset, .unset, .unset, .unset, .unset] [(.int (6 : Int32)), (.int x3), (.int x2), (.long x1), (.int (6 : Int32)), (.ref b1)])) rfl (by rw [hml]; rfl) (argsL := [(.long x1), (.int x2), (.int x3), (.int (6 : Int32))]) (rest := [(.int (6 : Int32)), (.ref b1)]) (lenOf own_pd1 rfl) rfl (by show 2 * 0 + _ ≤ _; exact Nat.le_of_eq rfl) (hb hby at_104) (fun _ _ => ⟨rfl, e25, (by decide : 1 + 0 ≤ _), (by decide : 12 + 0 ≤ _)⟩)
  dsimp only [Pt.U, Pt.locs, Pt.cells, Pt.slots] at X26 l26 y26 z26 st26 hQ26
  replace y26 : kw26 = 1 := y26
  replace z26 : nw26 = 12 := z26
  rw [l26, y26, z26] at X26
  obtain ⟨r26, rfl, Nq26, eh26⟩ := hQ26
  have N26 := Fr.app N25 Nq26
  obtain ⟨cl28, Ar28, qk28, Sz28, Ng28, Hs28, Gt28⟩ := id Va25
  have hin28 : ¬ ((6 : Int32) < 0 ∨ cl28.slots.size ≤ ((6 : Int32)).toNatClampNeg) := inb_of Sz28 ⟨by decide, by decide⟩
  obtain ⟨T29, h29, X29, e29, W29, st29⟩ := stB X26 hx hZ eh26 Ar28 (j := (6 : Int32)) hin28 (g := (mkF m 107 #[lv x1, .second, iv x2, iv x3, iv x4, iv x5, iv y8, iv y21, rv b1, .unset, .unset, .unset, .unset, .unset, .unset, .unset, .unset, .unset, .unset, .unset, .unset, .unset, .unset, .unset] [(.int r26), (.int (6 : Int32)), (.ref b1)])) rfl rfl (hb hby at_107)
  have Va29 : Arv Z h29 b1 kk1 .byte (12 : Int32) [(.int (nar .byte r2)), (.int (nar .byte r6)), (.int (nar .byte r10)), (.int (nar .byte r14)), (.int (nar .byte r18)), (.int (nar .byte r22)), (.int (nar .byte r26)), (.int (0 : Int32)), (.int (0 : Int32)), (.int (0 : Int32)), (.int (0 : Int32)), (.int (0 : Int32))] (.int (0 : Int32)) := Arv.set Ar28 qk28 Sz28 Ng28 Hs28 Gt28 (fits_nar_byte _) W29 6 rfl (Nat.le_of_ble_eq_true rfl)
  have N29 := Fr.snoc X29 N26 g_b1
  have Zc31 : n0 ≤ h29.size := (Nat.le_trans Zc27 (Keep.of_wr W29).1)
  obtain ⟨_, _, ⟨T30, Lw30, kw30, nw30⟩, -, X30, ⟨Lc30, hQ30, l30, y30, z30⟩, st30⟩ := Jvm.LawKit.callS X29 hx (y := (⟨"com/example/planwright/planwright/io/DigitsReadPinLaw", "pick", "(JIII)B"⟩ : MethodName)) hown (mvT hZ (own_w hw 2 rfl)) (mvT hZ (own_w hw 3 rfl)) (mvT hZ (own_w hw 4 rfl)) (mvT hZ (own_w hw 5 rfl)) (by decide) (backOf (W := 2) (rm1 l Z a0 hw [] x1 x2 x3 (7 : Int32) h29 n0 Zc31 ) hZ (own_w hw 5 rfl) (own_w hw 4 rfl) (by decide) (by decide)) (g := (mkF m 117 #[lv x1, .second, iv x2, iv x3, iv x4, iv x5, iv y8, iv y21, rv b1, .unset, .unset, .unset, .unset, .unset, .unset, .unset, .unset, .unset, .unset, .unset, .unset, .unset, .unset, .unset] [(.int (7 : Int32)), (.int x3), (.int x2), (.long x1), (.int (7 : Int32)), (.ref b1)])) rfl (by rw [hml]; rfl) (argsL := [(.long x1), (.int x2), (.int x3), (.int (7 : Int32))]) (rest := [(.int (7 : Int32)), (.ref b1)]) (lenOf own_pd1 rfl) rfl (by show 2 * 0 + _ ≤ _; exact Nat.le_of_eq rfl) (hb hby at_117) (fun _ _ => ⟨rfl, e29, (by decide : 1 + 0 ≤ _), (by decide : 12 + 0 ≤ _)⟩)
  dsimp only [Pt.U, Pt.locs, Pt.cells, Pt.slots] at X30 l30 y30 z30 st30 hQ30
  replace y30 : kw30 = 1 := y30
  replace z30 : nw30 = 12 := z30
  rw [l30, y30, z30] at X30
  obtain ⟨r30, rfl, Nq30, eh30⟩ := hQ30
  have N30 := Fr.app N29 Nq30
  obtain ⟨cl32, Ar32, qk32, Sz32, Ng32, Hs32, Gt32⟩ := id Va29
  have hin32 : ¬ ((7 : Int32) < 0 ∨ cl32.slots.size ≤ ((7 : Int32)).toNatClampNeg) := inb_of Sz32 ⟨by decide, by decide⟩
  obtain ⟨T33, h33, X33, e33, W33, st33⟩ := stB X30 hx hZ eh30 Ar32 (j := (7 : Int32)) hin32 (g := (mkF m 120 #[lv x1, .second, iv x2, iv x3, iv x4, iv x5, iv y8, iv y21, rv b1, .unset, .unset, .unset, .unset, .unset, .unset, .unset, .unset, .unset, .unset, .unset, .unset, .unset, .unset, .unset] [(.int r30), (.int (7 : Int32)), (.ref b1)])) rfl rfl (hb hby at_120)
  have Va33 : Arv Z h33 b1 kk1 .byte (12 : Int32) [(.int (nar .byte r2)), (.int (nar .byte r6)), (.int (nar .byte r10)), (.int (nar .byte r14)), (.int (nar .byte r18)), (.int (nar .byte r22)), (.int (nar .byte r26)), (.int (nar .byte r30)), (.int (0 : Int32)), (.int (0 : Int32)), (.int (0 : Int32)), (.int (0 : Int32))] (.int (0 : Int32)) := Arv.set Ar32 qk32 Sz32 Ng32 Hs32 Gt32 (fits_nar_byte _) W33 7 rfl (Nat.le_of_ble_eq_true rfl)
  have N33 := Fr.snoc X33 N30 g_b1
  have Zc35 : n0 ≤ h33.size := (Nat.le_trans Zc31 (Keep.of_wr W33).1)
  obtain ⟨_, _, ⟨T34, Lw34, kw34, nw34⟩, -, X34, ⟨Lc34, hQ34, l34, y34, z34⟩, st34⟩ := Jvm.LawKit.callS X33 hx (y := (⟨"com/example/planwright/planwright/io/DigitsReadPinLaw", "pick", "(JIII)B"⟩ : MethodName)) hown (mvT hZ (own_w hw 2 rfl)) (mvT hZ (own_w hw 3 rfl)) (mvT hZ (own_w hw 4 rfl)) (mvT hZ (own_w hw 5 rfl)) (by decide) (backOf (W := 2) (rm1 l Z a0 hw [] x1 x2 x3 (8 : Int32) h33 n0 Zc35 ) hZ (own_w hw 5 rfl) (own_w hw 4 rfl) (by decide) (by decide)) (g := (mkF m 130 #[lv x1, .second, iv x2, iv x3, iv x4, iv x5, iv y8, iv y21, rv b1, .unset, .unset, .unset, .unset, .unset, .unset, .unset, .unset, .unset, .unset, .unset, .unset, .unset, .unset, .unset] [(.int (8 : Int32)), (.int x3), (.int x2), (.long x1), (.int (8 : Int32)), (.ref b1)])) rfl (by rw [hml]; rfl) (argsL := [(.long x1), (.int x2), (.int x3), (.int (8 : Int32))]) (rest := [(.int (8 : Int32)), (.ref b1)]) (lenOf own_pd1 rfl) rfl (by show 2 * 0 + _ ≤ _; exact Nat.le_of_eq rfl) (hb hby at_130) (fun _ _ => ⟨rfl, e33, (by decide : 1 + 0 ≤ _), (by decide : 12 + 0 ≤ _)⟩)
  dsimp only [Pt.U, Pt.locs, Pt.cells, Pt.slots] at X34 l34 y34 z34 st34 hQ34
  replace y34 : kw34 = 1 := y34
  replace z34 : nw34 = 12 := z34
  rw [l34, y34, z34] at X34
  obtain ⟨r34, rfl, Nq34, eh34⟩ := hQ34
  have N34 := Fr.app N33 Nq34
  obtain ⟨cl36, Ar36, qk36, Sz36, Ng36, Hs36, Gt36⟩ := id Va33
  have hin36 : ¬ ((8 : Int32) < 0 ∨ cl36.slots.size ≤ ((8 : Int32)).toNatClampNeg) := inb_of Sz36 ⟨by decide, by decide⟩
  obtain ⟨T37, h37, X37, e37, W37, st37⟩ := stB X34 hx hZ eh34 Ar36 (j := (8 : Int32)) hin36 (g := (mkF m 133 #[lv x1, .second, iv x2, iv x3, iv x4, iv x5, iv y8, iv y21, rv b1, .unset, .unset, .unset, .unset, .unset, .unset, .unset, .unset, .unset, .unset, .unset, .unset, .unset, .unset, .unset] [(.int r34), (.int (8 : Int32)), (.ref b1)])) rfl rfl (hb hby at_133)
  have Va37 : Arv Z h37 b1 kk1 .byte (12 : Int32) [(.int (nar .byte r2)), (.int (nar .byte r6)), (.int (nar .byte r10)), (.int (nar .byte r14)), (.int (nar .byte r18)), (.int (nar .byte r22)), (.int (nar .byte r26)), (.int (nar .byte r30)), (.int (nar .byte r34)), (.int (0 : Int32)), (.int (0 : Int32)), (.int (0 : Int32))] (.int (0 : Int32)) := Arv.set Ar36 qk36 Sz36 Ng36 Hs36 Gt36 (fits_nar_byte _) W37 8 rfl (Nat.le_of_ble_eq_true rfl)
  have N37 := Fr.snoc X37 N34 g_b1
  have Zc39 : n0 ≤ h37.size := (Nat.le_trans Zc35 (Keep.of_wr W37).1)
  obtain ⟨_, _, ⟨T38, Lw38, kw38, nw38⟩, -, X38, ⟨Lc38, hQ38, l38, y38, z38⟩, st38⟩ := Jvm.LawKit.callS X37 hx (y := (⟨"com/example/planwright/planwright/io/DigitsReadPinLaw", "pick", "(JIII)B"⟩ : MethodName)) hown (mvT hZ (own_w hw 2 rfl)) (mvT hZ (own_w hw 3 rfl)) (mvT hZ (own_w hw 4 rfl)) (mvT hZ (own_w hw 5 rfl)) (by decide) (backOf (W := 2) (rm1 l Z a0 hw [] x1 x2 x3 (9 : Int32) h37 n0 Zc39 ) hZ (own_w hw 5 rfl) (own_w hw 4 rfl) (by decide) (by decide)) (g := (mkF m 143 #[lv x1, .second, iv x2, iv x3, iv x4, iv x5, iv y8, iv y21, rv b1, .unset, .unset, .unset, .unset, .unset, .unset, .unset, .unset, .unset, .unset, .unset, .unset, .unset, .unset, .unset] [(.int (9 : Int32)), (.int x3), (.int x2), (.long x1), (.int (9 : Int32)), (.ref b1)])) rfl (by rw [hml]; rfl) (argsL := [(.long x1), (.int x2), (.int x3), (.int (9 : Int32))]) (rest := [(.int (9 : Int32)), (.ref b1)]) (lenOf own_pd1 rfl) rfl (by show 2 * 0 + _ ≤ _; exact Nat.le_of_eq rfl) (hb hby at_143) (fun _ _ => ⟨rfl, e37, (by decide : 1 + 0 ≤ _), (by decide : 12 + 0 ≤ _)⟩)
  dsimp only [Pt.U, Pt.locs, Pt.cells, Pt.slots] at X38 l38 y38 z38 st38 hQ38
  replace y38 : kw38 = 1 := y38
  replace z38 : nw38 = 12 := z38
  rw [l38, y38, z38] at X38
  obtain ⟨r38, rfl, Nq38, eh38⟩ := hQ38
  have N38 := Fr.app N37 Nq38
  obtain ⟨cl40, Ar40, qk40, Sz40, Ng40, Hs40, Gt40⟩ := id Va37
  have hin40 : ¬ ((9 : Int32) < 0 ∨ cl40.slots.size ≤ ((9 : Int32)).toNatClampNeg) := inb_of Sz40 ⟨by decide, by decide⟩
  obtain ⟨T41, h41, X41, e41, W41, st41⟩ := stB X38 hx hZ eh38 Ar40 (j := (9 : Int32)) hin40 (g := (mkF m 146 #[lv x1, .second, iv x2, iv x3, iv x4, iv x5, iv y8, iv y21, rv b1, .unset, .unset, .unset, .unset, .unset, .unset, .unset, .unset, .unset, .unset, .unset, .unset, .unset, .unset, .unset] [(.int r38), (.int (9 : Int32)), (.ref b1)])) rfl rfl (hb hby at_146)
  have Va41 : Arv Z h41 b1 kk1 .byte (12 : Int32) [(.int (nar .byte r2)), (.int (nar .byte r6)), (.int (nar .byte r10)), (.int (nar .byte r14)), (.int (nar .byte r18)), (.int (nar .byte r22)), (.int (nar .byte r26)), (.int (nar .byte r30)), (.int (nar .byte r34)), (.int (nar .byte r38)), (.int (0 : Int32)), (.int (0 : Int32))] (.int (0 : Int32)) := Arv.set Ar40 qk40 Sz40 Ng40 Hs40 Gt40 (fits_nar_byte _) W41 9 rfl (Nat.le_of_ble_eq_true rfl)
  have N41 := Fr.snoc X41 N38 g_b1
  have Zc43 : n0 ≤ h41.size := (Nat.le_trans Zc39 (Keep.of_wr W41).1)
  obtain ⟨_, _, ⟨T42, Lw42, kw42, nw42⟩, -, X42, ⟨Lc42, hQ42, l42, y42, z42⟩, st42⟩ := Jvm.LawKit.callS X41 hx (y := (⟨"com/example/planwright/planwright/io/DigitsReadPinLaw", "pick", "(JIII)B"⟩ : MethodName)) hown (mvT hZ (own_w hw 2 rfl)) (mvT hZ (own_w hw 3 rfl)) (mvT hZ (own_w hw 4 rfl)) (mvT hZ (own_w hw 5 rfl)) (by decide) (backOf (W := 2) (rm1 l Z a0 hw [] x1 x2 x3 (10 : Int32) h41 n0 Zc43 ) hZ (own_w hw 5 rfl) (own_w hw 4 rfl) (by decide) (by decide)) (g := (mkF m 156 #[lv x1, .second, iv x2, iv x3, iv x4, iv x5, iv y8, iv y21, rv b1, .unset, .unset, .unset, .unset, .unset, .unset, .unset, .unset, .unset, .unset, .unset, .unset, .unset, .unset, .unset] [(.int (10 : Int32)), (.int x3), (.int x2), (.long x1), (.int (10 : Int32)), (.ref b1)])) rfl (by rw [hml]; rfl) (argsL := [(.long x1), (.int x2), (.int x3), (.int (10 : Int32))]) (rest := [(.int (10 : Int32)), (.ref b1)]) (lenOf own_pd1 rfl) rfl (by show 2 * 0 + _ ≤ _; exact Nat.le_of_eq rfl) (hb hby at_156) (fun _ _ => ⟨rfl, e41, (by decide : 1 + 0 ≤ _), (by decide : 12 + 0 ≤ _)⟩)
  dsimp only [Pt.U, Pt.locs, Pt.cells, Pt.slots] at X42 l42 y42 z42 st42 hQ42
  replace y42 : kw42 = 1 := y42
  replace z42 : nw42 = 12 := z42
  rw [l42, y42, z42] at X42
  obtain ⟨r42, rfl, Nq42, eh42⟩ := hQ42
  have N42 := Fr.app N41 Nq42
  obtain ⟨cl44, Ar44, qk44, Sz44, Ng44, Hs44, Gt44⟩ := id Va41
  have hin44 : ¬ ((10 : Int32) < 0 ∨ cl44.slots.size ≤ ((10 : Int32)).toNatClampNeg) := inb_of Sz44 ⟨by decide, by decide⟩
  obtain ⟨T45, h45, X45, e45, W45, st45⟩ := stB X42 hx hZ eh42 Ar44 (j := (10 : Int32)) hin44 (g := (mkF m 159 #[lv x1, .second, iv x2, iv x3, iv x4, iv x5, iv y8, iv y21, rv b1, .unset, .unset, .unset, .unset, .unset, .unset, .unset, .unset, .unset, .unset, .unset, .unset, .unset, .unset, .unset] [(.int r42), (.int (10 : Int32)), (.ref b1)])) rfl rfl (hb hby at_159)
  have Va45 : Arv Z h45 b1 kk1 .byte (12 : Int32) [(.int (nar .byte r2)), (.int (nar .byte r6)), (.int (nar .byte r10)), (.int (nar .byte r14)), (.int (nar .byte r18)), (.int (nar .byte r22)), (.int (nar .byte r26)), (.int (nar .byte r30)), (.int (nar .byte r34)), (.int (nar .byte r38)), (.int (nar .byte r42)), (.int (0 : Int32))] (.int (0 : Int32)) := Arv.set Ar44 qk44 Sz44 Ng44 Hs44 Gt44 (fits_nar_byte _) W45 10 rfl (Nat.le_of_ble_eq_true rfl)
  have N45 := Fr.snoc X45 N42 g_b1
  have Zc47 : n0 ≤ h45.size := (Nat.le_trans Zc43 (Keep.of_wr W45).1)
  obtain ⟨_, _, ⟨T46, Lw46, kw46, nw46⟩, -, X46, ⟨Lc46, hQ46, l46, y46, z46⟩, st46⟩ := Jvm.LawKit.callS X45 hx (y := (⟨"com/example/planwright/planwright/io/DigitsReadPinLaw", "pick", "(JIII)B"⟩ : MethodName)) hown (mvT hZ (own_w hw 2 rfl)) (mvT hZ (own_w hw 3 rfl)) (mvT hZ (own_w hw 4 rfl)) (mvT hZ (own_w hw 5 rfl)) (by decide) (backOf (W := 2) (rm1 l Z a0 hw [] x1 x2 x3 (11 : Int32) h45 n0 Zc47 ) hZ (own_w hw 5 rfl) (own_w hw 4 rfl) (by decide) (by decide)) (g := (mkF m 169 #[lv x1, .second, iv x2, iv x3, iv x4, iv x5, iv y8, iv y21, rv b1, .unset, .unset, .unset, .unset, .unset, .unset, .unset, .unset, .unset, .unset, .unset, .unset, .unset, .unset, .unset] [(.int (11 : Int32)), (.int x3), (.int x2), (.long x1), (.int (11 : Int32)), (.ref b1)])) rfl (by rw [hml]; rfl) (argsL := [(.long x1), (.int x2), (.int x3), (.int (11 : Int32))]) (rest := [(.int (11 : Int32)), (.ref b1)]) (lenOf own_pd1 rfl) rfl (by show 2 * 0 + _ ≤ _; exact Nat.le_of_eq rfl) (hb hby at_169) (fun _ _ => ⟨rfl, e45, (by decide : 1 + 0 ≤ _), (by decide : 12 + 0 ≤ _)⟩)
  dsimp only [Pt.U, Pt.locs, Pt.cells, Pt.slots] at X46 l46 y46 z46 st46 hQ46
  replace y46 : kw46 = 1 := y46
  replace z46 : nw46 = 12 := z46
  rw [l46, y46, z46] at X46
  obtain ⟨r46, rfl, Nq46, eh46⟩ := hQ46
  have N46 := Fr.app N45 Nq46
  obtain ⟨cl48, Ar48, qk48, Sz48, Ng48, Hs48, Gt48⟩ := id Va45
  have hin48 : ¬ ((11 : Int32) < 0 ∨ cl48.slots.size ≤ ((11 : Int32)).toNatClampNeg) := inb_of Sz48 ⟨by decide, by decide⟩
  obtain ⟨T49, h49, X49, e49, W49, st49⟩ := stB X46 hx hZ eh46 Ar48 (j := (11 : Int32)) hin48 (g := (mkF m 172 #[lv x1, .second, iv x2, iv x3, iv x4, iv x5, iv y8, iv y21, rv b1, .unset, .unset, .unset, .unset, .unset, .unset, .unset, .unset, .unset, .unset, .unset, .unset, .unset, .unset, .unset] [(.int r46), (.int (11 : Int32)), (.ref b1)])) rfl rfl (hb hby at_172)
  have Va49 : Arv Z h49 b1 kk1 .byte (12 : Int32) [(.int (nar .byte r2)), (.int (nar .byte r6)), (.int (nar .byte r10)), (.int (nar .byte r14)), (.int (nar .byte r18)), (.int (nar .byte r22)), (.int (nar .byte r26)), (.int (nar .byte r30)), (.int (nar .byte r34)), (.int (nar .byte r38)), (.int (nar .byte r42)), (.int (nar .byte r46))] (.int (0 : Int32)) := Arv.set Ar48 qk48 Sz48 Ng48 Hs48 Gt48 (fits_nar_byte _) W49 11 rfl (Nat.le_of_ble_eq_true rfl)
  have N49 := Fr.snoc X49 N46 g_b1
  obtain ⟨f, hf⟩ : ∃ f : Nat → Int32, f = fun j => ([(nar .byte r2), (nar .byte r6), (nar .byte r10), (nar .byte r14), (nar .byte r18), (nar .byte r22), (nar .byte r26), (nar .byte r30), (nar .byte r34), (nar .byte r38), (nar .byte r42), (nar .byte r46)] : List Int32).getD j 0 := ⟨_, rfl⟩
  have hA : own_Arr Z h49 b1 f := by rw [hf]; exact own_Arr.of [(nar .byte r2), (nar .byte r6), (nar .byte r10), (nar .byte r14), (nar .byte r18), (nar .byte r22), (nar .byte r26), (nar .byte r30), (nar .byte r34), (nar .byte r38), (nar .byte r42), (nar .byte r46)] Va49
  have hp50_h2 : y21 = Int32.ofNat a := ha
  have hp50_h3 : (y21 + y8) = Int32.ofNat (a + n) := (by rw [ha, hn]; exact own_addN a n (by omega))
  have hp50_hle : a + n ≤ 12 := han
  have Zc51 : n0 ≤ h49.size := (Nat.le_trans Zc47 (Keep.of_wr W49).1)
  obtain ⟨_, _, ⟨T50, Lw50, kw50, nw50⟩, -, X50, ⟨Lc50, hQ50, l50, y50, z50⟩, st50⟩ := Jvm.LawKit.callS X49 hx (y := (⟨"com/example/planwright/planwright/io/Digits", "read", "([BII)I"⟩ : MethodName)) hown (mvT hZ (own_w hw 6 rfl)) (mvT hZ (own_w hw 7 rfl)) (mvT hZ (own_w hw 8 rfl)) (mvT hZ (own_w hw 9 rfl)) (by decide) (backOf (W := 0) (rm2 l Z a0 hw [] b1 y21 (y21 + y8) f a n h49 n0 Zc51 hA hp50_h2 hp50_h3 hp50_hle) hZ (own_w hw 9 rfl) (own_w hw 8 rfl) (by decide) (by decide)) (g := (mkF m 182 #[lv x1, .second, iv x2, iv x3, iv x4, iv x5, iv y8, iv y21, rv b1, .unset, .unset, .unset, .unset, .unset, .unset, .unset, .unset, .unset, .unset, .unset, .unset, .unset, .unset, .unset] [(.int (y21 + y8)), (.int y21), (.ref b1)])) rfl (by rw [hml]; rfl) (argsL := [(.ref b1), (.int y21), (.int (y21 + y8))]) (rest := []) (lenOf own_pd2 rfl) rfl (by show 2 * 0 + _ ≤ _; exact Nat.le_of_eq rfl) (hb hby at_182) (fun _ _ => ⟨rfl, e49, (by decide : 1 + 0 ≤ _), (by decide : 12 + 0 ≤ _)⟩)
  dsimp only [Pt.U, Pt.locs, Pt.cells, Pt.slots] at X50 l50 y50 z50 st50 hQ50
  replace y50 : kw50 = 1 := y50
  replace z50 : nw50 = 12 := z50
  rw [l50, y50, z50] at X50
  obtain ⟨rfl, Nq50, eh50⟩ := hQ50
  have N50 := Fr.app N49 Nq50
  obtain ⟨y185, hy185⟩ : ∃ z, z = (own_rd f a n (0 : Int32)) := ⟨_, rfl⟩
  have hp52_hd : (0 : Int32) < y8 → ¬ (y21 + (0 : Int32)) < 0 ∧ (y21 + (0 : Int32)) < (12 : Int32) := (fun q => own_dig a n 0 han y8 y21 hn ha (by decide) q)
  obtain ⟨_, _, ⟨T52, Lw52, kw52, nw52⟩, -, X52, ⟨Lc52, hQ52, l52, y52, z52⟩, st52⟩ := Jvm.LawKit.callS X50 hx (y := (⟨"com/example/planwright/planwright/io/DigitsReadPinLaw", "dig", "([BIII)I"⟩ : MethodName)) hown (mvT hZ (own_w hw 10 rfl)) (mvT hZ (own_w hw 11 rfl)) (mvT hZ (own_w hw 4 rfl)) (mvT hZ (own_w hw 12 rfl)) (by decide) (backOf (W := 0) (rm3 l Z a0 hw [] b1 y21 y8 (0 : Int32) f h49 n0 Zc51 hA hp52_hd) hZ (own_w hw 12 rfl) (own_w hw 4 rfl) (by decide) (by decide)) (g := (mkF m 194 #[lv x1, .second, iv x2, iv x3, iv x4, iv x5, iv y8, iv y21, rv b1, iv y185, .unset, .unset, .unset, .unset, .unset, .unset, .unset, .unset, .unset, .unset, .unset, .unset, .unset, .unset] [(.int (0 : Int32)), (.int y8), (.int y21), (.ref b1)])) rfl (by rw [hml]; rfl) (argsL := [(.ref b1), (.int y21), (.int y8), (.int (0 : Int32))]) (rest := []) (lenOf own_pd3 rfl) rfl (by show 2 * 0 + _ ≤ _; exact Nat.le_of_eq rfl) (hb hby at_194) (fun _ _ => ⟨rfl, eh50, (by decide : 1 + 0 ≤ _), (by decide : 12 + 0 ≤ _)⟩)
  dsimp only [Pt.U, Pt.locs, Pt.cells, Pt.slots] at X52 l52 y52 z52 st52 hQ52
  replace y52 : kw52 = 1 := y52
  replace z52 : nw52 = 12 := z52
  rw [l52, y52, z52] at X52
  obtain ⟨rfl, Nq52, eh52⟩ := hQ52
  have N52 := Fr.app N50 Nq52
  obtain ⟨y197, hy197⟩ : ∃ z, z = (if (0 : Int32) < y8 then (if (f (y21 + (0 : Int32)).toNatClampNeg) < (48 : Int32) then (-1 : Int32) else (if (57 : Int32) < (f (y21 + (0 : Int32)).toNatClampNeg) then (-1 : Int32) else ((f (y21 + (0 : Int32)).toNatClampNeg) - (48 : Int32)))) else (-2 : Int32)) := ⟨_, rfl⟩
  have hp53_hd : (1 : Int32) < y8 → ¬ (y21 + (1 : Int32)) < 0 ∧ (y21 + (1 : Int32)) < (12 : Int32) := (fun q => own_dig a n 1 han y8 y21 hn ha (by decide) q)
  obtain ⟨_, _, ⟨T53, Lw53, kw53, nw53⟩, -, X53, ⟨Lc53, hQ53, l53, y53, z53⟩, st53⟩ := Jvm.LawKit.callS X52 hx (y := (⟨"com/example/planwright/planwright/io/DigitsReadPinLaw", "dig", "([BIII)I"⟩ : MethodName)) hown (mvT hZ (own_w hw 10 rfl)) (mvT hZ (own_w hw 11 rfl)) (mvT hZ (own_w hw 4 rfl)) (mvT hZ (own_w hw 12 rfl)) (by decide) (backOf (W := 0) (rm3 l Z a0 hw [] b1 y21 y8 (1 : Int32) f h49 n0 Zc51 hA hp53_hd) hZ (own_w hw 12 rfl) (own_w hw 4 rfl) (by decide) (by decide)) (g := (mkF m 206 #[lv x1, .second, iv x2, iv x3, iv x4, iv x5, iv y8, iv y21, rv b1, iv y185, iv y197, .unset, .unset, .unset, .unset, .unset, .unset, .unset, .unset, .unset, .unset, .unset, .unset, .unset] [(.int (1 : Int32)), (.int y8), (.int y21), (.ref b1)])) rfl (by rw [hml]; rfl) (argsL := [(.ref b1), (.int y21), (.int y8), (.int (1 : Int32))]) (rest := []) (lenOf own_pd3 rfl) rfl (by show 2 * 0 + _ ≤ _; exact Nat.le_of_eq rfl) (hb hby at_206) (fun _ _ => ⟨rfl, eh52, (by decide : 1 + 0 ≤ _), (by decide : 12 + 0 ≤ _)⟩)
  dsimp only [Pt.U, Pt.locs, Pt.cells, Pt.slots] at X53 l53 y53 z53 st53 hQ53
  replace y53 : kw53 = 1 := y53
  replace z53 : nw53 = 12 := z53
  rw [l53, y53, z53] at X53
  obtain ⟨rfl, Nq53, eh53⟩ := hQ53
  have N53 := Fr.app N52 Nq53
  obtain ⟨y209, hy209⟩ : ∃ z, z = (if (1 : Int32) < y8 then (if (f (y21 + (1 : Int32)).toNatClampNeg) < (48 : Int32) then (-1 : Int32) else (if (57 : Int32) < (f (y21 + (1 : Int32)).toNatClampNeg) then (-1 : Int32) else ((f (y21 + (1 : Int32)).toNatClampNeg) - (48 : Int32)))) else (-2 : Int32)) := ⟨_, rfl⟩
  have hp54_hd : (2 : Int32) < y8 → ¬ (y21 + (2 : Int32)) < 0 ∧ (y21 + (2 : Int32)) < (12 : Int32) := (fun q => own_dig a n 2 han y8 y21 hn ha (by decide) q)
  obtain ⟨_, _, ⟨T54, Lw54, kw54, nw54⟩, -, X54, ⟨Lc54, hQ54, l54, y54, z54⟩, st54⟩ := Jvm.LawKit.callS X53 hx (y := (⟨"com/example/planwright/planwright/io/DigitsReadPinLaw", "dig", "([BIII)I"⟩ : MethodName)) hown (mvT hZ (own_w hw 10 rfl)) (mvT hZ (own_w hw 11 rfl)) (mvT hZ (own_w hw 4 rfl)) (mvT hZ (own_w hw 12 rfl)) (by decide) (backOf (W := 0) (rm3 l Z a0 hw [] b1 y21 y8 (2 : Int32) f h49 n0 Zc51 hA hp54_hd) hZ (own_w hw 12 rfl) (own_w hw 4 rfl) (by decide) (by decide)) (g := (mkF m 218 #[lv x1, .second, iv x2, iv x3, iv x4, iv x5, iv y8, iv y21, rv b1, iv y185, iv y197, iv y209, .unset, .unset, .unset, .unset, .unset, .unset, .unset, .unset, .unset, .unset, .unset, .unset] [(.int (2 : Int32)), (.int y8), (.int y21), (.ref b1)])) rfl (by rw [hml]; rfl) (argsL := [(.ref b1), (.int y21), (.int y8), (.int (2 : Int32))]) (rest := []) (lenOf own_pd3 rfl) rfl (by show 2 * 0 + _ ≤ _; exact Nat.le_of_eq rfl) (hb hby at_218) (fun _ _ => ⟨rfl, eh53, (by decide : 1 + 0 ≤ _), (by decide : 12 + 0 ≤ _)⟩)
  dsimp only [Pt.U, Pt.locs, Pt.cells, Pt.slots] at X54 l54 y54 z54 st54 hQ54
  replace y54 : kw54 = 1 := y54
  replace z54 : nw54 = 12 := z54
  rw [l54, y54, z54] at X54
  obtain ⟨rfl, Nq54, eh54⟩ := hQ54
  have N54 := Fr.app N53 Nq54
  obtain ⟨y221, hy221⟩ : ∃ z, z = (if (2 : Int32) < y8 then (if (f (y21 + (2 : Int32)).toNatClampNeg) < (48 : Int32) then (-1 : Int32) else (if (57 : Int32) < (f (y21 + (2 : Int32)).toNatClampNeg) then (-1 : Int32) else ((f (y21 + (2 : Int32)).toNatClampNeg) - (48 : Int32)))) else (-2 : Int32)) := ⟨_, rfl⟩
  have hp55_hd : (3 : Int32) < y8 → ¬ (y21 + (3 : Int32)) < 0 ∧ (y21 + (3 : Int32)) < (12 : Int32) := (fun q => own_dig a n 3 han y8 y21 hn ha (by decide) q)
  obtain ⟨_, _, ⟨T55, Lw55, kw55, nw55⟩, -, X55, ⟨Lc55, hQ55, l55, y55, z55⟩, st55⟩ := Jvm.LawKit.callS X54 hx (y := (⟨"com/example/planwright/planwright/io/DigitsReadPinLaw", "dig", "([BIII)I"⟩ : MethodName)) hown (mvT hZ (own_w hw 10 rfl)) (mvT hZ (own_w hw 11 rfl)) (mvT hZ (own_w hw 4 rfl)) (mvT hZ (own_w hw 12 rfl)) (by decide) (backOf (W := 0) (rm3 l Z a0 hw [] b1 y21 y8 (3 : Int32) f h49 n0 Zc51 hA hp55_hd) hZ (own_w hw 12 rfl) (own_w hw 4 rfl) (by decide) (by decide)) (g := (mkF m 230 #[lv x1, .second, iv x2, iv x3, iv x4, iv x5, iv y8, iv y21, rv b1, iv y185, iv y197, iv y209, iv y221, .unset, .unset, .unset, .unset, .unset, .unset, .unset, .unset, .unset, .unset, .unset] [(.int (3 : Int32)), (.int y8), (.int y21), (.ref b1)])) rfl (by rw [hml]; rfl) (argsL := [(.ref b1), (.int y21), (.int y8), (.int (3 : Int32))]) (rest := []) (lenOf own_pd3 rfl) rfl (by show 2 * 0 + _ ≤ _; exact Nat.le_of_eq rfl) (hb hby at_230) (fun _ _ => ⟨rfl, eh54, (by decide : 1 + 0 ≤ _), (by decide : 12 + 0 ≤ _)⟩)
  dsimp only [Pt.U, Pt.locs, Pt.cells, Pt.slots] at X55 l55 y55 z55 st55 hQ55
  replace y55 : kw55 = 1 := y55
  replace z55 : nw55 = 12 := z55
  rw [l55, y55, z55] at X55
  obtain ⟨rfl, Nq55, eh55⟩ := hQ55
  have N55 := Fr.app N54 Nq55
  obtain ⟨y233, hy233⟩ : ∃ z, z = (if (3 : Int32) < y8 then (if (f (y21 + (3 : Int32)).toNatClampNeg) < (48 : Int32) then (-1 : Int32) else (if (57 : Int32) < (f (y21 + (3 : Int32)).toNatClampNeg) then (-1 : Int32) else ((f (y21 + (3 : Int32)).toNatClampNeg) - (48 : Int32)))) else (-2 : Int32)) := ⟨_, rfl⟩
  have hp56_hd : (4 : Int32) < y8 → ¬ (y21 + (4 : Int32)) < 0 ∧ (y21 + (4 : Int32)) < (12 : Int32) := (fun q => own_dig a n 4 han y8 y21 hn ha (by decide) q)
  obtain ⟨_, _, ⟨T56, Lw56, kw56, nw56⟩, -, X56, ⟨Lc56, hQ56, l56, y56, z56⟩, st56⟩ := Jvm.LawKit.callS X55 hx (y := (⟨"com/example/planwright/planwright/io/DigitsReadPinLaw", "dig", "([BIII)I"⟩ : MethodName)) hown (mvT hZ (own_w hw 10 rfl)) (mvT hZ (own_w hw 11 rfl)) (mvT hZ (own_w hw 4 rfl)) (mvT hZ (own_w hw 12 rfl)) (by decide) (backOf (W := 0) (rm3 l Z a0 hw [] b1 y21 y8 (4 : Int32) f h49 n0 Zc51 hA hp56_hd) hZ (own_w hw 12 rfl) (own_w hw 4 rfl) (by decide) (by decide)) (g := (mkF m 242 #[lv x1, .second, iv x2, iv x3, iv x4, iv x5, iv y8, iv y21, rv b1, iv y185, iv y197, iv y209, iv y221, iv y233, .unset, .unset, .unset, .unset, .unset, .unset, .unset, .unset, .unset, .unset] [(.int (4 : Int32)), (.int y8), (.int y21), (.ref b1)])) rfl (by rw [hml]; rfl) (argsL := [(.ref b1), (.int y21), (.int y8), (.int (4 : Int32))]) (rest := []) (lenOf own_pd3 rfl) rfl (by show 2 * 0 + _ ≤ _; exact Nat.le_of_eq rfl) (hb hby at_242) (fun _ _ => ⟨rfl, eh55, (by decide : 1 + 0 ≤ _), (by decide : 12 + 0 ≤ _)⟩)
  dsimp only [Pt.U, Pt.locs, Pt.cells, Pt.slots] at X56 l56 y56 z56 st56 hQ56
  replace y56 : kw56 = 1 := y56
  replace z56 : nw56 = 12 := z56
  rw [l56, y56, z56] at X56
  obtain ⟨rfl, Nq56, eh56⟩ := hQ56
  have N56 := Fr.app N55 Nq56
  obtain ⟨y245, hy245⟩ : ∃ z, z = (if (4 : Int32) < y8 then (if (f (y21 + (4 : Int32)).toNatClampNeg) < (48 : Int32) then (-1 : Int32) else (if (57 : Int32) < (f (y21 + (4 : Int32)).toNatClampNeg) then (-1 : Int32) else ((f (y21 + (4 : Int32)).toNatClampNeg) - (48 : Int32)))) else (-2 : Int32)) := ⟨_, rfl⟩
  have hp57_hd : (5 : Int32) < y8 → ¬ (y21 + (5 : Int32)) < 0 ∧ (y21 + (5 : Int32)) < (12 : Int32) := (fun q => own_dig a n 5 han y8 y21 hn ha (by decide) q)
  obtain ⟨_, _, ⟨T57, Lw57, kw57, nw57⟩, -, X57, ⟨Lc57, hQ57, l57, y57, z57⟩, st57⟩ := Jvm.LawKit.callS X56 hx (y := (⟨"com/example/planwright/planwright/io/DigitsReadPinLaw", "dig", "([BIII)I"⟩ : MethodName)) hown (mvT hZ (own_w hw 10 rfl)) (mvT hZ (own_w hw 11 rfl)) (mvT hZ (own_w hw 4 rfl)) (mvT hZ (own_w hw 12 rfl)) (by decide) (backOf (W := 0) (rm3 l Z a0 hw [] b1 y21 y8 (5 : Int32) f h49 n0 Zc51 hA hp57_hd) hZ (own_w hw 12 rfl) (own_w hw 4 rfl) (by decide) (by decide)) (g := (mkF m 254 #[lv x1, .second, iv x2, iv x3, iv x4, iv x5, iv y8, iv y21, rv b1, iv y185, iv y197, iv y209, iv y221, iv y233, iv y245, .unset, .unset, .unset, .unset, .unset, .unset, .unset, .unset, .unset] [(.int (5 : Int32)), (.int y8), (.int y21), (.ref b1)])) rfl (by rw [hml]; rfl) (argsL := [(.ref b1), (.int y21), (.int y8), (.int (5 : Int32))]) (rest := []) (lenOf own_pd3 rfl) rfl (by show 2 * 0 + _ ≤ _; exact Nat.le_of_eq rfl) (hb hby at_254) (fun _ _ => ⟨rfl, eh56, (by decide : 1 + 0 ≤ _), (by decide : 12 + 0 ≤ _)⟩)
  dsimp only [Pt.U, Pt.locs, Pt.cells, Pt.slots] at X57 l57 y57 z57 st57 hQ57
  replace y57 : kw57 = 1 := y57
  replace z57 : nw57 = 12 := z57
  rw [l57, y57, z57] at X57
  obtain ⟨rfl, Nq57, eh57⟩ := hQ57
  have N57 := Fr.app N56 Nq57
  obtain ⟨y257, hy257⟩ : ∃ z, z = (if (5 : Int32) < y8 then (if (f (y21 + (5 : Int32)).toNatClampNeg) < (48 : Int32) then (-1 : Int32) else (if (57 : Int32) < (f (y21 + (5 : Int32)).toNatClampNeg) then (-1 : Int32) else ((f (y21 + (5 : Int32)).toNatClampNeg) - (48 : Int32)))) else (-2 : Int32)) := ⟨_, rfl⟩
  have hp58_hd : (6 : Int32) < y8 → ¬ (y21 + (6 : Int32)) < 0 ∧ (y21 + (6 : Int32)) < (12 : Int32) := (fun q => own_dig a n 6 han y8 y21 hn ha (by decide) q)
  obtain ⟨_, _, ⟨T58, Lw58, kw58, nw58⟩, -, X58, ⟨Lc58, hQ58, l58, y58, z58⟩, st58⟩ := Jvm.LawKit.callS X57 hx (y := (⟨"com/example/planwright/planwright/io/DigitsReadPinLaw", "dig", "([BIII)I"⟩ : MethodName)) hown (mvT hZ (own_w hw 10 rfl)) (mvT hZ (own_w hw 11 rfl)) (mvT hZ (own_w hw 4 rfl)) (mvT hZ (own_w hw 12 rfl)) (by decide) (backOf (W := 0) (rm3 l Z a0 hw [] b1 y21 y8 (6 : Int32) f h49 n0 Zc51 hA hp58_hd) hZ (own_w hw 12 rfl) (own_w hw 4 rfl) (by decide) (by decide)) (g := (mkF m 267 #[lv x1, .second, iv x2, iv x3, iv x4, iv x5, iv y8, iv y21, rv b1, iv y185, iv y197, iv y209, iv y221, iv y233, iv y245, iv y257, .unset, .unset, .unset, .unset, .unset, .unset, .unset, .unset] [(.int (6 : Int32)), (.int y8), (.int y21), (.ref b1)])) rfl (by rw [hml]; rfl) (argsL := [(.ref b1), (.int y21), (.int y8), (.int (6 : Int32))]) (rest := []) (lenOf own_pd3 rfl) rfl (by show 2 * 0 + _ ≤ _; exact Nat.le_of_eq rfl) (hb hby at_267) (fun _ _ => ⟨rfl, eh57, (by decide : 1 + 0 ≤ _), (by decide : 12 + 0 ≤ _)⟩)
  dsimp only [Pt.U, Pt.locs, Pt.cells, Pt.slots] at X58 l58 y58 z58 st58 hQ58
  replace y58 : kw58 = 1 := y58
  replace z58 : nw58 = 12 := z58
  rw [l58, y58, z58] at X58
  obtain ⟨rfl, Nq58, eh58⟩ := hQ58
  have N58 := Fr.app N57 Nq58
  obtain ⟨y270, hy270⟩ : ∃ z, z = (if (6 : Int32) < y8 then (if (f (y21 + (6 : Int32)).toNatClampNeg) < (48 : Int32) then (-1 : Int32) else (if (57 : Int32) < (f (y21 + (6 : Int32)).toNatClampNeg) then (-1 : Int32) else ((f (y21 + (6 : Int32)).toNatClampNeg) - (48 : Int32)))) else (-2 : Int32)) := ⟨_, rfl⟩
  have hp59_hd : (7 : Int32) < y8 → ¬ (y21 + (7 : Int32)) < 0 ∧ (y21 + (7 : Int32)) < (12 : Int32) := (fun q => own_dig a n 7 han y8 y21 hn ha (by decide) q)
  obtain ⟨_, _, ⟨T59, Lw59, kw59, nw59⟩, -, X59, ⟨Lc59, hQ59, l59, y59, z59⟩, st59⟩ := Jvm.LawKit.callS X58 hx (y := (⟨"com/example/planwright/planwright/io/DigitsReadPinLaw", "dig", "([BIII)I"⟩ : MethodName)) hown (mvT hZ (own_w hw 10 rfl)) (mvT hZ (own_w hw 11 rfl)) (mvT hZ (own_w hw 4 rfl)) (mvT hZ (own_w hw 12 rfl)) (by decide) (backOf (W := 0) (rm3 l Z a0 hw [] b1 y21 y8 (7 : Int32) f h49 n0 Zc51 hA hp59_hd) hZ (own_w hw 12 rfl) (own_w hw 4 rfl) (by decide) (by decide)) (g := (mkF m 280 #[lv x1, .second, iv x2, iv x3, iv x4, iv x5, iv y8, iv y21, rv b1, iv y185, iv y197, iv y209, iv y221, iv y233, iv y245, iv y257, iv y270, .unset, .unset, .unset, .unset, .unset, .unset, .unset] [(.int (7 : Int32)), (.int y8), (.int y21), (.ref b1)])) rfl (by rw [hml]; rfl) (argsL := [(.ref b1), (.int y21), (.int y8), (.int (7 : Int32))]) (rest := []) (lenOf own_pd3 rfl) rfl (by show 2 * 0 + _ ≤ _; exact Nat.le_of_eq rfl) (hb hby at_280) (fun _ _ => ⟨rfl, eh58, (by decide : 1 + 0 ≤ _), (by decide : 12 + 0 ≤ _)⟩)
  dsimp only [Pt.U, Pt.locs, Pt.cells, Pt.slots] at X59 l59 y59 z59 st59 hQ59
  replace y59 : kw59 = 1 := y59
  replace z59 : nw59 = 12 := z59
  rw [l59, y59, z59] at X59
  obtain ⟨rfl, Nq59, eh59⟩ := hQ59
  have N59 := Fr.app N58 Nq59
  obtain ⟨y283, hy283⟩ : ∃ z, z = (if (7 : Int32) < y8 then (if (f (y21 + (7 : Int32)).toNatClampNeg) < (48 : Int32) then (-1 : Int32) else (if (57 : Int32) < (f (y21 + (7 : Int32)).toNatClampNeg) then (-1 : Int32) else ((f (y21 + (7 : Int32)).toNatClampNeg) - (48 : Int32)))) else (-2 : Int32)) := ⟨_, rfl⟩
  have hp60_hd : (8 : Int32) < y8 → ¬ (y21 + (8 : Int32)) < 0 ∧ (y21 + (8 : Int32)) < (12 : Int32) := (fun q => own_dig a n 8 han y8 y21 hn ha (by decide) q)
  obtain ⟨_, _, ⟨T60, Lw60, kw60, nw60⟩, -, X60, ⟨Lc60, hQ60, l60, y60, z60⟩, st60⟩ := Jvm.LawKit.callS X59 hx (y := (⟨"com/example/planwright/planwright/io/DigitsReadPinLaw", "dig", "([BIII)I"⟩ : MethodName)) hown (mvT hZ (own_w hw 10 rfl)) (mvT hZ (own_w hw 11 rfl)) (mvT hZ (own_w hw 4 rfl)) (mvT hZ (own_w hw 12 rfl)) (by decide) (backOf (W := 0) (rm3 l Z a0 hw [] b1 y21 y8 (8 : Int32) f h49 n0 Zc51 hA hp60_hd) hZ (own_w hw 12 rfl) (own_w hw 4 rfl) (by decide) (by decide)) (g := (mkF m 293 #[lv x1, .second, iv x2, iv x3, iv x4, iv x5, iv y8, iv y21, rv b1, iv y185, iv y197, iv y209, iv y221, iv y233, iv y245, iv y257, iv y270, iv y283, .unset, .unset, .unset, .unset, .unset, .unset] [(.int (8 : Int32)), (.int y8), (.int y21), (.ref b1)])) rfl (by rw [hml]; rfl) (argsL := [(.ref b1), (.int y21), (.int y8), (.int (8 : Int32))]) (rest := []) (lenOf own_pd3 rfl) rfl (by show 2 * 0 + _ ≤ _; exact Nat.le_of_eq rfl) (hb hby at_293) (fun _ _ => ⟨rfl, eh59, (by decide : 1 + 0 ≤ _), (by decide : 12 + 0 ≤ _)⟩)
  dsimp only [Pt.U, Pt.locs, Pt.cells, Pt.slots] at X60 l60 y60 z60 st60 hQ60
  replace y60 : kw60 = 1 := y60
  replace z60 : nw60 = 12 := z60
  rw [l60, y60, z60] at X60
  obtain ⟨rfl, Nq60, eh60⟩ := hQ60
  have N60 := Fr.app N59 Nq60
  obtain ⟨y296, hy296⟩ : ∃ z, z = (if (8 : Int32) < y8 then (if (f (y21 + (8 : Int32)).toNatClampNeg) < (48 : Int32) then (-1 : Int32) else (if (57 : Int32) < (f (y21 + (8 : Int32)).toNatClampNeg) then (-1 : Int32) else ((f (y21 + (8 : Int32)).toNatClampNeg) - (48 : Int32)))) else (-2 : Int32)) := ⟨_, rfl⟩
  have pre61 : ∀ tz, oS p e below T60 m 301 #[lv x1, .second, iv x2, iv x3, iv x4, iv x5, iv y8, iv y21, rv b1, iv y185, iv y197, iv y209, iv y221, iv y233, iv y245, iv y257, iv y270, iv y283, iv y296, .unset, .unset, .unset, .unset, .unset] [(.int (-1 : Int32)), (.int y197)] tz → oS p e below s₁ m 0 #[lv x1, .second, iv x2, iv x3, iv x4, iv x5, .unset, .unset, .unset, .unset, .unset, .unset, .unset, .unset, .unset, .unset, .unset, .unset, .unset, .unset, .unset, .unset, .unset, .unset] [] tz := fun tz kt => by
    show oS p e below s₁ m 0 #[lv x1, .second, iv x2, iv x3, iv x4, iv x5, .unset, .unset, .unset, .unset, .unset, .unset, .unset, .unset, .unset, .unset, .unset, .unset, .unset, .unset, .unset, .unset, .unset, .unset] [] _
    refine XS.iload X0.here hx rfl (hb hby at_0) rfl ?_
    refine X0.ldcInt hx hown (mvT hZ (own_w hw 0 rfl)) (g := (mkF m 2 #[lv x1, .second, iv x2, iv x3, iv x4, iv x5, .unset, .unset, .unset, .unset, .unset, .unset, .unset, .unset, .unset, .unset, .unset, .unset, .unset, .unset, .unset, .unset, .unset, .unset] [(.int x4)])) rfl (hb hby at_2) _ ?_
    refine XS.iand X0.here hx rfl (hb hby at_4) rfl ?_
    refine XS.bipush X0.here hx rfl (hb hby at_5) ?_
    show oS p e below s₁ m 7 #[lv x1, .second, iv x2, iv x3, iv x4, iv x5, .unset, .unset, .unset, .unset, .unset, .unset, .unset, .unset, .unset, .unset, .unset, .unset, .unset, .unset, .unset, .unset, .unset, .unset] [(.int (10 : Int32)), (.int (x4 &&& (2147483647 : Int32)))] _
    refine iremM X0 hx rfl (hb hby at_7) rfl (by decide) ?_
    refine XS.istore X0.here hx rfl (hb hby at_8) rfl (l' := #[lv x1, .second, iv x2, iv x3, iv x4, iv x5, iv y8, .unset, .unset, .unset, .unset, .unset, .unset, .unset, .unset, .unset, .unset, .unset, .unset, .unset, .unset, .unset, .unset, .unset]) (by rw [hy8]; rfl) ?_
    refine XS.iload X0.here hx rfl (hb hby at_10) rfl ?_
    refine X0.ldcInt hx hown (mvT hZ (own_w hw 0 rfl)) (g := (mkF m 12 #[lv x1, .second, iv x2, iv x3, iv x4, iv x5, iv y8, .unset, .unset, .unset, .unset, .unset, .unset, .unset, .unset, .unset, .unset, .unset, .unset, .unset, .unset, .unset, .unset, .unset] [(.int x5)])) rfl (hb hby at_12) _ ?_
    show oS p e below s₁ m 14 #[lv x1, .second, iv x2, iv x3, iv x4, iv x5, iv y8, .unset, .unset, .unset, .unset, .unset, .unset, .unset, .unset, .unset, .unset, .unset, .unset, .unset, .unset, .unset, .unset, .unset] [(.int (2147483647 : Int32)), (.int x5)] _
    refine XS.iand X0.here hx rfl (hb hby at_14) rfl ?_
    refine XS.bipush X0.here hx rfl (hb hby at_15) ?_
    refine XS.iload X0.here hx rfl (hb hby at_17) rfl ?_
    refine XS.isub X0.here hx rfl (hb hby at_19) rfl ?_
    show oS p e below s₁ m 20 #[lv x1, .second, iv x2, iv x3, iv x4, iv x5, iv y8, .unset, .unset, .unset, .unset, .unset, .unset, .unset, .unset, .unset, .unset, .unset, .unset, .unset, .unset, .unset, .unset, .unset] [(.int ((13 : Int32) - y8)), (.int (x5 &&& (2147483647 : Int32)))] _
    refine iremM X0 hx rfl (hb hby at_20) rfl (own_13z n hn9 y8 hn) ?_
    refine XS.istore X0.here hx rfl (hb hby at_21) rfl (l' := #[lv x1, .second, iv x2, iv x3, iv x4, iv x5, iv y8, iv y21, .unset, .unset, .unset, .unset, .unset, .unset, .unset, .unset, .unset, .unset, .unset, .unset, .unset, .unset, .unset, .unset]) (by rw [hy21]; rfl) ?_
    refine XS.bipush X0.here hx rfl (hb hby at_23) ?_
    show oS p e below s₁ m 25 #[lv x1, .second, iv x2, iv x3, iv x4, iv x5, iv y8, iv y21, .unset, .unset, .unset, .unset, .unset, .unset, .unset, .unset, .unset, .unset, .unset, .unset, .unset, .unset, .unset, .unset] [(.int (12 : Int32))] _
    refine st1 _ ?_
    refine XS.astore X1.here hx rfl (hb hby at_27) rfl rfl (l' := #[lv x1, .second, iv x2, iv x3, iv x4, iv x5, iv y8, iv y21, rv b1, .unset, .unset, .unset, .unset, .unset, .unset, .unset, .unset, .unset, .unset, .unset, .unset, .unset, .unset, .unset]) rfl ?_
    refine XS.aload X1.here hx rfl (hb hby at_29) rfl rfl ?_
    refine XS.iconst X1.here hx rfl (hb hby at_31) ?_
    show oS p e below T1 m 32 #[lv x1, .second, iv x2, iv x3, iv x4, iv x5, iv y8, iv y21, rv b1, .unset, .unset, .unset, .unset, .unset, .unset, .unset, .unset, .unset, .unset, .unset, .unset, .unset, .unset, .unset] [(.int (0 : Int32)), (.ref b1)] _
    refine XS.lloadN X1.here hx rfl (hb hby at_32) rfl ?_
    refine XS.iloadN X1.here hx rfl (hb hby at_33) rfl ?_
    refine XS.iloadN X1.here hx rfl (hb hby at_34) rfl ?_
    refine XS.iconst X1.here hx rfl (hb hby at_35) ?_
    show oS p e below T1 m 36 #[lv x1, .second, iv x2, iv x3, iv x4, iv x5, iv y8, iv y21, rv b1, .unset, .unset, .unset, .unset, .unset, .unset, .unset, .unset, .unset, .unset, .unset, .unset, .unset, .unset, .unset] [(.int (0 : Int32)), (.int x3), (.int x2), (.long x1), (.int (0 : Int32)), (.ref b1)] _
    refine st2 _ ?_
    show oS p e below T2 m 39 #[lv x1, .second, iv x2, iv x3, iv x4, iv x5, iv y8, iv y21, rv b1, .unset, .unset, .unset, .unset, .unset, .unset, .unset, .unset, .unset, .unset, .unset, .unset, .unset, .unset, .unset] [(.int r2), (.int (0 : Int32)), (.ref b1)] _
    refine st5 _ ?_
    refine XS.aload X5.here hx rfl (hb hby at_40) rfl rfl ?_
    refine XS.iconst X5.here hx rfl (hb hby at_42) ?_
    refine XS.lloadN X5.here hx rfl (hb hby at_43) rfl ?_
    show oS p e below T5 m 44 #[lv x1, .second, iv x2, iv x3, iv x4, iv x5, iv y8, iv y21, rv b1, .unset, .unset, .unset, .unset, .unset, .unset, .unset, .unset, .unset, .unset, .unset, .unset, .unset, .unset, .unset] [(.long x1), (.int (1 : Int32)), (.ref b1)] _
    refine XS.iloadN X5.here hx rfl (hb hby at_44) rfl ?_
    refine XS.iloadN X5.here hx rfl (hb hby at_45) rfl ?_
    refine XS.iconst X5.here hx rfl (hb hby at_46) ?_
    show oS p e below T5 m 47 #[lv x1, .second, iv x2, iv x3, iv x4, iv x5, iv y8, iv y21, rv b1, .unset, .unset, .unset, .unset, .unset, .unset, .unset, .unset, .unset, .unset, .unset, .unset, .unset, .unset, .unset] [(.int (1 : Int32)), (.int x3), (.int x2), (.long x1), (.int (1 : Int32)), (.ref b1)] _
    refine st6 _ ?_
    show oS p e below T6 m 50 #[lv x1, .second, iv x2, iv x3, iv x4, iv x5, iv y8, iv y21, rv b1, .unset, .unset, .unset, .unset, .unset, .unset, .unset, .unset, .unset, .unset, .unset, .unset, .unset, .unset, .unset] [(.int r6), (.int (1 : Int32)), (.ref b1)] _
    refine st9 _ ?_
    refine XS.aload X9.here hx rfl (hb hby at_51) rfl rfl ?_
    refine XS.iconst X9.here hx rfl (hb hby at_53) ?_
    refine XS.lloadN X9.here hx rfl (hb hby at_54) rfl ?_
    show oS p e below T9 m 55 #[lv x1, .second, iv x2, iv x3, iv x4, iv x5, iv y8, iv y21, rv b1, .unset, .unset, .unset, .unset, .unset, .unset, .unset, .unset, .unset, .unset, .unset, .unset, .unset, .unset, .unset] [(.long x1), (.int (2 : Int32)), (.ref b1)] _
    refine XS.iloadN X9.here hx rfl (hb hby at_55) rfl ?_
    refine XS.iloadN X9.here hx rfl (hb hby at_56) rfl ?_
    refine XS.iconst X9.here hx rfl (hb hby at_57) ?_
    show oS p e below T9 m 58 #[lv x1, .second, iv x2, iv x3, iv x4, iv x5, iv y8, iv y21, rv b1, .unset, .unset, .unset, .unset, .unset, .unset, .unset, .unset, .unset, .unset, .unset, .unset, .unset, .unset, .unset] [(.int (2 : Int32)), (.int x3), (.int x2), (.long x1), (.int (2 : Int32)), (.ref b1)] _
    refine st10 _ ?_
    show oS p e below T10 m 61 #[lv x1, .second, iv x2, iv x3, iv x4, iv x5, iv y8, iv y21, rv b1, .unset, .unset, .unset, .unset, .unset, .unset, .unset, .unset, .unset, .unset, .unset, .unset, .unset, .unset, .unset] [(.int r10), (.int (2 : Int32)), (.ref b1)] _
    refine st13 _ ?_
    refine XS.aload X13.here hx rfl (hb hby at_62) rfl rfl ?_
    refine XS.iconst X13.here hx rfl (hb hby at_64) ?_
    refine XS.lloadN X13.here hx rfl (hb hby at_65) rfl ?_
    show oS p e below T13 m 66 #[lv x1, .second, iv x2, iv x3, iv x4, iv x5, iv y8, iv y21, rv b1, .unset, .unset, .unset, .unset, .unset, .unset, .unset, .unset, .unset, .unset, .unset, .unset, .unset, .unset, .unset] [(.long x1), (.int (3 : Int32)), (.ref b1)] _
    refine XS.iloadN X13.here hx rfl (hb hby at_66) rfl ?_
    refine XS.iloadN X13.here hx rfl (hb hby at_67) rfl ?_
    refine XS.iconst X13.here hx rfl (hb hby at_68) ?_
    show oS p e below T13 m 69 #[lv x1, .second, iv x2, iv x3, iv x4, iv x5, iv y8, iv y21, rv b1, .unset, .unset, .unset, .unset, .unset, .unset, .unset, .unset, .unset, .unset, .unset, .unset, .unset, .unset, .unset] [(.int (3 : Int32)), (.int x3), (.int x2), (.long x1), (.int (3 : Int32)), (.ref b1)] _
    refine st14 _ ?_
    show oS p e below T14 m 72 #[lv x1, .second, iv x2, iv x3, iv x4, iv x5, iv y8, iv y21, rv b1, .unset, .unset, .unset, .unset, .unset, .unset, .unset, .unset, .unset, .unset, .unset, .unset, .unset, .unset, .unset] [(.int r14), (.int (3 : Int32)), (.ref b1)] _
    refine st17 _ ?_
    refine XS.aload X17.here hx rfl (hb hby at_73) rfl rfl ?_
    refine XS.iconst X17.here hx rfl (hb hby at_75) ?_
    refine XS.lloadN X17.here hx rfl (hb hby at_76) rfl ?_
    show oS p e below T17 m 77 #[lv x1, .second, iv x2, iv x3, iv x4, iv x5, iv y8, iv y21, rv b1, .unset, .unset, .unset, .unset, .unset, .unset, .unset, .unset, .unset, .unset, .unset, .unset, .unset, .unset, .unset] [(.long x1), (.int (4 : Int32)), (.ref b1)] _
    refine XS.iloadN X17.here hx rfl (hb hby at_77) rfl ?_
    refine XS.iloadN X17.here hx rfl (hb hby at_78) rfl ?_
    refine XS.iconst X17.here hx rfl (hb hby at_79) ?_
    show oS p e below T17 m 80 #[lv x1, .second, iv x2, iv x3, iv x4, iv x5, iv y8, iv y21, rv b1, .unset, .unset, .unset, .unset, .unset, .unset, .unset, .unset, .unset, .unset, .unset, .unset, .unset, .unset, .unset] [(.int (4 : Int32)), (.int x3), (.int x2), (.long x1), (.int (4 : Int32)), (.ref b1)] _
    refine st18 _ ?_
    show oS p e below T18 m 83 #[lv x1, .second, iv x2, iv x3, iv x4, iv x5, iv y8, iv y21, rv b1, .unset, .unset, .unset, .unset, .unset, .unset, .unset, .unset, .unset, .unset, .unset, .unset, .unset, .unset, .unset] [(.int r18), (.int (4 : Int32)), (.ref b1)] _
    refine st21 _ ?_
    refine XS.aload X21.here hx rfl (hb hby at_84) rfl rfl ?_
    refine XS.iconst X21.here hx rfl (hb hby at_86) ?_
    refine XS.lloadN X21.here hx rfl (hb hby at_87) rfl ?_
    show oS p e below T21 m 88 #[lv x1, .second, iv x2, iv x3, iv x4, iv x5, iv y8, iv y21, rv b1, .unset, .unset, .unset, .unset, .unset, .unset, .unset, .unset, .unset, .unset, .unset, .unset, .unset, .unset, .unset] [(.long x1), (.int (5 : Int32)), (.ref b1)] _
    refine XS.iloadN X21.here hx rfl (hb hby at_88) rfl ?_
    refine XS.iloadN X21.here hx rfl (hb hby at_89) rfl ?_
    refine XS.iconst X21.here hx rfl (hb hby at_90) ?_
    show oS p e below T21 m 91 #[lv x1, .second, iv x2, iv x3, iv x4, iv x5, iv y8, iv y21, rv b1, .unset, .unset, .unset, .unset, .unset, .unset, .unset, .unset, .unset, .unset, .unset, .unset, .unset, .unset, .unset] [(.int (5 : Int32)), (.int x3), (.int x2), (.long x1), (.int (5 : Int32)), (.ref b1)] _
    refine st22 _ ?_
    show oS p e below T22 m 94 #[lv x1, .second, iv x2, iv x3, iv x4, iv x5, iv y8, iv y21, rv b1, .unset, .unset, .unset, .unset, .unset, .unset, .unset, .unset, .unset, .unset, .unset, .unset, .unset, .unset, .unset] [(.int r22), (.int (5 : Int32)), (.ref b1)] _
    refine st25 _ ?_
    refine XS.aload X25.here hx rfl (hb hby at_95) rfl rfl ?_
    refine XS.bipush X25.here hx rfl (hb hby at_97) ?_
    refine XS.lloadN X25.here hx rfl (hb hby at_99) rfl ?_
    show oS p e below T25 m 100 #[lv x1, .second, iv x2, iv x3, iv x4, iv x5, iv y8, iv y21, rv b1, .unset, .unset, .unset, .unset, .unset, .unset, .unset, .unset, .unset, .unset, .unset, .unset, .unset, .unset, .unset] [(.long x1), (.int (6 : Int32)), (.ref b1)] _
    refine XS.iloadN X25.here hx rfl (hb hby at_100) rfl ?_
    refine XS.iloadN X25.here hx rfl (hb hby at_101) rfl ?_
    refine XS.bipush X25.here hx rfl (hb hby at_102) ?_
    show oS p e below T25 m 104 #[lv x1, .second, iv x2, iv x3, iv x4, iv x5, iv y8, iv y21, rv b1, .unset, .unset, .unset, .unset, .unset, .unset, .unset, .unset, .unset, .unset, .unset, .unset, .unset, .unset, .unset] [(.int (6 : Int32)), (.int x3), (.int x2), (.long x1), (.int (6 : Int32)), (.ref b1)] _
    refine st26 _ ?_
    show oS p e below T26 m 107 #[lv x1, .second, iv x2, iv x3, iv x4, iv x5, iv y8, iv y21, rv b1, .unset, .unset, .unset, .unset, .unset, .unset, .unset, .unset, .unset, .unset, .unset, .unset, .unset, .unset, .unset] [(.int r26), (.int (6 : Int32)), (.ref b1)] _
    refine st29 _ ?_
    refine XS.aload X29.here hx rfl (hb hby at_108) rfl rfl ?_
    refine XS.bipush X29.here hx rfl (hb hby at_110) ?_
    refine XS.lloadN X29.here hx rfl (hb hby at_112) rfl ?_
    show oS p e below T29 m 113 #[lv x1, .second, iv x2, iv x3, iv x4, iv x5, iv y8, iv y21, rv b1, .unset, .unset, .unset, .unset, .unset, .unset, .unset, .unset, .unset, .unset, .unset, .unset, .unset, .unset, .unset] [(.long x1), (.int (7 : Int32)), (.ref b1)] _
    refine XS.iloadN X29.here hx rfl (hb hby at_113) rfl ?_
    refine XS.iloadN X29.here hx rfl (hb hby at_114) rfl ?_
    refine XS.bipush X29.here hx rfl (hb hby at_115) ?_
    show oS p e below T29 m 117 #[lv x1, .second, iv x2, iv x3, iv x4, iv x5, iv y8, iv y21, rv b1, .unset, .unset, .unset, .unset, .unset, .unset, .unset, .unset, .unset, .unset, .unset, .unset, .unset, .unset, .unset] [(.int (7 : Int32)), (.int x3), (.int x2), (.long x1), (.int (7 : Int32)), (.ref b1)] _
    refine st30 _ ?_
    show oS p e below T30 m 120 #[lv x1, .second, iv x2, iv x3, iv x4, iv x5, iv y8, iv y21, rv b1, .unset, .unset, .unset, .unset, .unset, .unset, .unset, .unset, .unset, .unset, .unset, .unset, .unset, .unset, .unset] [(.int r30), (.int (7 : Int32)), (.ref b1)] _
    refine st33 _ ?_
    refine XS.aload X33.here hx rfl (hb hby at_121) rfl rfl ?_
    refine XS.bipush X33.here hx rfl (hb hby at_123) ?_
    refine XS.lloadN X33.here hx rfl (hb hby at_125) rfl ?_
    show oS p e below T33 m 126 #[lv x1, .second, iv x2, iv x3, iv x4, iv x5, iv y8, iv y21, rv b1, .unset, .unset, .unset, .unset, .unset, .unset, .unset, .unset, .unset, .unset, .unset, .unset, .unset, .unset, .unset] [(.long x1), (.int (8 : Int32)), (.ref b1)] _
    refine XS.iloadN X33.here hx rfl (hb hby at_126) rfl ?_
    refine XS.iloadN X33.here hx rfl (hb hby at_127) rfl ?_
    refine XS.bipush X33.here hx rfl (hb hby at_128) ?_
    show oS p e below T33 m 130 #[lv x1, .second, iv x2, iv x3, iv x4, iv x5, iv y8, iv y21, rv b1, .unset, .unset, .unset, .unset, .unset, .unset, .unset, .unset, .unset, .unset, .unset, .unset, .unset, .unset, .unset] [(.int (8 : Int32)), (.int x3), (.int x2), (.long x1), (.int (8 : Int32)), (.ref b1)] _
    refine st34 _ ?_
    show oS p e below T34 m 133 #[lv x1, .second, iv x2, iv x3, iv x4, iv x5, iv y8, iv y21, rv b1, .unset, .unset, .unset, .unset, .unset, .unset, .unset, .unset, .unset, .unset, .unset, .unset, .unset, .unset, .unset] [(.int r34), (.int (8 : Int32)), (.ref b1)] _
    refine st37 _ ?_
    refine XS.aload X37.here hx rfl (hb hby at_134) rfl rfl ?_
    refine XS.bipush X37.here hx rfl (hb hby at_136) ?_
    refine XS.lloadN X37.here hx rfl (hb hby at_138) rfl ?_
    show oS p e below T37 m 139 #[lv x1, .second, iv x2, iv x3, iv x4, iv x5, iv y8, iv y21, rv b1, .unset, .unset, .unset, .unset, .unset, .unset, .unset, .unset, .unset, .unset, .unset, .unset, .unset, .unset, .unset] [(.long x1), (.int (9 : Int32)), (.ref b1)] _
    refine XS.iloadN X37.here hx rfl (hb hby at_139) rfl ?_
    refine XS.iloadN X37.here hx rfl (hb hby at_140) rfl ?_
    refine XS.bipush X37.here hx rfl (hb hby at_141) ?_
    show oS p e below T37 m 143 #[lv x1, .second, iv x2, iv x3, iv x4, iv x5, iv y8, iv y21, rv b1, .unset, .unset, .unset, .unset, .unset, .unset, .unset, .unset, .unset, .unset, .unset, .unset, .unset, .unset, .unset] [(.int (9 : Int32)), (.int x3), (.int x2), (.long x1), (.int (9 : Int32)), (.ref b1)] _
    refine st38 _ ?_
    show oS p e below T38 m 146 #[lv x1, .second, iv x2, iv x3, iv x4, iv x5, iv y8, iv y21, rv b1, .unset, .unset, .unset, .unset, .unset, .unset, .unset, .unset, .unset, .unset, .unset, .unset, .unset, .unset, .unset] [(.int r38), (.int (9 : Int32)), (.ref b1)] _
    refine st41 _ ?_
    refine XS.aload X41.here hx rfl (hb hby at_147) rfl rfl ?_
    refine XS.bipush X41.here hx rfl (hb hby at_149) ?_
    refine XS.lloadN X41.here hx rfl (hb hby at_151) rfl ?_
    show oS p e below T41 m 152 #[lv x1, .second, iv x2, iv x3, iv x4, iv x5, iv y8, iv y21, rv b1, .unset, .unset, .unset, .unset, .unset, .unset, .unset, .unset, .unset, .unset, .unset, .unset, .unset, .unset, .unset] [(.long x1), (.int (10 : Int32)), (.ref b1)] _
    refine XS.iloadN X41.here hx rfl (hb hby at_152) rfl ?_
    refine XS.iloadN X41.here hx rfl (hb hby at_153) rfl ?_
    refine XS.bipush X41.here hx rfl (hb hby at_154) ?_
    show oS p e below T41 m 156 #[lv x1, .second, iv x2, iv x3, iv x4, iv x5, iv y8, iv y21, rv b1, .unset, .unset, .unset, .unset, .unset, .unset, .unset, .unset, .unset, .unset, .unset, .unset, .unset, .unset, .unset] [(.int (10 : Int32)), (.int x3), (.int x2), (.long x1), (.int (10 : Int32)), (.ref b1)] _
    refine st42 _ ?_
    show oS p e below T42 m 159 #[lv x1, .second, iv x2, iv x3, iv x4, iv x5, iv y8, iv y21, rv b1, .unset, .unset, .unset, .unset, .unset, .unset, .unset, .unset, .unset, .unset, .unset, .unset, .unset, .unset, .unset] [(.int r42), (.int (10 : Int32)), (.ref b1)] _
    refine st45 _ ?_
    refine XS.aload X45.here hx rfl (hb hby at_160) rfl rfl ?_
    refine XS.bipush X45.here hx rfl (hb hby at_162) ?_
    refine XS.lloadN X45.here hx rfl (hb hby at_164) rfl ?_
    show oS p e below T45 m 165 #[lv x1, .second, iv x2, iv x3, iv x4, iv x5, iv y8, iv y21, rv b1, .unset, .unset, .unset, .unset, .unset, .unset, .unset, .unset, .unset, .unset, .unset, .unset, .unset, .unset, .unset] [(.long x1), (.int (11 : Int32)), (.ref b1)] _
    refine XS.iloadN X45.here hx rfl (hb hby at_165) rfl ?_
    refine XS.iloadN X45.here hx rfl (hb hby at_166) rfl ?_
    refine XS.bipush X45.here hx rfl (hb hby at_167) ?_
    show oS p e below T45 m 169 #[lv x1, .second, iv x2, iv x3, iv x4, iv x5, iv y8, iv y21, rv b1, .unset, .unset, .unset, .unset, .unset, .unset, .unset, .unset, .unset, .unset, .unset, .unset, .unset, .unset, .unset] [(.int (11 : Int32)), (.int x3), (.int x2), (.long x1), (.int (11 : Int32)), (.ref b1)] _
    refine st46 _ ?_
    show oS p e below T46 m 172 #[lv x1, .second, iv x2, iv x3, iv x4, iv x5, iv y8, iv y21, rv b1, .unset, .unset, .unset, .unset, .unset, .unset, .unset, .unset, .unset, .unset, .unset, .unset, .unset, .unset, .unset] [(.int r46), (.int (11 : Int32)), (.ref b1)] _
    refine st49 _ ?_
    refine XS.aload X49.here hx rfl (hb hby at_173) rfl rfl ?_
    refine XS.iload X49.here hx rfl (hb hby at_175) rfl ?_
    refine XS.iload X49.here hx rfl (hb hby at_177) rfl ?_
    show oS p e below T49 m 179 #[lv x1, .second, iv x2, iv x3, iv x4, iv x5, iv y8, iv y21, rv b1, .unset, .unset, .unset, .unset, .unset, .unset, .unset, .unset, .unset, .unset, .unset, .unset, .unset, .unset, .unset] [(.int y21), (.int y21), (.ref b1)] _
    refine XS.iload X49.here hx rfl (hb hby at_179) rfl ?_
    refine XS.iadd X49.here hx rfl (hb hby at_181) rfl ?_
    show oS p e below T49 m 182 #[lv x1, .second, iv x2, iv x3, iv x4, iv x5, iv y8, iv y21, rv b1, .unset, .unset, .unset, .unset, .unset, .unset, .unset, .unset, .unset, .unset, .unset, .unset, .unset, .unset, .unset] [(.int (y21 + y8)), (.int y21), (.ref b1)] _
    refine st50 _ ?_
    refine XS.istore X50.here hx rfl (hb hby at_185) rfl (l' := #[lv x1, .second, iv x2, iv x3, iv x4, iv x5, iv y8, iv y21, rv b1, iv y185, .unset, .unset, .unset, .unset, .unset, .unset, .unset, .unset, .unset, .unset, .unset, .unset, .unset, .unset]) (by rw [hy185]; rfl) ?_
    refine XS.aload X50.here hx rfl (hb hby at_187) rfl rfl ?_
    refine XS.iload X50.here hx rfl (hb hby at_189) rfl ?_
    show oS p e below T50 m 191 #[lv x1, .second, iv x2, iv x3, iv x4, iv x5, iv y8, iv y21, rv b1, iv y185, .unset, .unset, .unset, .unset, .unset, .unset, .unset, .unset, .unset, .unset, .unset, .unset, .unset, .unset] [(.int y21), (.ref b1)] _
    refine XS.iload X50.here hx rfl (hb hby at_191) rfl ?_
    refine XS.iconst X50.here hx rfl (hb hby at_193) ?_
    show oS p e below T50 m 194 #[lv x1, .second, iv x2, iv x3, iv x4, iv x5, iv y8, iv y21, rv b1, iv y185, .unset, .unset, .unset, .unset, .unset, .unset, .unset, .unset, .unset, .unset, .unset, .unset, .unset, .unset] [(.int (0 : Int32)), (.int y8), (.int y21), (.ref b1)] _
    refine st52 _ ?_
    refine XS.istore X52.here hx rfl (hb hby at_197) rfl (l' := #[lv x1, .second, iv x2, iv x3, iv x4, iv x5, iv y8, iv y21, rv b1, iv y185, iv y197, .unset, .unset, .unset, .unset, .unset, .unset, .unset, .unset, .unset, .unset, .unset, .unset, .unset]) (by rw [hy197]; rfl) ?_
    refine XS.aload X52.here hx rfl (hb hby at_199) rfl rfl ?_
    refine XS.iload X52.here hx rfl (hb hby at_201) rfl ?_
    show oS p e below T52 m 203 #[lv x1, .second, iv x2, iv x3, iv x4, iv x5, iv y8, iv y21, rv b1, iv y185, iv y197, .unset, .unset, .unset, .unset, .unset, .unset, .unset, .unset, .unset, .unset, .unset, .unset, .unset] [(.int y21), (.ref b1)] _
    refine XS.iload X52.here hx rfl (hb hby at_203) rfl ?_
    refine XS.iconst X52.here hx rfl (hb hby at_205) ?_
    show oS p e below T52 m 206 #[lv x1, .second, iv x2, iv x3, iv x4, iv x5, iv y8, iv y21, rv b1, iv y185, iv y197, .unset, .unset, .unset, .unset, .unset, .unset, .unset, .unset, .unset, .unset, .unset, .unset, .unset] [(.int (1 : Int32)), (.int y8), (.int y21), (.ref b1)] _
    refine st53 _ ?_
    refine XS.istore X53.here hx rfl (hb hby at_209) rfl (l' := #[lv x1, .second, iv x2, iv x3, iv x4, iv x5, iv y8, iv y21, rv b1, iv y185, iv y197, iv y209, .unset, .unset, .unset, .unset, .unset, .unset, .unset, .unset, .unset, .unset, .unset, .unset]) (by rw [hy209]; rfl) ?_
    refine XS.aload X53.here hx rfl (hb hby at_211) rfl rfl ?_
    refine XS.iload X53.here hx rfl (hb hby at_213) rfl ?_
    show oS p e below T53 m 215 #[lv x1, .second, iv x2, iv x3, iv x4, iv x5, iv y8, iv y21, rv b1, iv y185, iv y197, iv y209, .unset, .unset, .unset, .unset, .unset, .unset, .unset, .unset, .unset, .unset, .unset, .unset] [(.int y21), (.ref b1)] _
    refine XS.iload X53.here hx rfl (hb hby at_215) rfl ?_
    refine XS.iconst X53.here hx rfl (hb hby at_217) ?_
    show oS p e below T53 m 218 #[lv x1, .second, iv x2, iv x3, iv x4, iv x5, iv y8, iv y21, rv b1, iv y185, iv y197, iv y209, .unset, .unset, .unset, .unset, .unset, .unset, .unset, .unset, .unset, .unset, .unset, .unset] [(.int (2 : Int32)), (.int y8), (.int y21), (.ref b1)] _
    refine st54 _ ?_
    refine XS.istore X54.here hx rfl (hb hby at_221) rfl (l' := #[lv x1, .second, iv x2, iv x3, iv x4, iv x5, iv y8, iv y21, rv b1, iv y185, iv y197, iv y209, iv y221, .unset, .unset, .unset, .unset, .unset, .unset, .unset, .unset, .unset, .unset, .unset]) (by rw [hy221]; rfl) ?_
    refine XS.aload X54.here hx rfl (hb hby at_223) rfl rfl ?_
    refine XS.iload X54.here hx rfl (hb hby at_225) rfl ?_
    show oS p e below T54 m 227 #[lv x1, .second, iv x2, iv x3, iv x4, iv x5, iv y8, iv y21, rv b1, iv y185, iv y197, iv y209, iv y221, .unset, .unset, .unset, .unset, .unset, .unset, .unset, .unset, .unset, .unset, .unset] [(.int y21), (.ref b1)] _
    refine XS.iload X54.here hx rfl (hb hby at_227) rfl ?_
    refine XS.iconst X54.here hx rfl (hb hby at_229) ?_
    show oS p e below T54 m 230 #[lv x1, .second, iv x2, iv x3, iv x4, iv x5, iv y8, iv y21, rv b1, iv y185, iv y197, iv y209, iv y221, .unset, .unset, .unset, .unset, .unset, .unset, .unset, .unset, .unset, .unset, .unset] [(.int (3 : Int32)), (.int y8), (.int y21), (.ref b1)] _
    refine st55 _ ?_
    refine XS.istore X55.here hx rfl (hb hby at_233) rfl (l' := #[lv x1, .second, iv x2, iv x3, iv x4, iv x5, iv y8, iv y21, rv b1, iv y185, iv y197, iv y209, iv y221, iv y233, .unset, .unset, .unset, .unset, .unset, .unset, .unset, .unset, .unset, .unset]) (by rw [hy233]; rfl) ?_
    refine XS.aload X55.here hx rfl (hb hby at_235) rfl rfl ?_
    refine XS.iload X55.here hx rfl (hb hby at_237) rfl ?_
    show oS p e below T55 m 239 #[lv x1, .second, iv x2, iv x3, iv x4, iv x5, iv y8, iv y21, rv b1, iv y185, iv y197, iv y209, iv y221, iv y233, .unset, .unset, .unset, .unset, .unset, .unset, .unset, .unset, .unset, .unset] [(.int y21), (.ref b1)] _
    refine XS.iload X55.here hx rfl (hb hby at_239) rfl ?_
    refine XS.iconst X55.here hx rfl (hb hby at_241) ?_
    show oS p e below T55 m 242 #[lv x1, .second, iv x2, iv x3, iv x4, iv x5, iv y8, iv y21, rv b1, iv y185, iv y197, iv y209, iv y221, iv y233, .unset, .unset, .unset, .unset, .unset, .unset, .unset, .unset, .unset, .unset] [(.int (4 : Int32)), (.int y8), (.int y21), (.ref b1)] _
    refine st56 _ ?_
    refine XS.istore X56.here hx rfl (hb hby at_245) rfl (l' := #[lv x1, .second, iv x2, iv x3, iv x4, iv x5, iv y8, iv y21, rv b1, iv y185, iv y197, iv y209, iv y221, iv y233, iv y245, .unset, .unset, .unset, .unset, .unset, .unset, .unset, .unset, .unset]) (by rw [hy245]; rfl) ?_
    refine XS.aload X56.here hx rfl (hb hby at_247) rfl rfl ?_
    refine XS.iload X56.here hx rfl (hb hby at_249) rfl ?_
    show oS p e below T56 m 251 #[lv x1, .second, iv x2, iv x3, iv x4, iv x5, iv y8, iv y21, rv b1, iv y185, iv y197, iv y209, iv y221, iv y233, iv y245, .unset, .unset, .unset, .unset, .unset, .unset, .unset, .unset, .unset] [(.int y21), (.ref b1)] _
    refine XS.iload X56.here hx rfl (hb hby at_251) rfl ?_
    refine XS.iconst X56.here hx rfl (hb hby at_253) ?_
    show oS p e below T56 m 254 #[lv x1, .second, iv x2, iv x3, iv x4, iv x5, iv y8, iv y21, rv b1, iv y185, iv y197, iv y209, iv y221, iv y233, iv y245, .unset, .unset, .unset, .unset, .unset, .unset, .unset, .unset, .unset] [(.int (5 : Int32)), (.int y8), (.int y21), (.ref b1)] _
    refine st57 _ ?_
    refine XS.istore X57.here hx rfl (hb hby at_257) rfl (l' := #[lv x1, .second, iv x2, iv x3, iv x4, iv x5, iv y8, iv y21, rv b1, iv y185, iv y197, iv y209, iv y221, iv y233, iv y245, iv y257, .unset, .unset, .unset, .unset, .unset, .unset, .unset, .unset]) (by rw [hy257]; rfl) ?_
    refine XS.aload X57.here hx rfl (hb hby at_259) rfl rfl ?_
    refine XS.iload X57.here hx rfl (hb hby at_261) rfl ?_
    show oS p e below T57 m 263 #[lv x1, .second, iv x2, iv x3, iv x4, iv x5, iv y8, iv y21, rv b1, iv y185, iv y197, iv y209, iv y221, iv y233, iv y245, iv y257, .unset, .unset, .unset, .unset, .unset, .unset, .unset, .unset] [(.int y21), (.ref b1)] _
    refine XS.iload X57.here hx rfl (hb hby at_263) rfl ?_
    refine XS.bipush X57.here hx rfl (hb hby at_265) ?_
    show oS p e below T57 m 267 #[lv x1, .second, iv x2, iv x3, iv x4, iv x5, iv y8, iv y21, rv b1, iv y185, iv y197, iv y209, iv y221, iv y233, iv y245, iv y257, .unset, .unset, .unset, .unset, .unset, .unset, .unset, .unset] [(.int (6 : Int32)), (.int y8), (.int y21), (.ref b1)] _
    refine st58 _ ?_
    refine XS.istore X58.here hx rfl (hb hby at_270) rfl (l' := #[lv x1, .second, iv x2, iv x3, iv x4, iv x5, iv y8, iv y21, rv b1, iv y185, iv y197, iv y209, iv y221, iv y233, iv y245, iv y257, iv y270, .unset, .unset, .unset, .unset, .unset, .unset, .unset]) (by rw [hy270]; rfl) ?_
    refine XS.aload X58.here hx rfl (hb hby at_272) rfl rfl ?_
    refine XS.iload X58.here hx rfl (hb hby at_274) rfl ?_
    show oS p e below T58 m 276 #[lv x1, .second, iv x2, iv x3, iv x4, iv x5, iv y8, iv y21, rv b1, iv y185, iv y197, iv y209, iv y221, iv y233, iv y245, iv y257, iv y270, .unset, .unset, .unset, .unset, .unset, .unset, .unset] [(.int y21), (.ref b1)] _
    refine XS.iload X58.here hx rfl (hb hby at_276) rfl ?_
    refine XS.bipush X58.here hx rfl (hb hby at_278) ?_
    show oS p e below T58 m 280 #[lv x1, .second, iv x2, iv x3, iv x4, iv x5, iv y8, iv y21, rv b1, iv y185, iv y197, iv y209, iv y221, iv y233, iv y245, iv y257, iv y270, .unset, .unset, .unset, .unset, .unset, .unset, .unset] [(.int (7 : Int32)), (.int y8), (.int y21), (.ref b1)] _
    refine st59 _ ?_
    refine XS.istore X59.here hx rfl (hb hby at_283) rfl (l' := #[lv x1, .second, iv x2, iv x3, iv x4, iv x5, iv y8, iv y21, rv b1, iv y185, iv y197, iv y209, iv y221, iv y233, iv y245, iv y257, iv y270, iv y283, .unset, .unset, .unset, .unset, .unset, .unset]) (by rw [hy283]; rfl) ?_
    refine XS.aload X59.here hx rfl (hb hby at_285) rfl rfl ?_
    refine XS.iload X59.here hx rfl (hb hby at_287) rfl ?_
    show oS p e below T59 m 289 #[lv x1, .second, iv x2, iv x3, iv x4, iv x5, iv y8, iv y21, rv b1, iv y185, iv y197, iv y209, iv y221, iv y233, iv y245, iv y257, iv y270, iv y283, .unset, .unset, .unset, .unset, .unset, .unset] [(.int y21), (.ref b1)] _
    refine XS.iload X59.here hx rfl (hb hby at_289) rfl ?_
    refine XS.bipush X59.here hx rfl (hb hby at_291) ?_
    show oS p e below T59 m 293 #[lv x1, .second, iv x2, iv x3, iv x4, iv x5, iv y8, iv y21, rv b1, iv y185, iv y197, iv y209, iv y221, iv y233, iv y245, iv y257, iv y270, iv y283, .unset, .unset, .unset, .unset, .unset, .unset] [(.int (8 : Int32)), (.int y8), (.int y21), (.ref b1)] _
    refine st60 _ ?_
    refine XS.istore X60.here hx rfl (hb hby at_296) rfl (l' := #[lv x1, .second, iv x2, iv x3, iv x4, iv x5, iv y8, iv y21, rv b1, iv y185, iv y197, iv y209, iv y221, iv y233, iv y245, iv y257, iv y270, iv y283, iv y296, .unset, .unset, .unset, .unset, .unset]) (by rw [hy296]; rfl) ?_
    refine XS.iload X60.here hx rfl (hb hby at_298) rfl ?_
    refine XS.iconst X60.here hx rfl (hb hby at_300) ?_
    exact kt
  obtain ⟨v357, T80, Lj80, jv80, N80, X80, e80, st80⟩ := own_join (α := Int32) X60 N60 eh60 (mkF m 301 #[lv x1, .second, iv x2, iv x3, iv x4, iv x5, iv y8, iv y21, rv b1, iv y185, iv y197, iv y209, iv y221, iv y233, iv y245, iv y257, iv y270, iv y283, iv y296, .unset, .unset, .unset, .unset, .unset] [(.int (-1 : Int32)), (.int y197)]) (fun v => (mkF m 357 #[lv x1, .second, iv x2, iv x3, iv x4, iv x5, iv y8, iv y21, rv b1, iv y185, iv y197, iv y209, iv y221, iv y233, iv y245, iv y257, iv y270, iv y283, iv y296, .unset, .unset, .unset, .unset, .unset] [(.int v)])) (fun v => v = (if y197 = (-1 : Int32) then (1 : Int32) else (if y209 = (-1 : Int32) then (1 : Int32) else (if y221 = (-1 : Int32) then (1 : Int32) else (if y233 = (-1 : Int32) then (1 : Int32) else (if y245 = (-1 : Int32) then (1 : Int32) else (if y257 = (-1 : Int32) then (1 : Int32) else (if y270 = (-1 : Int32) then (1 : Int32) else (if y283 = (-1 : Int32) then (1 : Int32) else (if y296 = (-1 : Int32) then (1 : Int32) else (0 : Int32))))))))))) (by
      by_cases hc301 : y197 = (-1 : Int32)
      · have pre62 : ∀ tz, oS p e below T60 m 357 #[lv x1, .second, iv x2, iv x3, iv x4, iv x5, iv y8, iv y21, rv b1, iv y185, iv y197, iv y209, iv y221, iv y233, iv y245, iv y257, iv y270, iv y283, iv y296, .unset, .unset, .unset, .unset, .unset] [(.int (1 : Int32))] tz → oS p e below T60 m 301 #[lv x1, .second, iv x2, iv x3, iv x4, iv x5, iv y8, iv y21, rv b1, iv y185, iv y197, iv y209, iv y221, iv y233, iv y245, iv y257, iv y270, iv y283, iv y296, .unset, .unset, .unset, .unset, .unset] [(.int (-1 : Int32)), (.int y197)] tz := fun tz kt => by
          show oS p e below T60 m 301 #[lv x1, .second, iv x2, iv x3, iv x4, iv x5, iv y8, iv y21, rv b1, iv y185, iv y197, iv y209, iv y221, iv y233, iv y245, iv y257, iv y270, iv y283, iv y296, .unset, .unset, .unset, .unset, .unset] [(.int (-1 : Int32)), (.int y197)] _
          refine XS.icmpYes X60.here hx rfl (pc0 := 301) (pc' := 352) rfl (hb hby at_301) rfl (teq hc301).1 (by decide) (by decide) ?_
          refine XS.iconst X60.here hx rfl (hb hby at_352) ?_
          refine XS.goto X60.here hx rfl (pc0 := 353) (pc' := 357) rfl (hb hby at_353) (by decide) (by decide) ?_
          exact kt
        exact ⟨(1 : Int32), T60, _, (by rw [if_pos hc301]), N60, X60, eh60, fun tz kt => (pre62 _ kt)⟩
      · have pre63 : ∀ tz, oS p e below T60 m 307 #[lv x1, .second, iv x2, iv x3, iv x4, iv x5, iv y8, iv y21, rv b1, iv y185, iv y197, iv y209, iv y221, iv y233, iv y245, iv y257, iv y270, iv y283, iv y296, .unset, .unset, .unset, .unset, .unset] [(.int (-1 : Int32)), (.int y209)] tz → oS p e below T60 m 301 #[lv x1, .second, iv x2, iv x3, iv x4, iv x5, iv y8, iv y21, rv b1, iv y185, iv y197, iv y209, iv y221, iv y233, iv y245, iv y257, iv y270, iv y283, iv y296, .unset, .unset, .unset, .unset, .unset] [(.int (-1 : Int32)), (.int y197)] tz := fun tz kt => by
          show oS p e below T60 m 301 #[lv x1, .second, iv x2, iv x3, iv x4, iv x5, iv y8, iv y21, rv b1, iv y185, iv y197, iv y209, iv y221, iv y233, iv y245, iv y257, iv y270, iv y283, iv y296, .unset, .unset, .unset, .unset, .unset] [(.int (-1 : Int32)), (.int y197)] _
          refine XS.icmpNo X60.here hx rfl (hb hby at_301) rfl (feq hc301).1 ?_
          refine XS.iload X60.here hx rfl (hb hby at_304) rfl ?_
          refine XS.iconst X60.here hx rfl (hb hby at_306) ?_
          exact kt
        by_cases hc307 : y209 = (-1 : Int32)
        · have pre64 : ∀ tz, oS p e below T60 m 357 #[lv x1, .second, iv x2, iv x3, iv x4, iv x5, iv y8, iv y21, rv b1, iv y185, iv y197, iv y209, iv y221, iv y233, iv y245, iv y257, iv y270, iv y283, iv y296, .unset, .unset, .unset, .unset, .unset] [(.int (1 : Int32))] tz → oS p e below T60 m 307 #[lv x1, .second, iv x2, iv x3, iv x4, iv x5, iv y8, iv y21, rv b1, iv y185, iv y197, iv y209, iv y221, iv y233, iv y245, iv y257, iv y270, iv y283, iv y296, .unset, .unset, .unset, .unset, .unset] [(.int (-1 : Int32)), (.int y209)] tz := fun tz kt => by
            show oS p e below T60 m 307 #[lv x1, .second, iv x2, iv x3, iv x4, iv x5, iv y8, iv y21, rv b1, iv y185, iv y197, iv y209, iv y221, iv y233, iv y245, iv y257, iv y270, iv y283, iv y296, .unset, .unset, .unset, .unset, .unset] [(.int (-1 : Int32)), (.int y209)] _
            refine XS.icmpYes X60.here hx rfl (pc0 := 307) (pc' := 352) rfl (hb hby at_307) rfl (teq hc307).1 (by decide) (by decide) ?_
            refine XS.iconst X60.here hx rfl (hb hby at_352) ?_
            refine XS.goto X60.here hx rfl (pc0 := 353) (pc' := 357) rfl (hb hby at_353) (by decide) (by decide) ?_
            exact kt
          exact ⟨(1 : Int32), T60, _, (by rw [if_neg hc301, if_pos hc307]), N60, X60, eh60, fun tz kt => (pre63 _ (pre64 _ kt))⟩
        · have pre65 : ∀ tz, oS p e below T60 m 313 #[lv x1, .second, iv x2, iv x3, iv x4, iv x5, iv y8, iv y21, rv b1, iv y185, iv y197, iv y209, iv y221, iv y233, iv y245, iv y257, iv y270, iv y283, iv y296, .unset, .unset, .unset, .unset, .unset] [(.int (-1 : Int32)), (.int y221)] tz → oS p e below T60 m 307 #[lv x1, .second, iv x2, iv x3, iv x4, iv x5, iv y8, iv y21, rv b1, iv y185, iv y197, iv y209, iv y221, iv y233, iv y245, iv y257, iv y270, iv y283, iv y296, .unset, .unset, .unset, .unset, .unset] [(.int (-1 : Int32)), (.int y209)] tz := fun tz kt => by
            show oS p e below T60 m 307 #[lv x1, .second, iv x2, iv x3, iv x4, iv x5, iv y8, iv y21, rv b1, iv y185, iv y197, iv y209, iv y221, iv y233, iv y245, iv y257, iv y270, iv y283, iv y296, .unset, .unset, .unset, .unset, .unset] [(.int (-1 : Int32)), (.int y209)] _
            refine XS.icmpNo X60.here hx rfl (hb hby at_307) rfl (feq hc307).1 ?_
            refine XS.iload X60.here hx rfl (hb hby at_310) rfl ?_
            refine XS.iconst X60.here hx rfl (hb hby at_312) ?_
            exact kt
          by_cases hc313 : y221 = (-1 : Int32)
          · have pre66 : ∀ tz, oS p e below T60 m 357 #[lv x1, .second, iv x2, iv x3, iv x4, iv x5, iv y8, iv y21, rv b1, iv y185, iv y197, iv y209, iv y221, iv y233, iv y245, iv y257, iv y270, iv y283, iv y296, .unset, .unset, .unset, .unset, .unset] [(.int (1 : Int32))] tz → oS p e below T60 m 313 #[lv x1, .second, iv x2, iv x3, iv x4, iv x5, iv y8, iv y21, rv b1, iv y185, iv y197, iv y209, iv y221, iv y233, iv y245, iv y257, iv y270, iv y283, iv y296, .unset, .unset, .unset, .unset, .unset] [(.int (-1 : Int32)), (.int y221)] tz := fun tz kt => by
              show oS p e below T60 m 313 #[lv x1, .second, iv x2, iv x3, iv x4, iv x5, iv y8, iv y21, rv b1, iv y185, iv y197, iv y209, iv y221, iv y233, iv y245, iv y257, iv y270, iv y283, iv y296, .unset, .unset, .unset, .unset, .unset] [(.int (-1 : Int32)), (.int y221)] _
              refine XS.icmpYes X60.here hx rfl (pc0 := 313) (pc' := 352) rfl (hb hby at_313) rfl (teq hc313).1 (by decide) (by decide) ?_
              refine XS.iconst X60.here hx rfl (hb hby at_352) ?_
              refine XS.goto X60.here hx rfl (pc0 := 353) (pc' := 357) rfl (hb hby at_353) (by decide) (by decide) ?_
              exact kt
            exact ⟨(1 : Int32), T60, _, (by rw [if_neg hc301, if_neg hc307, if_pos hc313]), N60, X60, eh60, fun tz kt => (pre63 _ (pre65 _ (pre66 _ kt)))⟩
          · have pre67 : ∀ tz, oS p e below T60 m 319 #[lv x1, .second, iv x2, iv x3, iv x4, iv x5, iv y8, iv y21, rv b1, iv y185, iv y197, iv y209, iv y221, iv y233, iv y245, iv y257, iv y270, iv y283, iv y296, .unset, .unset, .unset, .unset, .unset] [(.int (-1 : Int32)), (.int y233)] tz → oS p e below T60 m 313 #[lv x1, .second, iv x2, iv x3, iv x4, iv x5, iv y8, iv y21, rv b1, iv y185, iv y197, iv y209, iv y221, iv y233, iv y245, iv y257, iv y270, iv y283, iv y296, .unset, .unset, .unset, .unset, .unset] [(.int (-1 : Int32)), (.int y221)] tz := fun tz kt => by
              show oS p e below T60 m 313 #[lv x1, .second, iv x2, iv x3, iv x4, iv x5, iv y8, iv y21, rv b1, iv y185, iv y197, iv y209, iv y221, iv y233, iv y245, iv y257, iv y270, iv y283, iv y296, .unset, .unset, .unset, .unset, .unset] [(.int (-1 : Int32)), (.int y221)] _
              refine XS.icmpNo X60.here hx rfl (hb hby at_313) rfl (feq hc313).1 ?_
              refine XS.iload X60.here hx rfl (hb hby at_316) rfl ?_
              refine XS.iconst X60.here hx rfl (hb hby at_318) ?_
              exact kt
            by_cases hc319 : y233 = (-1 : Int32)
            · have pre68 : ∀ tz, oS p e below T60 m 357 #[lv x1, .second, iv x2, iv x3, iv x4, iv x5, iv y8, iv y21, rv b1, iv y185, iv y197, iv y209, iv y221, iv y233, iv y245, iv y257, iv y270, iv y283, iv y296, .unset, .unset, .unset, .unset, .unset] [(.int (1 : Int32))] tz → oS p e below T60 m 319 #[lv x1, .second, iv x2, iv x3, iv x4, iv x5, iv y8, iv y21, rv b1, iv y185, iv y197, iv y209, iv y221, iv y233, iv y245, iv y257, iv y270, iv y283, iv y296, .unset, .unset, .unset, .unset, .unset] [(.int (-1 : Int32)), (.int y233)] tz := fun tz kt => by
                show oS p e below T60 m 319 #[lv x1, .second, iv x2, iv x3, iv x4, iv x5, iv y8, iv y21, rv b1, iv y185, iv y197, iv y209, iv y221, iv y233, iv y245, iv y257, iv y270, iv y283, iv y296, .unset, .unset, .unset, .unset, .unset] [(.int (-1 : Int32)), (.int y233)] _
                refine XS.icmpYes X60.here hx rfl (pc0 := 319) (pc' := 352) rfl (hb hby at_319) rfl (teq hc319).1 (by decide) (by decide) ?_
                refine XS.iconst X60.here hx rfl (hb hby at_352) ?_
                refine XS.goto X60.here hx rfl (pc0 := 353) (pc' := 357) rfl (hb hby at_353) (by decide) (by decide) ?_
                exact kt
              exact ⟨(1 : Int32), T60, _, (by rw [if_neg hc301, if_neg hc307, if_neg hc313, if_pos hc319]), N60, X60, eh60, fun tz kt => (pre63 _ (pre65 _ (pre67 _ (pre68 _ kt))))⟩
            · have pre69 : ∀ tz, oS p e below T60 m 325 #[lv x1, .second, iv x2, iv x3, iv x4, iv x5, iv y8, iv y21, rv b1, iv y185, iv y197, iv y209, iv y221, iv y233, iv y245, iv y257, iv y270, iv y283, iv y296, .unset, .unset, .unset, .unset, .unset] [(.int (-1 : Int32)), (.int y245)] tz → oS p e below T60 m 319 #[lv x1, .second, iv x2, iv x3, iv x4, iv x5, iv y8, iv y21, rv b1, iv y185, iv y197, iv y209, iv y221, iv y233, iv y245, iv y257, iv y270, iv y283, iv y296, .unset, .unset, .unset, .unset, .unset] [(.int (-1 : Int32)), (.int y233)] tz := fun tz kt => by
                show oS p e below T60 m 319 #[lv x1, .second, iv x2, iv x3, iv x4, iv x5, iv y8, iv y21, rv b1, iv y185, iv y197, iv y209, iv y221, iv y233, iv y245, iv y257, iv y270, iv y283, iv y296, .unset, .unset, .unset, .unset, .unset] [(.int (-1 : Int32)), (.int y233)] _
                refine XS.icmpNo X60.here hx rfl (hb hby at_319) rfl (feq hc319).1 ?_
                refine XS.iload X60.here hx rfl (hb hby at_322) rfl ?_
                refine XS.iconst X60.here hx rfl (hb hby at_324) ?_
                exact kt
              by_cases hc325 : y245 = (-1 : Int32)
              · have pre70 : ∀ tz, oS p e below T60 m 357 #[lv x1, .second, iv x2, iv x3, iv x4, iv x5, iv y8, iv y21, rv b1, iv y185, iv y197, iv y209, iv y221, iv y233, iv y245, iv y257, iv y270, iv y283, iv y296, .unset, .unset, .unset, .unset, .unset] [(.int (1 : Int32))] tz → oS p e below T60 m 325 #[lv x1, .second, iv x2, iv x3, iv x4, iv x5, iv y8, iv y21, rv b1, iv y185, iv y197, iv y209, iv y221, iv y233, iv y245, iv y257, iv y270, iv y283, iv y296, .unset, .unset, .unset, .unset, .unset] [(.int (-1 : Int32)), (.int y245)] tz := fun tz kt => by
                  show oS p e below T60 m 325 #[lv x1, .second, iv x2, iv x3, iv x4, iv x5, iv y8, iv y21, rv b1, iv y185, iv y197, iv y209, iv y221, iv y233, iv y245, iv y257, iv y270, iv y283, iv y296, .unset, .unset, .unset, .unset, .unset] [(.int (-1 : Int32)), (.int y245)] _
                  refine XS.icmpYes X60.here hx rfl (pc0 := 325) (pc' := 352) rfl (hb hby at_325) rfl (teq hc325).1 (by decide) (by decide) ?_
                  refine XS.iconst X60.here hx rfl (hb hby at_352) ?_
                  refine XS.goto X60.here hx rfl (pc0 := 353) (pc' := 357) rfl (hb hby at_353) (by decide) (by decide) ?_
                  exact kt
                exact ⟨(1 : Int32), T60, _, (by rw [if_neg hc301, if_neg hc307, if_neg hc313, if_neg hc319, if_pos hc325]), N60, X60, eh60, fun tz kt => (pre63 _ (pre65 _ (pre67 _ (pre69 _ (pre70 _ kt)))))⟩
              · have pre71 : ∀ tz, oS p e below T60 m 331 #[lv x1, .second, iv x2, iv x3, iv x4, iv x5, iv y8, iv y21, rv b1, iv y185, iv y197, iv y209, iv y221, iv y233, iv y245, iv y257, iv y270, iv y283, iv y296, .unset, .unset, .unset, .unset, .unset] [(.int (-1 : Int32)), (.int y257)] tz → oS p e below T60 m 325 #[lv x1, .second, iv x2, iv x3, iv x4, iv x5, iv y8, iv y21, rv b1, iv y185, iv y197, iv y209, iv y221, iv y233, iv y245, iv y257, iv y270, iv y283, iv y296, .unset, .unset, .unset, .unset, .unset] [(.int (-1 : Int32)), (.int y245)] tz := fun tz kt => by
                  show oS p e below T60 m 325 #[lv x1, .second, iv x2, iv x3, iv x4, iv x5, iv y8, iv y21, rv b1, iv y185, iv y197, iv y209, iv y221, iv y233, iv y245, iv y257, iv y270, iv y283, iv y296, .unset, .unset, .unset, .unset, .unset] [(.int (-1 : Int32)), (.int y245)] _
                  refine XS.icmpNo X60.here hx rfl (hb hby at_325) rfl (feq hc325).1 ?_
                  refine XS.iload X60.here hx rfl (hb hby at_328) rfl ?_
                  refine XS.iconst X60.here hx rfl (hb hby at_330) ?_
                  exact kt
                by_cases hc331 : y257 = (-1 : Int32)
                · have pre72 : ∀ tz, oS p e below T60 m 357 #[lv x1, .second, iv x2, iv x3, iv x4, iv x5, iv y8, iv y21, rv b1, iv y185, iv y197, iv y209, iv y221, iv y233, iv y245, iv y257, iv y270, iv y283, iv y296, .unset, .unset, .unset, .unset, .unset] [(.int (1 : Int32))] tz → oS p e below T60 m 331 #[lv x1, .second, iv x2, iv x3, iv x4, iv x5, iv y8, iv y21, rv b1, iv y185, iv y197, iv y209, iv y221, iv y233, iv y245, iv y257, iv y270, iv y283, iv y296, .unset, .unset, .unset, .unset, .unset] [(.int (-1 : Int32)), (.int y257)] tz := fun tz kt => by
                    show oS p e below T60 m 331 #[lv x1, .second, iv x2, iv x3, iv x4, iv x5, iv y8, iv y21, rv b1, iv y185, iv y197, iv y209, iv y221, iv y233, iv y245, iv y257, iv y270, iv y283, iv y296, .unset, .unset, .unset, .unset, .unset] [(.int (-1 : Int32)), (.int y257)] _
                    refine XS.icmpYes X60.here hx rfl (pc0 := 331) (pc' := 352) rfl (hb hby at_331) rfl (teq hc331).1 (by decide) (by decide) ?_
                    refine XS.iconst X60.here hx rfl (hb hby at_352) ?_
                    refine XS.goto X60.here hx rfl (pc0 := 353) (pc' := 357) rfl (hb hby at_353) (by decide) (by decide) ?_
                    exact kt
                  exact ⟨(1 : Int32), T60, _, (by rw [if_neg hc301, if_neg hc307, if_neg hc313, if_neg hc319, if_neg hc325, if_pos hc331]), N60, X60, eh60, fun tz kt => (pre63 _ (pre65 _ (pre67 _ (pre69 _ (pre71 _ (pre72 _ kt))))))⟩
                · have pre73 : ∀ tz, oS p e below T60 m 337 #[lv x1, .second, iv x2, iv x3, iv x4, iv x5, iv y8, iv y21, rv b1, iv y185, iv y197, iv y209, iv y221, iv y233, iv y245, iv y257, iv y270, iv y283, iv y296, .unset, .unset, .unset, .unset, .unset] [(.int (-1 : Int32)), (.int y270)] tz → oS p e below T60 m 331 #[lv x1, .second, iv x2, iv x3, iv x4, iv x5, iv y8, iv y21, rv b1, iv y185, iv y197, iv y209, iv y221, iv y233, iv y245, iv y257, iv y270, iv y283, iv y296, .unset, .unset, .unset, .unset, .unset] [(.int (-1 : Int32)), (.int y257)] tz := fun tz kt => by
                    show oS p e below T60 m 331 #[lv x1, .second, iv x2, iv x3, iv x4, iv x5, iv y8, iv y21, rv b1, iv y185, iv y197, iv y209, iv y221, iv y233, iv y245, iv y257, iv y270, iv y283, iv y296, .unset, .unset, .unset, .unset, .unset] [(.int (-1 : Int32)), (.int y257)] _
                    refine XS.icmpNo X60.here hx rfl (hb hby at_331) rfl (feq hc331).1 ?_
                    refine XS.iload X60.here hx rfl (hb hby at_334) rfl ?_
                    refine XS.iconst X60.here hx rfl (hb hby at_336) ?_
                    exact kt
                  by_cases hc337 : y270 = (-1 : Int32)
                  · have pre74 : ∀ tz, oS p e below T60 m 357 #[lv x1, .second, iv x2, iv x3, iv x4, iv x5, iv y8, iv y21, rv b1, iv y185, iv y197, iv y209, iv y221, iv y233, iv y245, iv y257, iv y270, iv y283, iv y296, .unset, .unset, .unset, .unset, .unset] [(.int (1 : Int32))] tz → oS p e below T60 m 337 #[lv x1, .second, iv x2, iv x3, iv x4, iv x5, iv y8, iv y21, rv b1, iv y185, iv y197, iv y209, iv y221, iv y233, iv y245, iv y257, iv y270, iv y283, iv y296, .unset, .unset, .unset, .unset, .unset] [(.int (-1 : Int32)), (.int y270)] tz := fun tz kt => by
                      show oS p e below T60 m 337 #[lv x1, .second, iv x2, iv x3, iv x4, iv x5, iv y8, iv y21, rv b1, iv y185, iv y197, iv y209, iv y221, iv y233, iv y245, iv y257, iv y270, iv y283, iv y296, .unset, .unset, .unset, .unset, .unset] [(.int (-1 : Int32)), (.int y270)] _
                      refine XS.icmpYes X60.here hx rfl (pc0 := 337) (pc' := 352) rfl (hb hby at_337) rfl (teq hc337).1 (by decide) (by decide) ?_
                      refine XS.iconst X60.here hx rfl (hb hby at_352) ?_
                      refine XS.goto X60.here hx rfl (pc0 := 353) (pc' := 357) rfl (hb hby at_353) (by decide) (by decide) ?_
                      exact kt
                    exact ⟨(1 : Int32), T60, _, (by rw [if_neg hc301, if_neg hc307, if_neg hc313, if_neg hc319, if_neg hc325, if_neg hc331, if_pos hc337]), N60, X60, eh60, fun tz kt => (pre63 _ (pre65 _ (pre67 _ (pre69 _ (pre71 _ (pre73 _ (pre74 _ kt)))))))⟩
                  · have pre75 : ∀ tz, oS p e below T60 m 343 #[lv x1, .second, iv x2, iv x3, iv x4, iv x5, iv y8, iv y21, rv b1, iv y185, iv y197, iv y209, iv y221, iv y233, iv y245, iv y257, iv y270, iv y283, iv y296, .unset, .unset, .unset, .unset, .unset] [(.int (-1 : Int32)), (.int y283)] tz → oS p e below T60 m 337 #[lv x1, .second, iv x2, iv x3, iv x4, iv x5, iv y8, iv y21, rv b1, iv y185, iv y197, iv y209, iv y221, iv y233, iv y245, iv y257, iv y270, iv y283, iv y296, .unset, .unset, .unset, .unset, .unset] [(.int (-1 : Int32)), (.int y270)] tz := fun tz kt => by
                      show oS p e below T60 m 337 #[lv x1, .second, iv x2, iv x3, iv x4, iv x5, iv y8, iv y21, rv b1, iv y185, iv y197, iv y209, iv y221, iv y233, iv y245, iv y257, iv y270, iv y283, iv y296, .unset, .unset, .unset, .unset, .unset] [(.int (-1 : Int32)), (.int y270)] _
                      refine XS.icmpNo X60.here hx rfl (hb hby at_337) rfl (feq hc337).1 ?_
                      refine XS.iload X60.here hx rfl (hb hby at_340) rfl ?_
                      refine XS.iconst X60.here hx rfl (hb hby at_342) ?_
                      exact kt
                    by_cases hc343 : y283 = (-1 : Int32)
                    · have pre76 : ∀ tz, oS p e below T60 m 357 #[lv x1, .second, iv x2, iv x3, iv x4, iv x5, iv y8, iv y21, rv b1, iv y185, iv y197, iv y209, iv y221, iv y233, iv y245, iv y257, iv y270, iv y283, iv y296, .unset, .unset, .unset, .unset, .unset] [(.int (1 : Int32))] tz → oS p e below T60 m 343 #[lv x1, .second, iv x2, iv x3, iv x4, iv x5, iv y8, iv y21, rv b1, iv y185, iv y197, iv y209, iv y221, iv y233, iv y245, iv y257, iv y270, iv y283, iv y296, .unset, .unset, .unset, .unset, .unset] [(.int (-1 : Int32)), (.int y283)] tz := fun tz kt => by
                        show oS p e below T60 m 343 #[lv x1, .second, iv x2, iv x3, iv x4, iv x5, iv y8, iv y21, rv b1, iv y185, iv y197, iv y209, iv y221, iv y233, iv y245, iv y257, iv y270, iv y283, iv y296, .unset, .unset, .unset, .unset, .unset] [(.int (-1 : Int32)), (.int y283)] _
                        refine XS.icmpYes X60.here hx rfl (pc0 := 343) (pc' := 352) rfl (hb hby at_343) rfl (teq hc343).1 (by decide) (by decide) ?_
                        refine XS.iconst X60.here hx rfl (hb hby at_352) ?_
                        refine XS.goto X60.here hx rfl (pc0 := 353) (pc' := 357) rfl (hb hby at_353) (by decide) (by decide) ?_
                        exact kt
                      exact ⟨(1 : Int32), T60, _, (by rw [if_neg hc301, if_neg hc307, if_neg hc313, if_neg hc319, if_neg hc325, if_neg hc331, if_neg hc337, if_pos hc343]), N60, X60, eh60, fun tz kt => (pre63 _ (pre65 _ (pre67 _ (pre69 _ (pre71 _ (pre73 _ (pre75 _ (pre76 _ kt))))))))⟩
                    · have pre77 : ∀ tz, oS p e below T60 m 349 #[lv x1, .second, iv x2, iv x3, iv x4, iv x5, iv y8, iv y21, rv b1, iv y185, iv y197, iv y209, iv y221, iv y233, iv y245, iv y257, iv y270, iv y283, iv y296, .unset, .unset, .unset, .unset, .unset] [(.int (-1 : Int32)), (.int y296)] tz → oS p e below T60 m 343 #[lv x1, .second, iv x2, iv x3, iv x4, iv x5, iv y8, iv y21, rv b1, iv y185, iv y197, iv y209, iv y221, iv y233, iv y245, iv y257, iv y270, iv y283, iv y296, .unset, .unset, .unset, .unset, .unset] [(.int (-1 : Int32)), (.int y283)] tz := fun tz kt => by
                        show oS p e below T60 m 343 #[lv x1, .second, iv x2, iv x3, iv x4, iv x5, iv y8, iv y21, rv b1, iv y185, iv y197, iv y209, iv y221, iv y233, iv y245, iv y257, iv y270, iv y283, iv y296, .unset, .unset, .unset, .unset, .unset] [(.int (-1 : Int32)), (.int y283)] _
                        refine XS.icmpNo X60.here hx rfl (hb hby at_343) rfl (feq hc343).1 ?_
                        refine XS.iload X60.here hx rfl (hb hby at_346) rfl ?_
                        refine XS.iconst X60.here hx rfl (hb hby at_348) ?_
                        exact kt
                      by_cases hc349 : y296 = (-1 : Int32)
                      · have pre78 : ∀ tz, oS p e below T60 m 357 #[lv x1, .second, iv x2, iv x3, iv x4, iv x5, iv y8, iv y21, rv b1, iv y185, iv y197, iv y209, iv y221, iv y233, iv y245, iv y257, iv y270, iv y283, iv y296, .unset, .unset, .unset, .unset, .unset] [(.int (1 : Int32))] tz → oS p e below T60 m 349 #[lv x1, .second, iv x2, iv x3, iv x4, iv x5, iv y8, iv y21, rv b1, iv y185, iv y197, iv y209, iv y221, iv y233, iv y245, iv y257, iv y270, iv y283, iv y296, .unset, .unset, .unset, .unset, .unset] [(.int (-1 : Int32)), (.int y296)] tz := fun tz kt => by
                          show oS p e below T60 m 349 #[lv x1, .second, iv x2, iv x3, iv x4, iv x5, iv y8, iv y21, rv b1, iv y185, iv y197, iv y209, iv y221, iv y233, iv y245, iv y257, iv y270, iv y283, iv y296, .unset, .unset, .unset, .unset, .unset] [(.int (-1 : Int32)), (.int y296)] _
                          refine XS.icmpNo X60.here hx rfl (hb hby at_349) rfl (teq hc349).2 ?_
                          refine XS.iconst X60.here hx rfl (hb hby at_352) ?_
                          refine XS.goto X60.here hx rfl (pc0 := 353) (pc' := 357) rfl (hb hby at_353) (by decide) (by decide) ?_
                          exact kt
                        exact ⟨(1 : Int32), T60, _, (by rw [if_neg hc301, if_neg hc307, if_neg hc313, if_neg hc319, if_neg hc325, if_neg hc331, if_neg hc337, if_neg hc343, if_pos hc349]), N60, X60, eh60, fun tz kt => (pre63 _ (pre65 _ (pre67 _ (pre69 _ (pre71 _ (pre73 _ (pre75 _ (pre77 _ (pre78 _ kt)))))))))⟩
                      · have pre79 : ∀ tz, oS p e below T60 m 357 #[lv x1, .second, iv x2, iv x3, iv x4, iv x5, iv y8, iv y21, rv b1, iv y185, iv y197, iv y209, iv y221, iv y233, iv y245, iv y257, iv y270, iv y283, iv y296, .unset, .unset, .unset, .unset, .unset] [(.int (0 : Int32))] tz → oS p e below T60 m 349 #[lv x1, .second, iv x2, iv x3, iv x4, iv x5, iv y8, iv y21, rv b1, iv y185, iv y197, iv y209, iv y221, iv y233, iv y245, iv y257, iv y270, iv y283, iv y296, .unset, .unset, .unset, .unset, .unset] [(.int (-1 : Int32)), (.int y296)] tz := fun tz kt => by
                          show oS p e below T60 m 349 #[lv x1, .second, iv x2, iv x3, iv x4, iv x5, iv y8, iv y21, rv b1, iv y185, iv y197, iv y209, iv y221, iv y233, iv y245, iv y257, iv y270, iv y283, iv y296, .unset, .unset, .unset, .unset, .unset] [(.int (-1 : Int32)), (.int y296)] _
                          refine XS.icmpYes X60.here hx rfl (pc0 := 349) (pc' := 356) rfl (hb hby at_349) rfl (feq hc349).2 (by decide) (by decide) ?_
                          refine XS.iconst X60.here hx rfl (hb hby at_356) ?_
                          exact kt
                        exact ⟨(0 : Int32), T60, _, (by rw [if_neg hc301, if_neg hc307, if_neg hc313, if_neg hc319, if_neg hc325, if_neg hc331, if_neg hc337, if_neg hc343, if_neg hc349]), N60, X60, eh60, fun tz kt => (pre63 _ (pre65 _ (pre67 _ (pre69 _ (pre71 _ (pre73 _ (pre75 _ (pre77 _ (pre79 _ kt)))))))))⟩)
  have hv357 : v357 = (if y197 = (-1 : Int32) then (1 : Int32) else (if y209 = (-1 : Int32) then (1 : Int32) else (if y221 = (-1 : Int32) then (1 : Int32) else (if y233 = (-1 : Int32) then (1 : Int32) else (if y245 = (-1 : Int32) then (1 : Int32) else (if y257 = (-1 : Int32) then (1 : Int32) else (if y270 = (-1 : Int32) then (1 : Int32) else (if y283 = (-1 : Int32) then (1 : Int32) else (if y296 = (-1 : Int32) then (1 : Int32) else (0 : Int32)))))))))) := jv80
  have hp81_hv : ¬ (y197 < (0 : Int32)) → ¬ ((y8 - (1 : Int32)) - (0 : Int32)) < 0 ∧ ((y8 - (1 : Int32)) - (0 : Int32)) < (9 : Int32) := (own_valb f y8 y21 a n 0 hn9 han hn ha (by decide) y197 hy197)
  obtain ⟨_, _, ⟨T81, Lw81, kw81, nw81⟩, -, X81, ⟨Lc81, hQ81, l81, y81, z81⟩, st81⟩ := Jvm.LawKit.callS X80 hx (y := (⟨"com/example/planwright/planwright/io/DigitsReadPinLaw", "val", "(III)J"⟩ : MethodName)) hown (mvT hZ (own_w hw 13 rfl)) (mvT hZ (own_w hw 14 rfl)) (mvT hZ (own_w hw 4 rfl)) (mvT hZ (own_w hw 15 rfl)) (by decide) (backOf (W := 0) (rm4 l Z a0 hw [] y197 y8 (0 : Int32) h49 n0 Zc51 hp81_hv) hZ (own_w hw 15 rfl) (own_w hw 4 rfl) (by decide) (by decide)) (g := (mkF m 364 #[lv x1, .second, iv x2, iv x3, iv x4, iv x5, iv y8, iv y21, rv b1, iv y185, iv y197, iv y209, iv y221, iv y233, iv y245, iv y257, iv y270, iv y283, iv y296, iv v357, .unset, .unset, .unset, .unset] [(.int (0 : Int32)), (.int y8), (.int y197)])) rfl (by rw [hml]; rfl) (argsL := [(.int y197), (.int y8), (.int (0 : Int32))]) (rest := []) (lenOf own_pd4 rfl) rfl (by show 2 * 0 + _ ≤ _; exact Nat.le_of_eq rfl) (hb hby at_364) (fun _ _ => ⟨rfl, e80, (by decide : 1 + 1 ≤ _), (by decide : 12 + 9 ≤ _)⟩)
  dsimp only [Pt.U, Pt.locs, Pt.cells, Pt.slots] at X81 l81 y81 z81 st81 hQ81
  replace y81 : kw81 = 2 := y81
  replace z81 : nw81 = 21 := z81
  rw [l81, y81, z81] at X81
  obtain ⟨rfl, Nq81, K81⟩ := hQ81
  have N81 := Fr.app N80 Nq81
  have hp82_hv : ¬ (y209 < (0 : Int32)) → ¬ ((y8 - (1 : Int32)) - (1 : Int32)) < 0 ∧ ((y8 - (1 : Int32)) - (1 : Int32)) < (9 : Int32) := (own_valb f y8 y21 a n 1 hn9 han hn ha (by decide) y209 hy209)
  have Zc83 : n0 ≤ T81.heap.size := (Nat.le_trans Zc51 K81.1)
  obtain ⟨_, _, ⟨T82, Lw82, kw82, nw82⟩, -, X82, ⟨Lc82, hQ82, l82, y82, z82⟩, st82⟩ := Jvm.LawKit.callS X81 hx (y := (⟨"com/example/planwright/planwright/io/DigitsReadPinLaw", "val", "(III)J"⟩ : MethodName)) hown (mvT hZ (own_w hw 13 rfl)) (mvT hZ (own_w hw 14 rfl)) (mvT hZ (own_w hw 4 rfl)) (mvT hZ (own_w hw 15 rfl)) (by decide) (backOf (W := 2) (rm4 l Z a0 hw [] y209 y8 (1 : Int32) T81.heap n0 Zc83 hp82_hv) hZ (own_w hw 15 rfl) (own_w hw 4 rfl) (by decide) (by decide)) (g := (mkF m 372 #[lv x1, .second, iv x2, iv x3, iv x4, iv x5, iv y8, iv y21, rv b1, iv y185, iv y197, iv y209, iv y221, iv y233, iv y245, iv y257, iv y270, iv y283, iv y296, iv v357, .unset, .unset, .unset, .unset] [(.int (1 : Int32)), (.int y8), (.int y209), (.long (if y197 < (0 : Int32) then (0 : Int64) else ((y197.toInt64) * (own_p10 ((y8 - (1 : Int32)) - (0 : Int32)).toNatClampNeg))))])) rfl (by rw [hml]; rfl) (argsL := [(.int y209), (.int y8), (.int (1 : Int32))]) (rest := [(.long (if y197 < (0 : Int32) then (0 : Int64) else ((y197.toInt64) * (own_p10 ((y8 - (1 : Int32)) - (0 : Int32)).toNatClampNeg))))]) (lenOf own_pd4 rfl) rfl (by show 2 * 0 + _ ≤ _; exact Nat.le_of_eq rfl) (hb hby at_372) (fun _ _ => ⟨rfl, rfl, (by decide : 2 + 1 ≤ _), (by decide : 21 + 9 ≤ _)⟩)
  dsimp only [Pt.U, Pt.locs, Pt.cells, Pt.slots] at X82 l82 y82 z82 st82 hQ82
  replace y82 : kw82 = 3 := y82
  replace z82 : nw82 = 30 := z82
  rw [l82, y82, z82] at X82
  obtain ⟨rfl, Nq82, K82⟩ := hQ82
  have N82 := Fr.app N81 Nq82
  have hp84_hv : ¬ (y221 < (0 : Int32)) → ¬ ((y8 - (1 : Int32)) - (2 : Int32)) < 0 ∧ ((y8 - (1 : Int32)) - (2 : Int32)) < (9 : Int32) := (own_valb f y8 y21 a n 2 hn9 han hn ha (by decide) y221 hy221)
  have Zc85 : n0 ≤ T82.heap.size := (Nat.le_trans Zc83 K82.1)
  obtain ⟨_, _, ⟨T84, Lw84, kw84, nw84⟩, -, X84, ⟨Lc84, hQ84, l84, y84, z84⟩, st84⟩ := Jvm.LawKit.callS X82 hx (y := (⟨"com/example/planwright/planwright/io/DigitsReadPinLaw", "val", "(III)J"⟩ : MethodName)) hown (mvT hZ (own_w hw 13 rfl)) (mvT hZ (own_w hw 14 rfl)) (mvT hZ (own_w hw 4 rfl)) (mvT hZ (own_w hw 15 rfl)) (by decide) (backOf (W := 2) (rm4 l Z a0 hw [] y221 y8 (2 : Int32) T82.heap n0 Zc85 hp84_hv) hZ (own_w hw 15 rfl) (own_w hw 4 rfl) (by decide) (by decide)) (g := (mkF m 381 #[lv x1, .second, iv x2, iv x3, iv x4, iv x5, iv y8, iv y21, rv b1, iv y185, iv y197, iv y209, iv y221, iv y233, iv y245, iv y257, iv y270, iv y283, iv y296, iv v357, .unset, .unset, .unset, .unset] [(.int (2 : Int32)), (.int y8), (.int y221), (.long ((if y197 < (0 : Int32) then (0 : Int64) else ((y197.toInt64) * (own_p10 ((y8 - (1 : Int32)) - (0 : Int32)).toNatClampNeg))) + (if y209 < (0 : Int32) then (0 : Int64) else ((y209.toInt64) * (own_p10 ((y8 - (1 : Int32)) - (1 : Int32)).toNatClampNeg)))))])) rfl (by rw [hml]; rfl) (argsL := [(.int y221), (.int y8), (.int (2 : Int32))]) (rest := [(.long ((if y197 < (0 : Int32) then (0 : Int64) else ((y197.toInt64) * (own_p10 ((y8 - (1 : Int32)) - (0 : Int32)).toNatClampNeg))) + (if y209 < (0 : Int32) then (0 : Int64) else ((y209.toInt64) * (own_p10 ((y8 - (1 : Int32)) - (1 : Int32)).toNatClampNeg)))))]) (lenOf own_pd4 rfl) rfl (by show 2 * 0 + _ ≤ _; exact Nat.le_of_eq rfl) (hb hby at_381) (fun _ _ => ⟨rfl, rfl, (by decide : 3 + 1 ≤ _), (by decide : 30 + 9 ≤ _)⟩)
  dsimp only [Pt.U, Pt.locs, Pt.cells, Pt.slots] at X84 l84 y84 z84 st84 hQ84
  replace y84 : kw84 = 4 := y84
  replace z84 : nw84 = 39 := z84
  rw [l84, y84, z84] at X84
  obtain ⟨rfl, Nq84, K84⟩ := hQ84
  have N84 := Fr.app N82 Nq84
  have hp86_hv : ¬ (y233 < (0 : Int32)) → ¬ ((y8 - (1 : Int32)) - (3 : Int32)) < 0 ∧ ((y8 - (1 : Int32)) - (3 : Int32)) < (9 : Int32) := (own_valb f y8 y21 a n 3 hn9 han hn ha (by decide) y233 hy233)
  have Zc87 : n0 ≤ T84.heap.size := (Nat.le_trans Zc85 K84.1)
  obtain ⟨_, _, ⟨T86, Lw86, kw86, nw86⟩, -, X86, ⟨Lc86, hQ86, l86, y86, z86⟩, st86⟩ := Jvm.LawKit.callS X84 hx (y := (⟨"com/example/planwright/planwright/io/DigitsReadPinLaw", "val", "(III)J"⟩ : MethodName)) hown (mvT hZ (own_w hw 13 rfl)) (mvT hZ (own_w hw 14 rfl)) (mvT hZ (own_w hw 4 rfl)) (mvT hZ (own_w hw 15 rfl)) (by decide) (backOf (W := 2) (rm4 l Z a0 hw [] y233 y8 (3 : Int32) T84.heap n0 Zc87 hp86_hv) hZ (own_w hw 15 rfl) (own_w hw 4 rfl) (by decide) (by decide)) (g := (mkF m 390 #[lv x1, .second, iv x2, iv x3, iv x4, iv x5, iv y8, iv y21, rv b1, iv y185, iv y197, iv y209, iv y221, iv y233, iv y245, iv y257, iv y270, iv y283, iv y296, iv v357, .unset, .unset, .unset, .unset] [(.int (3 : Int32)), (.int y8), (.int y233), (.long (((if y197 < (0 : Int32) then (0 : Int64) else ((y197.toInt64) * (own_p10 ((y8 - (1 : Int32)) - (0 : Int32)).toNatClampNeg))) + (if y209 < (0 : Int32) then (0 : Int64) else ((y209.toInt64) * (own_p10 ((y8 - (1 : Int32)) - (1 : Int32)).toNatClampNeg)))) + (if y221 < (0 : Int32) then (0 : Int64) else ((y221.toInt64) * (own_p10 ((y8 - (1 : Int32)) - (2 : Int32)).toNatClampNeg)))))])) rfl (by rw [hml]; rfl) (argsL := [(.int y233), (.int y8), (.int (3 : Int32))]) (rest := [(.long (((if y197 < (0 : Int32) then (0 : Int64) else ((y197.toInt64) * (own_p10 ((y8 - (1 : Int32)) - (0 : Int32)).toNatClampNeg))) + (if y209 < (0 : Int32) then (0 : Int64) else ((y209.toInt64) * (own_p10 ((y8 - (1 : Int32)) - (1 : Int32)).toNatClampNeg)))) + (if y221 < (0 : Int32) then (0 : Int64) else ((y221.toInt64) * (own_p10 ((y8 - (1 : Int32)) - (2 : Int32)).toNatClampNeg)))))]) (lenOf own_pd4 rfl) rfl (by show 2 * 0 + _ ≤ _; exact Nat.le_of_eq rfl) (hb hby at_390) (fun _ _ => ⟨rfl, rfl, (by decide : 4 + 1 ≤ _), (by decide : 39 + 9 ≤ _)⟩)
  dsimp only [Pt.U, Pt.locs, Pt.cells, Pt.slots] at X86 l86 y86 z86 st86 hQ86
  replace y86 : kw86 = 5 := y86
  replace z86 : nw86 = 48 := z86
  rw [l86, y86, z86] at X86
  obtain ⟨rfl, Nq86, K86⟩ := hQ86
  have N86 := Fr.app N84 Nq86
  have hp88_hv : ¬ (y245 < (0 : Int32)) → ¬ ((y8 - (1 : Int32)) - (4 : Int32)) < 0 ∧ ((y8 - (1 : Int32)) - (4 : Int32)) < (9 : Int32) := (own_valb f y8 y21 a n 4 hn9 han hn ha (by decide) y245 hy245)
  have Zc89 : n0 ≤ T86.heap.size := (Nat.le_trans Zc87 K86.1)
  obtain ⟨_, _, ⟨T88, Lw88, kw88, nw88⟩, -, X88, ⟨Lc88, hQ88, l88, y88, z88⟩, st88⟩ := Jvm.LawKit.callS X86 hx (y := (⟨"com/example/planwright/planwright/io/DigitsReadPinLaw", "val", "(III)J"⟩ : MethodName)) hown (mvT hZ (own_w hw 13 rfl)) (mvT hZ (own_w hw 14 rfl)) (mvT hZ (own_w hw 4 rfl)) (mvT hZ (own_w hw 15 rfl)) (by decide) (backOf (W := 2) (rm4 l Z a0 hw [] y245 y8 (4 : Int32) T86.heap n0 Zc89 hp88_hv) hZ (own_w hw 15 rfl) (own_w hw 4 rfl) (by decide) (by decide)) (g := (mkF m 399 #[lv x1, .second, iv x2, iv x3, iv x4, iv x5, iv y8, iv y21, rv b1, iv y185, iv y197, iv y209, iv y221, iv y233, iv y245, iv y257, iv y270, iv y283, iv y296, iv v357, .unset, .unset, .unset, .unset] [(.int (4 : Int32)), (.int y8), (.int y245), (.long ((((if y197 < (0 : Int32) then (0 : Int64) else ((y197.toInt64) * (own_p10 ((y8 - (1 : Int32)) - (0 : Int32)).toNatClampNeg))) + (if y209 < (0 : Int32) then (0 : Int64) else ((y209.toInt64) * (own_p10 ((y8 - (1 : Int32)) - (1 : Int32)).toNatClampNeg)))) + (if y221 < (0 : Int32) then (0 : Int64) else ((y221.toInt64) * (own_p10 ((y8 - (1 : Int32)) - (2 : Int32)).toNatClampNeg)))) + (if y233 < (0 : Int32) then (0 : Int64) else ((y233.toInt64) * (own_p10 ((y8 - (1 : Int32)) - (3 : Int32)).toNatClampNeg)))))])) rfl (by rw [hml]; rfl) (argsL := [(.int y245), (.int y8), (.int (4 : Int32))]) (rest := [(.long ((((if y197 < (0 : Int32) then (0 : Int64) else ((y197.toInt64) * (own_p10 ((y8 - (1 : Int32)) - (0 : Int32)).toNatClampNeg))) + (if y209 < (0 : Int32) then (0 : Int64) else ((y209.toInt64) * (own_p10 ((y8 - (1 : Int32)) - (1 : Int32)).toNatClampNeg)))) + (if y221 < (0 : Int32) then (0 : Int64) else ((y221.toInt64) * (own_p10 ((y8 - (1 : Int32)) - (2 : Int32)).toNatClampNeg)))) + (if y233 < (0 : Int32) then (0 : Int64) else ((y233.toInt64) * (own_p10 ((y8 - (1 : Int32)) - (3 : Int32)).toNatClampNeg)))))]) (lenOf own_pd4 rfl) rfl (by show 2 * 0 + _ ≤ _; exact Nat.le_of_eq rfl) (hb hby at_399) (fun _ _ => ⟨rfl, rfl, (by decide : 5 + 1 ≤ _), (by decide : 48 + 9 ≤ _)⟩)
  dsimp only [Pt.U, Pt.locs, Pt.cells, Pt.slots] at X88 l88 y88 z88 st88 hQ88
  replace y88 : kw88 = 6 := y88
  replace z88 : nw88 = 57 := z88
  rw [l88, y88, z88] at X88
  obtain ⟨rfl, Nq88, K88⟩ := hQ88
  have N88 := Fr.app N86 Nq88
  have hp90_hv : ¬ (y257 < (0 : Int32)) → ¬ ((y8 - (1 : Int32)) - (5 : Int32)) < 0 ∧ ((y8 - (1 : Int32)) - (5 : Int32)) < (9 : Int32) := (own_valb f y8 y21 a n 5 hn9 han hn ha (by decide) y257 hy257)
  have Zc91 : n0 ≤ T88.heap.size := (Nat.le_trans Zc89 K88.1)
  obtain ⟨_, _, ⟨T90, Lw90, kw90, nw90⟩, -, X90, ⟨Lc90, hQ90, l90, y90, z90⟩, st90⟩ := Jvm.LawKit.callS X88 hx (y := (⟨"com/example/planwright/planwright/io/DigitsReadPinLaw", "val", "(III)J"⟩ : MethodName)) hown (mvT hZ (own_w hw 13 rfl)) (mvT hZ (own_w hw 14 rfl)) (mvT hZ (own_w hw 4 rfl)) (mvT hZ (own_w hw 15 rfl)) (by decide) (backOf (W := 2) (rm4 l Z a0 hw [] y257 y8 (5 : Int32) T88.heap n0 Zc91 hp90_hv) hZ (own_w hw 15 rfl) (own_w hw 4 rfl) (by decide) (by decide)) (g := (mkF m 408 #[lv x1, .second, iv x2, iv x3, iv x4, iv x5, iv y8, iv y21, rv b1, iv y185, iv y197, iv y209, iv y221, iv y233, iv y245, iv y257, iv y270, iv y283, iv y296, iv v357, .unset, .unset, .unset, .unset] [(.int (5 : Int32)), (.int y8), (.int y257), (.long (((((if y197 < (0 : Int32) then (0 : Int64) else ((y197.toInt64) * (own_p10 ((y8 - (1 : Int32)) - (0 : Int32)).toNatClampNeg))) + (if y209 < (0 : Int32) then (0 : Int64) else ((y209.toInt64) * (own_p10 ((y8 - (1 : Int32)) - (1 : Int32)).toNatClampNeg)))) + (if y221 < (0 : Int32) then (0 : Int64) else ((y221.toInt64) * (own_p10 ((y8 - (1 : Int32)) - (2 : Int32)).toNatClampNeg)))) + (if y233 < (0 : Int32) then (0 : Int64) else ((y233.toInt64) * (own_p10 ((y8 - (1 : Int32)) - (3 : Int32)).toNatClampNeg)))) + (if y245 < (0 : Int32) then (0 : Int64) else ((y245.toInt64) * (own_p10 ((y8 - (1 : Int32)) - (4 : Int32)).toNatClampNeg)))))])) rfl (by rw [hml]; rfl) (argsL := [(.int y257), (.int y8), (.int (5 : Int32))]) (rest := [(.long (((((if y197 < (0 : Int32) then (0 : Int64) else ((y197.toInt64) * (own_p10 ((y8 - (1 : Int32)) - (0 : Int32)).toNatClampNeg))) + (if y209 < (0 : Int32) then (0 : Int64) else ((y209.toInt64) * (own_p10 ((y8 - (1 : Int32)) - (1 : Int32)).toNatClampNeg)))) + (if y221 < (0 : Int32) then (0 : Int64) else ((y221.toInt64) * (own_p10 ((y8 - (1 : Int32)) - (2 : Int32)).toNatClampNeg)))) + (if y233 < (0 : Int32) then (0 : Int64) else ((y233.toInt64) * (own_p10 ((y8 - (1 : Int32)) - (3 : Int32)).toNatClampNeg)))) + (if y245 < (0 : Int32) then (0 : Int64) else ((y245.toInt64) * (own_p10 ((y8 - (1 : Int32)) - (4 : Int32)).toNatClampNeg)))))]) (lenOf own_pd4 rfl) rfl (by show 2 * 0 + _ ≤ _; exact Nat.le_of_eq rfl) (hb hby at_408) (fun _ _ => ⟨rfl, rfl, (by decide : 6 + 1 ≤ _), (by decide : 57 + 9 ≤ _)⟩)
  dsimp only [Pt.U, Pt.locs, Pt.cells, Pt.slots] at X90 l90 y90 z90 st90 hQ90
  replace y90 : kw90 = 7 := y90
  replace z90 : nw90 = 66 := z90
  rw [l90, y90, z90] at X90
  obtain ⟨rfl, Nq90, K90⟩ := hQ90
  have N90 := Fr.app N88 Nq90
  have hp92_hv : ¬ (y270 < (0 : Int32)) → ¬ ((y8 - (1 : Int32)) - (6 : Int32)) < 0 ∧ ((y8 - (1 : Int32)) - (6 : Int32)) < (9 : Int32) := (own_valb f y8 y21 a n 6 hn9 han hn ha (by decide) y270 hy270)
  have Zc93 : n0 ≤ T90.heap.size := (Nat.le_trans Zc91 K90.1)
  obtain ⟨_, _, ⟨T92, Lw92, kw92, nw92⟩, -, X92, ⟨Lc92, hQ92, l92, y92, z92⟩, st92⟩ := Jvm.LawKit.callS X90 hx (y := (⟨"com/example/planwright/planwright/io/DigitsReadPinLaw", "val", "(III)J"⟩ : MethodName)) hown (mvT hZ (own_w hw 13 rfl)) (mvT hZ (own_w hw 14 rfl)) (mvT hZ (own_w hw 4 rfl)) (mvT hZ (own_w hw 15 rfl)) (by decide) (backOf (W := 2) (rm4 l Z a0 hw [] y270 y8 (6 : Int32) T90.heap n0 Zc93 hp92_hv) hZ (own_w hw 15 rfl) (own_w hw 4 rfl) (by decide) (by decide)) (g := (mkF m 418 #[lv x1, .second, iv x2, iv x3, iv x4, iv x5, iv y8, iv y21, rv b1, iv y185, iv y197, iv y209, iv y221, iv y233, iv y245, iv y257, iv y270, iv y283, iv y296, iv v357, .unset, .unset, .unset, .unset] [(.int (6 : Int32)), (.int y8), (.int y270), (.long ((((((if y197 < (0 : Int32) then (0 : Int64) else ((y197.toInt64) * (own_p10 ((y8 - (1 : Int32)) - (0 : Int32)).toNatClampNeg))) + (if y209 < (0 : Int32) then (0 : Int64) else ((y209.toInt64) * (own_p10 ((y8 - (1 : Int32)) - (1 : Int32)).toNatClampNeg)))) + (if y221 < (0 : Int32) then (0 : Int64) else ((y221.toInt64) * (own_p10 ((y8 - (1 : Int32)) - (2 : Int32)).toNatClampNeg)))) + (if y233 < (0 : Int32) then (0 : Int64) else ((y233.toInt64) * (own_p10 ((y8 - (1 : Int32)) - (3 : Int32)).toNatClampNeg)))) + (if y245 < (0 : Int32) then (0 : Int64) else ((y245.toInt64) * (own_p10 ((y8 - (1 : Int32)) - (4 : Int32)).toNatClampNeg)))) + (if y257 < (0 : Int32) then (0 : Int64) else ((y257.toInt64) * (own_p10 ((y8 - (1 : Int32)) - (5 : Int32)).toNatClampNeg)))))])) rfl (by rw [hml]; rfl) (argsL := [(.int y270), (.int y8), (.int (6 : Int32))]) (rest := [(.long ((((((if y197 < (0 : Int32) then (0 : Int64) else ((y197.toInt64) * (own_p10 ((y8 - (1 : Int32)) - (0 : Int32)).toNatClampNeg))) + (if y209 < (0 : Int32) then (0 : Int64) else ((y209.toInt64) * (own_p10 ((y8 - (1 : Int32)) - (1 : Int32)).toNatClampNeg)))) + (if y221 < (0 : Int32) then (0 : Int64) else ((y221.toInt64) * (own_p10 ((y8 - (1 : Int32)) - (2 : Int32)).toNatClampNeg)))) + (if y233 < (0 : Int32) then (0 : Int64) else ((y233.toInt64) * (own_p10 ((y8 - (1 : Int32)) - (3 : Int32)).toNatClampNeg)))) + (if y245 < (0 : Int32) then (0 : Int64) else ((y245.toInt64) * (own_p10 ((y8 - (1 : Int32)) - (4 : Int32)).toNatClampNeg)))) + (if y257 < (0 : Int32) then (0 : Int64) else ((y257.toInt64) * (own_p10 ((y8 - (1 : Int32)) - (5 : Int32)).toNatClampNeg)))))]) (lenOf own_pd4 rfl) rfl (by show 2 * 0 + _ ≤ _; exact Nat.le_of_eq rfl) (hb hby at_418) (fun _ _ => ⟨rfl, rfl, (by decide : 7 + 1 ≤ _), (by decide : 66 + 9 ≤ _)⟩)
  dsimp only [Pt.U, Pt.locs, Pt.cells, Pt.slots] at X92 l92 y92 z92 st92 hQ92
  replace y92 : kw92 = 8 := y92
  replace z92 : nw92 = 75 := z92
  rw [l92, y92, z92] at X92
  obtain ⟨rfl, Nq92, K92⟩ := hQ92
  have N92 := Fr.app N90 Nq92
  have hp94_hv : ¬ (y283 < (0 : Int32)) → ¬ ((y8 - (1 : Int32)) - (7 : Int32)) < 0 ∧ ((y8 - (1 : Int32)) - (7 : Int32)) < (9 : Int32) := (own_valb f y8 y21 a n 7 hn9 han hn ha (by decide) y283 hy283)
  have Zc95 : n0 ≤ T92.heap.size := (Nat.le_trans Zc93 K92.1)
  obtain ⟨_, _, ⟨T94, Lw94, kw94, nw94⟩, -, X94, ⟨Lc94, hQ94, l94, y94, z94⟩, st94⟩ := Jvm.LawKit.callS X92 hx (y := (⟨"com/example/planwright/planwright/io/DigitsReadPinLaw", "val", "(III)J"⟩ : MethodName)) hown (mvT hZ (own_w hw 13 rfl)) (mvT hZ (own_w hw 14 rfl)) (mvT hZ (own_w hw 4 rfl)) (mvT hZ (own_w hw 15 rfl)) (by decide) (backOf (W := 2) (rm4 l Z a0 hw [] y283 y8 (7 : Int32) T92.heap n0 Zc95 hp94_hv) hZ (own_w hw 15 rfl) (own_w hw 4 rfl) (by decide) (by decide)) (g := (mkF m 428 #[lv x1, .second, iv x2, iv x3, iv x4, iv x5, iv y8, iv y21, rv b1, iv y185, iv y197, iv y209, iv y221, iv y233, iv y245, iv y257, iv y270, iv y283, iv y296, iv v357, .unset, .unset, .unset, .unset] [(.int (7 : Int32)), (.int y8), (.int y283), (.long (((((((if y197 < (0 : Int32) then (0 : Int64) else ((y197.toInt64) * (own_p10 ((y8 - (1 : Int32)) - (0 : Int32)).toNatClampNeg))) + (if y209 < (0 : Int32) then (0 : Int64) else ((y209.toInt64) * (own_p10 ((y8 - (1 : Int32)) - (1 : Int32)).toNatClampNeg)))) + (if y221 < (0 : Int32) then (0 : Int64) else ((y221.toInt64) * (own_p10 ((y8 - (1 : Int32)) - (2 : Int32)).toNatClampNeg)))) + (if y233 < (0 : Int32) then (0 : Int64) else ((y233.toInt64) * (own_p10 ((y8 - (1 : Int32)) - (3 : Int32)).toNatClampNeg)))) + (if y245 < (0 : Int32) then (0 : Int64) else ((y245.toInt64) * (own_p10 ((y8 - (1 : Int32)) - (4 : Int32)).toNatClampNeg)))) + (if y257 < (0 : Int32) then (0 : Int64) else ((y257.toInt64) * (own_p10 ((y8 - (1 : Int32)) - (5 : Int32)).toNatClampNeg)))) + (if y270 < (0 : Int32) then (0 : Int64) else ((y270.toInt64) * (own_p10 ((y8 - (1 : Int32)) - (6 : Int32)).toNatClampNeg)))))])) rfl (by rw [hml]; rfl) (argsL := [(.int y283), (.int y8), (.int (7 : Int32))]) (rest := [(.long (((((((if y197 < (0 : Int32) then (0 : Int64) else ((y197.toInt64) * (own_p10 ((y8 - (1 : Int32)) - (0 : Int32)).toNatClampNeg))) + (if y209 < (0 : Int32) then (0 : Int64) else ((y209.toInt64) * (own_p10 ((y8 - (1 : Int32)) - (1 : Int32)).toNatClampNeg)))) + (if y221 < (0 : Int32) then (0 : Int64) else ((y221.toInt64) * (own_p10 ((y8 - (1 : Int32)) - (2 : Int32)).toNatClampNeg)))) + (if y233 < (0 : Int32) then (0 : Int64) else ((y233.toInt64) * (own_p10 ((y8 - (1 : Int32)) - (3 : Int32)).toNatClampNeg)))) + (if y245 < (0 : Int32) then (0 : Int64) else ((y245.toInt64) * (own_p10 ((y8 - (1 : Int32)) - (4 : Int32)).toNatClampNeg)))) + (if y257 < (0 : Int32) then (0 : Int64) else ((y257.toInt64) * (own_p10 ((y8 - (1 : Int32)) - (5 : Int32)).toNatClampNeg)))) + (if y270 < (0 : Int32) then (0 : Int64) else ((y270.toInt64) * (own_p10 ((y8 - (1 : Int32)) - (6 : Int32)).toNatClampNeg)))))]) (lenOf own_pd4 rfl) rfl (by show 2 * 0 + _ ≤ _; exact Nat.le_of_eq rfl) (hb hby at_428) (fun _ _ => ⟨rfl, rfl, (by decide : 8 + 1 ≤ _), (by decide : 75 + 9 ≤ _)⟩)
  dsimp only [Pt.U, Pt.locs, Pt.cells, Pt.slots] at X94 l94 y94 z94 st94 hQ94
  replace y94 : kw94 = 9 := y94
  replace z94 : nw94 = 84 := z94
  rw [l94, y94, z94] at X94
  obtain ⟨rfl, Nq94, K94⟩ := hQ94
  have N94 := Fr.app N92 Nq94
  have hp96_hv : ¬ (y296 < (0 : Int32)) → ¬ ((y8 - (1 : Int32)) - (8 : Int32)) < 0 ∧ ((y8 - (1 : Int32)) - (8 : Int32)) < (9 : Int32) := (own_valb f y8 y21 a n 8 hn9 han hn ha (by decide) y296 hy296)
  have Zc97 : n0 ≤ T94.heap.size := (Nat.le_trans Zc95 K94.1)
  obtain ⟨_, _, ⟨T96, Lw96, kw96, nw96⟩, -, X96, ⟨Lc96, hQ96, l96, y96, z96⟩, st96⟩ := Jvm.LawKit.callS X94 hx (y := (⟨"com/example/planwright/planwright/io/DigitsReadPinLaw", "val", "(III)J"⟩ : MethodName)) hown (mvT hZ (own_w hw 13 rfl)) (mvT hZ (own_w hw 14 rfl)) (mvT hZ (own_w hw 4 rfl)) (mvT hZ (own_w hw 15 rfl)) (by decide) (backOf (W := 2) (rm4 l Z a0 hw [] y296 y8 (8 : Int32) T94.heap n0 Zc97 hp96_hv) hZ (own_w hw 15 rfl) (own_w hw 4 rfl) (by decide) (by decide)) (g := (mkF m 438 #[lv x1, .second, iv x2, iv x3, iv x4, iv x5, iv y8, iv y21, rv b1, iv y185, iv y197, iv y209, iv y221, iv y233, iv y245, iv y257, iv y270, iv y283, iv y296, iv v357, .unset, .unset, .unset, .unset] [(.int (8 : Int32)), (.int y8), (.int y296), (.long ((((((((if y197 < (0 : Int32) then (0 : Int64) else ((y197.toInt64) * (own_p10 ((y8 - (1 : Int32)) - (0 : Int32)).toNatClampNeg))) + (if y209 < (0 : Int32) then (0 : Int64) else ((y209.toInt64) * (own_p10 ((y8 - (1 : Int32)) - (1 : Int32)).toNatClampNeg)))) + (if y221 < (0 : Int32) then (0 : Int64) else ((y221.toInt64) * (own_p10 ((y8 - (1 : Int32)) - (2 : Int32)).toNatClampNeg)))) + (if y233 < (0 : Int32) then (0 : Int64) else ((y233.toInt64) * (own_p10 ((y8 - (1 : Int32)) - (3 : Int32)).toNatClampNeg)))) + (if y245 < (0 : Int32) then (0 : Int64) else ((y245.toInt64) * (own_p10 ((y8 - (1 : Int32)) - (4 : Int32)).toNatClampNeg)))) + (if y257 < (0 : Int32) then (0 : Int64) else ((y257.toInt64) * (own_p10 ((y8 - (1 : Int32)) - (5 : Int32)).toNatClampNeg)))) + (if y270 < (0 : Int32) then (0 : Int64) else ((y270.toInt64) * (own_p10 ((y8 - (1 : Int32)) - (6 : Int32)).toNatClampNeg)))) + (if y283 < (0 : Int32) then (0 : Int64) else ((y283.toInt64) * (own_p10 ((y8 - (1 : Int32)) - (7 : Int32)).toNatClampNeg)))))])) rfl (by rw [hml]; rfl) (argsL := [(.int y296), (.int y8), (.int (8 : Int32))]) (rest := [(.long ((((((((if y197 < (0 : Int32) then (0 : Int64) else ((y197.toInt64) * (own_p10 ((y8 - (1 : Int32)) - (0 : Int32)).toNatClampNeg))) + (if y209 < (0 : Int32) then (0 : Int64) else ((y209.toInt64) * (own_p10 ((y8 - (1 : Int32)) - (1 : Int32)).toNatClampNeg)))) + (if y221 < (0 : Int32) then (0 : Int64) else ((y221.toInt64) * (own_p10 ((y8 - (1 : Int32)) - (2 : Int32)).toNatClampNeg)))) + (if y233 < (0 : Int32) then (0 : Int64) else ((y233.toInt64) * (own_p10 ((y8 - (1 : Int32)) - (3 : Int32)).toNatClampNeg)))) + (if y245 < (0 : Int32) then (0 : Int64) else ((y245.toInt64) * (own_p10 ((y8 - (1 : Int32)) - (4 : Int32)).toNatClampNeg)))) + (if y257 < (0 : Int32) then (0 : Int64) else ((y257.toInt64) * (own_p10 ((y8 - (1 : Int32)) - (5 : Int32)).toNatClampNeg)))) + (if y270 < (0 : Int32) then (0 : Int64) else ((y270.toInt64) * (own_p10 ((y8 - (1 : Int32)) - (6 : Int32)).toNatClampNeg)))) + (if y283 < (0 : Int32) then (0 : Int64) else ((y283.toInt64) * (own_p10 ((y8 - (1 : Int32)) - (7 : Int32)).toNatClampNeg)))))]) (lenOf own_pd4 rfl) rfl (by show 2 * 0 + _ ≤ _; exact Nat.le_of_eq rfl) (hb hby at_438) (fun _ _ => ⟨rfl, rfl, (by decide : 9 + 1 ≤ _), (by decide : 84 + 9 ≤ _)⟩)
  dsimp only [Pt.U, Pt.locs, Pt.cells, Pt.slots] at X96 l96 y96 z96 st96 hQ96
  replace y96 : kw96 = 10 := y96
  replace z96 : nw96 = 93 := z96
  rw [l96, y96, z96] at X96
  obtain ⟨rfl, Nq96, K96⟩ := hQ96
  have N96 := Fr.app N94 Nq96
  obtain ⟨y442, hy442⟩ : ∃ z, z = (((((((((if y197 < (0 : Int32) then (0 : Int64) else ((y197.toInt64) * (own_p10 ((y8 - (1 : Int32)) - (0 : Int32)).toNatClampNeg))) + (if y209 < (0 : Int32) then (0 : Int64) else ((y209.toInt64) * (own_p10 ((y8 - (1 : Int32)) - (1 : Int32)).toNatClampNeg)))) + (if y221 < (0 : Int32) then (0 : Int64) else ((y221.toInt64) * (own_p10 ((y8 - (1 : Int32)) - (2 : Int32)).toNatClampNeg)))) + (if y233 < (0 : Int32) then (0 : Int64) else ((y233.toInt64) * (own_p10 ((y8 - (1 : Int32)) - (3 : Int32)).toNatClampNeg)))) + (if y245 < (0 : Int32) then (0 : Int64) else ((y245.toInt64) * (own_p10 ((y8 - (1 : Int32)) - (4 : Int32)).toNatClampNeg)))) + (if y257 < (0 : Int32) then (0 : Int64) else ((y257.toInt64) * (own_p10 ((y8 - (1 : Int32)) - (5 : Int32)).toNatClampNeg)))) + (if y270 < (0 : Int32) then (0 : Int64) else ((y270.toInt64) * (own_p10 ((y8 - (1 : Int32)) - (6 : Int32)).toNatClampNeg)))) + (if y283 < (0 : Int32) then (0 : Int64) else ((y283.toInt64) * (own_p10 ((y8 - (1 : Int32)) - (7 : Int32)).toNatClampNeg)))) + (if y296 < (0 : Int32) then (0 : Int64) else ((y296.toInt64) * (own_p10 ((y8 - (1 : Int32)) - (8 : Int32)).toNatClampNeg)))) := ⟨_, rfl⟩
  have pre98 : ∀ tz, oS p e below T96 m 446 #[lv x1, .second, iv x2, iv x3, iv x4, iv x5, iv y8, iv y21, rv b1, iv y185, iv y197, iv y209, iv y221, iv y233, iv y245, iv y257, iv y270, iv y283, iv y296, iv v357, lv y442, .second, .unset, .unset] [(.int v357)] tz → oS p e below T60 m 301 #[lv x1, .second, iv x2, iv x3, iv x4, iv x5, iv y8, iv y21, rv b1, iv y185, iv y197, iv y209, iv y221, iv y233, iv y245, iv y257, iv y270, iv y283, iv y296, .unset, .unset, .unset, .unset, .unset] [(.int (-1 : Int32)), (.int y197)] tz := fun tz kt => by
    show oS p e below T60 m 301 #[lv x1, .second, iv x2, iv x3, iv x4, iv x5, iv y8, iv y21, rv b1, iv y185, iv y197, iv y209, iv y221, iv y233, iv y245, iv y257, iv y270, iv y283, iv y296, .unset, .unset, .unset, .unset, .unset] [(.int (-1 : Int32)), (.int y197)] _
    refine st80 _ ?_
    refine XS.istore X80.here hx rfl (hb hby at_357) rfl (l' := #[lv x1, .second, iv x2, iv x3, iv x4, iv x5, iv y8, iv y21, rv b1, iv y185, iv y197, iv y209, iv y221, iv y233, iv y245, iv y257, iv y270, iv y283, iv y296, iv v357, .unset, .unset, .unset, .unset]) rfl ?_
    refine XS.iload X80.here hx rfl (hb hby at_359) rfl ?_
    refine XS.iload X80.here hx rfl (hb hby at_361) rfl ?_
    show oS p e below T80 m 363 #[lv x1, .second, iv x2, iv x3, iv x4, iv x5, iv y8, iv y21, rv b1, iv y185, iv y197, iv y209, iv y221, iv y233, iv y245, iv y257, iv y270, iv y283, iv y296, iv v357, .unset, .unset, .unset, .unset] [(.int y8), (.int y197)] _
    refine XS.iconst X80.here hx rfl (hb hby at_363) ?_
    show oS p e below T80 m 364 #[lv x1, .second, iv x2, iv x3, iv x4, iv x5, iv y8, iv y21, rv b1, iv y185, iv y197, iv y209, iv y221, iv y233, iv y245, iv y257, iv y270, iv y283, iv y296, iv v357, .unset, .unset, .unset, .unset] [(.int (0 : Int32)), (.int y8), (.int y197)] _
    refine st81 _ ?_
    refine XS.iload X81.here hx rfl (hb hby at_367) rfl ?_
    refine XS.iload X81.here hx rfl (hb hby at_369) rfl ?_
    refine XS.iconst X81.here hx rfl (hb hby at_371) ?_
    show oS p e below T81 m 372 #[lv x1, .second, iv x2, iv x3, iv x4, iv x5, iv y8, iv y21, rv b1, iv y185, iv y197, iv y209, iv y221, iv y233, iv y245, iv y257, iv y270, iv y283, iv y296, iv v357, .unset, .unset, .unset, .unset] [(.int (1 : Int32)), (.int y8), (.int y209), (.long (if y197 < (0 : Int32) then (0 : Int64) else ((y197.toInt64) * (own_p10 ((y8 - (1 : Int32)) - (0 : Int32)).toNatClampNeg))))] _
    refine st82 _ ?_
    refine XS.ladd X82.here hx rfl (hb hby at_375) rfl ?_
    refine XS.iload X82.here hx rfl (hb hby at_376) rfl ?_
    refine XS.iload X82.here hx rfl (hb hby at_378) rfl ?_
    show oS p e below T82 m 380 #[lv x1, .second, iv x2, iv x3, iv x4, iv x5, iv y8, iv y21, rv b1, iv y185, iv y197, iv y209, iv y221, iv y233, iv y245, iv y257, iv y270, iv y283, iv y296, iv v357, .unset, .unset, .unset, .unset] [(.int y8), (.int y221), (.long ((if y197 < (0 : Int32) then (0 : Int64) else ((y197.toInt64) * (own_p10 ((y8 - (1 : Int32)) - (0 : Int32)).toNatClampNeg))) + (if y209 < (0 : Int32) then (0 : Int64) else ((y209.toInt64) * (own_p10 ((y8 - (1 : Int32)) - (1 : Int32)).toNatClampNeg)))))] _
    refine XS.iconst X82.here hx rfl (hb hby at_380) ?_
    show oS p e below T82 m 381 #[lv x1, .second, iv x2, iv x3, iv x4, iv x5, iv y8, iv y21, rv b1, iv y185, iv y197, iv y209, iv y221, iv y233, iv y245, iv y257, iv y270, iv y283, iv y296, iv v357, .unset, .unset, .unset, .unset] [(.int (2 : Int32)), (.int y8), (.int y221), (.long ((if y197 < (0 : Int32) then (0 : Int64) else ((y197.toInt64) * (own_p10 ((y8 - (1 : Int32)) - (0 : Int32)).toNatClampNeg))) + (if y209 < (0 : Int32) then (0 : Int64) else ((y209.toInt64) * (own_p10 ((y8 - (1 : Int32)) - (1 : Int32)).toNatClampNeg)))))] _
    refine st84 _ ?_
    refine XS.ladd X84.here hx rfl (hb hby at_384) rfl ?_
    refine XS.iload X84.here hx rfl (hb hby at_385) rfl ?_
    refine XS.iload X84.here hx rfl (hb hby at_387) rfl ?_
    show oS p e below T84 m 389 #[lv x1, .second, iv x2, iv x3, iv x4, iv x5, iv y8, iv y21, rv b1, iv y185, iv y197, iv y209, iv y221, iv y233, iv y245, iv y257, iv y270, iv y283, iv y296, iv v357, .unset, .unset, .unset, .unset] [(.int y8), (.int y233), (.long (((if y197 < (0 : Int32) then (0 : Int64) else ((y197.toInt64) * (own_p10 ((y8 - (1 : Int32)) - (0 : Int32)).toNatClampNeg))) + (if y209 < (0 : Int32) then (0 : Int64) else ((y209.toInt64) * (own_p10 ((y8 - (1 : Int32)) - (1 : Int32)).toNatClampNeg)))) + (if y221 < (0 : Int32) then (0 : Int64) else ((y221.toInt64) * (own_p10 ((y8 - (1 : Int32)) - (2 : Int32)).toNatClampNeg)))))] _
    refine XS.iconst X84.here hx rfl (hb hby at_389) ?_
    show oS p e below T84 m 390 #[lv x1, .second, iv x2, iv x3, iv x4, iv x5, iv y8, iv y21, rv b1, iv y185, iv y197, iv y209, iv y221, iv y233, iv y245, iv y257, iv y270, iv y283, iv y296, iv v357, .unset, .unset, .unset, .unset] [(.int (3 : Int32)), (.int y8), (.int y233), (.long (((if y197 < (0 : Int32) then (0 : Int64) else ((y197.toInt64) * (own_p10 ((y8 - (1 : Int32)) - (0 : Int32)).toNatClampNeg))) + (if y209 < (0 : Int32) then (0 : Int64) else ((y209.toInt64) * (own_p10 ((y8 - (1 : Int32)) - (1 : Int32)).toNatClampNeg)))) + (if y221 < (0 : Int32) then (0 : Int64) else ((y221.toInt64) * (own_p10 ((y8 - (1 : Int32)) - (2 : Int32)).toNatClampNeg)))))] _
    refine st86 _ ?_
    refine XS.ladd X86.here hx rfl (hb hby at_393) rfl ?_
    refine XS.iload X86.here hx rfl (hb hby at_394) rfl ?_
    refine XS.iload X86.here hx rfl (hb hby at_396) rfl ?_
    show oS p e below T86 m 398 #[lv x1, .second, iv x2, iv x3, iv x4, iv x5, iv y8, iv y21, rv b1, iv y185, iv y197, iv y209, iv y221, iv y233, iv y245, iv y257, iv y270, iv y283, iv y296, iv v357, .unset, .unset, .unset, .unset] [(.int y8), (.int y245), (.long ((((if y197 < (0 : Int32) then (0 : Int64) else ((y197.toInt64) * (own_p10 ((y8 - (1 : Int32)) - (0 : Int32)).toNatClampNeg))) + (if y209 < (0 : Int32) then (0 : Int64) else ((y209.toInt64) * (own_p10 ((y8 - (1 : Int32)) - (1 : Int32)).toNatClampNeg)))) + (if y221 < (0 : Int32) then (0 : Int64) else ((y221.toInt64) * (own_p10 ((y8 - (1 : Int32)) - (2 : Int32)).toNatClampNeg)))) + (if y233 < (0 : Int32) then (0 : Int64) else ((y233.toInt64) * (own_p10 ((y8 - (1 : Int32)) - (3 : Int32)).toNatClampNeg)))))] _
    refine XS.iconst X86.here hx rfl (hb hby at_398) ?_
    show oS p e below T86 m 399 #[lv x1, .second, iv x2, iv x3, iv x4, iv x5, iv y8, iv y21, rv b1, iv y185, iv y197, iv y209, iv y221, iv y233, iv y245, iv y257, iv y270, iv y283, iv y296, iv v357, .unset, .unset, .unset, .unset] [(.int (4 : Int32)), (.int y8), (.int y245), (.long ((((if y197 < (0 : Int32) then (0 : Int64) else ((y197.toInt64) * (own_p10 ((y8 - (1 : Int32)) - (0 : Int32)).toNatClampNeg))) + (if y209 < (0 : Int32) then (0 : Int64) else ((y209.toInt64) * (own_p10 ((y8 - (1 : Int32)) - (1 : Int32)).toNatClampNeg)))) + (if y221 < (0 : Int32) then (0 : Int64) else ((y221.toInt64) * (own_p10 ((y8 - (1 : Int32)) - (2 : Int32)).toNatClampNeg)))) + (if y233 < (0 : Int32) then (0 : Int64) else ((y233.toInt64) * (own_p10 ((y8 - (1 : Int32)) - (3 : Int32)).toNatClampNeg)))))] _
    refine st88 _ ?_
    refine XS.ladd X88.here hx rfl (hb hby at_402) rfl ?_
    refine XS.iload X88.here hx rfl (hb hby at_403) rfl ?_
    refine XS.iload X88.here hx rfl (hb hby at_405) rfl ?_
    show oS p e below T88 m 407 #[lv x1, .second, iv x2, iv x3, iv x4, iv x5, iv y8, iv y21, rv b1, iv y185, iv y197, iv y209, iv y221, iv y233, iv y245, iv y257, iv y270, iv y283, iv y296, iv v357, .unset, .unset, .unset, .unset] [(.int y8), (.int y257), (.long (((((if y197 < (0 : Int32) then (0 : Int64) else ((y197.toInt64) * (own_p10 ((y8 - (1 : Int32)) - (0 : Int32)).toNatClampNeg))) + (if y209 < (0 : Int32) then (0 : Int64) else ((y209.toInt64) * (own_p10 ((y8 - (1 : Int32)) - (1 : Int32)).toNatClampNeg)))) + (if y221 < (0 : Int32) then (0 : Int64) else ((y221.toInt64) * (own_p10 ((y8 - (1 : Int32)) - (2 : Int32)).toNatClampNeg)))) + (if y233 < (0 : Int32) then (0 : Int64) else ((y233.toInt64) * (own_p10 ((y8 - (1 : Int32)) - (3 : Int32)).toNatClampNeg)))) + (if y245 < (0 : Int32) then (0 : Int64) else ((y245.toInt64) * (own_p10 ((y8 - (1 : Int32)) - (4 : Int32)).toNatClampNeg)))))] _
    refine XS.iconst X88.here hx rfl (hb hby at_407) ?_
    show oS p e below T88 m 408 #[lv x1, .second, iv x2, iv x3, iv x4, iv x5, iv y8, iv y21, rv b1, iv y185, iv y197, iv y209, iv y221, iv y233, iv y245, iv y257, iv y270, iv y283, iv y296, iv v357, .unset, .unset, .unset, .unset] [(.int (5 : Int32)), (.int y8), (.int y257), (.long (((((if y197 < (0 : Int32) then (0 : Int64) else ((y197.toInt64) * (own_p10 ((y8 - (1 : Int32)) - (0 : Int32)).toNatClampNeg))) + (if y209 < (0 : Int32) then (0 : Int64) else ((y209.toInt64) * (own_p10 ((y8 - (1 : Int32)) - (1 : Int32)).toNatClampNeg)))) + (if y221 < (0 : Int32) then (0 : Int64) else ((y221.toInt64) * (own_p10 ((y8 - (1 : Int32)) - (2 : Int32)).toNatClampNeg)))) + (if y233 < (0 : Int32) then (0 : Int64) else ((y233.toInt64) * (own_p10 ((y8 - (1 : Int32)) - (3 : Int32)).toNatClampNeg)))) + (if y245 < (0 : Int32) then (0 : Int64) else ((y245.toInt64) * (own_p10 ((y8 - (1 : Int32)) - (4 : Int32)).toNatClampNeg)))))] _
    refine st90 _ ?_
    refine XS.ladd X90.here hx rfl (hb hby at_411) rfl ?_
    refine XS.iload X90.here hx rfl (hb hby at_412) rfl ?_
    refine XS.iload X90.here hx rfl (hb hby at_414) rfl ?_
    show oS p e below T90 m 416 #[lv x1, .second, iv x2, iv x3, iv x4, iv x5, iv y8, iv y21, rv b1, iv y185, iv y197, iv y209, iv y221, iv y233, iv y245, iv y257, iv y270, iv y283, iv y296, iv v357, .unset, .unset, .unset, .unset] [(.int y8), (.int y270), (.long ((((((if y197 < (0 : Int32) then (0 : Int64) else ((y197.toInt64) * (own_p10 ((y8 - (1 : Int32)) - (0 : Int32)).toNatClampNeg))) + (if y209 < (0 : Int32) then (0 : Int64) else ((y209.toInt64) * (own_p10 ((y8 - (1 : Int32)) - (1 : Int32)).toNatClampNeg)))) + (if y221 < (0 : Int32) then (0 : Int64) else ((y221.toInt64) * (own_p10 ((y8 - (1 : Int32)) - (2 : Int32)).toNatClampNeg)))) + (if y233 < (0 : Int32) then (0 : Int64) else ((y233.toInt64) * (own_p10 ((y8 - (1 : Int32)) - (3 : Int32)).toNatClampNeg)))) + (if y245 < (0 : Int32) then (0 : Int64) else ((y245.toInt64) * (own_p10 ((y8 - (1 : Int32)) - (4 : Int32)).toNatClampNeg)))) + (if y257 < (0 : Int32) then (0 : Int64) else ((y257.toInt64) * (own_p10 ((y8 - (1 : Int32)) - (5 : Int32)).toNatClampNeg)))))] _
    refine XS.bipush X90.here hx rfl (hb hby at_416) ?_
    show oS p e below T90 m 418 #[lv x1, .second, iv x2, iv x3, iv x4, iv x5, iv y8, iv y21, rv b1, iv y185, iv y197, iv y209, iv y221, iv y233, iv y245, iv y257, iv y270, iv y283, iv y296, iv v357, .unset, .unset, .unset, .unset] [(.int (6 : Int32)), (.int y8), (.int y270), (.long ((((((if y197 < (0 : Int32) then (0 : Int64) else ((y197.toInt64) * (own_p10 ((y8 - (1 : Int32)) - (0 : Int32)).toNatClampNeg))) + (if y209 < (0 : Int32) then (0 : Int64) else ((y209.toInt64) * (own_p10 ((y8 - (1 : Int32)) - (1 : Int32)).toNatClampNeg)))) + (if y221 < (0 : Int32) then (0 : Int64) else ((y221.toInt64) * (own_p10 ((y8 - (1 : Int32)) - (2 : Int32)).toNatClampNeg)))) + (if y233 < (0 : Int32) then (0 : Int64) else ((y233.toInt64) * (own_p10 ((y8 - (1 : Int32)) - (3 : Int32)).toNatClampNeg)))) + (if y245 < (0 : Int32) then (0 : Int64) else ((y245.toInt64) * (own_p10 ((y8 - (1 : Int32)) - (4 : Int32)).toNatClampNeg)))) + (if y257 < (0 : Int32) then (0 : Int64) else ((y257.toInt64) * (own_p10 ((y8 - (1 : Int32)) - (5 : Int32)).toNatClampNeg)))))] _
    refine st92 _ ?_
    refine XS.ladd X92.here hx rfl (hb hby at_421) rfl ?_
    refine XS.iload X92.here hx rfl (hb hby at_422) rfl ?_
    refine XS.iload X92.here hx rfl (hb hby at_424) rfl ?_
    show oS p e below T92 m 426 #[lv x1, .second, iv x2, iv x3, iv x4, iv x5, iv y8, iv y21, rv b1, iv y185, iv y197, iv y209, iv y221, iv y233, iv y245, iv y257, iv y270, iv y283, iv y296, iv v357, .unset, .unset, .unset, .unset] [(.int y8), (.int y283), (.long (((((((if y197 < (0 : Int32) then (0 : Int64) else ((y197.toInt64) * (own_p10 ((y8 - (1 : Int32)) - (0 : Int32)).toNatClampNeg))) + (if y209 < (0 : Int32) then (0 : Int64) else ((y209.toInt64) * (own_p10 ((y8 - (1 : Int32)) - (1 : Int32)).toNatClampNeg)))) + (if y221 < (0 : Int32) then (0 : Int64) else ((y221.toInt64) * (own_p10 ((y8 - (1 : Int32)) - (2 : Int32)).toNatClampNeg)))) + (if y233 < (0 : Int32) then (0 : Int64) else ((y233.toInt64) * (own_p10 ((y8 - (1 : Int32)) - (3 : Int32)).toNatClampNeg)))) + (if y245 < (0 : Int32) then (0 : Int64) else ((y245.toInt64) * (own_p10 ((y8 - (1 : Int32)) - (4 : Int32)).toNatClampNeg)))) + (if y257 < (0 : Int32) then (0 : Int64) else ((y257.toInt64) * (own_p10 ((y8 - (1 : Int32)) - (5 : Int32)).toNatClampNeg)))) + (if y270 < (0 : Int32) then (0 : Int64) else ((y270.toInt64) * (own_p10 ((y8 - (1 : Int32)) - (6 : Int32)).toNatClampNeg)))))] _
    refine XS.bipush X92.here hx rfl (hb hby at_426) ?_
    show oS p e below T92 m 428 #[lv x1, .second, iv x2, iv x3, iv x4, iv x5, iv y8, iv y21, rv b1, iv y185, iv y197, iv y209, iv y221, iv y233, iv y245, iv y257, iv y270, iv y283, iv y296, iv v357, .unset, .unset, .unset, .unset] [(.int (7 : Int32)), (.int y8), (.int y283), (.long (((((((if y197 < (0 : Int32) then (0 : Int64) else ((y197.toInt64) * (own_p10 ((y8 - (1 : Int32)) - (0 : Int32)).toNatClampNeg))) + (if y209 < (0 : Int32) then (0 : Int64) else ((y209.toInt64) * (own_p10 ((y8 - (1 : Int32)) - (1 : Int32)).toNatClampNeg)))) + (if y221 < (0 : Int32) then (0 : Int64) else ((y221.toInt64) * (own_p10 ((y8 - (1 : Int32)) - (2 : Int32)).toNatClampNeg)))) + (if y233 < (0 : Int32) then (0 : Int64) else ((y233.toInt64) * (own_p10 ((y8 - (1 : Int32)) - (3 : Int32)).toNatClampNeg)))) + (if y245 < (0 : Int32) then (0 : Int64) else ((y245.toInt64) * (own_p10 ((y8 - (1 : Int32)) - (4 : Int32)).toNatClampNeg)))) + (if y257 < (0 : Int32) then (0 : Int64) else ((y257.toInt64) * (own_p10 ((y8 - (1 : Int32)) - (5 : Int32)).toNatClampNeg)))) + (if y270 < (0 : Int32) then (0 : Int64) else ((y270.toInt64) * (own_p10 ((y8 - (1 : Int32)) - (6 : Int32)).toNatClampNeg)))))] _
    refine st94 _ ?_
    refine XS.ladd X94.here hx rfl (hb hby at_431) rfl ?_
    refine XS.iload X94.here hx rfl (hb hby at_432) rfl ?_
    refine XS.iload X94.here hx rfl (hb hby at_434) rfl ?_
    show oS p e below T94 m 436 #[lv x1, .second, iv x2, iv x3, iv x4, iv x5, iv y8, iv y21, rv b1, iv y185, iv y197, iv y209, iv y221, iv y233, iv y245, iv y257, iv y270, iv y283, iv y296, iv v357, .unset, .unset, .unset, .unset] [(.int y8), (.int y296), (.long ((((((((if y197 < (0 : Int32) then (0 : Int64) else ((y197.toInt64) * (own_p10 ((y8 - (1 : Int32)) - (0 : Int32)).toNatClampNeg))) + (if y209 < (0 : Int32) then (0 : Int64) else ((y209.toInt64) * (own_p10 ((y8 - (1 : Int32)) - (1 : Int32)).toNatClampNeg)))) + (if y221 < (0 : Int32) then (0 : Int64) else ((y221.toInt64) * (own_p10 ((y8 - (1 : Int32)) - (2 : Int32)).toNatClampNeg)))) + (if y233 < (0 : Int32) then (0 : Int64) else ((y233.toInt64) * (own_p10 ((y8 - (1 : Int32)) - (3 : Int32)).toNatClampNeg)))) + (if y245 < (0 : Int32) then (0 : Int64) else ((y245.toInt64) * (own_p10 ((y8 - (1 : Int32)) - (4 : Int32)).toNatClampNeg)))) + (if y257 < (0 : Int32) then (0 : Int64) else ((y257.toInt64) * (own_p10 ((y8 - (1 : Int32)) - (5 : Int32)).toNatClampNeg)))) + (if y270 < (0 : Int32) then (0 : Int64) else ((y270.toInt64) * (own_p10 ((y8 - (1 : Int32)) - (6 : Int32)).toNatClampNeg)))) + (if y283 < (0 : Int32) then (0 : Int64) else ((y283.toInt64) * (own_p10 ((y8 - (1 : Int32)) - (7 : Int32)).toNatClampNeg)))))] _
    refine XS.bipush X94.here hx rfl (hb hby at_436) ?_
    show oS p e below T94 m 438 #[lv x1, .second, iv x2, iv x3, iv x4, iv x5, iv y8, iv y21, rv b1, iv y185, iv y197, iv y209, iv y221, iv y233, iv y245, iv y257, iv y270, iv y283, iv y296, iv v357, .unset, .unset, .unset, .unset] [(.int (8 : Int32)), (.int y8), (.int y296), (.long ((((((((if y197 < (0 : Int32) then (0 : Int64) else ((y197.toInt64) * (own_p10 ((y8 - (1 : Int32)) - (0 : Int32)).toNatClampNeg))) + (if y209 < (0 : Int32) then (0 : Int64) else ((y209.toInt64) * (own_p10 ((y8 - (1 : Int32)) - (1 : Int32)).toNatClampNeg)))) + (if y221 < (0 : Int32) then (0 : Int64) else ((y221.toInt64) * (own_p10 ((y8 - (1 : Int32)) - (2 : Int32)).toNatClampNeg)))) + (if y233 < (0 : Int32) then (0 : Int64) else ((y233.toInt64) * (own_p10 ((y8 - (1 : Int32)) - (3 : Int32)).toNatClampNeg)))) + (if y245 < (0 : Int32) then (0 : Int64) else ((y245.toInt64) * (own_p10 ((y8 - (1 : Int32)) - (4 : Int32)).toNatClampNeg)))) + (if y257 < (0 : Int32) then (0 : Int64) else ((y257.toInt64) * (own_p10 ((y8 - (1 : Int32)) - (5 : Int32)).toNatClampNeg)))) + (if y270 < (0 : Int32) then (0 : Int64) else ((y270.toInt64) * (own_p10 ((y8 - (1 : Int32)) - (6 : Int32)).toNatClampNeg)))) + (if y283 < (0 : Int32) then (0 : Int64) else ((y283.toInt64) * (own_p10 ((y8 - (1 : Int32)) - (7 : Int32)).toNatClampNeg)))))] _
    refine st96 _ ?_
    refine XS.ladd X96.here hx rfl (hb hby at_441) rfl ?_
    refine XS.lstore X96.here hx rfl (hb hby at_442) rfl (l' := #[lv x1, .second, iv x2, iv x3, iv x4, iv x5, iv y8, iv y21, rv b1, iv y185, iv y197, iv y209, iv y221, iv y233, iv y245, iv y257, iv y270, iv y283, iv y296, iv v357, lv y442, .second, .unset, .unset]) (by rw [hy442]; rfl) ?_
    refine XS.iload X96.here hx rfl (hb hby at_444) rfl ?_
    exact kt
  obtain ⟨v457, T101, Lj101, jv101, N101, X101, e101, st101⟩ := own_join (α := Int64) X96 N96 rfl (mkF m 446 #[lv x1, .second, iv x2, iv x3, iv x4, iv x5, iv y8, iv y21, rv b1, iv y185, iv y197, iv y209, iv y221, iv y233, iv y245, iv y257, iv y270, iv y283, iv y296, iv v357, lv y442, .second, .unset, .unset] [(.int v357)]) (fun v => (mkF m 457 #[lv x1, .second, iv x2, iv x3, iv x4, iv x5, iv y8, iv y21, rv b1, iv y185, iv y197, iv y209, iv y221, iv y233, iv y245, iv y257, iv y270, iv y283, iv y296, iv v357, lv y442, .second, .unset, .unset] [(.long v)])) (fun v => v = (if v357 = (0 : Int32) then y442 else (-1 : Int64))) (by
      by_cases hc446 : v357 = (0 : Int32)
      · have pre99 : ∀ tz, oS p e below T96 m 457 #[lv x1, .second, iv x2, iv x3, iv x4, iv x5, iv y8, iv y21, rv b1, iv y185, iv y197, iv y209, iv y221, iv y233, iv y245, iv y257, iv y270, iv y283, iv y296, iv v357, lv y442, .second, .unset, .unset] [(.long y442)] tz → oS p e below T96 m 446 #[lv x1, .second, iv x2, iv x3, iv x4, iv x5, iv y8, iv y21, rv b1, iv y185, iv y197, iv y209, iv y221, iv y233, iv y245, iv y257, iv y270, iv y283, iv y296, iv v357, lv y442, .second, .unset, .unset] [(.int v357)] tz := fun tz kt => by
          show oS p e below T96 m 446 #[lv x1, .second, iv x2, iv x3, iv x4, iv x5, iv y8, iv y21, rv b1, iv y185, iv y197, iv y209, iv y221, iv y233, iv y245, iv y257, iv y270, iv y283, iv y296, iv v357, lv y442, .second, .unset, .unset] [(.int v357)] _
          refine XS.ifYes X96.here hx rfl (pc0 := 446) (pc' := 455) rfl (hb hby at_446) rfl ((if0 _ _).trans (teq hc446).1) (by decide) (by decide) ?_
          refine XS.lload X96.here hx rfl (hb hby at_455) rfl ?_
          exact kt
        exact ⟨y442, T96, _, (by rw [if_pos hc446]), N96, X96, rfl, fun tz kt => (pre99 _ kt)⟩
      · have pre100 : ∀ tz, oS p e below T96 m 457 #[lv x1, .second, iv x2, iv x3, iv x4, iv x5, iv y8, iv y21, rv b1, iv y185, iv y197, iv y209, iv y221, iv y233, iv y245, iv y257, iv y270, iv y283, iv y296, iv v357, lv y442, .second, .unset, .unset] [(.long (-1 : Int64))] tz → oS p e below T96 m 446 #[lv x1, .second, iv x2, iv x3, iv x4, iv x5, iv y8, iv y21, rv b1, iv y185, iv y197, iv y209, iv y221, iv y233, iv y245, iv y257, iv y270, iv y283, iv y296, iv v357, lv y442, .second, .unset, .unset] [(.int v357)] tz := fun tz kt => by
          show oS p e below T96 m 446 #[lv x1, .second, iv x2, iv x3, iv x4, iv x5, iv y8, iv y21, rv b1, iv y185, iv y197, iv y209, iv y221, iv y233, iv y245, iv y257, iv y270, iv y283, iv y296, iv v357, lv y442, .second, .unset, .unset] [(.int v357)] _
          refine XS.ifNo X96.here hx rfl (hb hby at_446) rfl ((if0 _ _).trans (feq hc446).1) ?_
          refine X96.ldc2Long hx hown (mvT hZ (own_w hw 28 rfl)) (g := (mkF m 449 #[lv x1, .second, iv x2, iv x3, iv x4, iv x5, iv y8, iv y21, rv b1, iv y185, iv y197, iv y209, iv y221, iv y233, iv y245, iv y257, iv y270, iv y283, iv y296, iv v357, lv y442, .second, .unset, .unset] [])) rfl (hb hby at_449) _ ?_
          refine XS.goto X96.here hx rfl (pc0 := 452) (pc' := 457) rfl (hb hby at_452) (by decide) (by decide) ?_
          exact kt
        exact ⟨(-1 : Int64), T96, _, (by rw [if_neg hc446]), N96, X96, rfl, fun tz kt => (pre100 _ kt)⟩)
  have hv457 : v457 = (if v357 = (0 : Int32) then y442 else (-1 : Int64)) := jv101
  have hc465 : (y185.toInt64) = v457 := Classical.byContradiction fun hc465 => by
    exact hc465 (own_final f a n han hn9 y8 y21 hn ha y185 y197 y209 y221 y233 y245 y257 y270 y283 y296 v357 y442 v457 hy185 hy197 hy209 hy221 hy233 hy245 hy257 hy270 hy283 hy296 hv357 hy442 hv457)
  have pre102 : ∀ tz, oS p e below T101 m 473 #[lv x1, .second, iv x2, iv x3, iv x4, iv x5, iv y8, iv y21, rv b1, iv y185, iv y197, iv y209, iv y221, iv y233, iv y245, iv y257, iv y270, iv y283, iv y296, iv v357, lv y442, .second, lv v457, .second] [(.int (1 : Int32))] tz → oS p e below T96 m 446 #[lv x1, .second, iv x2, iv x3, iv x4, iv x5, iv y8, iv y21, rv b1, iv y185, iv y197, iv y209, iv y221, iv y233, iv y245, iv y257, iv y270, iv y283, iv y296, iv v357, lv y442, .second, .unset, .unset] [(.int v357)] tz := fun tz kt => by
    show oS p e below T96 m 446 #[lv x1, .second, iv x2, iv x3, iv x4, iv x5, iv y8, iv y21, rv b1, iv y185, iv y197, iv y209, iv y221, iv y233, iv y245, iv y257, iv y270, iv y283, iv y296, iv v357, lv y442, .second, .unset, .unset] [(.int v357)] _
    refine st101 _ ?_
    refine XS.lstore X101.here hx rfl (hb hby at_457) rfl (l' := #[lv x1, .second, iv x2, iv x3, iv x4, iv x5, iv y8, iv y21, rv b1, iv y185, iv y197, iv y209, iv y221, iv y233, iv y245, iv y257, iv y270, iv y283, iv y296, iv v357, lv y442, .second, lv v457, .second]) rfl ?_
    refine XS.iload X101.here hx rfl (hb hby at_459) rfl ?_
    refine XS.i2l X101.here hx rfl (hb hby at_461) rfl ?_
    show oS p e below T101 m 462 #[lv x1, .second, iv x2, iv x3, iv x4, iv x5, iv y8, iv y21, rv b1, iv y185, iv y197, iv y209, iv y221, iv y233, iv y245, iv y257, iv y270, iv y283, iv y296, iv v357, lv y442, .second, lv v457, .second] [(.long (y185.toInt64))] _
    refine XS.lload X101.here hx rfl (hb hby at_462) rfl ?_
    refine XS.lcmp X101.here hx rfl (hb hby at_464) rfl ?_
    refine XS.ifNo X101.here hx rfl (hb hby at_465) rfl ((if0 _ _).trans (teq ((lw_eq (y185.toInt64) v457).mpr hc465)).2) ?_
    refine XS.iconst X101.here hx rfl (hb hby at_468) ?_
    show oS p e below T101 m 469 #[lv x1, .second, iv x2, iv x3, iv x4, iv x5, iv y8, iv y21, rv b1, iv y185, iv y197, iv y209, iv y221, iv y233, iv y245, iv y257, iv y270, iv y283, iv y296, iv v357, lv y442, .second, lv v457, .second] [(.int (1 : Int32))] _
    refine XS.goto X101.here hx rfl (pc0 := 469) (pc' := 473) rfl (hb hby at_469) (by decide) (by decide) ?_
    exact kt
  obtain ⟨fs, hr, hrun, hended, hW, hsame⟩ := X101.leave (v := some (.int (1 : Int32))) (fun h => by rw [Bd.returns] at h; cases h)
  refine ⟨_, _, pre0 _ (pre61 _ (pre98 _ (pre102 _ ?_))), hrun, hended, _, _, rfl, ?_, ⟨_, rfl⟩, hW, hsame.mono (by decide) (by decide)⟩
  · show oS p e below T101 m 473 #[lv x1, .second, iv x2, iv x3, iv x4, iv x5, iv y8, iv y21, rv b1, iv y185, iv y197, iv y209, iv y221, iv y233, iv y245, iv y257, iv y270, iv y283, iv y296, iv v357, lv y442, .second, lv v457, .second] [(.int (1 : Int32))] _
    exact retN X101 hx (t := .boolean) Bd.returns (by simp) (hb hby at_473) hr
  · show Q0 Z x1 x2 x3 x4 x5 h0 n0 _ T101.heap _
    rw [e101]
    exact ⟨rfl, N101⟩
set_option maxRecDepth 65536 in
set_option maxHeartbeats 40000000 in
theorem comes_1 {Post : Tables → Env → Array Value → State → Outcome → State → Prop} (hpost : ∀ tb e args s v u, (limb_1_1.after args s (.returned v) u = true ∧ limb_1_2.after args s (.returned v) u = true ∧ True) → FrameEnd s (.returned v) u (Jvm.fieldLocs frame_1_writes args s ++ Jvm.arrayLocs frame_1_arrays args s ++ Jvm.staticLocs frame_1_statics s) 32 256 → Post tb e args s (.returned v) u) :
    ArmFor flags0 classFile x code maxLocals ret World_1 tables_1 room_1 Calls_1 rest_1 Pre_1 Post := by
  intro l hfl _ _ p e ha hc hk s m args below hf hA hF happ hP
  obtain ⟨hcalls, hrest, hpre⟩ := hP
  obtain ⟨-, -, -, hnamed, -, -, -, hat⟩ := (Spec.applies_iff hf).mp happ
  obtain ⟨hg, hn⟩ := and_e (Cond.before_iff.mp (show (Jvm.Cond.and given_1 narrow_1).before args s = true from hpre))
  obtain ⟨gc, gr0⟩ := and_e hg
  obtain ⟨ga0, gr1⟩ := and_e gr0
  obtain ⟨ga1, gr2⟩ := and_e gr1
  obtain ⟨ga2, gr3⟩ := and_e gr2
  obtain ⟨ga3, gr4⟩ := and_e gr3
  have ga4 := gr4
  obtain ⟨w0, w1, w2, w3, w4, rfl⟩ : ∃ w0 w1 w2 w3 w4 : Value, args = #[w0, w1, w2, w3, w4] := by
    have hs : args.size = 5 := by simpa [Cond.value, given_1] using gc
    obtain ⟨L⟩ := args
    match L, hs with
    | [w0, w1, w2, w3, w4], _ => exact ⟨w0, w1, w2, w3, w4, rfl⟩
  have hw := fun d (hd : d ∈ tables_1) => atoms_spec (ws := Jvm.Cond.code x code maxLocals ret :: tables_1) hat d (List.mem_cons_of_mem _ hd)
  obtain ⟨i0, ei0⟩ := isL_v ga0
  obtain rfl : w0 = (.long i0) := Option.some.inj ei0
  obtain ⟨i1, ei1⟩ := is_v ga1
  obtain rfl : w1 = (.int i1) := Option.some.inj ei1
  obtain ⟨i2, ei2⟩ := is_v ga2
  obtain rfl : w2 = (.int i2) := Option.some.inj ei2
  obtain ⟨i3, ei3⟩ := is_v ga3
  obtain rfl : w3 = (.int i3) := Option.some.inj ei3
  obtain ⟨i4, ei4⟩ := is_v ga4
  obtain rfl : w4 = (.int i4) := Option.some.inj ei4
  obtain ⟨n, o, h1, h2, h3, _, L, rfl, ⟨rfl, N⟩, hq⟩ := rm0 l s _ hw tables_1 i0 i1 i2 i3 i4 s.heap s.heap.size (Nat.le_refl _)  p e ha hc hk s m _ below hf ((Spec.applies_iff_loose hf).mp happ).1 ⟨rfl, State.Warmed39.refl s, rfl⟩ trivial
  refine ⟨n, _, h1, h2, h3, hpost _ _ _ _ _ _ ⟨Cond.after_iff.mpr rfl, Cond.after_iff.mpr (eq_i res_at (Term.int_eval (1)) rfl), trivial⟩ ⟨hq.1, hq.2.1, (hq.2.2.sift fun y hy => Or.inr (N y hy)).mono (by decide) (by decide)⟩⟩
theorem main_1_1 : Claimed_1_1 := comes_1 fun _ _ _ _ _ _ h hF => ⟨h.1, hF⟩
theorem main_1_2 : Claimed_1_2 := comes_1 fun _ _ _ _ _ _ h hF => ⟨h.2.1, hF⟩
end Jvm.Pilot.@@N@@
namespace Jvm.Pilot.@@N@@
open Jvm Jvm.ClassFile Sem Op Lib Jvm.Free Jvm.Stand Jvm.Pilot.@@N@@.Jvm.D
/-! MADE BY PROGRAM (witnessworld.py) out of the Statement's table words and the real class files: 11 classes; the members and pool entries that the words name. The judged class is class 1, her method 1. -/
namespace start1
open Jvm.ClassFile
def u (s : String) : CpInfo := .utf8 (stringToUtf16 s)
/-- a pool by its gaps: so many unusable entries, then the entry; so many at the end -/
def gap : Nat → List CpInfo → List CpInfo
  | 0, r => r
  | n + 1, r => .unusable :: gap n r
def poolList (es : List (Nat × CpInfo)) (last : Nat) : List CpInfo := es.foldr (fun e r => gap e.1 (e.2 :: r)) (gap last [])
def pool (es : List (Nat × CpInfo)) (last : Nat) : Array CpInfo := ⟨poolList es last⟩
def fileOf (pool : Array CpInfo) (this : Nat) (attrs : Array Attribute := #[]) (ms : Array MethodInfo := #[]) (fl : Nat := 33) (sup : Nat := 0) (ifs : Array Nat := #[]) (fds : Array FieldInfo := #[]) : ClassFile where
  minorVersion := 0
  majorVersion := 65
  constantPool := pool
  accessFlags := fl
  thisClass := this
  superClass := sup
  interfaces := ifs
  fields := fds
  methods := ms
  attributes := attrs
def plain (name : String) (sup : Option ClassId) : Class where
  name := name
  kind := .ordinary
  loader := none
  accessFlags := 33
  super := sup
  interfaces := #[]
  cf := none
  fields := #[]
  methods := #[]
  instanceTypes := #[]
  staticTypes := #[]
  resolved := #[]
  callSites := []
  init := .initialized
  statics := none
  mirror := none

def pool0 : Array CpInfo := pool [(5, u "<init>"), (0, u "()V"), (1, .class_ 10), (1, u "java/lang/Object")] 113

def k0m0 : Method := { name := "<init>", desc := "()V", sig := { parameters := [], returnType := none }, accessFlags := 1, code := none }
/-- java/lang/Object -/
def k0 : Class := { plain "java/lang/Object" none with
  accessFlags := 33
  interfaces := #[]
  cf := some (fileOf pool0 8 #[] #[{ accessFlags := 1, nameIndex := 5, descriptorIndex := 6, attributes := #[] }] 33 0 #[] #[])
  fields := #[]
  methods := #[k0m0]
  instanceTypes := #[]
  staticTypes := #[]
  resolved := Array.replicate 124 none
  statics := none }

def pool1 : Array CpInfo := pool [(2, .class_ 4), (1, u "java/lang/Object"), (0, u "<init>"), (0, u "()V"), (0, .integer 2147483647), (0, .methodref 9 10), (0, .class_ 11), (0, .nameAndType 12 13), (0, u "com/example/planwright/planwright/io/DigitsReadPinLaw"), (0, u "pick"), (0, u "(JIII)B"), (0, .methodref 15 16), (0, .class_ 17), (0, .nameAndType 18 19), (0, u "com/example/planwright/planwright/io/Digits"), (0, u "read"), (0, u "([BII)I"), (0, .methodref 9 21), (0, .nameAndType 22 23), (0, u "dig"), (0, u "([BIII)I"), (0, .methodref 9 25), (0, .nameAndType 26 27), (0, u "val"), (0, u "(III)J"), (0, .long 18446744073709551615), (1, .methodref 9 31), (0, .nameAndType 32 33), (0, u "pow10"), (0, u "(I)J"), (0, .long 10), (1, .long 100), (1, .long 1000), (1, .long 10000), (1, .long 100000), (1, .long 1000000), (1, .long 10000000), (1, .long 100000000), (3, u "law"), (0, u "(JIIII)Z")] 5

def k1m0 : Method := { name := "<init>", desc := "()V", sig := { parameters := [], returnType := none }, accessFlags := 2, code := none }
def k1c1 : Code := { maxStack := 7, maxLocals := 24, code := code, exceptionTable := #[], attributes := #[] }
def k1m1 : Method := { name := "law", desc := "(JIIII)Z", sig := { parameters := [.long, .int, .int, .int, .int], returnType := some .boolean }, accessFlags := 9, code := some k1c1 }
def k1c2 : Code := { maxStack := 4, maxLocals := 6, code := method_3_code, exceptionTable := #[], attributes := #[] }
def k1m2 : Method := { name := "pick", desc := "(JIII)B", sig := { parameters := [.long, .int, .int, .int], returnType := some .byte }, accessFlags := 10, code := some k1c2 }
def k1c3 : Code := { maxStack := 3, maxLocals := 5, code := method_4_code, exceptionTable := #[], attributes := #[] }
def k1m3 : Method := { name := "dig", desc := "([BIII)I", sig := { parameters := [(.array .byte), .int, .int, .int], returnType := some .int }, accessFlags := 10, code := some k1c3 }
def k1c4 : Code := { maxStack := 4, maxLocals := 3, code := method_5_code, exceptionTable := #[], attributes := #[] }
def k1m4 : Method := { name := "val", desc := "(III)J", sig := { parameters := [.int, .int, .int], returnType := some .long }, accessFlags := 10, code := some k1c4 }
def k1c5 : Code := { maxStack := 5, maxLocals := 2, code := method_6_code, exceptionTable := #[], attributes := #[] }
def k1m5 : Method := { name := "pow10", desc := "(I)J", sig := { parameters := [.int], returnType := some .long }, accessFlags := 10, code := some k1c5 }
/-- com/example/planwright/planwright/io/DigitsReadPinLaw -/
def k1 : Class := { plain "com/example/planwright/planwright/io/DigitsReadPinLaw" (some 0) with
  accessFlags := 49
  interfaces := #[]
  cf := some (fileOf pool1 9 #[] #[{ accessFlags := 2, nameIndex := 5, descriptorIndex := 6, attributes := #[] }, { accessFlags := 9, nameIndex := 52, descriptorIndex := 53, attributes := #[] }, { accessFlags := 10, nameIndex := 12, descriptorIndex := 13, attributes := #[] }, { accessFlags := 10, nameIndex := 22, descriptorIndex := 23, attributes := #[] }, { accessFlags := 10, nameIndex := 26, descriptorIndex := 27, attributes := #[] }, { accessFlags := 10, nameIndex := 32, descriptorIndex := 33, attributes := #[] }] 49 2 #[] #[])
  fields := #[]
  methods := #[k1m0, k1m1, k1m2, k1m3, k1m4, k1m5]
  instanceTypes := #[]
  staticTypes := #[]
  resolved := Array.replicate 59 none
  statics := none }

def pool2 : Array CpInfo := pool [(2, .class_ 4), (1, u "java/lang/Object"), (0, u "<init>"), (0, u "()V"), (0, .class_ 8), (0, u "com/example/planwright/planwright/io/Digits"), (2, u "read"), (0, u "([BII)I")] 3

def k2m0 : Method := { name := "<init>", desc := "()V", sig := { parameters := [], returnType := none }, accessFlags := 2, code := none }
def k2c1 : Code := { maxStack := 3, maxLocals := 5, code := prog_28_method_2_code, exceptionTable := #[], attributes := #[] }
def k2m1 : Method := { name := "read", desc := "([BII)I", sig := { parameters := [(.array .byte), .int, .int], returnType := some .int }, accessFlags := 8, code := some k2c1 }
/-- com/example/planwright/planwright/io/Digits -/
def k2 : Class := { plain "com/example/planwright/planwright/io/Digits" (some 0) with
  accessFlags := 48
  interfaces := #[]
  cf := some (fileOf pool2 7 #[] #[{ accessFlags := 2, nameIndex := 5, descriptorIndex := 6, attributes := #[] }, { accessFlags := 8, nameIndex := 11, descriptorIndex := 12, attributes := #[] }] 48 2 #[] #[])
  fields := #[]
  methods := #[k2m0, k2m1]
  instanceTypes := #[]
  staticTypes := #[]
  resolved := Array.replicate 16 none
  statics := none }

def pool3 : Array CpInfo := pool [(1, u "java/lang/Cloneable"), (0, .class_ 1), (0, u "java/lang/Object"), (0, .class_ 3)] 3

/-- java/lang/Cloneable -/
def k3 : Class := { plain "java/lang/Cloneable" (some 0) with
  accessFlags := 1537
  interfaces := #[]
  cf := some (fileOf pool3 2 #[] #[] 1537 4 #[] #[])
  fields := #[]
  methods := #[]
  instanceTypes := #[]
  staticTypes := #[]
  resolved := Array.replicate 8 none
  statics := none }

def pool4 : Array CpInfo := pool [(1, u "java/io/Serializable"), (0, .class_ 1), (0, u "java/lang/Object"), (0, .class_ 3)] 3

/-- java/io/Serializable -/
def k4 : Class := { plain "java/io/Serializable" (some 0) with
  accessFlags := 1537
  interfaces := #[]
  cf := some (fileOf pool4 2 #[] #[] 1537 4 #[] #[])
  fields := #[]
  methods := #[]
  instanceTypes := #[]
  staticTypes := #[]
  resolved := Array.replicate 8 none
  statics := none }

/-- the primitive byte -/
def k5 : Class := { plain "byte" none with kind := .primitive 'B', accessFlags := 0x411 }
/-- [B -/
def k6 : Class := { plain "[B" (some 0) with kind := .array 5 .byte, interfaces := #[3, 4], accessFlags := 1041 }

/-- the primitive int -/
def k7 : Class := { plain "int" none with kind := .primitive 'I', accessFlags := 0x411 }
/-- [I -/
def k8 : Class := { plain "[I" (some 0) with kind := .array 7 .int, interfaces := #[3, 4], accessFlags := 1041 }

/-- the primitive long -/
def k9 : Class := { plain "long" none with kind := .primitive 'J', accessFlags := 0x411 }
/-- [J -/
def k10 : Class := { plain "[J" (some 0) with kind := .array 9 .long, interfaces := #[3, 4], accessFlags := 1041 }

def heap : Heap := #[]
def classes : Array Class := #[k0, k1, k2, k3, k4, k5, k6, k7, k8, k9, k10]
def interned : List (Array UInt16 × Addr) := []
def slotsUsed : Nat := 0
def theMethod : MethodId := ⟨1, 1⟩
def args0 : Array Value := #[.long 5, .int 6, .int 7, .int 8, .int 9]
def aboutOver (below : List Frame) : State where
  vm := { classes := classes, interned := interned.toArray }
  heap := heap
  slotsUsed := slotsUsed
  threads := #[{ frames := .invoking theMethod args0 :: below }]
def below0 : List Frame := [.native { method := ⟨0, 0⟩, args := #[] }]
def about1 : State := aboutOver below0
def p0 : Program := .bare "" "" ""
def e0 : Env := launch0.env 0 0 0
theorem w_frames : about1.frames = Frame.invoking theMethod args0 :: below0 := rfl
set_option maxRecDepth 65536 in
theorem w_args : argsFit about1.vm theMethod args0 = true := by decide +kernel
set_option maxRecDepth 65536 in
theorem w_heap : heapFits about1 = true := by decide +kernel
set_option maxRecDepth 65536 in
theorem w_runnable : about1.curStatus? = some .runnable := by decide +kernel
set_option maxRecDepth 65536 in
theorem w_alone : about1.alone = true := by decide +kernel
set_option maxRecDepth 65536 in
theorem w_named : about1.methodNamed? x = some theMethod := by decide +kernel
set_option maxRecDepth 65536 in
theorem w_hears : about1.hears theMethod below0 = true := by decide +kernel
set_option maxRecDepth 65536 in
theorem w_ripe : about1.ripe theMethod args0 below0 = true := by decide +kernel
theorem w_running : about1.status = .running := rfl
set_option maxRecDepth 65536 in
theorem w_room : about1.hasRoom e0.platform room_1 = true :=
  launch0.hasRoom_least _ room_1 (by decide +kernel) (by decide +kernel) (by decide +kernel) (by decide +kernel) (by decide +kernel) (by decide +kernel)
theorem allAtoms_all (ts : List Jvm.Cond) (a : Array Jvm.Value) (st : Jvm.State) : (allAtoms ts).before a st = ts.all (fun c => c.before a st) := by
  induction ts with
  | nil => rfl
  | cons c t ih =>
    show (Jvm.Cond.and c (allAtoms t)).before a st = _
    rw [Jvm.Cond.before_and, ih, List.all_cons]
def words1 : List Jvm.Cond := Jvm.Cond.code x code maxLocals ret :: tables_1
/-- a 'code' word, met by the world's own term for the bytes: nothing is compared byte by byte -/
theorem code_word {y : MethodName} {bytes : ByteArray} {mx : Nat} {rt : Option FieldType} {a : Array Value} {s : State} {m : MethodId} {meth : Method} {c : Code} (h1 : s.methodNamed? y = some m) (h2 : s.vm.method? m = some meth) (h3 : meth.code = some c) (h4 : c.code = bytes)
    (h5 : (c.maxLocals == mx && c.exceptionTable.isEmpty && decide (c.maxStack ≤ mostOperands) && decide (meth.sig.returnType = rt) && !meth.locks && decide (parseMethodDescriptor y.desc = some meth.sig)) = true) : (Jvm.Cond.code y bytes mx rt).before a s = true := by
  simp only [Bool.and_eq_true, beq_iff_eq, Bool.not_eq_true', decide_eq_true_eq] at h5
  obtain ⟨⟨⟨⟨⟨g1, g2⟩, g3⟩, g4⟩, g5⟩, g6⟩ := h5
  simp [Cond.before, Cond.holds, Cond.value, h1, h2, h3, h4, g1, g2, g3, g4, g5, g6]
def isCode : Jvm.Cond → Bool
  | .code _ _ _ _ => true
  | _ => false
theorem all_split {L : List Jvm.Cond} {P : Jvm.Cond → Bool} (h1 : L.all (fun c => isCode c || P c) = true) (h2 : ∀ c ∈ L.filter isCode, P c = true) : L.all P = true := by
  refine List.all_eq_true.mpr fun c hc => ?_
  have h := List.all_eq_true.mp h1 c hc
  rcases Bool.eq_false_or_eq_true (isCode c) with hi | hi
  · exact h2 c (List.mem_filter.mpr ⟨hc, hi⟩)
  · simpa [hi] using h
set_option maxRecDepth 65536 in
theorem w_c0 : (Jvm.Cond.code x code maxLocals ret).before args0 about1 = true := code_word (m := ⟨1, 1⟩) (meth := k1m1) (c := k1c1) (by decide +kernel) rfl rfl rfl (by decide +kernel)
set_option maxRecDepth 65536 in
theorem w_c1 : (Jvm.Cond.code ({ cls := "com/example/planwright/planwright/io/DigitsReadPinLaw", name := "pick", desc := "(JIII)B" } : Jvm.MethodName) method_3_code (6 : Nat) (Option.some Jvm.ClassFile.FieldType.byte)).before args0 about1 = true := code_word (m := ⟨1, 2⟩) (meth := k1m2) (c := k1c2) (by decide +kernel) rfl rfl rfl (by decide +kernel)
set_option maxRecDepth 65536 in
theorem w_c2 : (Jvm.Cond.code ({ cls := "com/example/planwright/planwright/io/Digits", name := "read", desc := "([BII)I" } : Jvm.MethodName) prog_28_method_2_code (5 : Nat) (Option.some Jvm.ClassFile.FieldType.int)).before args0 about1 = true := code_word (m := ⟨2, 1⟩) (meth := k2m1) (c := k2c1) (by decide +kernel) rfl rfl rfl (by decide +kernel)
set_option maxRecDepth 65536 in
theorem w_c3 : (Jvm.Cond.code ({ cls := "com/example/planwright/planwright/io/DigitsReadPinLaw", name := "dig", desc := "([BIII)I" } : Jvm.MethodName) method_4_code (5 : Nat) (Option.some Jvm.ClassFile.FieldType.int)).before args0 about1 = true := code_word (m := ⟨1, 3⟩) (meth := k1m3) (c := k1c3) (by decide +kernel) rfl rfl rfl (by decide +kernel)
set_option maxRecDepth 65536 in
theorem w_c4 : (Jvm.Cond.code ({ cls := "com/example/planwright/planwright/io/DigitsReadPinLaw", name := "val", desc := "(III)J" } : Jvm.MethodName) method_5_code (3 : Nat) (Option.some Jvm.ClassFile.FieldType.long)).before args0 about1 = true := code_word (m := ⟨1, 4⟩) (meth := k1m4) (c := k1c4) (by decide +kernel) rfl rfl rfl (by decide +kernel)
set_option maxRecDepth 65536 in
theorem w_c5 : (Jvm.Cond.code ({ cls := "com/example/planwright/planwright/io/DigitsReadPinLaw", name := "pow10", desc := "(I)J" } : Jvm.MethodName) method_6_code (2 : Nat) (Option.some Jvm.ClassFile.FieldType.long)).before args0 about1 = true := code_word (m := ⟨1, 5⟩) (meth := k1m5) (c := k1c5) (by decide +kernel) rfl rfl rfl (by decide +kernel)
def codes1 : List Jvm.Cond := [Jvm.Cond.code x code maxLocals ret, Jvm.Cond.code ({ cls := "com/example/planwright/planwright/io/DigitsReadPinLaw", name := "pick", desc := "(JIII)B" } : Jvm.MethodName) method_3_code (6 : Nat) (Option.some Jvm.ClassFile.FieldType.byte), Jvm.Cond.code ({ cls := "com/example/planwright/planwright/io/Digits", name := "read", desc := "([BII)I" } : Jvm.MethodName) prog_28_method_2_code (5 : Nat) (Option.some Jvm.ClassFile.FieldType.int), Jvm.Cond.code ({ cls := "com/example/planwright/planwright/io/DigitsReadPinLaw", name := "dig", desc := "([BIII)I" } : Jvm.MethodName) method_4_code (5 : Nat) (Option.some Jvm.ClassFile.FieldType.int), Jvm.Cond.code ({ cls := "com/example/planwright/planwright/io/DigitsReadPinLaw", name := "val", desc := "(III)J" } : Jvm.MethodName) method_5_code (3 : Nat) (Option.some Jvm.ClassFile.FieldType.long), Jvm.Cond.code ({ cls := "com/example/planwright/planwright/io/DigitsReadPinLaw", name := "pow10", desc := "(I)J" } : Jvm.MethodName) method_6_code (2 : Nat) (Option.some Jvm.ClassFile.FieldType.long)]
set_option maxRecDepth 65536 in
theorem codes_eq : words1.filter isCode = codes1 := rfl
theorem w_codes : ∀ c ∈ words1.filter isCode, c.before args0 about1 = true := by
  rw [codes_eq]
  intro c hc
  simp only [codes1, List.mem_cons, List.not_mem_nil, or_false] at hc
  rcases hc with rfl | rfl | rfl | rfl | rfl | rfl
  · exact w_c0
  · exact w_c1
  · exact w_c2
  · exact w_c3
  · exact w_c4
  · exact w_c5
set_option maxRecDepth 65536 in
theorem w_t1 : (words1.take 24).all (fun c => isCode c || c.before args0 about1) = true := by decide +kernel
set_option maxRecDepth 65536 in
theorem w_t2 : (words1.drop 24).all (fun c => isCode c || c.before args0 about1) = true := by decide +kernel
theorem w_tables : (allAtoms (Jvm.Cond.code x code maxLocals ret :: tables_1)).before args0 about1 = true := by
  rw [allAtoms_all]
  show words1.all (fun c => c.before args0 about1) = true
  refine all_split ?_ w_codes
  rw [← List.take_append_drop 24 words1, List.all_append, w_t1, w_t2]
  rfl
set_option maxRecDepth 65536 in
theorem w_case : (Jvm.Cond.and given_1 narrow_1).before args0 about1 = true := by decide +kernel
theorem w_applies : (headSpec (Jvm.Cond.code x code maxLocals ret :: tables_1) room_1).applies x e0.platform about1 = true :=
  (Spec.applies_iff w_frames).mpr ⟨w_running, w_runnable, w_alone, w_named, w_hears, w_ripe, w_room, w_tables⟩
theorem atStart : AtStart classFile x code maxLocals ret World_1 tables_1 room_1 Calls_1 rest_1 Pre_1 launch0 p0 e0 about1 theMethod args0 below0 :=
  ⟨lists_1, trivial, launch0.admits_env _ _ _, launch0.least_env, fairChoices_fair.cas, fairChoices_fair.clock, w_frames, w_args, w_heap, w_applies, trivial, trivial, w_case⟩
end start1
theorem witness_1 : WitnessClaimed_1 := ⟨start1.p0, start1.e0, start1.about1, start1.theMethod, start1.args0, start1.below0, start1.atStart⟩
end Jvm.Pilot.@@N@@
