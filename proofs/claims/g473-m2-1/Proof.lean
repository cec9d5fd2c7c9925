import JvmDerived
import JvmDerived.Pilot.@@N@@Statement
import JvmDerived.Pilot.@@N@@Code
set_option linter.unusedVariables false
set_option linter.unusedSimpArgs false
namespace Jvm.Pilot.@@N@@
open Jvm Jvm.ClassFile Sem Op Lib Jvm.Free Jvm.Stand Jvm.LawKit Jvm.RoadKit Bundle Jvm.Pilot.@@N@@.Jvm.D
theorem own_w {a0 : Array Value} {Z : State} (hw : ∀ d ∈ tables_1, d.before a0 Z = true) (i : Nat) {d : Jvm.Cond} (h : tables_1[i]? = some d) : d.before a0 Z = true := hw _ (List.mem_of_getElem? h)
abbrev oS (p : Program) (e : Env) (b : List Frame) (T : State) (m : MethodId) (pc : Nat) (L : Array Slot) (S : List Value) (t : State) : Prop := Steps p.tables e b (T.setTop (mkF m pc L S)) t
abbrev lv (x : Int64) : Slot := .val (.long x)
theorem own_join {α : Type} {p : Program} {l : Launch} {e : Env} {R : Room} {s : State} {m : MethodId} {args : Array Value} {below : List Frame} {meth : Method} {c : Code} {T : State} {locs : List Loc} {cells slots n0 : Nat} {h : Heap}
    (_ : Stand p l e R s m args below meth c T locs cells slots) (_ : Fr n0 locs) (_ : T.heap = h) (A : JFrame) (B : α → JFrame) (P : α → Prop)
    (k : ∃ (v : α) (T' : State) (locs' : List Loc), P v ∧ Fr n0 locs' ∧ Stand p l e R s m args below meth c T' locs' cells slots ∧ T'.heap = h ∧ ∀ t, Steps p.tables e below (T'.setTop (B v)) t → Steps p.tables e below (T.setTop A) t) :
    ∃ (v : α) (T' : State) (locs' : List Loc), P v ∧ Fr n0 locs' ∧ Stand p l e R s m args below meth c T' locs' cells slots ∧ T'.heap = h ∧ ∀ t, Steps p.tables e below (T'.setTop (B v)) t → Steps p.tables e below (T.setTop A) t := k
theorem own_joinH {α : Type} {p : Program} {l : Launch} {e : Env} {R : Room} {s : State} {m : MethodId} {args : Array Value} {below : List Frame} {meth : Method} {c : Code} {T : State} {locs : List Loc} {cells slots n0 : Nat} {h : Heap}
    (_ : Stand p l e R s m args below meth c T locs cells slots) (_ : Fr n0 locs) (_ : T.heap = h) (A : JFrame) (B : α → JFrame) (P : α → Heap → Prop)
    (k : ∃ (v : α) (T' : State) (h' : Heap) (locs' : List Loc), P v h' ∧ Fr n0 locs' ∧ Stand p l e R s m args below meth c T' locs' cells slots ∧ T'.heap = h' ∧ ∀ t, Steps p.tables e below (T'.setTop (B v)) t → Steps p.tables e below (T.setTop A) t) :
    ∃ (v : α) (T' : State) (h' : Heap) (locs' : List Loc), P v h' ∧ Fr n0 locs' ∧ Stand p l e R s m args below meth c T' locs' cells slots ∧ T'.heap = h' ∧ ∀ t, Steps p.tables e below (T'.setTop (B v)) t → Steps p.tables e below (T.setTop A) t := k
theorem own_selp {s Z : State} {a0 args : Array Value} {y : MethodName} {n : Nat} (hZ : Z.Warmed39 s.vm) (wi : (Cond.instantiable y.cls n).before a0 Z = true) (wp : (Cond.privateMethod y).before a0 Z = true) (wm : (Cond.instanceMethod y).before a0 Z = true)
    (hy : y.cls ≠ "java/lang/invoke/MethodHandle" ∧ y.cls ≠ "java/lang/invoke/VarHandle") : (Cond.selects y.cls y y).before args s = true := by
  have wi' : (Cond.instantiable y.cls n).before args s = true := mvT hZ wi
  obtain ⟨c, k, h1, h2, h3, h4, -⟩ := Cond.instantiable_spec wi'
  exact Stand.selects_self_of_private h1 h2 (Bool.or_eq_false_iff.mp h4).1 (Cond.privateMethod_at (mvP hZ wp (args := #[]))) (mvT hZ wm) hy
abbrev oz0 : String := "com/example/sidetrack/sidetrack/core/MessageTable"
abbrev oz1 : String := "com/example/sidetrack/sidetrack/core/MessageTable$Chunk"
abbrev oz2 : String := "[Lcom/example/sidetrack/sidetrack/core/MessageTable$Chunk;"
abbrev oz3 : String := ") (g_ch : n0 ≤ ch) (g_ar0 : n0 ≤ ar0) (g_ar1 : n0 ≤ ar1) (g_ar2 : n0 ≤ ar2) (g_ar3 : n0 ≤ ar3) (g_ar4 : n0 ≤ ar4) (g_ar5 : n0 ≤ ar5) (ne_cs_ix : cs ≠ ix) (ne_cs_ar0 : cs ≠ ar0) (ne_cs_ar1 : cs ≠ ar1) (ne_cs_ar2 : cs ≠ ar2) (ne_cs_ar3 : cs ≠ ar3) (ne_cs_ar4 : cs ≠ ar4) (ne_cs_ar5 : cs ≠ ar5) (ne_ix_ar0 : ix ≠ ar0) (ne_ix_ar1 : ix ≠ ar1) (ne_ix_ar2 : ix ≠ ar2) (ne_ix_ar3 : ix ≠ ar3) (ne_ix_ar4 : ix ≠ ar4) (ne_ix_ar5 : ix ≠ ar5) (ne_ar0_ar1 : ar0 ≠ ar1) (ne_ar0_ar2 : ar0 ≠ ar2) (ne_ar0_ar3 : ar0 ≠ ar3) (ne_ar0_ar4 : ar0 ≠ ar4) (ne_ar0_ar5 : ar0 ≠ ar5) (ne_ar1_ar2 : ar1 ≠ ar2) (ne_ar1_ar3 : ar1 ≠ ar3) (ne_ar1_ar4 : ar1 ≠ ar4) (ne_ar1_ar5 : ar1 ≠ ar5) (ne_ar2_ar3 : ar2 ≠ ar3) (ne_ar2_ar4 : ar2 ≠ ar4) (ne_ar2_ar5 : ar2 ≠ ar5) (ne_ar3_ar4 : ar3 ≠ ar4) (ne_ar3_ar5 : ar3 ≠ ar5) (ne_ar4_ar5 : ar4 ≠ ar5) (F_rows_ch : Fld Z h0 ch "
abbrev oz4 : String := "(I)Lcom/example/sidetrack/sidetrack/core/MessageTable$Chunk;"
theorem own_getR {p : Program} {l : Launch} {e : Env} {R : Room} {s : State} {m : MethodId} {args : Array Value} {below : List Frame} {meth : Method} {c : Code} {T : State} {locs : List Loc} {cells slots : Nat} {Z : State} {a0 : Array Value} {h : Heap}
    (X : Stand p l e R s m args below meth c T locs cells slots) (hx : p.tables.exec = Jvm.exec) (hZ : Z.Warmed39 s.vm) {own O n d : String} {index : Nat} (hown : s.vm.findClass own = some m.cls) (w : (Cond.fieldRef own index O n d).before a0 Z = true)
    (eT : T.heap = h) {a : Addr} {v : Value} (F : Fld Z h a O n d v) {g : JFrame} (hg : g.method = m) {rest : List Value} (hs : g.stack = .ref a :: rest) (hd : decode c.code g.pc = .ok (.getfield index, 3)) :
    ∀ target, Steps p.tables e below (T.setTop { g with pc := g.pc + 3, stack := v :: rest }) target → Steps p.tables e below (T.setTop g) target := by
  intro target hrest
  obtain ⟨cell, cf, k, i, f, h1, h2, h3, h4, -, -, h7⟩ := F
  have hW : Z.Warmed39 T.vm := wtrans hZ X.warmed
  have w1 := Cond.fieldRef_warmed39 hW w
  have hcur : (Z.setVm T.vm).vm.findClass own = some m.cls := by
    show T.vm.findClass own = some m.cls
    rw [X.warmed.alike.findClass]; exact hown
  obtain ⟨c', k', i', f', hf', hready⟩ := Cond.fieldRef_spec hcur w1
  obtain ⟨k2, hi2, -⟩ := State.fieldFound?_setVm (s := Z) hW.alike h2
  cases hf'.symm.trans hi2
  have hready' : T.vm.fieldReady m.cls index cf f := hready
  subst hg
  jvm_step X.here [hx, hd, getfield.wp_ready (e := e) (s := T) (f := g) X.here.top hready' h3 hs (by rw [eT]; exact h1) h4 h7]
  exact hrest
theorem own_putR {p : Program} {l : Launch} {e : Env} {R : Room} {s : State} {m : MethodId} {args : Array Value} {below : List Frame} {meth : Method} {c : Code} {T : State} {locs : List Loc} {cells slots : Nat} {Z : State} {a0 : Array Value} {h : Heap}
    (X : Stand p l e R s m args below meth c T locs cells slots) (hx : p.tables.exec = Jvm.exec) (hZ : Z.Warmed39 s.vm) {own O n d C : String} {index kk : Nat} {ty : FieldType} (hown : s.vm.findClass own = some m.cls) (w : (Cond.fieldRef own index O n d).before a0 Z = true)
    (eT : T.heap = h) {a : Addr} {v old : Value} (F : Fld Z h a O n d old) (E : Exa Z h a C) (L : (Cond.lays C O n d).before a0 Z = true) (wi : (Cond.instantiable C kk).before a0 Z = true)
    (hty : parseFieldDescriptor d = some ty) (hn : narrow ty v = v) (hf : fits ty v = true) {g : JFrame} (hg : g.method = m) {rest : List Value} (hs : g.stack = v :: .ref a :: rest) (hd : decode c.code g.pc = .ok (.putfield index, 3)) :
    ∃ T' h', Stand p l e R s m args below meth c T' (locs ++ [⟨a, Jvm.RoadKit.slotOf Z O n d⟩]) cells slots ∧ T'.heap = h' ∧ Wr h h' a (Jvm.RoadKit.slotOf Z O n d) v ∧ ∀ target, Steps p.tables e below (T'.setTop { g with pc := g.pc + 3, stack := rest }) target → Steps p.tables e below (T.setTop g) target := by
  obtain ⟨cell, cf, k, i, f, h1, h2, h3, h4, h5, -, h7⟩ := F
  obtain ⟨cell', kc, e1, e2, e3, -⟩ := E
  cases h1.symm.trans e1
  obtain ⟨c1, k1, cf1, kf1, i1, f1, a1, a2, a3, -, -, a6, -⟩ := Laid.spec (Or.inl L)
  cases h2.symm.trans a3
  cases e2.symm.trans a1
  obtain ⟨c2, k2, i1, i2, i3, -⟩ := Cond.instantiable_spec wi
  cases e2.symm.trans i1
  cases a2.symm.trans i2
  have ht := (State.fieldFound?_type h2 hty).2
  have hW : Z.Warmed39 T.vm := wtrans hZ X.warmed
  have hfit : Z.fitsSlot cell.cls cell.vm f.slot v = true := by
    have q : Z.slotType? cell.cls cell.vm f.slot = some ty := by
      simp only [State.slotType?, a2, Option.bind_eq_bind, Option.bind_some, i3]
      cases hq : cell.vm <;> first | (rw [hq] at h5; exact Bool.noConfusion h5) | (rw [a6, ht])
    simp [State.fitsSlot, q, hf]
  have hfit' : T.fitsSlot cell.cls cell.vm f.slot v = true := by rw [← State.fitsSlot_setVm hW.alike] at hfit; exact hfit
  have hfin : hasFlag f.accessFlags Acc.final = false := by
    obtain ⟨_, _, _, _, _, _, -, -, b3, -, b5, -⟩ := Cond.lays_spec L
    cases h2.symm.trans b3
    exact b5
  have w1 := Cond.fieldRef_warmed39 hW w
  have hcur : (Z.setVm T.vm).vm.findClass own = some m.cls := by
    show T.vm.findClass own = some m.cls
    rw [X.warmed.alike.findClass]; exact hown
  obtain ⟨c', k', i', f', hf', hready⟩ := Cond.fieldRef_spec hcur w1
  obtain ⟨k3, hi3, -⟩ := State.fieldFound?_setVm (s := Z) hW.alike h2
  cases hf'.symm.trans hi3
  have hready' : T.vm.fieldReady m.cls index cf f := hready
  have hlt := (Array.getElem?_eq_some_iff.mp h7).1
  have hcell : T.heap[a]? = some cell := by rw [eT]; exact h1
  have es : Jvm.RoadKit.slotOf Z O n d = f.slot := by simp [Jvm.RoadKit.slotOf, h2]
  have hnarrow : narrow f.type v = v := by rw [ht]; exact hn
  rw [es]
  refine ⟨_, _, X.stored hcell f.slot v, rfl, ⟨cell, h1, h5, hlt, by rw [← eT]; rfl⟩, fun target hrest => ?_⟩
  subst hg
  jvm_step X.here [hx, hd, putfield.wp_ready (e := e) (s := T) (f := g) X.here.top hready' h3 hfin hs hcell h4, hnarrow, hlt, hfit']
  exact hrest
theorem own_specialR {p : Program} {l : Launch} {e : Env} {R : Room} {s : State} {m : MethodId} {args : Array Value} {below : List Frame} {meth : Method} {c : Code} {T : State} {locs : List Loc} {cells slots : Nat} {Z : State} {a0 : Array Value}
    (X : Stand p l e R s m args below meth c T locs cells slots) (hx : p.tables.exec = Jvm.exec) (hZ : Z.Warmed39 s.vm) {own : String} {index : Nat} {y : MethodName} {bytes : ByteArray} {maxL : Nat} (hy1 : y.name = "<init>") (hown : s.vm.findClass own = some m.cls)
    (w : (Cond.methodRef own index y).before a0 Z = true) (hinst : (Cond.instanceMethod y).before args s = true) (hcode : (Cond.code y bytes maxL none).before args s = true) (hy : y.cls ≠ "java/lang/invoke/MethodHandle" ∧ y.cls ≠ "java/lang/invoke/VarHandle")
    {W : Nat} {Pre : Pt → Array Value → Prop} {Post : Pt → Array Value → Option Value → Pt → Prop} (hK : Back l R p e below s args y 3 W Pre Post)
    {g : JFrame} (hg : g.method = m) (hsize : g.locals.size = c.maxLocals) {s₀ : State} (hcome : Steps p.tables e below s₀ (T.setTop g)) {a : Addr} {argsL rest : List Value}
    (hlen : ∀ sig, parseMethodDescriptor y.desc = some sig → argsL.length = sig.parameters.length) (hstack : g.stack = argsL.reverse ++ .ref a :: rest) (hW : 2 * g.monitorRoom + (rest.map fun v => v.category).sum ≤ W)
    (hdg : decode c.code g.pc = .ok (.invokespecial index, 3)) (hpre : ∀ vm₁, s.WarmedH vm₁ → Pre ⟨T.setVm vm₁, locs, cells, slots⟩ (.ref a :: argsL).toArray) :
    ∃ (v : Option Value) (vm₁ : Vm) (B : Pt), s.WarmedH vm₁ ∧ Stand p l e R s m args below meth c B.U B.locs B.cells B.slots ∧ Post ⟨T.setVm vm₁, locs, cells, slots⟩ (.ref a :: argsL).toArray v B ∧
      Steps p.tables e below s₀ (B.U.setTop { g with pc := g.pc + 3, stack := v.toList ++ rest }) := by
  obtain ⟨obj, methO, hnO, hmO, hstO, habO⟩ := Cond.instanceMethod_spec hinst
  obtain ⟨methO', cO, hmO', hcO, hbO, hlO, -, hlockO, -, hsigO⟩ := Cond.code_spec hnO hcode
  cases hmO.symm.trans hmO'
  obtain ⟨kO, hkO, hnameO⟩ := className_of_methodNamed hnO
  obtain ⟨hnameMO, hdescO⟩ := name_of_methodNamed hnO hmO
  have hWT : Z.Warmed39 T.vm := wtrans hZ X.warmed
  have hnZ : Z.methodNamed? y = some obj := by
    have q : (Z.setVm s.vm).methodNamed? y = some obj := hnO
    rw [State.methodNamed?_setVm hZ.alike] at q; exact q
  have w1 := Cond.methodRef_warmed39 hWT hnZ hy w
  have hcur : (Z.setVm T.vm).vm.findClass own = some m.cls := by
    show T.vm.findClass own = some m.cls
    rw [X.warmed.alike.findClass]; exact hown
  obtain ⟨m', c', hfound, hready, hfc, hnames⟩ := Cond.methodRef_named e hcur w1
  have hnT : (Z.setVm T.vm).methodNamed? y = some obj := by rw [State.methodNamed?_setVm hWT.alike]; exact hnZ
  have hm' : m' = obj := by
    have q := State.methodFound?_of_named hnT hy
    exact Option.some.inj (hfound.symm.trans q)
  subst hm'
  have hc' : c' = m'.cls := by
    have q := findClass_of_methodNamed hnT
    exact Option.some.inj (hfc.symm.trans q)
  subst hc'
  have alike := X.warmed.alike
  obtain ⟨kO₂, hkO₂, heO₂⟩ := alike.2.2 _ _ hkO
  have hmO₂ : T.vm.method? m' = some methO := by rw [alike.method?]; exact hmO
  have hfoundS : lookupSpecial T.vm m'.cls "<init>" methO.desc = .method m' := by
    rw [alike.lookupSpecial, hdescO, ← hy1]; exact lookupSpecial_of_named hnO hmO hstO
  have hstep₁ : ∀ target, (∀ acts, Steps p.tables e below (doInvoke e (T.setTop { g with stack := rest }) acts m' (.ref a :: argsL).toArray).1 target) → Steps p.tables e below (T.setTop g) target := by
    intro target hrest
    have hnames' : namesResolved T.vm g.method.cls index m'.cls := by rw [hg]; exact hnames
    have hready' : T.vm.methodReady g.method.cls index m' := by rw [hg]; exact hready
    subst hg
    jvm_step X.here [hx, hdg, invokespecial.wp_init (e := e) (s := T) (k := kO₂) (meth := methO) (m := m') (a := a) (args := argsL) (rest := rest) (f := g)
      X.here.top hnames' hready' hkO₂ hmO₂ (by rw [hnameMO]; exact hy1) hstO habO hfoundS (hlen _ hsigO) hstack]
    exact hrest
  obtain ⟨v, B, X', hpost, hsteps⟩ := hK m meth c ⟨T.setVm T.vm, locs, cells, slots⟩ { g with stack := rest } (.invokespecial index) m' (Value.ref a :: argsL).toArray X hg hsize hdg hW (X.named hnO) (hpre T.vm X.warmed)
  exact ⟨v, T.vm, B, X.warmed, X', hpost, (hcome.trans (hstep₁ _ fun acts => by rw [doInvoke_state]; exact Steps.refl _)).trans hsteps⟩
def own_Ix (Z : State) (h : Heap) (a : Addr) (j : Nat) : Prop := ∃ (cl : Cell) (f : Nat → Int32) (S : List Nat), Arr Z h a cl .int ∧ cl.slots.size = (16 : Int32).toNatClampNeg ∧ (∀ i, i < 16 → cl.slots[i]? = some (.int (f i))) ∧ S.length ≤ j ∧ ∀ i, i < 16 → f i ≠ 0 → i ∈ S
theorem own_Ix.ext {Z : State} {h h' : Heap} {a : Addr} {j : Nat} (F : own_Ix Z h a j) (E : Ext h h') : own_Ix Z h' a j := by
  obtain ⟨cl, f, S, A, r⟩ := F; exact ⟨cl, f, S, A.ext E, r⟩
theorem own_Ix.other {Z : State} {h h' : Heap} {a b : Addr} {j sl : Nat} {v : Value} (F : own_Ix Z h a j) (W : Wr h h' b sl v) (q : a ≠ b) : own_Ix Z h' a j := by
  obtain ⟨cl, f, S, A, r⟩ := F; exact ⟨cl, f, S, A.other W q, r⟩
theorem own_Ix.keep {Z : State} {h h' : Heap} {a : Addr} {j : Nat} {ws : List Addr} (F : own_Ix Z h a j) (K : Keep h h' ws) (q : a ∉ ws) : own_Ix Z h' a j := by
  obtain ⟨cl, f, S, A, r⟩ := F; exact ⟨cl, f, S, ⟨K.2.1 a cl A.1 q, A.2⟩, r⟩
theorem own_Ix.lt {Z : State} {h : Heap} {a : Addr} {j : Nat} (F : own_Ix Z h a j) : a < h.size := by
  obtain ⟨cl, f, S, A, r⟩ := F; exact A.lt
theorem own_Ix.new {Z : State} {h : Heap} {a : Addr} {k : ClassId} (F : Arv Z h a k .int (16 : Int32) [] (.int (0 : Int32))) : own_Ix Z h a 0 := by
  obtain ⟨cl, A, -, S, -, H, -⟩ := F
  exact ⟨cl, fun _ => 0, [], A, S, fun i hi => H i (by rw [S]; exact hi), Nat.le_refl _, fun i _ q => absurd rfl q⟩
theorem own_Ix.set {Z : State} {h h' : Heap} {a : Addr} {j : Nat} {cl : Cell} {f : Nat → Int32} {S : List Nat} {x v : Int32} (A : Arr Z h a cl .int) (sz : cl.slots.size = (16 : Int32).toNatClampNeg) (hat : ∀ i, i < 16 → cl.slots[i]? = some (.int (f i))) (hS : S.length ≤ j) (hf : ∀ i, i < 16 → f i ≠ 0 → i ∈ S)
    (W : Wr h h' a x.toNatClampNeg (.int v)) : own_Ix Z h' a (j + 1) := by
  refine ⟨cl.setSlot x.toNatClampNeg (.int v), fun i => if i = x.toNatClampNeg then v else f i, x.toNatClampNeg :: S, A.same W, by rw [sz_set]; exact sz, fun i hi => ?_, by simp; omega, fun i hi q => ?_⟩
  · by_cases e : i = x.toNatClampNeg
    · subst e
      have hlt : x.toNatClampNeg < cl.slots.size := by rw [sz]; exact hi
      simp [Cell.setSlot, hlt]
    · show _ = some (Value.int (if i = x.toNatClampNeg then v else f i))
      rw [if_neg e, ← hat i hi]
      exact Array.getElem?_setIfInBounds_ne (Ne.symm e)
  · by_cases e : i = x.toNatClampNeg
    · rw [e]; exact List.mem_cons_self
    · have q2 : (if i = x.toNatClampNeg then v else f i) ≠ 0 := q
      rw [if_neg e] at q2
      exact List.mem_cons_of_mem _ (hf i hi q2)
theorem own_rng {x : Int32} (h : ¬ x < 0 ∧ x < 16) : x.toNatClampNeg < 16 := by
  obtain ⟨h1, h2⟩ := h
  rw [Int32.lt_iff_toInt_lt] at h1 h2
  have e0 : (0 : Int32).toInt = 0 := rfl
  have e1 : (16 : Int32).toInt = 16 := rfl
  simp only [Int32.toNatClampNeg]; omega
theorem own_nx (x : Int32) : ¬ ((x + (1 : Int32)) &&& (15 : Int32)) < 0 ∧ ((x + (1 : Int32)) &&& (15 : Int32)) < 16 := by
  have h := c_mask (x + 1) 15 4 (by decide) (by decide)
  have e0 : (0 : Int32).toInt = 0 := rfl
  have e1 : (16 : Int32).toInt = 16 := rfl
  rw [Int32.lt_iff_toInt_lt, Int32.lt_iff_toInt_lt, e0, e1]
  omega
theorem own_nxN (x : Int32) (h : ¬ x < 0 ∧ x < 16) : ((x + (1 : Int32)) &&& (15 : Int32)).toNatClampNeg = (x.toNatClampNeg + 1) % 16 := by
  have h1 := c_mask (x + 1) 15 4 (by decide) (by decide)
  have h2 := c_iadd x 1
  have r := rng32 (x + 1)
  obtain ⟨h3, h4⟩ := h
  rw [Int32.lt_iff_toInt_lt] at h3 h4
  have e0 : (0 : Int32).toInt = 0 := rfl
  have e1 : (1 : Int32).toInt = 1 := rfl
  have e2 : (16 : Int32).toInt = 16 := rfl
  simp only [Int32.toNatClampNeg]
  omega
theorem own_slot (x : Int64) : ¬ (((x.toUInt64 >>> ((60 : Int32) &&& 0x3f).toInt64.toUInt64).toInt64).toInt32) < 0 ∧ (((x.toUInt64 >>> ((60 : Int32) &&& 0x3f).toInt64.toUInt64).toInt64).toInt32) < 16 := by
  have h1 := c_lushr x 60 60 (by decide) (by decide)
  have h2 := c_l2i ((x.toUInt64 >>> ((60 : Int32) &&& 0x3f).toInt64.toUInt64).toInt64)
  have r := rng32 (((x.toUInt64 >>> ((60 : Int32) &&& 0x3f).toInt64.toUInt64).toInt64).toInt32)
  have e0 : (0 : Int32).toInt = 0 := rfl
  have e1 : (16 : Int32).toInt = 16 := rfl
  rw [Int32.lt_iff_toInt_lt, Int32.lt_iff_toInt_lt, e0, e1]
  omega
theorem own_no0 {S : List Nat} (h : S.length ≤ 0) {i : Nat} (q : i ∈ S) : False := by
  have e := List.eq_nil_of_length_eq_zero (Nat.le_zero.mp h); subst e; cases q
theorem own_no1 {S : List Nat} (h : S.length ≤ 1) {i : Nat} (hi : i < 16) (q : i ∈ S) (r : (i + 1) % 16 ∈ S) : False := by
  match S, h with
  | [], _ => cases q
  | [x], _ =>
    have a := List.mem_singleton.mp q
    have b := List.mem_singleton.mp r
    omega
  | _ :: _ :: _, h => simp at h
theorem own_no2 {S : List Nat} (h : S.length ≤ 2) {i : Nat} (hi : i < 16) (q : i ∈ S) (r : (i + 1) % 16 ∈ S) (t : ((i + 1) % 16 + 1) % 16 ∈ S) : False := by
  match S, h with
  | [], _ => cases q
  | [x], _ =>
    have a := List.mem_singleton.mp q
    have b := List.mem_singleton.mp r
    omega
  | [x, y], _ =>
    simp only [List.mem_cons, List.not_mem_nil, or_false] at q r t
    omega
  | _ :: _ :: _ :: _, h => simp at h
theorem d7_0 : decode prog_24_method_31_code 0 = .ok (.iconst 1, 1) := by decide +kernel
theorem d7_1 : decode prog_24_method_31_code 1 = .ok (.iload_n 0, 1) := by decide +kernel
theorem d7_2 : decode prog_24_method_31_code 2 = .ok (.ishl, 1) := by decide +kernel
theorem d7_3 : decode prog_24_method_31_code 3 = .ok (.iconst 4, 1) := by decide +kernel
theorem d7_4 : decode prog_24_method_31_code 4 = .ok (.idiv, 1) := by decide +kernel
theorem d7_5 : decode prog_24_method_31_code 5 = .ok (.iconst 3, 1) := by decide +kernel
theorem d7_6 : decode prog_24_method_31_code 6 = .ok (.imul, 1) := by decide +kernel
theorem d7_7 : decode prog_24_method_31_code 7 = .ok (.ireturn, 1) := by decide +kernel
theorem own_pn0 : plainName "com/example/sidetrack/sidetrack/core/MessageTable" = true := by first | (simp [plainName, overriddenIn]; done) | decide +kernel
theorem ef7 (m : MethodId)  : entryFrame m #[(.int (4 : Int32))] 1 = mkF m 0 #[iv (4 : Int32)] [] := by first | (simp [entryFrame, mkF, argsToLocals, Value.category]; done) | rfl
def Q7 (Z : State)  (h0 : Heap) (n0 : Nat) (v : Option Value) (h : Heap) (L : List Loc) : Prop := v = some (.int (12 : Int32)) ∧ Fr n0 L ∧ h = h0
set_option maxRecDepth 65536 in
set_option maxHeartbeats 40000000 in
theorem rm7 (l : Launch) (Z : State) (a0 : Array Value) (hw : ∀ d ∈ tables_1, d.before a0 Z = true) (ws : List Jvm.Cond)  (h0 : Heap) (n0 : Nat) (Z0 : n0 ≤ h0.size) :
    MetFree l (⟨oz0, "maxLoad", "(I)I"⟩ : MethodName) (head1 (Jvm.Cond.code (⟨oz0, "maxLoad", "(I)I"⟩ : MethodName) prog_24_method_31_code 1 (some .int) :: ws) ({ frames := 0, cells := 0, slots := 0, locals := 0 } : Room)) (fun a U => a = #[(.int (4 : Int32))] ∧ Z.Warmed39 U.vm ∧ U.heap = h0) (fun _ _ _ _ _ => True) (fun _ U oc U' => ∃ v L, oc = .returned v ∧ Q7 Z  h0 n0 v U'.heap L ∧ FrameEnd U oc U' L ({ frames := 0, cells := 0, slots := 0, locals := 0 } : Room).cells ({ frames := 0, cells := 0, slots := 0, locals := 0 } : Room).slots) := by
  refine MetFree.of_bodySF (plainFor_of_name own_pn0) hisR ?_
  intro p e s m args below meth c s₁ Bd hml0 hP hK
  obtain ⟨rfl, hZ, hh⟩ := hP
  have hx := Bd.exec
  have hby := Bd.bytes
  have hml : c.maxLocals = 1 := hml0
  have hown : s.vm.findClass oz0 = some m.cls := findClass_of_methodNamed Bd.named
  have hnm := (name_of_methodNamed Bd.named Bd.method).1
  have X0 : Stand p l e ({ frames := 0, cells := 0, slots := 0, locals := 0 } : Room) s m #[(.int (4 : Int32))] below meth c s₁ [] 0 0 := Stand.of_body Bd
  have e0 : s₁.heap = h0 := by rw [← hh, Bd.state]; rfl
  have N0 := Fr.nil n0
  have pre0 : ∀ t, Steps p.tables e below (s₁.setTop (mkF m 0 #[iv (4 : Int32)] [])) t → Steps p.tables e below (s₁.setTop (entryFrame m #[(.int (4 : Int32))] 1)) t := fun t k => castTop (ef7 m ) k
  have pre1 : ∀ tz, oS p e below s₁ m 7 #[iv (4 : Int32)] [(.int (12 : Int32))] tz → oS p e below s₁ m 0 #[iv (4 : Int32)] [] tz := fun tz kt => by
    show oS p e below s₁ m 0 #[iv (4 : Int32)] [] _
    refine XS.iconst X0.here hx rfl (hb hby d7_0) ?_
    refine XS.iloadN X0.here hx rfl (hb hby d7_1) rfl ?_
    refine XS.ishl X0.here hx rfl (hb hby d7_2) rfl ?_
    show oS p e below s₁ m 3 #[iv (4 : Int32)] [(.int (16 : Int32))] _
    refine XS.iconst X0.here hx rfl (hb hby d7_3) ?_
    refine XS.idiv X0.here hx rfl (hb hby d7_4) rfl (by decide) ?_
    refine XS.iconst X0.here hx rfl (hb hby d7_5) ?_
    refine XS.imul X0.here hx rfl (hb hby d7_6) rfl ?_
    exact kt
  obtain ⟨fs, hr, hrun, hended, hW, hsame⟩ := X0.leave (v := some (.int (12 : Int32))) (fun h => by rw [Bd.returns] at h; cases h)
  refine ⟨_, _, pre0 _ (pre1 _ ?_), hrun, hended, _, _, rfl, ?_, ⟨_, rfl⟩, hW, hsame.mono (by decide) (by decide)⟩
  · show oS p e below s₁ m 7 #[iv (4 : Int32)] [(.int (12 : Int32))] _
    exact retOut X0 hx Bd.returns rfl (Or.inl ⟨rfl, Or.inl rfl, _, rfl⟩) (hb hby d7_7) hr
  · show Q7 Z  h0 n0 _ s₁.heap _
    rw [e0]
    exact ⟨rfl, N0, rfl⟩
theorem d1_0 : decode prog_24_method_1_code 0 = .ok (.aload_n 0, 1) := by decide +kernel
theorem d1_1 : decode prog_24_method_1_code 1 = .ok (.invokespecial 5, 3) := by decide +kernel
theorem d1_4 : decode prog_24_method_1_code 4 = .ok (.aload_n 0, 1) := by decide +kernel
theorem d1_5 : decode prog_24_method_1_code 5 = .ok (.iconst 1, 1) := by decide +kernel
theorem d1_6 : decode prog_24_method_1_code 6 = .ok (.anewarray 11, 3) := by decide +kernel
theorem d1_9 : decode prog_24_method_1_code 9 = .ok (.putfield 13, 3) := by decide +kernel
theorem d1_12 : decode prog_24_method_1_code 12 = .ok (.aload_n 0, 1) := by decide +kernel
theorem d1_13 : decode prog_24_method_1_code 13 = .ok (.bipush 16, 2) := by decide +kernel
theorem d1_15 : decode prog_24_method_1_code 15 = .ok (.newarray .int, 2) := by decide +kernel
theorem d1_17 : decode prog_24_method_1_code 17 = .ok (.putfield 17, 3) := by decide +kernel
theorem d1_20 : decode prog_24_method_1_code 20 = .ok (.aload_n 0, 1) := by decide +kernel
theorem d1_21 : decode prog_24_method_1_code 21 = .ok (.iconst 4, 1) := by decide +kernel
theorem d1_22 : decode prog_24_method_1_code 22 = .ok (.putfield 21, 3) := by decide +kernel
theorem d1_25 : decode prog_24_method_1_code 25 = .ok (.return_, 1) := by decide +kernel
theorem ef1 (m : MethodId) (o : Addr) : entryFrame m #[(.ref o)] 1 = mkF m 0 #[rv o] [] := by first | (simp [entryFrame, mkF, argsToLocals, Value.category]; done) | rfl
def Q1 (Z : State) (o : Addr) (w_chunks_o : Value) (w_index_o : Value) (w_indexBits_o : Value) (h0 : Heap) (n0 : Nat) (v : Option Value) (h : Heap) (L : List Loc) : Prop := ∃ (cs : Addr) (ix : Addr) (kc : ClassId), v = none ∧ Fr n0 L ∧ Keep h0 h [o] ∧ h0.size ≤ cs ∧ h0.size ≤ ix ∧ cs ≠ ix ∧ n0 ≤ cs ∧ n0 ≤ ix ∧ Fld Z h o oz0 "chunks" oz2 (.ref cs) ∧ Fld Z h o oz0 "index" "[I" (.ref ix) ∧ Fld Z h o oz0 "indexBits" "I" (.int (4 : Int32)) ∧ Fld Z h o oz0 "tail" "I" (.int (0 : Int32)) ∧ Fld Z h o oz0 "size" "I" (.int (0 : Int32)) ∧ Fld Z h o oz0 "head" "I" (.int (0 : Int32)) ∧ Fld Z h o oz0 "firstChunk" "I" (.int (0 : Int32)) ∧ Fld Z h o oz0 "heldChunks" "I" (.int (0 : Int32)) ∧ Fld Z h o oz0 "availableFrom" "I" (.int (0 : Int32)) ∧ Arv Z h cs kc (.object oz1) (1 : Int32) [.null] .null ∧ Ovr Z kc oz1 ∧ (own_Ix Z h ix 0)
set_option maxRecDepth 65536 in
set_option maxHeartbeats 40000000 in
theorem rm1 (l : Launch) (Z : State) (a0 : Array Value) (hw : ∀ d ∈ tables_1, d.before a0 Z = true) (ws : List Jvm.Cond) (o : Addr) (w_chunks_o : Value) (w_index_o : Value) (w_indexBits_o : Value) (h0 : Heap) (n0 : Nat) (Z0 : n0 ≤ h0.size) (E_o : Exa Z h0 o oz0) (g_o : n0 ≤ o) (F_tail_o : Fld Z h0 o oz0 "tail" "I" (.int (0 : Int32))) (F_size_o : Fld Z h0 o oz0 "size" "I" (.int (0 : Int32))) (F_head_o : Fld Z h0 o oz0 "head" "I" (.int (0 : Int32))) (F_firstChunk_o : Fld Z h0 o oz0 "firstChunk" "I" (.int (0 : Int32))) (F_heldChunks_o : Fld Z h0 o oz0 "heldChunks" "I" (.int (0 : Int32))) (F_availableFrom_o : Fld Z h0 o oz0 "availableFrom" "I" (.int (0 : Int32))) (F_chunks_o : Fld Z h0 o oz0 "chunks" oz2 w_chunks_o) (F_index_o : Fld Z h0 o oz0 "index" "[I" w_index_o) (F_indexBits_o : Fld Z h0 o oz0 "indexBits" "I" w_indexBits_o) :
    MetFree l (⟨oz0, "<init>", "()V"⟩ : MethodName) (head1 (Jvm.Cond.code (⟨oz0, "<init>", "()V"⟩ : MethodName) prog_24_method_1_code 1 none :: ws) ({ frames := 1, cells := 2, slots := 17, locals := 12 } : Room)) (fun a U => a = #[(.ref o)] ∧ Z.Warmed39 U.vm ∧ U.heap = h0) (fun _ _ _ _ _ => True) (fun _ U oc U' => ∃ v L, oc = .returned v ∧ Q1 Z o w_chunks_o w_index_o w_indexBits_o h0 n0 v U'.heap L ∧ FrameEnd U oc U' L ({ frames := 1, cells := 2, slots := 17, locals := 12 } : Room).cells ({ frames := 1, cells := 2, slots := 17, locals := 12 } : Room).slots) := by
  refine MetFree.of_bodySF (plainFor_of_name own_pn0) hisR ?_
  intro p e s m args below meth c s₁ Bd hml0 hP hK
  obtain ⟨rfl, hZ, hh⟩ := hP
  have hx := Bd.exec
  have hby := Bd.bytes
  have hml : c.maxLocals = 1 := hml0
  have hown : s.vm.findClass oz0 = some m.cls := findClass_of_methodNamed Bd.named
  have hnm := (name_of_methodNamed Bd.named Bd.method).1
  have X0 : Stand p l e ({ frames := 1, cells := 2, slots := 17, locals := 12 } : Room) s m #[(.ref o)] below meth c s₁ [] 0 0 := Stand.of_body Bd
  have e0 : s₁.heap = h0 := by rw [← hh, Bd.state]; rfl
  have N0 := Fr.nil n0
  have pre0 : ∀ t, Steps p.tables e below (s₁.setTop (mkF m 0 #[rv o] [])) t → Steps p.tables e below (s₁.setTop (entryFrame m #[(.ref o)] 1)) t := fun t k => castTop (ef1 m o) k
  obtain ⟨T1, X1, e1, st1⟩ := initO X0 hx hZ hown (own_w hw 6 rfl) (own_w hw 7 rfl) (own_w hw 8 rfl) e0 (g := (mkF m 1 #[rv o] [(.ref o)])) rfl (by rw [hml]; rfl) rfl (hb hby d1_1) (by decide) (W := 0) (by show 2 * 0 + _ ≤ _; exact Nat.le_of_eq rfl) (by decide)
  obtain ⟨T2, h2, kk2, X2, e2, E2, A2, O2, st2⟩ := newR X1 hx hZ hown (own_w hw 9 rfl) (own_w hw 10 rfl) e1 (g := (mkF m 6 #[rv o] [(.int (1 : Int32)), (.ref o)])) rfl (hb hby d1_6) rfl (by decide) (cap := 1) (by decide) (by decide) (by decide) (by decide)
  obtain ⟨b2, g2⟩ : ∃ z, z = h0.size := ⟨_, rfl⟩
  rw [← g2] at A2 st2
  have g_b2 : n0 ≤ b2 := Nat.le_trans Z0 (Nat.le_of_eq g2.symm)
  have ne_o_b2 : o ≠ b2 := Nat.ne_of_lt (Nat.lt_of_lt_of_le E_o.lt (Nat.le_of_eq g2.symm))
  have sz_b2 : h0.size ≤ b2 := Nat.le_trans (Keep.refl h0 [o]).1 (Nat.le_of_eq g2.symm)
  have V_b2 : Arv Z h2 b2 kk2 (.object oz1) (1 : Int32) [.null] .null := (Arv.new A2 (by decide)).pad (pad_rep [] .null 1)
  have Ec3 : Exa Z h2 o oz0 := (E_o.ext E2)
  have Fc4 : Fld Z h2 o oz0 "chunks" oz2 w_chunks_o := (F_chunks_o.ext E2)
  obtain ⟨T5, h5, X5, e5, W5, st5⟩ := putF X2 hx hZ hown (host := "") (Or.inl (own_w hw 11 rfl)) Via.refl e2 Fc4 Ec3 (Or.inl (own_w hw 12 rfl)) (own_w hw 1 rfl) (ty := (.array (.object oz1))) (by decide) rfl rfl (g := (mkF m 9 #[rv o] [(.ref b2), (.ref o)])) rfl rfl (hb hby d1_9)
  have Fw5 : Fld Z h5 o oz0 "chunks" oz2 (.ref b2) := Fc4.same W5
  have N5 := Fr.snoc X5 N0 g_o
  have Zc7 : n0 ≤ h5.size := (Nat.le_trans (Nat.le_trans Z0 E2.1) (Keep.of_wr W5).1)
  have Vc8 : Arv Z h5 b2 kk2 (.object oz1) (1 : Int32) [.null] .null := (V_b2.other W5 (Ne.symm ne_o_b2))
  have Ec9 : Exa Z h5 o oz0 := (Ec3.wr W5)
  obtain ⟨T6, h6, kk6, X6, e6, E6, A6, st6⟩ := newP X5 hx hZ (own_w hw 13 rfl) e5 (g := (mkF m 15 #[rv o] [(.int (16 : Int32)), (.ref o)])) rfl (hb hby d1_15) rfl (by decide) (cap := 16) (by decide) (by decide) (by decide) (by decide)
  obtain ⟨b6, g6⟩ : ∃ z, z = h5.size := ⟨_, rfl⟩
  rw [← g6] at A6 st6
  have g_b6 : n0 ≤ b6 := Nat.le_trans Zc7 (Nat.le_of_eq g6.symm)
  have ne_b2_b6 : b2 ≠ b6 := Nat.ne_of_lt (Nat.lt_of_lt_of_le Vc8.lt (Nat.le_of_eq g6.symm))
  have ne_o_b6 : o ≠ b6 := Nat.ne_of_lt (Nat.lt_of_lt_of_le Ec9.lt (Nat.le_of_eq g6.symm))
  have KP10 : Keep h0 h5 [o] := (((Keep.refl h0 [o]).ext E2).wr W5 (Or.inl (List.mem_of_getElem? (i := 0) rfl)))
  have sz_b6 : h0.size ≤ b6 := Nat.le_trans KP10.1 (Nat.le_of_eq g6.symm)
  have V_b6 : Arv Z h6 b6 kk6 .int (16 : Int32) [] (.int (0 : Int32)) := (Arv.new A6 (by decide)).pad (pad_rep [] (.int (0 : Int32)) 0)
  have Ec11 : Exa Z h6 o oz0 := (Ec9.ext E6)
  have Fc12 : Fld Z h6 o oz0 "index" "[I" w_index_o := (((F_index_o.ext E2).other W5 (Or.inr (slot_ne (Or.inl (own_w hw 15 rfl)) (Or.inl (own_w hw 12 rfl)) (by decide) (t := (.array .int)) (t' := (.array (.object oz1))) (by decide) (by decide)))).ext E6)
  obtain ⟨T13, h13, X13, e13, W13, st13⟩ := putF X6 hx hZ hown (host := "") (Or.inl (own_w hw 14 rfl)) Via.refl e6 Fc12 Ec11 (Or.inl (own_w hw 15 rfl)) (own_w hw 1 rfl) (ty := (.array .int)) (by decide) rfl rfl (g := (mkF m 17 #[rv o] [(.ref b6), (.ref o)])) rfl rfl (hb hby d1_17)
  have Fw13 : Fld Z h13 o oz0 "index" "[I" (.ref b6) := Fc12.same W13
  have N13 := Fr.snoc X13 N5 g_o
  have Ec14 : Exa Z h13 o oz0 := (Ec11.wr W13)
  have Fc15 : Fld Z h13 o oz0 "indexBits" "I" w_indexBits_o := ((((F_indexBits_o.ext E2).other W5 (Or.inr (slot_ne (Or.inl (own_w hw 17 rfl)) (Or.inl (own_w hw 12 rfl)) (by decide) (t := .int) (t' := (.array (.object oz1))) (by decide) (by decide)))).ext E6).other W13 (Or.inr (slot_ne (Or.inl (own_w hw 17 rfl)) (Or.inl (own_w hw 15 rfl)) (by decide) (t := .int) (t' := (.array .int)) (by decide) (by decide))))
  obtain ⟨T16, h16, X16, e16, W16, st16⟩ := putF X13 hx hZ hown (host := "") (Or.inl (own_w hw 16 rfl)) Via.refl e13 Fc15 Ec14 (Or.inl (own_w hw 17 rfl)) (own_w hw 1 rfl) (ty := .int) (by decide) rfl rfl (g := (mkF m 22 #[rv o] [(.int (4 : Int32)), (.ref o)])) rfl rfl (hb hby d1_22)
  have Fw16 : Fld Z h16 o oz0 "indexBits" "I" (.int (4 : Int32)) := Fc15.same W16
  have N16 := Fr.snoc X16 N13 g_o
  have pre17 : ∀ tz, oS p e below T16 m 25 #[rv o] [] tz → oS p e below s₁ m 0 #[rv o] [] tz := fun tz kt => by
    show oS p e below s₁ m 0 #[rv o] [] _
    refine XS.aloadN X0.here hx rfl (hb hby d1_0) rfl rfl ?_
    show oS p e below s₁ m 1 #[rv o] [(.ref o)] _
    refine st1 _ ?_
    refine XS.aloadN X1.here hx rfl (hb hby d1_4) rfl rfl ?_
    refine XS.iconst X1.here hx rfl (hb hby d1_5) ?_
    show oS p e below T1 m 6 #[rv o] [(.int (1 : Int32)), (.ref o)] _
    refine st2 _ ?_
    show oS p e below T2 m 9 #[rv o] [(.ref b2), (.ref o)] _
    refine st5 _ ?_
    refine XS.aloadN X5.here hx rfl (hb hby d1_12) rfl rfl ?_
    refine XS.bipush X5.here hx rfl (hb hby d1_13) ?_
    show oS p e below T5 m 15 #[rv o] [(.int (16 : Int32)), (.ref o)] _
    refine st6 _ ?_
    show oS p e below T6 m 17 #[rv o] [(.ref b6), (.ref o)] _
    refine st13 _ ?_
    refine XS.aloadN X13.here hx rfl (hb hby d1_20) rfl rfl ?_
    refine XS.iconst X13.here hx rfl (hb hby d1_21) ?_
    show oS p e below T13 m 22 #[rv o] [(.int (4 : Int32)), (.ref o)] _
    refine st16 _ ?_
    exact kt
  have KP18 : Keep h0 h16 [o] := (((KP10.ext E6).wr W13 (Or.inl (List.mem_of_getElem? (i := 0) rfl))).wr W16 (Or.inl (List.mem_of_getElem? (i := 0) rfl)))
  have Fc19 : Fld Z h16 o oz0 "chunks" oz2 (.ref b2) := (((Fw5.ext E6).other W13 (Or.inr (slot_ne (Or.inl (own_w hw 12 rfl)) (Or.inl (own_w hw 15 rfl)) (by decide) (t := (.array (.object oz1))) (t' := (.array .int)) (by decide) (by decide)))).other W16 (Or.inr (slot_ne (Or.inl (own_w hw 12 rfl)) (Or.inl (own_w hw 17 rfl)) (by decide) (t := (.array (.object oz1))) (t' := .int) (by decide) (by decide))))
  have Fc20 : Fld Z h16 o oz0 "index" "[I" (.ref b6) := (Fw13.other W16 (Or.inr (slot_ne (Or.inl (own_w hw 15 rfl)) (Or.inl (own_w hw 17 rfl)) (by decide) (t := (.array .int)) (t' := .int) (by decide) (by decide))))
  have Fc21 : Fld Z h16 o oz0 "tail" "I" (.int (0 : Int32)) := (((((F_tail_o.ext E2).other W5 (Or.inr (slot_ne (Or.inl (own_w hw 24 rfl)) (Or.inl (own_w hw 12 rfl)) (by decide) (t := .int) (t' := (.array (.object oz1))) (by decide) (by decide)))).ext E6).other W13 (Or.inr (slot_ne (Or.inl (own_w hw 24 rfl)) (Or.inl (own_w hw 15 rfl)) (by decide) (t := .int) (t' := (.array .int)) (by decide) (by decide)))).other W16 (Or.inr (slot_ne (Or.inl (own_w hw 24 rfl)) (Or.inl (own_w hw 17 rfl)) (by decide) (t := .int) (t' := .int) (by decide) (by decide))))
  have Fc22 : Fld Z h16 o oz0 "size" "I" (.int (0 : Int32)) := (((((F_size_o.ext E2).other W5 (Or.inr (slot_ne (Or.inl (own_w hw 71 rfl)) (Or.inl (own_w hw 12 rfl)) (by decide) (t := .int) (t' := (.array (.object oz1))) (by decide) (by decide)))).ext E6).other W13 (Or.inr (slot_ne (Or.inl (own_w hw 71 rfl)) (Or.inl (own_w hw 15 rfl)) (by decide) (t := .int) (t' := (.array .int)) (by decide) (by decide)))).other W16 (Or.inr (slot_ne (Or.inl (own_w hw 71 rfl)) (Or.inl (own_w hw 17 rfl)) (by decide) (t := .int) (t' := .int) (by decide) (by decide))))
  have Fc23 : Fld Z h16 o oz0 "head" "I" (.int (0 : Int32)) := (((((F_head_o.ext E2).other W5 (Or.inr (slot_ne (Or.inl (own_w hw 111 rfl)) (Or.inl (own_w hw 12 rfl)) (by decide) (t := .int) (t' := (.array (.object oz1))) (by decide) (by decide)))).ext E6).other W13 (Or.inr (slot_ne (Or.inl (own_w hw 111 rfl)) (Or.inl (own_w hw 15 rfl)) (by decide) (t := .int) (t' := (.array .int)) (by decide) (by decide)))).other W16 (Or.inr (slot_ne (Or.inl (own_w hw 111 rfl)) (Or.inl (own_w hw 17 rfl)) (by decide) (t := .int) (t' := .int) (by decide) (by decide))))
  have Fc24 : Fld Z h16 o oz0 "firstChunk" "I" (.int (0 : Int32)) := (((((F_firstChunk_o.ext E2).other W5 (Or.inr (slot_ne (Or.inl (own_w hw 31 rfl)) (Or.inl (own_w hw 12 rfl)) (by decide) (t := .int) (t' := (.array (.object oz1))) (by decide) (by decide)))).ext E6).other W13 (Or.inr (slot_ne (Or.inl (own_w hw 31 rfl)) (Or.inl (own_w hw 15 rfl)) (by decide) (t := .int) (t' := (.array .int)) (by decide) (by decide)))).other W16 (Or.inr (slot_ne (Or.inl (own_w hw 31 rfl)) (Or.inl (own_w hw 17 rfl)) (by decide) (t := .int) (t' := .int) (by decide) (by decide))))
  have Fc25 : Fld Z h16 o oz0 "heldChunks" "I" (.int (0 : Int32)) := (((((F_heldChunks_o.ext E2).other W5 (Or.inr (slot_ne (Or.inl (own_w hw 54 rfl)) (Or.inl (own_w hw 12 rfl)) (by decide) (t := .int) (t' := (.array (.object oz1))) (by decide) (by decide)))).ext E6).other W13 (Or.inr (slot_ne (Or.inl (own_w hw 54 rfl)) (Or.inl (own_w hw 15 rfl)) (by decide) (t := .int) (t' := (.array .int)) (by decide) (by decide)))).other W16 (Or.inr (slot_ne (Or.inl (own_w hw 54 rfl)) (Or.inl (own_w hw 17 rfl)) (by decide) (t := .int) (t' := .int) (by decide) (by decide))))
  have Fc26 : Fld Z h16 o oz0 "availableFrom" "I" (.int (0 : Int32)) := (((((F_availableFrom_o.ext E2).other W5 (Or.inr (slot_ne (Or.inl (own_w hw 105 rfl)) (Or.inl (own_w hw 12 rfl)) (by decide) (t := .int) (t' := (.array (.object oz1))) (by decide) (by decide)))).ext E6).other W13 (Or.inr (slot_ne (Or.inl (own_w hw 105 rfl)) (Or.inl (own_w hw 15 rfl)) (by decide) (t := .int) (t' := (.array .int)) (by decide) (by decide)))).other W16 (Or.inr (slot_ne (Or.inl (own_w hw 105 rfl)) (Or.inl (own_w hw 17 rfl)) (by decide) (t := .int) (t' := .int) (by decide) (by decide))))
  have Vc27 : Arv Z h16 b2 kk2 (.object oz1) (1 : Int32) [.null] .null := (((Vc8.ext E6).other W13 (Ne.symm ne_o_b2)).other W16 (Ne.symm ne_o_b2))
  have Vc28 : Arv Z h16 b6 kk6 .int (16 : Int32) [] (.int (0 : Int32)) := ((V_b6.other W13 (Ne.symm ne_o_b6)).other W16 (Ne.symm ne_o_b6))
  obtain ⟨fs, hr, hrun, hended, hW, hsame⟩ := X16.leave (v := none) (fun _ => rfl)
  refine ⟨_, _, pre0 _ (pre17 _ ?_), hrun, hended, _, _, rfl, ?_, ⟨_, rfl⟩, hW, hsame.mono (by decide) (by decide)⟩
  · show oS p e below T16 m 25 #[rv o] [] _
    exact X16.returnOut hx Bd.returns (hb hby d1_25) hr
  · show Q1 Z o w_chunks_o w_index_o w_indexBits_o h0 n0 _ T16.heap _
    rw [e16]
    exact ⟨b2, b6, kk2, rfl, N16, KP18, sz_b2, sz_b6, ne_b2_b6, g_b2, g_b6, Fc19, Fc20, Fw16, Fc21, Fc22, Fc23, Fc24, Fc25, Fc26, Vc27, O2, (own_Ix.new Vc28)⟩
theorem d5_0 : decode prog_25_method_1_code 0 = .ok (.aload_n 0, 1) := by decide +kernel
theorem d5_1 : decode prog_25_method_1_code 1 = .ok (.invokespecial 3, 3) := by decide +kernel
theorem d5_4 : decode prog_25_method_1_code 4 = .ok (.aload_n 0, 1) := by decide +kernel
theorem d5_5 : decode prog_25_method_1_code 5 = .ok (.sipush 1024, 3) := by decide +kernel
theorem d5_8 : decode prog_25_method_1_code 8 = .ok (.newarray .long, 2) := by decide +kernel
theorem d5_10 : decode prog_25_method_1_code 10 = .ok (.putfield 9, 3) := by decide +kernel
theorem d5_13 : decode prog_25_method_1_code 13 = .ok (.aload_n 0, 1) := by decide +kernel
theorem d5_14 : decode prog_25_method_1_code 14 = .ok (.sipush 1024, 3) := by decide +kernel
theorem d5_17 : decode prog_25_method_1_code 17 = .ok (.newarray .long, 2) := by decide +kernel
theorem d5_19 : decode prog_25_method_1_code 19 = .ok (.putfield 15, 3) := by decide +kernel
theorem d5_22 : decode prog_25_method_1_code 22 = .ok (.aload_n 0, 1) := by decide +kernel
theorem d5_23 : decode prog_25_method_1_code 23 = .ok (.sipush 1024, 3) := by decide +kernel
theorem d5_26 : decode prog_25_method_1_code 26 = .ok (.newarray .long, 2) := by decide +kernel
theorem d5_28 : decode prog_25_method_1_code 28 = .ok (.putfield 18, 3) := by decide +kernel
theorem d5_31 : decode prog_25_method_1_code 31 = .ok (.aload_n 0, 1) := by decide +kernel
theorem d5_32 : decode prog_25_method_1_code 32 = .ok (.sipush 1024, 3) := by decide +kernel
theorem d5_35 : decode prog_25_method_1_code 35 = .ok (.newarray .int, 2) := by decide +kernel
theorem d5_37 : decode prog_25_method_1_code 37 = .ok (.putfield 21, 3) := by decide +kernel
theorem d5_40 : decode prog_25_method_1_code 40 = .ok (.aload_n 0, 1) := by decide +kernel
theorem d5_41 : decode prog_25_method_1_code 41 = .ok (.sipush 1024, 3) := by decide +kernel
theorem d5_44 : decode prog_25_method_1_code 44 = .ok (.newarray .int, 2) := by decide +kernel
theorem d5_46 : decode prog_25_method_1_code 46 = .ok (.putfield 25, 3) := by decide +kernel
theorem d5_49 : decode prog_25_method_1_code 49 = .ok (.aload_n 0, 1) := by decide +kernel
theorem d5_50 : decode prog_25_method_1_code 50 = .ok (.sipush 1024, 3) := by decide +kernel
theorem d5_53 : decode prog_25_method_1_code 53 = .ok (.newarray .byte, 2) := by decide +kernel
theorem d5_55 : decode prog_25_method_1_code 55 = .ok (.putfield 28, 3) := by decide +kernel
theorem d5_58 : decode prog_25_method_1_code 58 = .ok (.return_, 1) := by decide +kernel
theorem own_pn1 : plainName "com/example/sidetrack/sidetrack/core/MessageTable$Chunk" = true := by first | (simp [plainName, overriddenIn]; done) | decide +kernel
theorem ef5 (m : MethodId) (o : Addr) : entryFrame m #[(.ref o)] 1 = mkF m 0 #[rv o] [] := by first | (simp [entryFrame, mkF, argsToLocals, Value.category]; done) | rfl
def Q5 (Z : State) (o : Addr) (w_ids_o : Value) (w_arrivals_o : Value) (w_arrivedAts_o : Value) (w_deliveryCounts_o : Value) (w_causes_o : Value) (w_states_o : Value) (h0 : Heap) (n0 : Nat) (v : Option Value) (h : Heap) (L : List Loc) : Prop := ∃ (ar0 : Addr) (ar1 : Addr) (ar2 : Addr) (ar3 : Addr) (ar4 : Addr) (ar5 : Addr) (kz0 : ClassId) (kz1 : ClassId) (kz2 : ClassId) (kz3 : ClassId) (kz4 : ClassId) (kz5 : ClassId), v = none ∧ Fr n0 L ∧ Keep h0 h [o] ∧ h0.size ≤ ar0 ∧ h0.size ≤ ar1 ∧ h0.size ≤ ar2 ∧ h0.size ≤ ar3 ∧ h0.size ≤ ar4 ∧ h0.size ≤ ar5 ∧ n0 ≤ ar0 ∧ n0 ≤ ar1 ∧ n0 ≤ ar2 ∧ n0 ≤ ar3 ∧ n0 ≤ ar4 ∧ n0 ≤ ar5 ∧ ar0 ≠ ar1 ∧ ar0 ≠ ar2 ∧ ar0 ≠ ar3 ∧ ar0 ≠ ar4 ∧ ar0 ≠ ar5 ∧ ar1 ≠ ar2 ∧ ar1 ≠ ar3 ∧ ar1 ≠ ar4 ∧ ar1 ≠ ar5 ∧ ar2 ≠ ar3 ∧ ar2 ≠ ar4 ∧ ar2 ≠ ar5 ∧ ar3 ≠ ar4 ∧ ar3 ≠ ar5 ∧ ar4 ≠ ar5 ∧ Fld Z h o oz1 "ids" "[J" (.ref ar0) ∧ Fld Z h o oz1 "arrivals" "[J" (.ref ar1) ∧ Fld Z h o oz1 "arrivedAts" "[J" (.ref ar2) ∧ Fld Z h o oz1 "deliveryCounts" "[I" (.ref ar3) ∧ Fld Z h o oz1 "causes" "[I" (.ref ar4) ∧ Fld Z h o oz1 "states" "[B" (.ref ar5) ∧ Arv Z h ar0 kz0 .long (1024 : Int32) [(.long (0 : Int64)), (.long (0 : Int64)), (.long (0 : Int64))] (.long (0 : Int64)) ∧ Arv Z h ar1 kz1 .long (1024 : Int32) [(.long (0 : Int64)), (.long (0 : Int64)), (.long (0 : Int64))] (.long (0 : Int64)) ∧ Arv Z h ar2 kz2 .long (1024 : Int32) [(.long (0 : Int64)), (.long (0 : Int64)), (.long (0 : Int64))] (.long (0 : Int64)) ∧ Arv Z h ar3 kz3 .int (1024 : Int32) [(.int (0 : Int32)), (.int (0 : Int32)), (.int (0 : Int32))] (.int (0 : Int32)) ∧ Arv Z h ar4 kz4 .int (1024 : Int32) [(.int (0 : Int32)), (.int (0 : Int32)), (.int (0 : Int32))] (.int (0 : Int32)) ∧ Arv Z h ar5 kz5 .byte (1024 : Int32) [(.int (0 : Int32)), (.int (0 : Int32)), (.int (0 : Int32))] (.int (0 : Int32)) ∧ Fld Z h o oz1 "rows" "I" (.int (0 : Int32)) ∧ Fld Z h o oz1 "addresses" "[J" .null
set_option maxRecDepth 65536 in
set_option maxHeartbeats 40000000 in
theorem rm5 (l : Launch) (Z : State) (a0 : Array Value) (hw : ∀ d ∈ tables_1, d.before a0 Z = true) (ws : List Jvm.Cond) (o : Addr) (w_ids_o : Value) (w_arrivals_o : Value) (w_arrivedAts_o : Value) (w_deliveryCounts_o : Value) (w_causes_o : Value) (w_states_o : Value) (h0 : Heap) (n0 : Nat) (Z0 : n0 ≤ h0.size) (E_o : Exa Z h0 o oz1) (g_o : n0 ≤ o) (F_rows_o : Fld Z h0 o oz1 "rows" "I" (.int (0 : Int32))) (F_addresses_o : Fld Z h0 o oz1 "addresses" "[J" .null) (F_ids_o : Fld Z h0 o oz1 "ids" "[J" w_ids_o) (F_arrivals_o : Fld Z h0 o oz1 "arrivals" "[J" w_arrivals_o) (F_arrivedAts_o : Fld Z h0 o oz1 "arrivedAts" "[J" w_arrivedAts_o) (F_deliveryCounts_o : Fld Z h0 o oz1 "deliveryCounts" "[I" w_deliveryCounts_o) (F_causes_o : Fld Z h0 o oz1 "causes" "[I" w_causes_o) (F_states_o : Fld Z h0 o oz1 "states" "[B" w_states_o) :
    MetFree l (⟨oz1, "<init>", "()V"⟩ : MethodName) (head1 (Jvm.Cond.code (⟨oz1, "<init>", "()V"⟩ : MethodName) prog_25_method_1_code 1 none :: ws) ({ frames := 1, cells := 6, slots := 6144, locals := 12 } : Room)) (fun a U => a = #[(.ref o)] ∧ Z.Warmed39 U.vm ∧ U.heap = h0) (fun _ _ _ _ _ => True) (fun _ U oc U' => ∃ v L, oc = .returned v ∧ Q5 Z o w_ids_o w_arrivals_o w_arrivedAts_o w_deliveryCounts_o w_causes_o w_states_o h0 n0 v U'.heap L ∧ FrameEnd U oc U' L ({ frames := 1, cells := 6, slots := 6144, locals := 12 } : Room).cells ({ frames := 1, cells := 6, slots := 6144, locals := 12 } : Room).slots) := by
  refine MetFree.of_bodySF (plainFor_of_name own_pn1) hisR ?_
  intro p e s m args below meth c s₁ Bd hml0 hP hK
  obtain ⟨rfl, hZ, hh⟩ := hP
  have hx := Bd.exec
  have hby := Bd.bytes
  have hml : c.maxLocals = 1 := hml0
  have hown : s.vm.findClass oz1 = some m.cls := findClass_of_methodNamed Bd.named
  have hnm := (name_of_methodNamed Bd.named Bd.method).1
  have X0 : Stand p l e ({ frames := 1, cells := 6, slots := 6144, locals := 12 } : Room) s m #[(.ref o)] below meth c s₁ [] 0 0 := Stand.of_body Bd
  have e0 : s₁.heap = h0 := by rw [← hh, Bd.state]; rfl
  have N0 := Fr.nil n0
  have pre0 : ∀ t, Steps p.tables e below (s₁.setTop (mkF m 0 #[rv o] [])) t → Steps p.tables e below (s₁.setTop (entryFrame m #[(.ref o)] 1)) t := fun t k => castTop (ef5 m o) k
  obtain ⟨T1, X1, e1, st1⟩ := initO X0 hx hZ hown (own_w hw 37 rfl) (own_w hw 7 rfl) (own_w hw 8 rfl) e0 (g := (mkF m 1 #[rv o] [(.ref o)])) rfl (by rw [hml]; rfl) rfl (hb hby d5_1) (by decide) (W := 0) (by show 2 * 0 + _ ≤ _; exact Nat.le_of_eq rfl) (by decide)
  obtain ⟨T2, h2, kk2, X2, e2, E2, A2, st2⟩ := newP X1 hx hZ (own_w hw 38 rfl) e1 (g := (mkF m 8 #[rv o] [(.int (1024 : Int32)), (.ref o)])) rfl (hb hby d5_8) rfl (by decide) (cap := 1024) (by decide) (by decide) (by decide) (by decide)
  obtain ⟨b2, g2⟩ : ∃ z, z = h0.size := ⟨_, rfl⟩
  rw [← g2] at A2 st2
  have g_b2 : n0 ≤ b2 := Nat.le_trans Z0 (Nat.le_of_eq g2.symm)
  have ne_o_b2 : o ≠ b2 := Nat.ne_of_lt (Nat.lt_of_lt_of_le E_o.lt (Nat.le_of_eq g2.symm))
  have sz_b2 : h0.size ≤ b2 := Nat.le_trans (Keep.refl h0 [o]).1 (Nat.le_of_eq g2.symm)
  have V_b2 : Arv Z h2 b2 kk2 .long (1024 : Int32) [(.long (0 : Int64)), (.long (0 : Int64)), (.long (0 : Int64))] (.long (0 : Int64)) := (Arv.new A2 (by decide)).pad (pad_rep [] (.long (0 : Int64)) 3)
  have Ec3 : Exa Z h2 o oz1 := (E_o.ext E2)
  have Fc4 : Fld Z h2 o oz1 "ids" "[J" w_ids_o := (F_ids_o.ext E2)
  obtain ⟨T5, h5, X5, e5, W5, st5⟩ := putF X2 hx hZ hown (host := "") (Or.inl (own_w hw 39 rfl)) Via.refl e2 Fc4 Ec3 (Or.inr ⟨(own_w hw 40 rfl), rfl, hnm⟩) (own_w hw 32 rfl) (ty := (.array .long)) (by decide) rfl rfl (g := (mkF m 10 #[rv o] [(.ref b2), (.ref o)])) rfl rfl (hb hby d5_10)
  have Fw5 : Fld Z h5 o oz1 "ids" "[J" (.ref b2) := Fc4.same W5
  have N5 := Fr.snoc X5 N0 g_o
  have Zc7 : n0 ≤ h5.size := (Nat.le_trans (Nat.le_trans Z0 E2.1) (Keep.of_wr W5).1)
  have Vc8 : Arv Z h5 b2 kk2 .long (1024 : Int32) [(.long (0 : Int64)), (.long (0 : Int64)), (.long (0 : Int64))] (.long (0 : Int64)) := (V_b2.other W5 (Ne.symm ne_o_b2))
  have Ec9 : Exa Z h5 o oz1 := (Ec3.wr W5)
  obtain ⟨T6, h6, kk6, X6, e6, E6, A6, st6⟩ := newP X5 hx hZ (own_w hw 38 rfl) e5 (g := (mkF m 17 #[rv o] [(.int (1024 : Int32)), (.ref o)])) rfl (hb hby d5_17) rfl (by decide) (cap := 1024) (by decide) (by decide) (by decide) (by decide)
  obtain ⟨b6, g6⟩ : ∃ z, z = h5.size := ⟨_, rfl⟩
  rw [← g6] at A6 st6
  have g_b6 : n0 ≤ b6 := Nat.le_trans Zc7 (Nat.le_of_eq g6.symm)
  have ne_b2_b6 : b2 ≠ b6 := Nat.ne_of_lt (Nat.lt_of_lt_of_le Vc8.lt (Nat.le_of_eq g6.symm))
  have ne_o_b6 : o ≠ b6 := Nat.ne_of_lt (Nat.lt_of_lt_of_le Ec9.lt (Nat.le_of_eq g6.symm))
  have KP10 : Keep h0 h5 [o] := (((Keep.refl h0 [o]).ext E2).wr W5 (Or.inl (List.mem_of_getElem? (i := 0) rfl)))
  have sz_b6 : h0.size ≤ b6 := Nat.le_trans KP10.1 (Nat.le_of_eq g6.symm)
  have V_b6 : Arv Z h6 b6 kk6 .long (1024 : Int32) [(.long (0 : Int64)), (.long (0 : Int64)), (.long (0 : Int64))] (.long (0 : Int64)) := (Arv.new A6 (by decide)).pad (pad_rep [] (.long (0 : Int64)) 3)
  have Ec11 : Exa Z h6 o oz1 := (Ec9.ext E6)
  have Fc12 : Fld Z h6 o oz1 "arrivals" "[J" w_arrivals_o := (((F_arrivals_o.ext E2).other W5 (Or.inr (slot_ne (Or.inr (own_w hw 42 rfl)) (Or.inr (own_w hw 40 rfl)) (by decide) (t := (.array .long)) (t' := (.array .long)) (by decide) (by decide)))).ext E6)
  obtain ⟨T13, h13, X13, e13, W13, st13⟩ := putF X6 hx hZ hown (host := "") (Or.inl (own_w hw 41 rfl)) Via.refl e6 Fc12 Ec11 (Or.inr ⟨(own_w hw 42 rfl), rfl, hnm⟩) (own_w hw 32 rfl) (ty := (.array .long)) (by decide) rfl rfl (g := (mkF m 19 #[rv o] [(.ref b6), (.ref o)])) rfl rfl (hb hby d5_19)
  have Fw13 : Fld Z h13 o oz1 "arrivals" "[J" (.ref b6) := Fc12.same W13
  have N13 := Fr.snoc X13 N5 g_o
  have Zc15 : n0 ≤ h13.size := (Nat.le_trans (Nat.le_trans Zc7 E6.1) (Keep.of_wr W13).1)
  have Vc16 : Arv Z h13 b2 kk2 .long (1024 : Int32) [(.long (0 : Int64)), (.long (0 : Int64)), (.long (0 : Int64))] (.long (0 : Int64)) := ((Vc8.ext E6).other W13 (Ne.symm ne_o_b2))
  have Vc17 : Arv Z h13 b6 kk6 .long (1024 : Int32) [(.long (0 : Int64)), (.long (0 : Int64)), (.long (0 : Int64))] (.long (0 : Int64)) := (V_b6.other W13 (Ne.symm ne_o_b6))
  have Ec18 : Exa Z h13 o oz1 := (Ec11.wr W13)
  obtain ⟨T14, h14, kk14, X14, e14, E14, A14, st14⟩ := newP X13 hx hZ (own_w hw 38 rfl) e13 (g := (mkF m 26 #[rv o] [(.int (1024 : Int32)), (.ref o)])) rfl (hb hby d5_26) rfl (by decide) (cap := 1024) (by decide) (by decide) (by decide) (by decide)
  obtain ⟨b14, g14⟩ : ∃ z, z = h13.size := ⟨_, rfl⟩
  rw [← g14] at A14 st14
  have g_b14 : n0 ≤ b14 := Nat.le_trans Zc15 (Nat.le_of_eq g14.symm)
  have ne_b2_b14 : b2 ≠ b14 := Nat.ne_of_lt (Nat.lt_of_lt_of_le Vc16.lt (Nat.le_of_eq g14.symm))
  have ne_b6_b14 : b6 ≠ b14 := Nat.ne_of_lt (Nat.lt_of_lt_of_le Vc17.lt (Nat.le_of_eq g14.symm))
  have ne_o_b14 : o ≠ b14 := Nat.ne_of_lt (Nat.lt_of_lt_of_le Ec18.lt (Nat.le_of_eq g14.symm))
  have KP19 : Keep h0 h13 [o] := ((KP10.ext E6).wr W13 (Or.inl (List.mem_of_getElem? (i := 0) rfl)))
  have sz_b14 : h0.size ≤ b14 := Nat.le_trans KP19.1 (Nat.le_of_eq g14.symm)
  have V_b14 : Arv Z h14 b14 kk14 .long (1024 : Int32) [(.long (0 : Int64)), (.long (0 : Int64)), (.long (0 : Int64))] (.long (0 : Int64)) := (Arv.new A14 (by decide)).pad (pad_rep [] (.long (0 : Int64)) 3)
  have Ec20 : Exa Z h14 o oz1 := (Ec18.ext E14)
  have Fc21 : Fld Z h14 o oz1 "arrivedAts" "[J" w_arrivedAts_o := (((((F_arrivedAts_o.ext E2).other W5 (Or.inr (slot_ne (Or.inr (own_w hw 44 rfl)) (Or.inr (own_w hw 40 rfl)) (by decide) (t := (.array .long)) (t' := (.array .long)) (by decide) (by decide)))).ext E6).other W13 (Or.inr (slot_ne (Or.inr (own_w hw 44 rfl)) (Or.inr (own_w hw 42 rfl)) (by decide) (t := (.array .long)) (t' := (.array .long)) (by decide) (by decide)))).ext E14)
  obtain ⟨T22, h22, X22, e22, W22, st22⟩ := putF X14 hx hZ hown (host := "") (Or.inl (own_w hw 43 rfl)) Via.refl e14 Fc21 Ec20 (Or.inr ⟨(own_w hw 44 rfl), rfl, hnm⟩) (own_w hw 32 rfl) (ty := (.array .long)) (by decide) rfl rfl (g := (mkF m 28 #[rv o] [(.ref b14), (.ref o)])) rfl rfl (hb hby d5_28)
  have Fw22 : Fld Z h22 o oz1 "arrivedAts" "[J" (.ref b14) := Fc21.same W22
  have N22 := Fr.snoc X22 N13 g_o
  have Zc24 : n0 ≤ h22.size := (Nat.le_trans (Nat.le_trans Zc15 E14.1) (Keep.of_wr W22).1)
  have Vc25 : Arv Z h22 b2 kk2 .long (1024 : Int32) [(.long (0 : Int64)), (.long (0 : Int64)), (.long (0 : Int64))] (.long (0 : Int64)) := ((Vc16.ext E14).other W22 (Ne.symm ne_o_b2))
  have Vc26 : Arv Z h22 b6 kk6 .long (1024 : Int32) [(.long (0 : Int64)), (.long (0 : Int64)), (.long (0 : Int64))] (.long (0 : Int64)) := ((Vc17.ext E14).other W22 (Ne.symm ne_o_b6))
  have Vc27 : Arv Z h22 b14 kk14 .long (1024 : Int32) [(.long (0 : Int64)), (.long (0 : Int64)), (.long (0 : Int64))] (.long (0 : Int64)) := (V_b14.other W22 (Ne.symm ne_o_b14))
  have Ec28 : Exa Z h22 o oz1 := (Ec20.wr W22)
  obtain ⟨T23, h23, kk23, X23, e23, E23, A23, st23⟩ := newP X22 hx hZ (own_w hw 13 rfl) e22 (g := (mkF m 35 #[rv o] [(.int (1024 : Int32)), (.ref o)])) rfl (hb hby d5_35) rfl (by decide) (cap := 1024) (by decide) (by decide) (by decide) (by decide)
  obtain ⟨b23, g23⟩ : ∃ z, z = h22.size := ⟨_, rfl⟩
  rw [← g23] at A23 st23
  have g_b23 : n0 ≤ b23 := Nat.le_trans Zc24 (Nat.le_of_eq g23.symm)
  have ne_b2_b23 : b2 ≠ b23 := Nat.ne_of_lt (Nat.lt_of_lt_of_le Vc25.lt (Nat.le_of_eq g23.symm))
  have ne_b6_b23 : b6 ≠ b23 := Nat.ne_of_lt (Nat.lt_of_lt_of_le Vc26.lt (Nat.le_of_eq g23.symm))
  have ne_b14_b23 : b14 ≠ b23 := Nat.ne_of_lt (Nat.lt_of_lt_of_le Vc27.lt (Nat.le_of_eq g23.symm))
  have ne_o_b23 : o ≠ b23 := Nat.ne_of_lt (Nat.lt_of_lt_of_le Ec28.lt (Nat.le_of_eq g23.symm))
  have KP29 : Keep h0 h22 [o] := ((KP19.ext E14).wr W22 (Or.inl (List.mem_of_getElem? (i := 0) rfl)))
  have sz_b23 : h0.size ≤ b23 := Nat.le_trans KP29.1 (Nat.le_of_eq g23.symm)
  have V_b23 : Arv Z h23 b23 kk23 .int (1024 : Int32) [(.int (0 : Int32)), (.int (0 : Int32)), (.int (0 : Int32))] (.int (0 : Int32)) := (Arv.new A23 (by decide)).pad (pad_rep [] (.int (0 : Int32)) 3)
  have Ec30 : Exa Z h23 o oz1 := (Ec28.ext E23)
  have Fc31 : Fld Z h23 o oz1 "deliveryCounts" "[I" w_deliveryCounts_o := (((((((F_deliveryCounts_o.ext E2).other W5 (Or.inr (slot_ne (Or.inr (own_w hw 46 rfl)) (Or.inr (own_w hw 40 rfl)) (by decide) (t := (.array .int)) (t' := (.array .long)) (by decide) (by decide)))).ext E6).other W13 (Or.inr (slot_ne (Or.inr (own_w hw 46 rfl)) (Or.inr (own_w hw 42 rfl)) (by decide) (t := (.array .int)) (t' := (.array .long)) (by decide) (by decide)))).ext E14).other W22 (Or.inr (slot_ne (Or.inr (own_w hw 46 rfl)) (Or.inr (own_w hw 44 rfl)) (by decide) (t := (.array .int)) (t' := (.array .long)) (by decide) (by decide)))).ext E23)
  obtain ⟨T32, h32, X32, e32, W32, st32⟩ := putF X23 hx hZ hown (host := "") (Or.inl (own_w hw 45 rfl)) Via.refl e23 Fc31 Ec30 (Or.inr ⟨(own_w hw 46 rfl), rfl, hnm⟩) (own_w hw 32 rfl) (ty := (.array .int)) (by decide) rfl rfl (g := (mkF m 37 #[rv o] [(.ref b23), (.ref o)])) rfl rfl (hb hby d5_37)
  have Fw32 : Fld Z h32 o oz1 "deliveryCounts" "[I" (.ref b23) := Fc31.same W32
  have N32 := Fr.snoc X32 N22 g_o
  have Zc34 : n0 ≤ h32.size := (Nat.le_trans (Nat.le_trans Zc24 E23.1) (Keep.of_wr W32).1)
  have Vc35 : Arv Z h32 b2 kk2 .long (1024 : Int32) [(.long (0 : Int64)), (.long (0 : Int64)), (.long (0 : Int64))] (.long (0 : Int64)) := ((Vc25.ext E23).other W32 (Ne.symm ne_o_b2))
  have Vc36 : Arv Z h32 b6 kk6 .long (1024 : Int32) [(.long (0 : Int64)), (.long (0 : Int64)), (.long (0 : Int64))] (.long (0 : Int64)) := ((Vc26.ext E23).other W32 (Ne.symm ne_o_b6))
  have Vc37 : Arv Z h32 b14 kk14 .long (1024 : Int32) [(.long (0 : Int64)), (.long (0 : Int64)), (.long (0 : Int64))] (.long (0 : Int64)) := ((Vc27.ext E23).other W32 (Ne.symm ne_o_b14))
  have Vc38 : Arv Z h32 b23 kk23 .int (1024 : Int32) [(.int (0 : Int32)), (.int (0 : Int32)), (.int (0 : Int32))] (.int (0 : Int32)) := (V_b23.other W32 (Ne.symm ne_o_b23))
  have Ec39 : Exa Z h32 o oz1 := (Ec30.wr W32)
  obtain ⟨T33, h33, kk33, X33, e33, E33, A33, st33⟩ := newP X32 hx hZ (own_w hw 13 rfl) e32 (g := (mkF m 44 #[rv o] [(.int (1024 : Int32)), (.ref o)])) rfl (hb hby d5_44) rfl (by decide) (cap := 1024) (by decide) (by decide) (by decide) (by decide)
  obtain ⟨b33, g33⟩ : ∃ z, z = h32.size := ⟨_, rfl⟩
  rw [← g33] at A33 st33
  have g_b33 : n0 ≤ b33 := Nat.le_trans Zc34 (Nat.le_of_eq g33.symm)
  have ne_b2_b33 : b2 ≠ b33 := Nat.ne_of_lt (Nat.lt_of_lt_of_le Vc35.lt (Nat.le_of_eq g33.symm))
  have ne_b6_b33 : b6 ≠ b33 := Nat.ne_of_lt (Nat.lt_of_lt_of_le Vc36.lt (Nat.le_of_eq g33.symm))
  have ne_b14_b33 : b14 ≠ b33 := Nat.ne_of_lt (Nat.lt_of_lt_of_le Vc37.lt (Nat.le_of_eq g33.symm))
  have ne_b23_b33 : b23 ≠ b33 := Nat.ne_of_lt (Nat.lt_of_lt_of_le Vc38.lt (Nat.le_of_eq g33.symm))
  have ne_o_b33 : o ≠ b33 := Nat.ne_of_lt (Nat.lt_of_lt_of_le Ec39.lt (Nat.le_of_eq g33.symm))
  have KP40 : Keep h0 h32 [o] := ((KP29.ext E23).wr W32 (Or.inl (List.mem_of_getElem? (i := 0) rfl)))
  have sz_b33 : h0.size ≤ b33 := Nat.le_trans KP40.1 (Nat.le_of_eq g33.symm)
  have V_b33 : Arv Z h33 b33 kk33 .int (1024 : Int32) [(.int (0 : Int32)), (.int (0 : Int32)), (.int (0 : Int32))] (.int (0 : Int32)) := (Arv.new A33 (by decide)).pad (pad_rep [] (.int (0 : Int32)) 3)
  have Ec41 : Exa Z h33 o oz1 := (Ec39.ext E33)
  have Fc42 : Fld Z h33 o oz1 "causes" "[I" w_causes_o := (((((((((F_causes_o.ext E2).other W5 (Or.inr (slot_ne (Or.inr (own_w hw 48 rfl)) (Or.inr (own_w hw 40 rfl)) (by decide) (t := (.array .int)) (t' := (.array .long)) (by decide) (by decide)))).ext E6).other W13 (Or.inr (slot_ne (Or.inr (own_w hw 48 rfl)) (Or.inr (own_w hw 42 rfl)) (by decide) (t := (.array .int)) (t' := (.array .long)) (by decide) (by decide)))).ext E14).other W22 (Or.inr (slot_ne (Or.inr (own_w hw 48 rfl)) (Or.inr (own_w hw 44 rfl)) (by decide) (t := (.array .int)) (t' := (.array .long)) (by decide) (by decide)))).ext E23).other W32 (Or.inr (slot_ne (Or.inr (own_w hw 48 rfl)) (Or.inr (own_w hw 46 rfl)) (by decide) (t := (.array .int)) (t' := (.array .int)) (by decide) (by decide)))).ext E33)
  obtain ⟨T43, h43, X43, e43, W43, st43⟩ := putF X33 hx hZ hown (host := "") (Or.inl (own_w hw 47 rfl)) Via.refl e33 Fc42 Ec41 (Or.inr ⟨(own_w hw 48 rfl), rfl, hnm⟩) (own_w hw 32 rfl) (ty := (.array .int)) (by decide) rfl rfl (g := (mkF m 46 #[rv o] [(.ref b33), (.ref o)])) rfl rfl (hb hby d5_46)
  have Fw43 : Fld Z h43 o oz1 "causes" "[I" (.ref b33) := Fc42.same W43
  have N43 := Fr.snoc X43 N32 g_o
  have Zc45 : n0 ≤ h43.size := (Nat.le_trans (Nat.le_trans Zc34 E33.1) (Keep.of_wr W43).1)
  have Vc46 : Arv Z h43 b2 kk2 .long (1024 : Int32) [(.long (0 : Int64)), (.long (0 : Int64)), (.long (0 : Int64))] (.long (0 : Int64)) := ((Vc35.ext E33).other W43 (Ne.symm ne_o_b2))
  have Vc47 : Arv Z h43 b6 kk6 .long (1024 : Int32) [(.long (0 : Int64)), (.long (0 : Int64)), (.long (0 : Int64))] (.long (0 : Int64)) := ((Vc36.ext E33).other W43 (Ne.symm ne_o_b6))
  have Vc48 : Arv Z h43 b14 kk14 .long (1024 : Int32) [(.long (0 : Int64)), (.long (0 : Int64)), (.long (0 : Int64))] (.long (0 : Int64)) := ((Vc37.ext E33).other W43 (Ne.symm ne_o_b14))
  have Vc49 : Arv Z h43 b23 kk23 .int (1024 : Int32) [(.int (0 : Int32)), (.int (0 : Int32)), (.int (0 : Int32))] (.int (0 : Int32)) := ((Vc38.ext E33).other W43 (Ne.symm ne_o_b23))
  have Vc50 : Arv Z h43 b33 kk33 .int (1024 : Int32) [(.int (0 : Int32)), (.int (0 : Int32)), (.int (0 : Int32))] (.int (0 : Int32)) := (V_b33.other W43 (Ne.symm ne_o_b33))
  have Ec51 : Exa Z h43 o oz1 := (Ec41.wr W43)
  obtain ⟨T44, h44, kk44, X44, e44, E44, A44, st44⟩ := newP X43 hx hZ (own_w hw 49 rfl) e43 (g := (mkF m 53 #[rv o] [(.int (1024 : Int32)), (.ref o)])) rfl (hb hby d5_53) rfl (by decide) (cap := 1024) (by decide) (by decide) (by decide) (by decide)
  obtain ⟨b44, g44⟩ : ∃ z, z = h43.size := ⟨_, rfl⟩
  rw [← g44] at A44 st44
  have g_b44 : n0 ≤ b44 := Nat.le_trans Zc45 (Nat.le_of_eq g44.symm)
  have ne_b2_b44 : b2 ≠ b44 := Nat.ne_of_lt (Nat.lt_of_lt_of_le Vc46.lt (Nat.le_of_eq g44.symm))
  have ne_b6_b44 : b6 ≠ b44 := Nat.ne_of_lt (Nat.lt_of_lt_of_le Vc47.lt (Nat.le_of_eq g44.symm))
  have ne_b14_b44 : b14 ≠ b44 := Nat.ne_of_lt (Nat.lt_of_lt_of_le Vc48.lt (Nat.le_of_eq g44.symm))
  have ne_b23_b44 : b23 ≠ b44 := Nat.ne_of_lt (Nat.lt_of_lt_of_le Vc49.lt (Nat.le_of_eq g44.symm))
  have ne_b33_b44 : b33 ≠ b44 := Nat.ne_of_lt (Nat.lt_of_lt_of_le Vc50.lt (Nat.le_of_eq g44.symm))
  have ne_o_b44 : o ≠ b44 := Nat.ne_of_lt (Nat.lt_of_lt_of_le Ec51.lt (Nat.le_of_eq g44.symm))
  have KP52 : Keep h0 h43 [o] := ((KP40.ext E33).wr W43 (Or.inl (List.mem_of_getElem? (i := 0) rfl)))
  have sz_b44 : h0.size ≤ b44 := Nat.le_trans KP52.1 (Nat.le_of_eq g44.symm)
  have V_b44 : Arv Z h44 b44 kk44 .byte (1024 : Int32) [(.int (0 : Int32)), (.int (0 : Int32)), (.int (0 : Int32))] (.int (0 : Int32)) := (Arv.new A44 (by decide)).pad (pad_rep [] (.int (0 : Int32)) 3)
  have Ec53 : Exa Z h44 o oz1 := (Ec51.ext E44)
  have Fc54 : Fld Z h44 o oz1 "states" "[B" w_states_o := (((((((((((F_states_o.ext E2).other W5 (Or.inr (slot_ne (Or.inr (own_w hw 51 rfl)) (Or.inr (own_w hw 40 rfl)) (by decide) (t := (.array .byte)) (t' := (.array .long)) (by decide) (by decide)))).ext E6).other W13 (Or.inr (slot_ne (Or.inr (own_w hw 51 rfl)) (Or.inr (own_w hw 42 rfl)) (by decide) (t := (.array .byte)) (t' := (.array .long)) (by decide) (by decide)))).ext E14).other W22 (Or.inr (slot_ne (Or.inr (own_w hw 51 rfl)) (Or.inr (own_w hw 44 rfl)) (by decide) (t := (.array .byte)) (t' := (.array .long)) (by decide) (by decide)))).ext E23).other W32 (Or.inr (slot_ne (Or.inr (own_w hw 51 rfl)) (Or.inr (own_w hw 46 rfl)) (by decide) (t := (.array .byte)) (t' := (.array .int)) (by decide) (by decide)))).ext E33).other W43 (Or.inr (slot_ne (Or.inr (own_w hw 51 rfl)) (Or.inr (own_w hw 48 rfl)) (by decide) (t := (.array .byte)) (t' := (.array .int)) (by decide) (by decide)))).ext E44)
  obtain ⟨T55, h55, X55, e55, W55, st55⟩ := putF X44 hx hZ hown (host := "") (Or.inl (own_w hw 50 rfl)) Via.refl e44 Fc54 Ec53 (Or.inr ⟨(own_w hw 51 rfl), rfl, hnm⟩) (own_w hw 32 rfl) (ty := (.array .byte)) (by decide) rfl rfl (g := (mkF m 55 #[rv o] [(.ref b44), (.ref o)])) rfl rfl (hb hby d5_55)
  have Fw55 : Fld Z h55 o oz1 "states" "[B" (.ref b44) := Fc54.same W55
  have N55 := Fr.snoc X55 N43 g_o
  have pre56 : ∀ tz, oS p e below T55 m 58 #[rv o] [] tz → oS p e below s₁ m 0 #[rv o] [] tz := fun tz kt => by
    show oS p e below s₁ m 0 #[rv o] [] _
    refine XS.aloadN X0.here hx rfl (hb hby d5_0) rfl rfl ?_
    show oS p e below s₁ m 1 #[rv o] [(.ref o)] _
    refine st1 _ ?_
    refine XS.aloadN X1.here hx rfl (hb hby d5_4) rfl rfl ?_
    refine XS.sipush X1.here hx rfl (hb hby d5_5) ?_
    show oS p e below T1 m 8 #[rv o] [(.int (1024 : Int32)), (.ref o)] _
    refine st2 _ ?_
    show oS p e below T2 m 10 #[rv o] [(.ref b2), (.ref o)] _
    refine st5 _ ?_
    refine XS.aloadN X5.here hx rfl (hb hby d5_13) rfl rfl ?_
    refine XS.sipush X5.here hx rfl (hb hby d5_14) ?_
    show oS p e below T5 m 17 #[rv o] [(.int (1024 : Int32)), (.ref o)] _
    refine st6 _ ?_
    show oS p e below T6 m 19 #[rv o] [(.ref b6), (.ref o)] _
    refine st13 _ ?_
    refine XS.aloadN X13.here hx rfl (hb hby d5_22) rfl rfl ?_
    refine XS.sipush X13.here hx rfl (hb hby d5_23) ?_
    show oS p e below T13 m 26 #[rv o] [(.int (1024 : Int32)), (.ref o)] _
    refine st14 _ ?_
    show oS p e below T14 m 28 #[rv o] [(.ref b14), (.ref o)] _
    refine st22 _ ?_
    refine XS.aloadN X22.here hx rfl (hb hby d5_31) rfl rfl ?_
    refine XS.sipush X22.here hx rfl (hb hby d5_32) ?_
    show oS p e below T22 m 35 #[rv o] [(.int (1024 : Int32)), (.ref o)] _
    refine st23 _ ?_
    show oS p e below T23 m 37 #[rv o] [(.ref b23), (.ref o)] _
    refine st32 _ ?_
    refine XS.aloadN X32.here hx rfl (hb hby d5_40) rfl rfl ?_
    refine XS.sipush X32.here hx rfl (hb hby d5_41) ?_
    show oS p e below T32 m 44 #[rv o] [(.int (1024 : Int32)), (.ref o)] _
    refine st33 _ ?_
    show oS p e below T33 m 46 #[rv o] [(.ref b33), (.ref o)] _
    refine st43 _ ?_
    refine XS.aloadN X43.here hx rfl (hb hby d5_49) rfl rfl ?_
    refine XS.sipush X43.here hx rfl (hb hby d5_50) ?_
    show oS p e below T43 m 53 #[rv o] [(.int (1024 : Int32)), (.ref o)] _
    refine st44 _ ?_
    show oS p e below T44 m 55 #[rv o] [(.ref b44), (.ref o)] _
    refine st55 _ ?_
    exact kt
  have KP57 : Keep h0 h55 [o] := ((KP52.ext E44).wr W55 (Or.inl (List.mem_of_getElem? (i := 0) rfl)))
  have Fc58 : Fld Z h55 o oz1 "ids" "[J" (.ref b2) := ((((((((((Fw5.ext E6).other W13 (Or.inr (slot_ne (Or.inr (own_w hw 40 rfl)) (Or.inr (own_w hw 42 rfl)) (by decide) (t := (.array .long)) (t' := (.array .long)) (by decide) (by decide)))).ext E14).other W22 (Or.inr (slot_ne (Or.inr (own_w hw 40 rfl)) (Or.inr (own_w hw 44 rfl)) (by decide) (t := (.array .long)) (t' := (.array .long)) (by decide) (by decide)))).ext E23).other W32 (Or.inr (slot_ne (Or.inr (own_w hw 40 rfl)) (Or.inr (own_w hw 46 rfl)) (by decide) (t := (.array .long)) (t' := (.array .int)) (by decide) (by decide)))).ext E33).other W43 (Or.inr (slot_ne (Or.inr (own_w hw 40 rfl)) (Or.inr (own_w hw 48 rfl)) (by decide) (t := (.array .long)) (t' := (.array .int)) (by decide) (by decide)))).ext E44).other W55 (Or.inr (slot_ne (Or.inr (own_w hw 40 rfl)) (Or.inr (own_w hw 51 rfl)) (by decide) (t := (.array .long)) (t' := (.array .byte)) (by decide) (by decide))))
  have Fc59 : Fld Z h55 o oz1 "arrivals" "[J" (.ref b6) := ((((((((Fw13.ext E14).other W22 (Or.inr (slot_ne (Or.inr (own_w hw 42 rfl)) (Or.inr (own_w hw 44 rfl)) (by decide) (t := (.array .long)) (t' := (.array .long)) (by decide) (by decide)))).ext E23).other W32 (Or.inr (slot_ne (Or.inr (own_w hw 42 rfl)) (Or.inr (own_w hw 46 rfl)) (by decide) (t := (.array .long)) (t' := (.array .int)) (by decide) (by decide)))).ext E33).other W43 (Or.inr (slot_ne (Or.inr (own_w hw 42 rfl)) (Or.inr (own_w hw 48 rfl)) (by decide) (t := (.array .long)) (t' := (.array .int)) (by decide) (by decide)))).ext E44).other W55 (Or.inr (slot_ne (Or.inr (own_w hw 42 rfl)) (Or.inr (own_w hw 51 rfl)) (by decide) (t := (.array .long)) (t' := (.array .byte)) (by decide) (by decide))))
  have Fc60 : Fld Z h55 o oz1 "arrivedAts" "[J" (.ref b14) := ((((((Fw22.ext E23).other W32 (Or.inr (slot_ne (Or.inr (own_w hw 44 rfl)) (Or.inr (own_w hw 46 rfl)) (by decide) (t := (.array .long)) (t' := (.array .int)) (by decide) (by decide)))).ext E33).other W43 (Or.inr (slot_ne (Or.inr (own_w hw 44 rfl)) (Or.inr (own_w hw 48 rfl)) (by decide) (t := (.array .long)) (t' := (.array .int)) (by decide) (by decide)))).ext E44).other W55 (Or.inr (slot_ne (Or.inr (own_w hw 44 rfl)) (Or.inr (own_w hw 51 rfl)) (by decide) (t := (.array .long)) (t' := (.array .byte)) (by decide) (by decide))))
  have Fc61 : Fld Z h55 o oz1 "deliveryCounts" "[I" (.ref b23) := ((((Fw32.ext E33).other W43 (Or.inr (slot_ne (Or.inr (own_w hw 46 rfl)) (Or.inr (own_w hw 48 rfl)) (by decide) (t := (.array .int)) (t' := (.array .int)) (by decide) (by decide)))).ext E44).other W55 (Or.inr (slot_ne (Or.inr (own_w hw 46 rfl)) (Or.inr (own_w hw 51 rfl)) (by decide) (t := (.array .int)) (t' := (.array .byte)) (by decide) (by decide))))
  have Fc62 : Fld Z h55 o oz1 "causes" "[I" (.ref b33) := ((Fw43.ext E44).other W55 (Or.inr (slot_ne (Or.inr (own_w hw 48 rfl)) (Or.inr (own_w hw 51 rfl)) (by decide) (t := (.array .int)) (t' := (.array .byte)) (by decide) (by decide))))
  have Vc63 : Arv Z h55 b2 kk2 .long (1024 : Int32) [(.long (0 : Int64)), (.long (0 : Int64)), (.long (0 : Int64))] (.long (0 : Int64)) := ((Vc46.ext E44).other W55 (Ne.symm ne_o_b2))
  have Vc64 : Arv Z h55 b6 kk6 .long (1024 : Int32) [(.long (0 : Int64)), (.long (0 : Int64)), (.long (0 : Int64))] (.long (0 : Int64)) := ((Vc47.ext E44).other W55 (Ne.symm ne_o_b6))
  have Vc65 : Arv Z h55 b14 kk14 .long (1024 : Int32) [(.long (0 : Int64)), (.long (0 : Int64)), (.long (0 : Int64))] (.long (0 : Int64)) := ((Vc48.ext E44).other W55 (Ne.symm ne_o_b14))
  have Vc66 : Arv Z h55 b23 kk23 .int (1024 : Int32) [(.int (0 : Int32)), (.int (0 : Int32)), (.int (0 : Int32))] (.int (0 : Int32)) := ((Vc49.ext E44).other W55 (Ne.symm ne_o_b23))
  have Vc67 : Arv Z h55 b33 kk33 .int (1024 : Int32) [(.int (0 : Int32)), (.int (0 : Int32)), (.int (0 : Int32))] (.int (0 : Int32)) := ((Vc50.ext E44).other W55 (Ne.symm ne_o_b33))
  have Vc68 : Arv Z h55 b44 kk44 .byte (1024 : Int32) [(.int (0 : Int32)), (.int (0 : Int32)), (.int (0 : Int32))] (.int (0 : Int32)) := (V_b44.other W55 (Ne.symm ne_o_b44))
  have Fc69 : Fld Z h55 o oz1 "rows" "I" (.int (0 : Int32)) := ((((((((((((F_rows_o.ext E2).other W5 (Or.inr (slot_ne (Or.inl (own_w hw 69 rfl)) (Or.inr (own_w hw 40 rfl)) (by decide) (t := .int) (t' := (.array .long)) (by decide) (by decide)))).ext E6).other W13 (Or.inr (slot_ne (Or.inl (own_w hw 69 rfl)) (Or.inr (own_w hw 42 rfl)) (by decide) (t := .int) (t' := (.array .long)) (by decide) (by decide)))).ext E14).other W22 (Or.inr (slot_ne (Or.inl (own_w hw 69 rfl)) (Or.inr (own_w hw 44 rfl)) (by decide) (t := .int) (t' := (.array .long)) (by decide) (by decide)))).ext E23).other W32 (Or.inr (slot_ne (Or.inl (own_w hw 69 rfl)) (Or.inr (own_w hw 46 rfl)) (by decide) (t := .int) (t' := (.array .int)) (by decide) (by decide)))).ext E33).other W43 (Or.inr (slot_ne (Or.inl (own_w hw 69 rfl)) (Or.inr (own_w hw 48 rfl)) (by decide) (t := .int) (t' := (.array .int)) (by decide) (by decide)))).ext E44).other W55 (Or.inr (slot_ne (Or.inl (own_w hw 69 rfl)) (Or.inr (own_w hw 51 rfl)) (by decide) (t := .int) (t' := (.array .byte)) (by decide) (by decide))))
  have Fc70 : Fld Z h55 o oz1 "addresses" "[J" .null := ((((((((((((F_addresses_o.ext E2).other W5 (Or.inr (slot_ne (Or.inl (own_w hw 63 rfl)) (Or.inr (own_w hw 40 rfl)) (by decide) (t := (.array .long)) (t' := (.array .long)) (by decide) (by decide)))).ext E6).other W13 (Or.inr (slot_ne (Or.inl (own_w hw 63 rfl)) (Or.inr (own_w hw 42 rfl)) (by decide) (t := (.array .long)) (t' := (.array .long)) (by decide) (by decide)))).ext E14).other W22 (Or.inr (slot_ne (Or.inl (own_w hw 63 rfl)) (Or.inr (own_w hw 44 rfl)) (by decide) (t := (.array .long)) (t' := (.array .long)) (by decide) (by decide)))).ext E23).other W32 (Or.inr (slot_ne (Or.inl (own_w hw 63 rfl)) (Or.inr (own_w hw 46 rfl)) (by decide) (t := (.array .long)) (t' := (.array .int)) (by decide) (by decide)))).ext E33).other W43 (Or.inr (slot_ne (Or.inl (own_w hw 63 rfl)) (Or.inr (own_w hw 48 rfl)) (by decide) (t := (.array .long)) (t' := (.array .int)) (by decide) (by decide)))).ext E44).other W55 (Or.inr (slot_ne (Or.inl (own_w hw 63 rfl)) (Or.inr (own_w hw 51 rfl)) (by decide) (t := (.array .long)) (t' := (.array .byte)) (by decide) (by decide))))
  obtain ⟨fs, hr, hrun, hended, hW, hsame⟩ := X55.leave (v := none) (fun _ => rfl)
  refine ⟨_, _, pre0 _ (pre56 _ ?_), hrun, hended, _, _, rfl, ?_, ⟨_, rfl⟩, hW, hsame.mono (by decide) (by decide)⟩
  · show oS p e below T55 m 58 #[rv o] [] _
    exact X55.returnOut hx Bd.returns (hb hby d5_58) hr
  · show Q5 Z o w_ids_o w_arrivals_o w_arrivedAts_o w_deliveryCounts_o w_causes_o w_states_o h0 n0 _ T55.heap _
    rw [e55]
    exact ⟨b2, b6, b14, b23, b33, b44, kk2, kk6, kk14, kk23, kk33, kk44, rfl, N55, KP57, sz_b2, sz_b6, sz_b14, sz_b23, sz_b33, sz_b44, g_b2, g_b6, g_b14, g_b23, g_b33, g_b44, ne_b2_b6, ne_b2_b14, ne_b2_b23, ne_b2_b33, ne_b2_b44, ne_b6_b14, ne_b6_b23, ne_b6_b33, ne_b6_b44, ne_b14_b23, ne_b14_b33, ne_b14_b44, ne_b23_b33, ne_b23_b44, ne_b33_b44, Fc58, Fc59, Fc60, Fc61, Fc62, Fw55, Vc63, Vc64, Vc65, Vc66, Vc67, Vc68, Fc69, Fc70⟩
theorem own_pd0 : parseMethodDescriptor "()V" = some ⟨[], none⟩ := by decide +kernel
theorem d4_0 : decode prog_24_method_23_code 0 = .ok (.iload_n 1, 1) := by decide +kernel
theorem d4_1 : decode prog_24_method_23_code 1 = .ok (.bipush 10, 2) := by decide +kernel
theorem d4_3 : decode prog_24_method_23_code 3 = .ok (.iushr, 1) := by decide +kernel
theorem d4_4 : decode prog_24_method_23_code 4 = .ok (.istore_n 2, 1) := by decide +kernel
theorem d4_5 : decode prog_24_method_23_code 5 = .ok (.iload_n 2, 1) := by decide +kernel
theorem d4_6 : decode prog_24_method_23_code 6 = .ok (.aload_n 0, 1) := by decide +kernel
theorem d4_7 : decode prog_24_method_23_code 7 = .ok (.getfield 129, 3) := by decide +kernel
theorem d4_10 : decode prog_24_method_23_code 10 = .ok (.isub, 1) := by decide +kernel
theorem d4_11 : decode prog_24_method_23_code 11 = .ok (.aload_n 0, 1) := by decide +kernel
theorem d4_12 : decode prog_24_method_23_code 12 = .ok (.getfield 13, 3) := by decide +kernel
theorem d4_15 : decode prog_24_method_23_code 15 = .ok (.arraylength, 1) := by decide +kernel
theorem d4_16 : decode prog_24_method_23_code 16 = .ok (.if_icmp .ne 57, 3) := by decide +kernel
theorem d4_73 : decode prog_24_method_23_code 73 = .ok (.aload_n 0, 1) := by decide +kernel
theorem d4_74 : decode prog_24_method_23_code 74 = .ok (.getfield 13, 3) := by decide +kernel
theorem d4_77 : decode prog_24_method_23_code 77 = .ok (.iload_n 2, 1) := by decide +kernel
theorem d4_78 : decode prog_24_method_23_code 78 = .ok (.aload_n 0, 1) := by decide +kernel
theorem d4_79 : decode prog_24_method_23_code 79 = .ok (.getfield 129, 3) := by decide +kernel
theorem d4_82 : decode prog_24_method_23_code 82 = .ok (.isub, 1) := by decide +kernel
theorem d4_83 : decode prog_24_method_23_code 83 = .ok (.aaload, 1) := by decide +kernel
theorem d4_84 : decode prog_24_method_23_code 84 = .ok (.astore_n 3, 1) := by decide +kernel
theorem d4_85 : decode prog_24_method_23_code 85 = .ok (.aload_n 3, 1) := by decide +kernel
theorem d4_86 : decode prog_24_method_23_code 86 = .ok (.ifnonnull 33, 3) := by decide +kernel
theorem d4_89 : decode prog_24_method_23_code 89 = .ok (.new 11, 3) := by decide +kernel
theorem d4_92 : decode prog_24_method_23_code 92 = .ok (.dup, 1) := by decide +kernel
theorem d4_93 : decode prog_24_method_23_code 93 = .ok (.invokespecial 138, 3) := by decide +kernel
theorem d4_96 : decode prog_24_method_23_code 96 = .ok (.astore_n 3, 1) := by decide +kernel
theorem d4_97 : decode prog_24_method_23_code 97 = .ok (.aload_n 0, 1) := by decide +kernel
theorem d4_98 : decode prog_24_method_23_code 98 = .ok (.getfield 13, 3) := by decide +kernel
theorem d4_101 : decode prog_24_method_23_code 101 = .ok (.iload_n 2, 1) := by decide +kernel
theorem d4_102 : decode prog_24_method_23_code 102 = .ok (.aload_n 0, 1) := by decide +kernel
theorem d4_103 : decode prog_24_method_23_code 103 = .ok (.getfield 129, 3) := by decide +kernel
theorem d4_106 : decode prog_24_method_23_code 106 = .ok (.isub, 1) := by decide +kernel
theorem d4_107 : decode prog_24_method_23_code 107 = .ok (.aload_n 3, 1) := by decide +kernel
theorem d4_108 : decode prog_24_method_23_code 108 = .ok (.aastore, 1) := by decide +kernel
theorem d4_109 : decode prog_24_method_23_code 109 = .ok (.aload_n 0, 1) := by decide +kernel
theorem d4_110 : decode prog_24_method_23_code 110 = .ok (.dup, 1) := by decide +kernel
theorem d4_111 : decode prog_24_method_23_code 111 = .ok (.getfield 96, 3) := by decide +kernel
theorem d4_114 : decode prog_24_method_23_code 114 = .ok (.iconst 1, 1) := by decide +kernel
theorem d4_115 : decode prog_24_method_23_code 115 = .ok (.iadd, 1) := by decide +kernel
theorem d4_116 : decode prog_24_method_23_code 116 = .ok (.putfield 96, 3) := by decide +kernel
theorem d4_119 : decode prog_24_method_23_code 119 = .ok (.aload_n 3, 1) := by decide +kernel
theorem d4_120 : decode prog_24_method_23_code 120 = .ok (.areturn, 1) := by decide +kernel
theorem efCA (m : MethodId) (o : Addr) : entryFrame m #[(.ref o), (.int (0 : Int32))] 5 = mkF m 0 #[rv o, iv (0 : Int32), .unset, .unset, .unset] [] := by first | (simp [entryFrame, mkF, argsToLocals, Value.category]; done) | rfl
def QCA (Z : State) (o : Addr) (cs : Addr) (kc : ClassId) (u_tail : Value) (u_size : Value) (u_head : Value) (u_availableFrom : Value) (u_index : Value) (u_bits : Value) (h0 : Heap) (n0 : Nat) (v : Option Value) (h : Heap) (L : List Loc) : Prop := ∃ (ch : Addr) (ar0 : Addr) (ar1 : Addr) (ar2 : Addr) (ar3 : Addr) (ar4 : Addr) (ar5 : Addr) (kz0 : ClassId) (kz1 : ClassId) (kz2 : ClassId) (kz3 : ClassId) (kz4 : ClassId) (kz5 : ClassId), v = some (.ref ch) ∧ Fr n0 L ∧ Keep h0 h [o, cs] ∧ h0.size ≤ ch ∧ n0 ≤ ch ∧ Exa Z h ch oz1 ∧ h0.size ≤ ar0 ∧ h0.size ≤ ar1 ∧ h0.size ≤ ar2 ∧ h0.size ≤ ar3 ∧ h0.size ≤ ar4 ∧ h0.size ≤ ar5 ∧ n0 ≤ ar0 ∧ n0 ≤ ar1 ∧ n0 ≤ ar2 ∧ n0 ≤ ar3 ∧ n0 ≤ ar4 ∧ n0 ≤ ar5 ∧ ar0 ≠ ar1 ∧ ar0 ≠ ar2 ∧ ar0 ≠ ar3 ∧ ar0 ≠ ar4 ∧ ar0 ≠ ar5 ∧ ar1 ≠ ar2 ∧ ar1 ≠ ar3 ∧ ar1 ≠ ar4 ∧ ar1 ≠ ar5 ∧ ar2 ≠ ar3 ∧ ar2 ≠ ar4 ∧ ar2 ≠ ar5 ∧ ar3 ≠ ar4 ∧ ar3 ≠ ar5 ∧ ar4 ≠ ar5 ∧ Fld Z h ch oz1 "ids" "[J" (.ref ar0) ∧ Fld Z h ch oz1 "arrivals" "[J" (.ref ar1) ∧ Fld Z h ch oz1 "arrivedAts" "[J" (.ref ar2) ∧ Fld Z h ch oz1 "deliveryCounts" "[I" (.ref ar3) ∧ Fld Z h ch oz1 "causes" "[I" (.ref ar4) ∧ Fld Z h ch oz1 "states" "[B" (.ref ar5) ∧ Arv Z h ar0 kz0 .long (1024 : Int32) [(.long (0 : Int64)), (.long (0 : Int64)), (.long (0 : Int64))] (.long (0 : Int64)) ∧ Arv Z h ar1 kz1 .long (1024 : Int32) [(.long (0 : Int64)), (.long (0 : Int64)), (.long (0 : Int64))] (.long (0 : Int64)) ∧ Arv Z h ar2 kz2 .long (1024 : Int32) [(.long (0 : Int64)), (.long (0 : Int64)), (.long (0 : Int64))] (.long (0 : Int64)) ∧ Arv Z h ar3 kz3 .int (1024 : Int32) [(.int (0 : Int32)), (.int (0 : Int32)), (.int (0 : Int32))] (.int (0 : Int32)) ∧ Arv Z h ar4 kz4 .int (1024 : Int32) [(.int (0 : Int32)), (.int (0 : Int32)), (.int (0 : Int32))] (.int (0 : Int32)) ∧ Arv Z h ar5 kz5 .byte (1024 : Int32) [(.int (0 : Int32)), (.int (0 : Int32)), (.int (0 : Int32))] (.int (0 : Int32)) ∧ Fld Z h ch oz1 "rows" "I" (.int (0 : Int32)) ∧ Fld Z h ch oz1 "addresses" "[J" .null ∧ Fld Z h o oz0 "chunks" oz2 (.ref cs) ∧ Fld Z h o oz0 "firstChunk" "I" (.int (0 : Int32)) ∧ Fld Z h o oz0 "heldChunks" "I" (.int (1 : Int32)) ∧ Arv Z h cs kc (.object oz1) (1 : Int32) [(.ref ch)] .null ∧ Fld Z h o oz0 "tail" "I" u_tail ∧ Fld Z h o oz0 "size" "I" u_size ∧ Fld Z h o oz0 "head" "I" u_head ∧ Fld Z h o oz0 "availableFrom" "I" u_availableFrom ∧ Fld Z h o oz0 "index" "[I" u_index ∧ Fld Z h o oz0 "indexBits" "I" u_bits
set_option maxRecDepth 65536 in
set_option maxHeartbeats 40000000 in
theorem rmCA (l : Launch) (Z : State) (a0 : Array Value) (hw : ∀ d ∈ tables_1, d.before a0 Z = true) (ws : List Jvm.Cond) (o : Addr) (cs : Addr) (kc : ClassId) (u_tail : Value) (u_size : Value) (u_head : Value) (u_availableFrom : Value) (u_index : Value) (u_bits : Value) (h0 : Heap) (n0 : Nat) (Z0 : n0 ≤ h0.size) (E_o : Exa Z h0 o oz0) (F_chunks_o : Fld Z h0 o oz0 "chunks" oz2 (.ref cs)) (F_firstChunk_o : Fld Z h0 o oz0 "firstChunk" "I" (.int (0 : Int32))) (g_o : n0 ≤ o) (g_cs : n0 ≤ cs) (O_cs : Ovr Z kc oz1) (F_heldChunks_o : Fld Z h0 o oz0 "heldChunks" "I" (.int (0 : Int32))) (V_cs : Arv Z h0 cs kc (.object oz1) (1 : Int32) [.null] .null) (F_tail_o : Fld Z h0 o oz0 "tail" "I" u_tail) (F_size_o : Fld Z h0 o oz0 "size" "I" u_size) (F_head_o : Fld Z h0 o oz0 "head" "I" u_head) (F_availableFrom_o : Fld Z h0 o oz0 "availableFrom" "I" u_availableFrom) (F_index_o : Fld Z h0 o oz0 "index" "[I" u_index) (F_indexBits_o : Fld Z h0 o oz0 "indexBits" "I" u_bits) :
    MetFree l (⟨oz0, "chunkForAdd", oz4⟩ : MethodName) (head1 (Jvm.Cond.code (⟨oz0, "chunkForAdd", oz4⟩ : MethodName) prog_24_method_23_code 5 (some (.object oz1)) :: ws) ({ frames := 2, cells := 7, slots := 6152, locals := 25 } : Room)) (fun a U => a = #[(.ref o), (.int (0 : Int32))] ∧ Z.Warmed39 U.vm ∧ U.heap = h0) (fun _ _ _ _ _ => True) (fun _ U oc U' => ∃ v L, oc = .returned v ∧ QCA Z o cs kc u_tail u_size u_head u_availableFrom u_index u_bits h0 n0 v U'.heap L ∧ FrameEnd U oc U' L ({ frames := 2, cells := 7, slots := 6152, locals := 25 } : Room).cells ({ frames := 2, cells := 7, slots := 6152, locals := 25 } : Room).slots) := by
  refine MetFree.of_bodySF (plainFor_of_name own_pn0) hisR ?_
  intro p e s m args below meth c s₁ Bd hml0 hP hK
  obtain ⟨rfl, hZ, hh⟩ := hP
  have hx := Bd.exec
  have hby := Bd.bytes
  have hml : c.maxLocals = 5 := hml0
  have hown : s.vm.findClass oz0 = some m.cls := findClass_of_methodNamed Bd.named
  have hnm := (name_of_methodNamed Bd.named Bd.method).1
  have X0 : Stand p l e ({ frames := 2, cells := 7, slots := 6152, locals := 25 } : Room) s m #[(.ref o), (.int (0 : Int32))] below meth c s₁ [] 0 0 := Stand.of_body Bd
  have e0 : s₁.heap = h0 := by rw [← hh, Bd.state]; rfl
  have N0 := Fr.nil n0
  have pre0 : ∀ t, Steps p.tables e below (s₁.setTop (mkF m 0 #[rv o, iv (0 : Int32), .unset, .unset, .unset] [])) t → Steps p.tables e below (s₁.setTop (entryFrame m #[(.ref o), (.int (0 : Int32))] 5)) t := fun t k => castTop (efCA m o) k
  obtain ⟨T1, X1, e1, st1⟩ := getF X0 hx hZ hown (host := "") (Or.inl (own_w hw 30 rfl)) Via.refl e0 F_firstChunk_o (g := (mkF m 7 #[rv o, iv (0 : Int32), iv (0 : Int32), .unset, .unset] [(.ref o), (.int (0 : Int32))])) rfl rfl (hb hby d4_7)
  obtain ⟨T2, X2, e2, st2⟩ := getF X1 hx hZ hown (host := "") (Or.inl (own_w hw 11 rfl)) Via.refl e1 F_chunks_o (g := (mkF m 12 #[rv o, iv (0 : Int32), iv (0 : Int32), .unset, .unset] [(.ref o), (.int (0 : Int32))])) rfl rfl (hb hby d4_12)
  obtain ⟨cl3, Ar3, qk3, Sz3, Ng3, Hs3, Gt3⟩ := id V_cs
  obtain ⟨T4, X4, e4, st4⟩ := getF X2 hx hZ hown (host := "") (Or.inl (own_w hw 11 rfl)) Via.refl e2 F_chunks_o (g := (mkF m 74 #[rv o, iv (0 : Int32), iv (0 : Int32), .unset, .unset] [(.ref o)])) rfl rfl (hb hby d4_74)
  obtain ⟨T5, X5, e5, st5⟩ := getF X4 hx hZ hown (host := "") (Or.inl (own_w hw 30 rfl)) Via.refl e4 F_firstChunk_o (g := (mkF m 79 #[rv o, iv (0 : Int32), iv (0 : Int32), .unset, .unset] [(.ref o), (.int (0 : Int32)), (.ref cs)])) rfl rfl (hb hby d4_79)
  obtain ⟨cl6, Ar6, qk6, Sz6, Ng6, Hs6, Gt6⟩ := id V_cs
  have hin6 : ¬ ((0 : Int32) < 0 ∨ cl6.slots.size ≤ ((0 : Int32)).toNatClampNeg) := inb_of Sz6 ⟨by decide, by decide⟩
  have hat6 : cl6.slots[((0 : Int32)).toNatClampNeg]? = some .null := Hs6.at hin6 rfl
  obtain ⟨T7, h7, X7, e7, E7, A7, D7, -, st7⟩ := newO X5 hx hZ hown (own_w hw 9 rfl) (own_w hw 32 rfl) (own_w hw 33 rfl) e5 (g := (mkF m 89 #[rv o, iv (0 : Int32), iv (0 : Int32), .val .null, .unset] [])) rfl (hb hby d4_89) (by decide) (by decide)
  obtain ⟨b7, g7⟩ : ∃ z, z = h0.size := ⟨_, rfl⟩
  rw [← g7] at A7 D7 st7
  have g_b7 : n0 ≤ b7 := Nat.le_trans Z0 (Nat.le_of_eq g7.symm)
  have ne_o_b7 : o ≠ b7 := Nat.ne_of_lt (Nat.lt_of_lt_of_le E_o.lt (Nat.le_of_eq g7.symm))
  have ne_cs_b7 : cs ≠ b7 := Nat.ne_of_lt (Nat.lt_of_lt_of_le V_cs.lt (Nat.le_of_eq g7.symm))
  have sz_b7 : h0.size ≤ b7 := Nat.le_trans (Keep.refl h0 [o, cs]).1 (Nat.le_of_eq g7.symm)
  have F_ids_b7 : Fld Z h7 b7 oz1 "ids" "[J" .null := D7 (Or.inr (own_w hw 40 rfl)) (ty := (.array .long)) (by decide)
  have F_arrivals_b7 : Fld Z h7 b7 oz1 "arrivals" "[J" .null := D7 (Or.inr (own_w hw 42 rfl)) (ty := (.array .long)) (by decide)
  have F_arrivedAts_b7 : Fld Z h7 b7 oz1 "arrivedAts" "[J" .null := D7 (Or.inr (own_w hw 44 rfl)) (ty := (.array .long)) (by decide)
  have F_deliveryCounts_b7 : Fld Z h7 b7 oz1 "deliveryCounts" "[I" .null := D7 (Or.inr (own_w hw 46 rfl)) (ty := (.array .int)) (by decide)
  have F_causes_b7 : Fld Z h7 b7 oz1 "causes" "[I" .null := D7 (Or.inr (own_w hw 48 rfl)) (ty := (.array .int)) (by decide)
  have F_states_b7 : Fld Z h7 b7 oz1 "states" "[B" .null := D7 (Or.inr (own_w hw 51 rfl)) (ty := (.array .byte)) (by decide)
  have F_addresses_b7 : Fld Z h7 b7 oz1 "addresses" "[J" .null := D7 (Or.inl (own_w hw 63 rfl)) (ty := (.array .long)) (by decide)
  have F_rows_b7 : Fld Z h7 b7 oz1 "rows" "I" (.int (0 : Int32)) := D7 (Or.inl (own_w hw 69 rfl)) (ty := .int) (by decide)
  have Zc9 : n0 ≤ h7.size := (Nat.le_trans Z0 E7.1)
  obtain ⟨_, _, ⟨T8, Lw8, kw8, nw8⟩, -, X8, ⟨Lc8, hQ8, l8, y8, z8⟩, st8⟩ := own_specialR X7 hx hZ (y := (⟨oz1, "<init>", "()V"⟩ : MethodName)) rfl hown (own_w hw 34 rfl) (mvT hZ (own_w hw 35 rfl)) (mvT hZ (own_w hw 36 rfl)) (by decide) (backOf (W := 1) (rm5 l Z a0 hw [] b7 .null .null .null .null .null .null h7 n0 Zc9 A7 g_b7 F_rows_b7 F_addresses_b7 F_ids_b7 F_arrivals_b7 F_arrivedAts_b7 F_deliveryCounts_b7 F_causes_b7 F_states_b7) hZ (own_w hw 36 rfl) (own_w hw 33 rfl) (by decide) (by decide)) (g := (mkF m 93 #[rv o, iv (0 : Int32), iv (0 : Int32), .val .null, .unset] [(.ref b7), (.ref b7)])) rfl (by rw [hml]; rfl) (Steps.refl _) (a := b7) (argsL := []) (rest := [(.ref b7)]) (lenOf own_pd0 rfl) rfl (by show 2 * 0 + _ ≤ _; exact Nat.le_of_eq rfl) (hb hby d4_93) (fun _ _ => ⟨rfl, e7, (by decide : 1 + 6 ≤ _), (by decide : 8 + 6144 ≤ _)⟩)
  dsimp only [Pt.U, Pt.locs, Pt.cells, Pt.slots] at X8 l8 y8 z8 st8 hQ8
  subst l8 y8 z8
  obtain ⟨ar08, ar18, ar28, ar38, ar48, ar58, kz08, kz18, kz28, kz38, kz48, kz58, rfl, Nq8, K8, pf8_0, pf8_1, pf8_2, pf8_3, pf8_4, pf8_5, pf8_6, pf8_7, pf8_8, pf8_9, pf8_10, pf8_11, pf8_12, pf8_13, pf8_14, pf8_15, pf8_16, pf8_17, pf8_18, pf8_19, pf8_20, pf8_21, pf8_22, pf8_23, pf8_24, pf8_25, pf8_26, pf8_27, pf8_28, pf8_29, pf8_30, pf8_31, pf8_32, pf8_33, pf8_34, pf8_35, pf8_36, pf8_37, pf8_38, pf8_39, pf8_40⟩ := hQ8
  have N8 := Fr.app N0 Nq8
  have Ec10 : Exa Z h7 o oz0 := (E_o.ext E7)
  have Vc11 : Arv Z h7 cs kc (.object oz1) (1 : Int32) [.null] .null := (V_cs.ext E7)
  have ne_b7_ar08 : b7 ≠ ar08 := Nat.ne_of_lt (Nat.lt_of_lt_of_le A7.lt pf8_0)
  have ne_o_ar08 : o ≠ ar08 := Nat.ne_of_lt (Nat.lt_of_lt_of_le Ec10.lt pf8_0)
  have ne_cs_ar08 : cs ≠ ar08 := Nat.ne_of_lt (Nat.lt_of_lt_of_le Vc11.lt pf8_0)
  have ne_b7_ar18 : b7 ≠ ar18 := Nat.ne_of_lt (Nat.lt_of_lt_of_le A7.lt pf8_1)
  have ne_o_ar18 : o ≠ ar18 := Nat.ne_of_lt (Nat.lt_of_lt_of_le Ec10.lt pf8_1)
  have ne_cs_ar18 : cs ≠ ar18 := Nat.ne_of_lt (Nat.lt_of_lt_of_le Vc11.lt pf8_1)
  have ne_b7_ar28 : b7 ≠ ar28 := Nat.ne_of_lt (Nat.lt_of_lt_of_le A7.lt pf8_2)
  have ne_o_ar28 : o ≠ ar28 := Nat.ne_of_lt (Nat.lt_of_lt_of_le Ec10.lt pf8_2)
  have ne_cs_ar28 : cs ≠ ar28 := Nat.ne_of_lt (Nat.lt_of_lt_of_le Vc11.lt pf8_2)
  have ne_b7_ar38 : b7 ≠ ar38 := Nat.ne_of_lt (Nat.lt_of_lt_of_le A7.lt pf8_3)
  have ne_o_ar38 : o ≠ ar38 := Nat.ne_of_lt (Nat.lt_of_lt_of_le Ec10.lt pf8_3)
  have ne_cs_ar38 : cs ≠ ar38 := Nat.ne_of_lt (Nat.lt_of_lt_of_le Vc11.lt pf8_3)
  have ne_b7_ar48 : b7 ≠ ar48 := Nat.ne_of_lt (Nat.lt_of_lt_of_le A7.lt pf8_4)
  have ne_o_ar48 : o ≠ ar48 := Nat.ne_of_lt (Nat.lt_of_lt_of_le Ec10.lt pf8_4)
  have ne_cs_ar48 : cs ≠ ar48 := Nat.ne_of_lt (Nat.lt_of_lt_of_le Vc11.lt pf8_4)
  have ne_b7_ar58 : b7 ≠ ar58 := Nat.ne_of_lt (Nat.lt_of_lt_of_le A7.lt pf8_5)
  have ne_o_ar58 : o ≠ ar58 := Nat.ne_of_lt (Nat.lt_of_lt_of_le Ec10.lt pf8_5)
  have ne_cs_ar58 : cs ≠ ar58 := Nat.ne_of_lt (Nat.lt_of_lt_of_le Vc11.lt pf8_5)
  have Fc12 : Fld Z T8.heap o oz0 "chunks" oz2 (.ref cs) := ((F_chunks_o.ext E7).keep K8 (ninS ne_o_b7 nin0))
  obtain ⟨T13, X13, e13, st13⟩ := getF X8 hx hZ hown (host := "") (Or.inl (own_w hw 11 rfl)) Via.refl rfl Fc12 (g := (mkF m 98 #[rv o, iv (0 : Int32), iv (0 : Int32), rv b7, .unset] [(.ref o)])) rfl rfl (hb hby d4_98)
  have Fc14 : Fld Z T8.heap o oz0 "firstChunk" "I" (.int (0 : Int32)) := ((F_firstChunk_o.ext E7).keep K8 (ninS ne_o_b7 nin0))
  obtain ⟨T15, X15, e15, st15⟩ := getF X13 hx hZ hown (host := "") (Or.inl (own_w hw 30 rfl)) Via.refl e13 Fc14 (g := (mkF m 103 #[rv o, iv (0 : Int32), iv (0 : Int32), rv b7, .unset] [(.ref o), (.int (0 : Int32)), (.ref cs)])) rfl rfl (hb hby d4_103)
  have Ec16 : Exa Z T8.heap b7 oz1 := (A7.keep K8)
  have Vc17 : Arv Z T8.heap cs kc (.object oz1) (1 : Int32) [.null] .null := (Vc11.keep K8 (ninS ne_cs_b7 nin0))
  obtain ⟨cl18, Ar18, qk18, Sz18, Ng18, Hs18, Gt18⟩ := id Vc17
  have hin18 : ¬ ((0 : Int32) < 0 ∨ cl18.slots.size ≤ ((0 : Int32)).toNatClampNeg) := inb_of Sz18 ⟨by decide, by decide⟩
  obtain ⟨T19, h19, X19, e19, W19, st19⟩ := stR X15 hx hZ e15 Ar18 (j := (0 : Int32)) hin18 rfl (Sto.ofV Ar18 qk18 O_cs (Ins.self Ec16)) (g := (mkF m 108 #[rv o, iv (0 : Int32), iv (0 : Int32), rv b7, .unset] [(.ref b7), (.int (0 : Int32)), (.ref cs)])) rfl rfl (hb hby d4_108)
  have Va19 : Arv Z h19 cs kc (.object oz1) (1 : Int32) [(.ref b7)] .null := Arv.set Ar18 qk18 Sz18 Ng18 Hs18 Gt18 rfl W19 0 rfl (Nat.le_of_ble_eq_true rfl)
  have N19 := Fr.snoc X19 N8 g_cs
  obtain ⟨_, Arn20, -⟩ := id Va19
  have ne20 : o ≠ cs := ne_arr ((Ec10.keep K8).wr W19) (own_w hw 1 rfl) Arn20
  have Fc21 : Fld Z h19 o oz0 "heldChunks" "I" (.int (0 : Int32)) := (((F_heldChunks_o.ext E7).keep K8 (ninS ne_o_b7 nin0)).other W19 (Or.inl ne20))
  obtain ⟨T22, X22, e22, st22⟩ := getF X19 hx hZ hown (host := "") (Or.inl (own_w hw 53 rfl)) Via.refl e19 Fc21 (g := (mkF m 111 #[rv o, iv (0 : Int32), iv (0 : Int32), rv b7, .unset] [(.ref o), (.ref o)])) rfl rfl (hb hby d4_111)
  have Ec23 : Exa Z h19 o oz0 := ((Ec10.keep K8).wr W19)
  obtain ⟨T24, h24, X24, e24, W24, st24⟩ := putF X22 hx hZ hown (host := "") (Or.inl (own_w hw 53 rfl)) Via.refl e22 Fc21 Ec23 (Or.inl (own_w hw 54 rfl)) (own_w hw 1 rfl) (ty := .int) (by decide) rfl rfl (g := (mkF m 116 #[rv o, iv (0 : Int32), iv (0 : Int32), rv b7, .unset] [(.int (1 : Int32)), (.ref o)])) rfl rfl (hb hby d4_116)
  have Fw24 : Fld Z h24 o oz0 "heldChunks" "I" (.int (1 : Int32)) := Fc21.same W24
  have N24 := Fr.snoc X24 N19 g_o
  have pre25 : ∀ tz, oS p e below T24 m 120 #[rv o, iv (0 : Int32), iv (0 : Int32), rv b7, .unset] [(.ref b7)] tz → oS p e below s₁ m 0 #[rv o, iv (0 : Int32), .unset, .unset, .unset] [] tz := fun tz kt => by
    show oS p e below s₁ m 0 #[rv o, iv (0 : Int32), .unset, .unset, .unset] [] _
    refine XS.iloadN X0.here hx rfl (hb hby d4_0) rfl ?_
    refine XS.bipush X0.here hx rfl (hb hby d4_1) ?_
    refine XS.iushr X0.here hx rfl (hb hby d4_3) rfl ?_
    show oS p e below s₁ m 4 #[rv o, iv (0 : Int32), .unset, .unset, .unset] [(.int (0 : Int32))] _
    refine XS.istoreN X0.here hx rfl (hb hby d4_4) rfl (l' := #[rv o, iv (0 : Int32), iv (0 : Int32), .unset, .unset]) rfl ?_
    refine XS.iloadN X0.here hx rfl (hb hby d4_5) rfl ?_
    refine XS.aloadN X0.here hx rfl (hb hby d4_6) rfl rfl ?_
    show oS p e below s₁ m 7 #[rv o, iv (0 : Int32), iv (0 : Int32), .unset, .unset] [(.ref o), (.int (0 : Int32))] _
    refine st1 _ ?_
    refine XS.isub X1.here hx rfl (hb hby d4_10) rfl ?_
    show oS p e below T1 m 11 #[rv o, iv (0 : Int32), iv (0 : Int32), .unset, .unset] [(.int (0 : Int32))] _
    refine XS.aloadN X1.here hx rfl (hb hby d4_11) rfl rfl ?_
    show oS p e below T1 m 12 #[rv o, iv (0 : Int32), iv (0 : Int32), .unset, .unset] [(.ref o), (.int (0 : Int32))] _
    refine st2 _ ?_
    refine X2.arraylength hx (by rw [e2]; exact Ar3.1) (State.isArrayOf_alike hZ.alike Ar3.2.1) (g := (mkF m 15 #[rv o, iv (0 : Int32), iv (0 : Int32), .unset, .unset] [(.ref cs), (.int (0 : Int32))])) rfl rfl (hb hby d4_15) _ ?_
    rw [len_of Sz3 Ng3]
    show oS p e below T2 m 16 #[rv o, iv (0 : Int32), iv (0 : Int32), .unset, .unset] [(.int (1 : Int32)), (.int (0 : Int32))] _
    refine XS.icmpYes X2.here hx rfl (pc0 := 16) (pc' := 73) rfl (hb hby d4_16) rfl (feq (by decide : ¬ ((0 : Int32) = (1 : Int32)))).2 (by decide) (by decide) ?_
    refine XS.aloadN X2.here hx rfl (hb hby d4_73) rfl rfl ?_
    show oS p e below T2 m 74 #[rv o, iv (0 : Int32), iv (0 : Int32), .unset, .unset] [(.ref o)] _
    refine st4 _ ?_
    refine XS.iloadN X4.here hx rfl (hb hby d4_77) rfl ?_
    refine XS.aloadN X4.here hx rfl (hb hby d4_78) rfl rfl ?_
    show oS p e below T4 m 79 #[rv o, iv (0 : Int32), iv (0 : Int32), .unset, .unset] [(.ref o), (.int (0 : Int32)), (.ref cs)] _
    refine st5 _ ?_
    refine XS.isub X5.here hx rfl (hb hby d4_82) rfl ?_
    show oS p e below T5 m 83 #[rv o, iv (0 : Int32), iv (0 : Int32), .unset, .unset] [(.int (0 : Int32)), (.ref cs)] _
    refine X5.aaload hx (j := (0 : Int32)) (v := .null) (by rw [e5]; exact Ar6.1) (State.isArrayOf_alike hZ.alike Ar6.2.1) rfl Ar6.2.2 hin6 hat6 (g := (mkF m 83 #[rv o, iv (0 : Int32), iv (0 : Int32), .unset, .unset] [(.int (0 : Int32)), (.ref cs)])) rfl rfl (hb hby d4_83) _ ?_
    refine XS.astoreN X5.here hx rfl (hb hby d4_84) rfl rfl (l' := #[rv o, iv (0 : Int32), iv (0 : Int32), .val .null, .unset]) rfl ?_
    refine XS.aloadN X5.here hx rfl (hb hby d4_85) rfl rfl ?_
    refine XS.ifnonnullNo X5.here hx rfl (hb hby d4_86) rfl ?_
    show oS p e below T5 m 89 #[rv o, iv (0 : Int32), iv (0 : Int32), .val .null, .unset] [] _
    refine st7 _ ?_
    refine XS.dup X7.here hx rfl (hb hby d4_92) rfl rfl ?_
    show oS p e below T7 m 93 #[rv o, iv (0 : Int32), iv (0 : Int32), .val .null, .unset] [(.ref b7), (.ref b7)] _
    refine st8.trans ?_
    refine XS.astoreN X8.here hx rfl (hb hby d4_96) rfl rfl (l' := #[rv o, iv (0 : Int32), iv (0 : Int32), rv b7, .unset]) rfl ?_
    refine XS.aloadN X8.here hx rfl (hb hby d4_97) rfl rfl ?_
    show oS p e below T8 m 98 #[rv o, iv (0 : Int32), iv (0 : Int32), rv b7, .unset] [(.ref o)] _
    refine st13 _ ?_
    refine XS.iloadN X13.here hx rfl (hb hby d4_101) rfl ?_
    refine XS.aloadN X13.here hx rfl (hb hby d4_102) rfl rfl ?_
    show oS p e below T13 m 103 #[rv o, iv (0 : Int32), iv (0 : Int32), rv b7, .unset] [(.ref o), (.int (0 : Int32)), (.ref cs)] _
    refine st15 _ ?_
    refine XS.isub X15.here hx rfl (hb hby d4_106) rfl ?_
    show oS p e below T15 m 107 #[rv o, iv (0 : Int32), iv (0 : Int32), rv b7, .unset] [(.int (0 : Int32)), (.ref cs)] _
    refine XS.aloadN X15.here hx rfl (hb hby d4_107) rfl rfl ?_
    show oS p e below T15 m 108 #[rv o, iv (0 : Int32), iv (0 : Int32), rv b7, .unset] [(.ref b7), (.int (0 : Int32)), (.ref cs)] _
    refine st19 _ ?_
    refine XS.aloadN X19.here hx rfl (hb hby d4_109) rfl rfl ?_
    refine XS.dup X19.here hx rfl (hb hby d4_110) rfl rfl ?_
    show oS p e below T19 m 111 #[rv o, iv (0 : Int32), iv (0 : Int32), rv b7, .unset] [(.ref o), (.ref o)] _
    refine st22 _ ?_
    refine XS.iconst X22.here hx rfl (hb hby d4_114) ?_
    refine XS.iadd X22.here hx rfl (hb hby d4_115) rfl ?_
    show oS p e below T22 m 116 #[rv o, iv (0 : Int32), iv (0 : Int32), rv b7, .unset] [(.int (1 : Int32)), (.ref o)] _
    refine st24 _ ?_
    refine XS.aloadN X24.here hx rfl (hb hby d4_119) rfl rfl ?_
    exact kt
  have KP26 : Keep h0 h24 [o, cs] := (((((Keep.refl h0 [o, cs]).ext E7).trans K8 (allS (Or.inr sz_b7) all0)).wr W19 (Or.inl (List.mem_of_getElem? (i := 1) rfl))).wr W24 (Or.inl (List.mem_of_getElem? (i := 0) rfl)))
  have Ec27 : Exa Z h24 b7 oz1 := ((Ec16.wr W19).wr W24)
  have Fc28 : Fld Z h24 b7 oz1 "ids" "[J" (.ref ar08) := ((pf8_27.other W19 (Or.inl (Ne.symm ne_cs_b7))).other W24 (Or.inl (Ne.symm ne_o_b7)))
  have Fc29 : Fld Z h24 b7 oz1 "arrivals" "[J" (.ref ar18) := ((pf8_28.other W19 (Or.inl (Ne.symm ne_cs_b7))).other W24 (Or.inl (Ne.symm ne_o_b7)))
  have Fc30 : Fld Z h24 b7 oz1 "arrivedAts" "[J" (.ref ar28) := ((pf8_29.other W19 (Or.inl (Ne.symm ne_cs_b7))).other W24 (Or.inl (Ne.symm ne_o_b7)))
  have Fc31 : Fld Z h24 b7 oz1 "deliveryCounts" "[I" (.ref ar38) := ((pf8_30.other W19 (Or.inl (Ne.symm ne_cs_b7))).other W24 (Or.inl (Ne.symm ne_o_b7)))
  have Fc32 : Fld Z h24 b7 oz1 "causes" "[I" (.ref ar48) := ((pf8_31.other W19 (Or.inl (Ne.symm ne_cs_b7))).other W24 (Or.inl (Ne.symm ne_o_b7)))
  have Fc33 : Fld Z h24 b7 oz1 "states" "[B" (.ref ar58) := ((pf8_32.other W19 (Or.inl (Ne.symm ne_cs_b7))).other W24 (Or.inl (Ne.symm ne_o_b7)))
  have Vc34 : Arv Z h24 ar08 kz08 .long (1024 : Int32) [(.long (0 : Int64)), (.long (0 : Int64)), (.long (0 : Int64))] (.long (0 : Int64)) := ((pf8_33.other W19 (Ne.symm ne_cs_ar08)).other W24 (Ne.symm ne_o_ar08))
  have Vc35 : Arv Z h24 ar18 kz18 .long (1024 : Int32) [(.long (0 : Int64)), (.long (0 : Int64)), (.long (0 : Int64))] (.long (0 : Int64)) := ((pf8_34.other W19 (Ne.symm ne_cs_ar18)).other W24 (Ne.symm ne_o_ar18))
  have Vc36 : Arv Z h24 ar28 kz28 .long (1024 : Int32) [(.long (0 : Int64)), (.long (0 : Int64)), (.long (0 : Int64))] (.long (0 : Int64)) := ((pf8_35.other W19 (Ne.symm ne_cs_ar28)).other W24 (Ne.symm ne_o_ar28))
  have Vc37 : Arv Z h24 ar38 kz38 .int (1024 : Int32) [(.int (0 : Int32)), (.int (0 : Int32)), (.int (0 : Int32))] (.int (0 : Int32)) := ((pf8_36.other W19 (Ne.symm ne_cs_ar38)).other W24 (Ne.symm ne_o_ar38))
  have Vc38 : Arv Z h24 ar48 kz48 .int (1024 : Int32) [(.int (0 : Int32)), (.int (0 : Int32)), (.int (0 : Int32))] (.int (0 : Int32)) := ((pf8_37.other W19 (Ne.symm ne_cs_ar48)).other W24 (Ne.symm ne_o_ar48))
  have Vc39 : Arv Z h24 ar58 kz58 .byte (1024 : Int32) [(.int (0 : Int32)), (.int (0 : Int32)), (.int (0 : Int32))] (.int (0 : Int32)) := ((pf8_38.other W19 (Ne.symm ne_cs_ar58)).other W24 (Ne.symm ne_o_ar58))
  have Fc40 : Fld Z h24 b7 oz1 "rows" "I" (.int (0 : Int32)) := ((pf8_39.other W19 (Or.inl (Ne.symm ne_cs_b7))).other W24 (Or.inl (Ne.symm ne_o_b7)))
  have Fc41 : Fld Z h24 b7 oz1 "addresses" "[J" .null := ((pf8_40.other W19 (Or.inl (Ne.symm ne_cs_b7))).other W24 (Or.inl (Ne.symm ne_o_b7)))
  have Fc42 : Fld Z h24 o oz0 "chunks" oz2 (.ref cs) := ((Fc12.other W19 (Or.inl ne20)).other W24 (Or.inr (slot_ne (Or.inl (own_w hw 12 rfl)) (Or.inl (own_w hw 54 rfl)) (by decide) (t := (.array (.object oz1))) (t' := .int) (by decide) (by decide))))
  have Fc43 : Fld Z h24 o oz0 "firstChunk" "I" (.int (0 : Int32)) := ((Fc14.other W19 (Or.inl ne20)).other W24 (Or.inr (slot_ne (Or.inl (own_w hw 31 rfl)) (Or.inl (own_w hw 54 rfl)) (by decide) (t := .int) (t' := .int) (by decide) (by decide))))
  have Vc44 : Arv Z h24 cs kc (.object oz1) (1 : Int32) [(.ref b7)] .null := (Va19.other W24 (Ne.symm ne20))
  have Fc45 : Fld Z h24 o oz0 "tail" "I" u_tail := ((((F_tail_o.ext E7).keep K8 (ninS ne_o_b7 nin0)).other W19 (Or.inl ne20)).other W24 (Or.inr (slot_ne (Or.inl (own_w hw 24 rfl)) (Or.inl (own_w hw 54 rfl)) (by decide) (t := .int) (t' := .int) (by decide) (by decide))))
  have Fc46 : Fld Z h24 o oz0 "size" "I" u_size := ((((F_size_o.ext E7).keep K8 (ninS ne_o_b7 nin0)).other W19 (Or.inl ne20)).other W24 (Or.inr (slot_ne (Or.inl (own_w hw 71 rfl)) (Or.inl (own_w hw 54 rfl)) (by decide) (t := .int) (t' := .int) (by decide) (by decide))))
  have Fc47 : Fld Z h24 o oz0 "head" "I" u_head := ((((F_head_o.ext E7).keep K8 (ninS ne_o_b7 nin0)).other W19 (Or.inl ne20)).other W24 (Or.inr (slot_ne (Or.inl (own_w hw 111 rfl)) (Or.inl (own_w hw 54 rfl)) (by decide) (t := .int) (t' := .int) (by decide) (by decide))))
  have Fc48 : Fld Z h24 o oz0 "availableFrom" "I" u_availableFrom := ((((F_availableFrom_o.ext E7).keep K8 (ninS ne_o_b7 nin0)).other W19 (Or.inl ne20)).other W24 (Or.inr (slot_ne (Or.inl (own_w hw 105 rfl)) (Or.inl (own_w hw 54 rfl)) (by decide) (t := .int) (t' := .int) (by decide) (by decide))))
  have Fc49 : Fld Z h24 o oz0 "index" "[I" u_index := ((((F_index_o.ext E7).keep K8 (ninS ne_o_b7 nin0)).other W19 (Or.inl ne20)).other W24 (Or.inr (slot_ne (Or.inl (own_w hw 15 rfl)) (Or.inl (own_w hw 54 rfl)) (by decide) (t := (.array .int)) (t' := .int) (by decide) (by decide))))
  have Fc50 : Fld Z h24 o oz0 "indexBits" "I" u_bits := ((((F_indexBits_o.ext E7).keep K8 (ninS ne_o_b7 nin0)).other W19 (Or.inl ne20)).other W24 (Or.inr (slot_ne (Or.inl (own_w hw 17 rfl)) (Or.inl (own_w hw 54 rfl)) (by decide) (t := .int) (t' := .int) (by decide) (by decide))))
  obtain ⟨fs, hr, hrun, hended, hW, hsame⟩ := X24.leave (v := some (.ref b7)) (fun h => by rw [Bd.returns] at h; cases h)
  refine ⟨_, _, pre0 _ (pre25 _ ?_), hrun, hended, _, _, rfl, ?_, ⟨_, rfl⟩, hW, hsame.mono (by decide) (by decide)⟩
  · show oS p e below T24 m 120 #[rv o, iv (0 : Int32), iv (0 : Int32), rv b7, .unset] [(.ref b7)] _
    exact retOut X24 hx Bd.returns rfl (Or.inr (Or.inr (Or.inr (Or.inr ⟨rfl, rfl, rfl⟩)))) (hb hby d4_120) hr
  · show QCA Z o cs kc u_tail u_size u_head u_availableFrom u_index u_bits h0 n0 _ T24.heap _
    rw [e24]
    exact ⟨b7, ar08, ar18, ar28, ar38, ar48, ar58, kz08, kz18, kz28, kz38, kz48, kz58, rfl, N24, KP26, sz_b7, g_b7, Ec27, (Nat.le_trans ((Keep.refl h0 [o, cs]).ext E7).1 pf8_0), (Nat.le_trans ((Keep.refl h0 [o, cs]).ext E7).1 pf8_1), (Nat.le_trans ((Keep.refl h0 [o, cs]).ext E7).1 pf8_2), (Nat.le_trans ((Keep.refl h0 [o, cs]).ext E7).1 pf8_3), (Nat.le_trans ((Keep.refl h0 [o, cs]).ext E7).1 pf8_4), (Nat.le_trans ((Keep.refl h0 [o, cs]).ext E7).1 pf8_5), pf8_6, pf8_7, pf8_8, pf8_9, pf8_10, pf8_11, pf8_12, pf8_13, pf8_14, pf8_15, pf8_16, pf8_17, pf8_18, pf8_19, pf8_20, pf8_21, pf8_22, pf8_23, pf8_24, pf8_25, pf8_26, Fc28, Fc29, Fc30, Fc31, Fc32, Fc33, Vc34, Vc35, Vc36, Vc37, Vc38, Vc39, Fc40, Fc41, Fc42, Fc43, Fw24, Vc44, Fc45, Fc46, Fc47, Fc48, Fc49, Fc50⟩
theorem efCB1 (m : MethodId) (o : Addr) : entryFrame m #[(.ref o), (.int (1 : Int32))] 5 = mkF m 0 #[rv o, iv (1 : Int32), .unset, .unset, .unset] [] := by first | (simp [entryFrame, mkF, argsToLocals, Value.category]; done) | rfl
def QCB1 (Z : State) (o : Addr) (cs : Addr) (kc : ClassId) (ch : Addr) (h0 : Heap) (n0 : Nat) (v : Option Value) (h : Heap) (L : List Loc) : Prop := v = some (.ref ch) ∧ Fr n0 L ∧ h = h0
set_option maxRecDepth 65536 in
set_option maxHeartbeats 40000000 in
theorem rmCB1 (l : Launch) (Z : State) (a0 : Array Value) (hw : ∀ d ∈ tables_1, d.before a0 Z = true) (ws : List Jvm.Cond) (o : Addr) (cs : Addr) (kc : ClassId) (ch : Addr) (h0 : Heap) (n0 : Nat) (Z0 : n0 ≤ h0.size) (E_o : Exa Z h0 o oz0) (F_chunks_o : Fld Z h0 o oz0 "chunks" oz2 (.ref cs)) (F_firstChunk_o : Fld Z h0 o oz0 "firstChunk" "I" (.int (0 : Int32))) (V_cs : Arv Z h0 cs kc (.object oz1) (1 : Int32) [(.ref ch)] .null) :
    MetFree l (⟨oz0, "chunkForAdd", oz4⟩ : MethodName) (head1 (Jvm.Cond.code (⟨oz0, "chunkForAdd", oz4⟩ : MethodName) prog_24_method_23_code 5 (some (.object oz1)) :: ws) ({ frames := 0, cells := 0, slots := 0, locals := 0 } : Room)) (fun a U => a = #[(.ref o), (.int (1 : Int32))] ∧ Z.Warmed39 U.vm ∧ U.heap = h0) (fun _ _ _ _ _ => True) (fun _ U oc U' => ∃ v L, oc = .returned v ∧ QCB1 Z o cs kc ch h0 n0 v U'.heap L ∧ FrameEnd U oc U' L ({ frames := 0, cells := 0, slots := 0, locals := 0 } : Room).cells ({ frames := 0, cells := 0, slots := 0, locals := 0 } : Room).slots) := by
  refine MetFree.of_bodySF (plainFor_of_name own_pn0) hisR ?_
  intro p e s m args below meth c s₁ Bd hml0 hP hK
  obtain ⟨rfl, hZ, hh⟩ := hP
  have hx := Bd.exec
  have hby := Bd.bytes
  have hml : c.maxLocals = 5 := hml0
  have hown : s.vm.findClass oz0 = some m.cls := findClass_of_methodNamed Bd.named
  have hnm := (name_of_methodNamed Bd.named Bd.method).1
  have X0 : Stand p l e ({ frames := 0, cells := 0, slots := 0, locals := 0 } : Room) s m #[(.ref o), (.int (1 : Int32))] below meth c s₁ [] 0 0 := Stand.of_body Bd
  have e0 : s₁.heap = h0 := by rw [← hh, Bd.state]; rfl
  have N0 := Fr.nil n0
  have pre0 : ∀ t, Steps p.tables e below (s₁.setTop (mkF m 0 #[rv o, iv (1 : Int32), .unset, .unset, .unset] [])) t → Steps p.tables e below (s₁.setTop (entryFrame m #[(.ref o), (.int (1 : Int32))] 5)) t := fun t k => castTop (efCB1 m o) k
  obtain ⟨T1, X1, e1, st1⟩ := getF X0 hx hZ hown (host := "") (Or.inl (own_w hw 30 rfl)) Via.refl e0 F_firstChunk_o (g := (mkF m 7 #[rv o, iv (1 : Int32), iv (0 : Int32), .unset, .unset] [(.ref o), (.int (0 : Int32))])) rfl rfl (hb hby d4_7)
  obtain ⟨T2, X2, e2, st2⟩ := getF X1 hx hZ hown (host := "") (Or.inl (own_w hw 11 rfl)) Via.refl e1 F_chunks_o (g := (mkF m 12 #[rv o, iv (1 : Int32), iv (0 : Int32), .unset, .unset] [(.ref o), (.int (0 : Int32))])) rfl rfl (hb hby d4_12)
  obtain ⟨cl3, Ar3, qk3, Sz3, Ng3, Hs3, Gt3⟩ := id V_cs
  obtain ⟨T4, X4, e4, st4⟩ := getF X2 hx hZ hown (host := "") (Or.inl (own_w hw 11 rfl)) Via.refl e2 F_chunks_o (g := (mkF m 74 #[rv o, iv (1 : Int32), iv (0 : Int32), .unset, .unset] [(.ref o)])) rfl rfl (hb hby d4_74)
  obtain ⟨T5, X5, e5, st5⟩ := getF X4 hx hZ hown (host := "") (Or.inl (own_w hw 30 rfl)) Via.refl e4 F_firstChunk_o (g := (mkF m 79 #[rv o, iv (1 : Int32), iv (0 : Int32), .unset, .unset] [(.ref o), (.int (0 : Int32)), (.ref cs)])) rfl rfl (hb hby d4_79)
  obtain ⟨cl6, Ar6, qk6, Sz6, Ng6, Hs6, Gt6⟩ := id V_cs
  have hin6 : ¬ ((0 : Int32) < 0 ∨ cl6.slots.size ≤ ((0 : Int32)).toNatClampNeg) := inb_of Sz6 ⟨by decide, by decide⟩
  have hat6 : cl6.slots[((0 : Int32)).toNatClampNeg]? = some (.ref ch) := Hs6.at hin6 rfl
  have pre7 : ∀ tz, oS p e below T5 m 120 #[rv o, iv (1 : Int32), iv (0 : Int32), rv ch, .unset] [(.ref ch)] tz → oS p e below s₁ m 0 #[rv o, iv (1 : Int32), .unset, .unset, .unset] [] tz := fun tz kt => by
    show oS p e below s₁ m 0 #[rv o, iv (1 : Int32), .unset, .unset, .unset] [] _
    refine XS.iloadN X0.here hx rfl (hb hby d4_0) rfl ?_
    refine XS.bipush X0.here hx rfl (hb hby d4_1) ?_
    refine XS.iushr X0.here hx rfl (hb hby d4_3) rfl ?_
    show oS p e below s₁ m 4 #[rv o, iv (1 : Int32), .unset, .unset, .unset] [(.int (0 : Int32))] _
    refine XS.istoreN X0.here hx rfl (hb hby d4_4) rfl (l' := #[rv o, iv (1 : Int32), iv (0 : Int32), .unset, .unset]) rfl ?_
    refine XS.iloadN X0.here hx rfl (hb hby d4_5) rfl ?_
    refine XS.aloadN X0.here hx rfl (hb hby d4_6) rfl rfl ?_
    show oS p e below s₁ m 7 #[rv o, iv (1 : Int32), iv (0 : Int32), .unset, .unset] [(.ref o), (.int (0 : Int32))] _
    refine st1 _ ?_
    refine XS.isub X1.here hx rfl (hb hby d4_10) rfl ?_
    show oS p e below T1 m 11 #[rv o, iv (1 : Int32), iv (0 : Int32), .unset, .unset] [(.int (0 : Int32))] _
    refine XS.aloadN X1.here hx rfl (hb hby d4_11) rfl rfl ?_
    show oS p e below T1 m 12 #[rv o, iv (1 : Int32), iv (0 : Int32), .unset, .unset] [(.ref o), (.int (0 : Int32))] _
    refine st2 _ ?_
    refine X2.arraylength hx (by rw [e2]; exact Ar3.1) (State.isArrayOf_alike hZ.alike Ar3.2.1) (g := (mkF m 15 #[rv o, iv (1 : Int32), iv (0 : Int32), .unset, .unset] [(.ref cs), (.int (0 : Int32))])) rfl rfl (hb hby d4_15) _ ?_
    rw [len_of Sz3 Ng3]
    show oS p e below T2 m 16 #[rv o, iv (1 : Int32), iv (0 : Int32), .unset, .unset] [(.int (1 : Int32)), (.int (0 : Int32))] _
    refine XS.icmpYes X2.here hx rfl (pc0 := 16) (pc' := 73) rfl (hb hby d4_16) rfl (feq (by decide : ¬ ((0 : Int32) = (1 : Int32)))).2 (by decide) (by decide) ?_
    refine XS.aloadN X2.here hx rfl (hb hby d4_73) rfl rfl ?_
    show oS p e below T2 m 74 #[rv o, iv (1 : Int32), iv (0 : Int32), .unset, .unset] [(.ref o)] _
    refine st4 _ ?_
    refine XS.iloadN X4.here hx rfl (hb hby d4_77) rfl ?_
    refine XS.aloadN X4.here hx rfl (hb hby d4_78) rfl rfl ?_
    show oS p e below T4 m 79 #[rv o, iv (1 : Int32), iv (0 : Int32), .unset, .unset] [(.ref o), (.int (0 : Int32)), (.ref cs)] _
    refine st5 _ ?_
    refine XS.isub X5.here hx rfl (hb hby d4_82) rfl ?_
    show oS p e below T5 m 83 #[rv o, iv (1 : Int32), iv (0 : Int32), .unset, .unset] [(.int (0 : Int32)), (.ref cs)] _
    refine X5.aaload hx (j := (0 : Int32)) (v := (.ref ch)) (by rw [e5]; exact Ar6.1) (State.isArrayOf_alike hZ.alike Ar6.2.1) rfl Ar6.2.2 hin6 hat6 (g := (mkF m 83 #[rv o, iv (1 : Int32), iv (0 : Int32), .unset, .unset] [(.int (0 : Int32)), (.ref cs)])) rfl rfl (hb hby d4_83) _ ?_
    refine XS.astoreN X5.here hx rfl (hb hby d4_84) rfl rfl (l' := #[rv o, iv (1 : Int32), iv (0 : Int32), rv ch, .unset]) rfl ?_
    refine XS.aloadN X5.here hx rfl (hb hby d4_85) rfl rfl ?_
    refine XS.ifnonnullYes X5.here hx rfl (pc0 := 86) (pc' := 119) rfl (hb hby d4_86) rfl (by decide) (by decide) ?_
    show oS p e below T5 m 119 #[rv o, iv (1 : Int32), iv (0 : Int32), rv ch, .unset] [] _
    refine XS.aloadN X5.here hx rfl (hb hby d4_119) rfl rfl ?_
    exact kt
  obtain ⟨fs, hr, hrun, hended, hW, hsame⟩ := X5.leave (v := some (.ref ch)) (fun h => by rw [Bd.returns] at h; cases h)
  refine ⟨_, _, pre0 _ (pre7 _ ?_), hrun, hended, _, _, rfl, ?_, ⟨_, rfl⟩, hW, hsame.mono (by decide) (by decide)⟩
  · show oS p e below T5 m 120 #[rv o, iv (1 : Int32), iv (0 : Int32), rv ch, .unset] [(.ref ch)] _
    exact retOut X5 hx Bd.returns rfl (Or.inr (Or.inr (Or.inr (Or.inr ⟨rfl, rfl, rfl⟩)))) (hb hby d4_120) hr
  · show QCB1 Z o cs kc ch h0 n0 _ T5.heap _
    rw [e5]
    exact ⟨rfl, N0, rfl⟩
theorem efCB2 (m : MethodId) (o : Addr) : entryFrame m #[(.ref o), (.int (2 : Int32))] 5 = mkF m 0 #[rv o, iv (2 : Int32), .unset, .unset, .unset] [] := by first | (simp [entryFrame, mkF, argsToLocals, Value.category]; done) | rfl
def QCB2 (Z : State) (o : Addr) (cs : Addr) (kc : ClassId) (ch : Addr) (h0 : Heap) (n0 : Nat) (v : Option Value) (h : Heap) (L : List Loc) : Prop := v = some (.ref ch) ∧ Fr n0 L ∧ h = h0
set_option maxRecDepth 65536 in
set_option maxHeartbeats 40000000 in
theorem rmCB2 (l : Launch) (Z : State) (a0 : Array Value) (hw : ∀ d ∈ tables_1, d.before a0 Z = true) (ws : List Jvm.Cond) (o : Addr) (cs : Addr) (kc : ClassId) (ch : Addr) (h0 : Heap) (n0 : Nat) (Z0 : n0 ≤ h0.size) (E_o : Exa Z h0 o oz0) (F_chunks_o : Fld Z h0 o oz0 "chunks" oz2 (.ref cs)) (F_firstChunk_o : Fld Z h0 o oz0 "firstChunk" "I" (.int (0 : Int32))) (V_cs : Arv Z h0 cs kc (.object oz1) (1 : Int32) [(.ref ch)] .null) :
    MetFree l (⟨oz0, "chunkForAdd", oz4⟩ : MethodName) (head1 (Jvm.Cond.code (⟨oz0, "chunkForAdd", oz4⟩ : MethodName) prog_24_method_23_code 5 (some (.object oz1)) :: ws) ({ frames := 0, cells := 0, slots := 0, locals := 0 } : Room)) (fun a U => a = #[(.ref o), (.int (2 : Int32))] ∧ Z.Warmed39 U.vm ∧ U.heap = h0) (fun _ _ _ _ _ => True) (fun _ U oc U' => ∃ v L, oc = .returned v ∧ QCB2 Z o cs kc ch h0 n0 v U'.heap L ∧ FrameEnd U oc U' L ({ frames := 0, cells := 0, slots := 0, locals := 0 } : Room).cells ({ frames := 0, cells := 0, slots := 0, locals := 0 } : Room).slots) := by
  refine MetFree.of_bodySF (plainFor_of_name own_pn0) hisR ?_
  intro p e s m args below meth c s₁ Bd hml0 hP hK
  obtain ⟨rfl, hZ, hh⟩ := hP
  have hx := Bd.exec
  have hby := Bd.bytes
  have hml : c.maxLocals = 5 := hml0
  have hown : s.vm.findClass oz0 = some m.cls := findClass_of_methodNamed Bd.named
  have hnm := (name_of_methodNamed Bd.named Bd.method).1
  have X0 : Stand p l e ({ frames := 0, cells := 0, slots := 0, locals := 0 } : Room) s m #[(.ref o), (.int (2 : Int32))] below meth c s₁ [] 0 0 := Stand.of_body Bd
  have e0 : s₁.heap = h0 := by rw [← hh, Bd.state]; rfl
  have N0 := Fr.nil n0
  have pre0 : ∀ t, Steps p.tables e below (s₁.setTop (mkF m 0 #[rv o, iv (2 : Int32), .unset, .unset, .unset] [])) t → Steps p.tables e below (s₁.setTop (entryFrame m #[(.ref o), (.int (2 : Int32))] 5)) t := fun t k => castTop (efCB2 m o) k
  obtain ⟨T1, X1, e1, st1⟩ := getF X0 hx hZ hown (host := "") (Or.inl (own_w hw 30 rfl)) Via.refl e0 F_firstChunk_o (g := (mkF m 7 #[rv o, iv (2 : Int32), iv (0 : Int32), .unset, .unset] [(.ref o), (.int (0 : Int32))])) rfl rfl (hb hby d4_7)
  obtain ⟨T2, X2, e2, st2⟩ := getF X1 hx hZ hown (host := "") (Or.inl (own_w hw 11 rfl)) Via.refl e1 F_chunks_o (g := (mkF m 12 #[rv o, iv (2 : Int32), iv (0 : Int32), .unset, .unset] [(.ref o), (.int (0 : Int32))])) rfl rfl (hb hby d4_12)
  obtain ⟨cl3, Ar3, qk3, Sz3, Ng3, Hs3, Gt3⟩ := id V_cs
  obtain ⟨T4, X4, e4, st4⟩ := getF X2 hx hZ hown (host := "") (Or.inl (own_w hw 11 rfl)) Via.refl e2 F_chunks_o (g := (mkF m 74 #[rv o, iv (2 : Int32), iv (0 : Int32), .unset, .unset] [(.ref o)])) rfl rfl (hb hby d4_74)
  obtain ⟨T5, X5, e5, st5⟩ := getF X4 hx hZ hown (host := "") (Or.inl (own_w hw 30 rfl)) Via.refl e4 F_firstChunk_o (g := (mkF m 79 #[rv o, iv (2 : Int32), iv (0 : Int32), .unset, .unset] [(.ref o), (.int (0 : Int32)), (.ref cs)])) rfl rfl (hb hby d4_79)
  obtain ⟨cl6, Ar6, qk6, Sz6, Ng6, Hs6, Gt6⟩ := id V_cs
  have hin6 : ¬ ((0 : Int32) < 0 ∨ cl6.slots.size ≤ ((0 : Int32)).toNatClampNeg) := inb_of Sz6 ⟨by decide, by decide⟩
  have hat6 : cl6.slots[((0 : Int32)).toNatClampNeg]? = some (.ref ch) := Hs6.at hin6 rfl
  have pre7 : ∀ tz, oS p e below T5 m 120 #[rv o, iv (2 : Int32), iv (0 : Int32), rv ch, .unset] [(.ref ch)] tz → oS p e below s₁ m 0 #[rv o, iv (2 : Int32), .unset, .unset, .unset] [] tz := fun tz kt => by
    show oS p e below s₁ m 0 #[rv o, iv (2 : Int32), .unset, .unset, .unset] [] _
    refine XS.iloadN X0.here hx rfl (hb hby d4_0) rfl ?_
    refine XS.bipush X0.here hx rfl (hb hby d4_1) ?_
    refine XS.iushr X0.here hx rfl (hb hby d4_3) rfl ?_
    show oS p e below s₁ m 4 #[rv o, iv (2 : Int32), .unset, .unset, .unset] [(.int (0 : Int32))] _
    refine XS.istoreN X0.here hx rfl (hb hby d4_4) rfl (l' := #[rv o, iv (2 : Int32), iv (0 : Int32), .unset, .unset]) rfl ?_
    refine XS.iloadN X0.here hx rfl (hb hby d4_5) rfl ?_
    refine XS.aloadN X0.here hx rfl (hb hby d4_6) rfl rfl ?_
    show oS p e below s₁ m 7 #[rv o, iv (2 : Int32), iv (0 : Int32), .unset, .unset] [(.ref o), (.int (0 : Int32))] _
    refine st1 _ ?_
    refine XS.isub X1.here hx rfl (hb hby d4_10) rfl ?_
    show oS p e below T1 m 11 #[rv o, iv (2 : Int32), iv (0 : Int32), .unset, .unset] [(.int (0 : Int32))] _
    refine XS.aloadN X1.here hx rfl (hb hby d4_11) rfl rfl ?_
    show oS p e below T1 m 12 #[rv o, iv (2 : Int32), iv (0 : Int32), .unset, .unset] [(.ref o), (.int (0 : Int32))] _
    refine st2 _ ?_
    refine X2.arraylength hx (by rw [e2]; exact Ar3.1) (State.isArrayOf_alike hZ.alike Ar3.2.1) (g := (mkF m 15 #[rv o, iv (2 : Int32), iv (0 : Int32), .unset, .unset] [(.ref cs), (.int (0 : Int32))])) rfl rfl (hb hby d4_15) _ ?_
    rw [len_of Sz3 Ng3]
    show oS p e below T2 m 16 #[rv o, iv (2 : Int32), iv (0 : Int32), .unset, .unset] [(.int (1 : Int32)), (.int (0 : Int32))] _
    refine XS.icmpYes X2.here hx rfl (pc0 := 16) (pc' := 73) rfl (hb hby d4_16) rfl (feq (by decide : ¬ ((0 : Int32) = (1 : Int32)))).2 (by decide) (by decide) ?_
    refine XS.aloadN X2.here hx rfl (hb hby d4_73) rfl rfl ?_
    show oS p e below T2 m 74 #[rv o, iv (2 : Int32), iv (0 : Int32), .unset, .unset] [(.ref o)] _
    refine st4 _ ?_
    refine XS.iloadN X4.here hx rfl (hb hby d4_77) rfl ?_
    refine XS.aloadN X4.here hx rfl (hb hby d4_78) rfl rfl ?_
    show oS p e below T4 m 79 #[rv o, iv (2 : Int32), iv (0 : Int32), .unset, .unset] [(.ref o), (.int (0 : Int32)), (.ref cs)] _
    refine st5 _ ?_
    refine XS.isub X5.here hx rfl (hb hby d4_82) rfl ?_
    show oS p e below T5 m 83 #[rv o, iv (2 : Int32), iv (0 : Int32), .unset, .unset] [(.int (0 : Int32)), (.ref cs)] _
    refine X5.aaload hx (j := (0 : Int32)) (v := (.ref ch)) (by rw [e5]; exact Ar6.1) (State.isArrayOf_alike hZ.alike Ar6.2.1) rfl Ar6.2.2 hin6 hat6 (g := (mkF m 83 #[rv o, iv (2 : Int32), iv (0 : Int32), .unset, .unset] [(.int (0 : Int32)), (.ref cs)])) rfl rfl (hb hby d4_83) _ ?_
    refine XS.astoreN X5.here hx rfl (hb hby d4_84) rfl rfl (l' := #[rv o, iv (2 : Int32), iv (0 : Int32), rv ch, .unset]) rfl ?_
    refine XS.aloadN X5.here hx rfl (hb hby d4_85) rfl rfl ?_
    refine XS.ifnonnullYes X5.here hx rfl (pc0 := 86) (pc' := 119) rfl (hb hby d4_86) rfl (by decide) (by decide) ?_
    show oS p e below T5 m 119 #[rv o, iv (2 : Int32), iv (0 : Int32), rv ch, .unset] [] _
    refine XS.aloadN X5.here hx rfl (hb hby d4_119) rfl rfl ?_
    exact kt
  obtain ⟨fs, hr, hrun, hended, hW, hsame⟩ := X5.leave (v := some (.ref ch)) (fun h => by rw [Bd.returns] at h; cases h)
  refine ⟨_, _, pre0 _ (pre7 _ ?_), hrun, hended, _, _, rfl, ?_, ⟨_, rfl⟩, hW, hsame.mono (by decide) (by decide)⟩
  · show oS p e below T5 m 120 #[rv o, iv (2 : Int32), iv (0 : Int32), rv ch, .unset] [(.ref ch)] _
    exact retOut X5 hx Bd.returns rfl (Or.inr (Or.inr (Or.inr (Or.inr ⟨rfl, rfl, rfl⟩)))) (hb hby d4_120) hr
  · show QCB2 Z o cs kc ch h0 n0 _ T5.heap _
    rw [e5]
    exact ⟨rfl, N0, rfl⟩
theorem d6_0 : decode prog_25_method_3_code 0 = .ok (.aload_n 0, 1) := by decide +kernel
theorem d6_1 : decode prog_25_method_3_code 1 = .ok (.getfield 32, 3) := by decide +kernel
theorem d6_4 : decode prog_25_method_3_code 4 = .ok (.ifnonnull 29, 3) := by decide +kernel
theorem d6_7 : decode prog_25_method_3_code 7 = .ok (.lload_n 2, 1) := by decide +kernel
theorem d6_8 : decode prog_25_method_3_code 8 = .ok (.aload_n 0, 1) := by decide +kernel
theorem d6_9 : decode prog_25_method_3_code 9 = .ok (.getfield 15, 3) := by decide +kernel
theorem d6_12 : decode prog_25_method_3_code 12 = .ok (.iload_n 1, 1) := by decide +kernel
theorem d6_13 : decode prog_25_method_3_code 13 = .ok (.laload, 1) := by decide +kernel
theorem d6_14 : decode prog_25_method_3_code 14 = .ok (.lcmp, 1) := by decide +kernel
theorem d6_15 : decode prog_25_method_3_code 15 = .ok (.ifCond .ne 4, 3) := by decide +kernel
theorem d6_18 : decode prog_25_method_3_code 18 = .ok (.return_, 1) := by decide +kernel
theorem efAD0 (m : MethodId) (o : Addr) (x2 : Int64) : entryFrame m #[(.ref o), (.int (0 : Int32)), (.long x2)] 4 = mkF m 0 #[rv o, iv (0 : Int32), lv x2, .second] [] := by first | (simp [entryFrame, mkF, argsToLocals, Value.category]; done) | rfl
def QAD0 (Z : State) (o : Addr) (x2 : Int64) (ar1 : Addr) (kz1 : ClassId) (ev1 : Int64) (ev2 : Int64) (h0 : Heap) (n0 : Nat) (v : Option Value) (h : Heap) (L : List Loc) : Prop := v = none ∧ Fr n0 L ∧ h = h0
set_option maxRecDepth 65536 in
set_option maxHeartbeats 40000000 in
theorem rmAD0 (l : Launch) (Z : State) (a0 : Array Value) (hw : ∀ d ∈ tables_1, d.before a0 Z = true) (ws : List Jvm.Cond) (o : Addr) (x2 : Int64) (ar1 : Addr) (kz1 : ClassId) (ev1 : Int64) (ev2 : Int64) (h0 : Heap) (n0 : Nat) (Z0 : n0 ≤ h0.size) (E_o : Exa Z h0 o oz1) (F_addresses_o : Fld Z h0 o oz1 "addresses" "[J" .null) (F_arrivals_o : Fld Z h0 o oz1 "arrivals" "[J" (.ref ar1)) (V_ar1 : Arv Z h0 ar1 kz1 .long (1024 : Int32) [(.long x2), (.long ev1), (.long ev2)] (.long (0 : Int64))) :
    MetFree l (⟨oz1, "address", "(IJ)V"⟩ : MethodName) (head1 (Jvm.Cond.code (⟨oz1, "address", "(IJ)V"⟩ : MethodName) prog_25_method_3_code 4 none :: ws) ({ frames := 0, cells := 0, slots := 0, locals := 0 } : Room)) (fun a U => a = #[(.ref o), (.int (0 : Int32)), (.long x2)] ∧ Z.Warmed39 U.vm ∧ U.heap = h0) (fun _ _ _ _ _ => True) (fun _ U oc U' => ∃ v L, oc = .returned v ∧ QAD0 Z o x2 ar1 kz1 ev1 ev2 h0 n0 v U'.heap L ∧ FrameEnd U oc U' L ({ frames := 0, cells := 0, slots := 0, locals := 0 } : Room).cells ({ frames := 0, cells := 0, slots := 0, locals := 0 } : Room).slots) := by
  refine MetFree.of_bodySF (plainFor_of_name own_pn1) hisR ?_
  intro p e s m args below meth c s₁ Bd hml0 hP hK
  obtain ⟨rfl, hZ, hh⟩ := hP
  have hx := Bd.exec
  have hby := Bd.bytes
  have hml : c.maxLocals = 4 := hml0
  have hown : s.vm.findClass oz1 = some m.cls := findClass_of_methodNamed Bd.named
  have hnm := (name_of_methodNamed Bd.named Bd.method).1
  have X0 : Stand p l e ({ frames := 0, cells := 0, slots := 0, locals := 0 } : Room) s m #[(.ref o), (.int (0 : Int32)), (.long x2)] below meth c s₁ [] 0 0 := Stand.of_body Bd
  have e0 : s₁.heap = h0 := by rw [← hh, Bd.state]; rfl
  have N0 := Fr.nil n0
  have pre0 : ∀ t, Steps p.tables e below (s₁.setTop (mkF m 0 #[rv o, iv (0 : Int32), lv x2, .second] [])) t → Steps p.tables e below (s₁.setTop (entryFrame m #[(.ref o), (.int (0 : Int32)), (.long x2)] 4)) t := fun t k => castTop (efAD0 m o x2) k
  obtain ⟨T1, X1, e1, st1⟩ := getF X0 hx hZ hown (host := "") (Or.inl (own_w hw 62 rfl)) Via.refl e0 F_addresses_o (g := (mkF m 1 #[rv o, iv (0 : Int32), lv x2, .second] [(.ref o)])) rfl rfl (hb hby d6_1)
  obtain ⟨T2, X2, e2, st2⟩ := getF X1 hx hZ hown (host := "") (Or.inl (own_w hw 41 rfl)) Via.refl e1 F_arrivals_o (g := (mkF m 9 #[rv o, iv (0 : Int32), lv x2, .second] [(.ref o), (.long x2)])) rfl rfl (hb hby d6_9)
  obtain ⟨cl3, Ar3, qk3, Sz3, Ng3, Hs3, Gt3⟩ := id V_ar1
  have hin3 : ¬ ((0 : Int32) < 0 ∨ cl3.slots.size ≤ ((0 : Int32)).toNatClampNeg) := inb_of Sz3 ⟨by decide, by decide⟩
  have hat3 : cl3.slots[((0 : Int32)).toNatClampNeg]? = some (.long x2) := Hs3.at hin3 rfl
  have pre4 : ∀ tz, oS p e below T2 m 18 #[rv o, iv (0 : Int32), lv x2, .second] [] tz → oS p e below s₁ m 0 #[rv o, iv (0 : Int32), lv x2, .second] [] tz := fun tz kt => by
    show oS p e below s₁ m 0 #[rv o, iv (0 : Int32), lv x2, .second] [] _
    refine XS.aloadN X0.here hx rfl (hb hby d6_0) rfl rfl ?_
    show oS p e below s₁ m 1 #[rv o, iv (0 : Int32), lv x2, .second] [(.ref o)] _
    refine st1 _ ?_
    refine XS.ifnonnullNo X1.here hx rfl (hb hby d6_4) rfl ?_
    refine XS.lloadN X1.here hx rfl (hb hby d6_7) rfl ?_
    refine XS.aloadN X1.here hx rfl (hb hby d6_8) rfl rfl ?_
    show oS p e below T1 m 9 #[rv o, iv (0 : Int32), lv x2, .second] [(.ref o), (.long x2)] _
    refine st2 _ ?_
    refine XS.iloadN X2.here hx rfl (hb hby d6_12) rfl ?_
    refine X2.laload hx (j := (0 : Int32)) (v := (.long x2)) (by rw [e2]; exact Ar3.1) (State.isArrayOf_alike hZ.alike Ar3.2.1) Ar3.2.2 hin3 hat3 (g := (mkF m 13 #[rv o, iv (0 : Int32), lv x2, .second] [(.int (0 : Int32)), (.ref ar1), (.long x2)])) rfl rfl (hb hby d6_13) _ ?_
    refine XS.lcmp X2.here hx rfl (hb hby d6_14) rfl ?_
    show oS p e below T2 m 15 #[rv o, iv (0 : Int32), lv x2, .second] [(.int (lcmpW x2 x2))] _
    refine XS.ifNo X2.here hx rfl (hb hby d6_15) rfl ((if0 _ _).trans (teq ((lw_eq x2 x2).mpr (rfl : x2 = x2))).2) ?_
    exact kt
  obtain ⟨fs, hr, hrun, hended, hW, hsame⟩ := X2.leave (v := none) (fun _ => rfl)
  refine ⟨_, _, pre0 _ (pre4 _ ?_), hrun, hended, _, _, rfl, ?_, ⟨_, rfl⟩, hW, hsame.mono (by decide) (by decide)⟩
  · show oS p e below T2 m 18 #[rv o, iv (0 : Int32), lv x2, .second] [] _
    exact X2.returnOut hx Bd.returns (hb hby d6_18) hr
  · show QAD0 Z o x2 ar1 kz1 ev1 ev2 h0 n0 _ T2.heap _
    rw [e2]
    exact ⟨rfl, N0, rfl⟩
theorem efAD1 (m : MethodId) (o : Addr) (x2 : Int64) : entryFrame m #[(.ref o), (.int (1 : Int32)), (.long x2)] 4 = mkF m 0 #[rv o, iv (1 : Int32), lv x2, .second] [] := by first | (simp [entryFrame, mkF, argsToLocals, Value.category]; done) | rfl
def QAD1 (Z : State) (o : Addr) (x2 : Int64) (ar1 : Addr) (kz1 : ClassId) (ev0 : Int64) (ev2 : Int64) (h0 : Heap) (n0 : Nat) (v : Option Value) (h : Heap) (L : List Loc) : Prop := v = none ∧ Fr n0 L ∧ h = h0
set_option maxRecDepth 65536 in
set_option maxHeartbeats 40000000 in
theorem rmAD1 (l : Launch) (Z : State) (a0 : Array Value) (hw : ∀ d ∈ tables_1, d.before a0 Z = true) (ws : List Jvm.Cond) (o : Addr) (x2 : Int64) (ar1 : Addr) (kz1 : ClassId) (ev0 : Int64) (ev2 : Int64) (h0 : Heap) (n0 : Nat) (Z0 : n0 ≤ h0.size) (E_o : Exa Z h0 o oz1) (F_addresses_o : Fld Z h0 o oz1 "addresses" "[J" .null) (F_arrivals_o : Fld Z h0 o oz1 "arrivals" "[J" (.ref ar1)) (V_ar1 : Arv Z h0 ar1 kz1 .long (1024 : Int32) [(.long ev0), (.long x2), (.long ev2)] (.long (0 : Int64))) :
    MetFree l (⟨oz1, "address", "(IJ)V"⟩ : MethodName) (head1 (Jvm.Cond.code (⟨oz1, "address", "(IJ)V"⟩ : MethodName) prog_25_method_3_code 4 none :: ws) ({ frames := 0, cells := 0, slots := 0, locals := 0 } : Room)) (fun a U => a = #[(.ref o), (.int (1 : Int32)), (.long x2)] ∧ Z.Warmed39 U.vm ∧ U.heap = h0) (fun _ _ _ _ _ => True) (fun _ U oc U' => ∃ v L, oc = .returned v ∧ QAD1 Z o x2 ar1 kz1 ev0 ev2 h0 n0 v U'.heap L ∧ FrameEnd U oc U' L ({ frames := 0, cells := 0, slots := 0, locals := 0 } : Room).cells ({ frames := 0, cells := 0, slots := 0, locals := 0 } : Room).slots) := by
  refine MetFree.of_bodySF (plainFor_of_name own_pn1) hisR ?_
  intro p e s m args below meth c s₁ Bd hml0 hP hK
  obtain ⟨rfl, hZ, hh⟩ := hP
  have hx := Bd.exec
  have hby := Bd.bytes
  have hml : c.maxLocals = 4 := hml0
  have hown : s.vm.findClass oz1 = some m.cls := findClass_of_methodNamed Bd.named
  have hnm := (name_of_methodNamed Bd.named Bd.method).1
  have X0 : Stand p l e ({ frames := 0, cells := 0, slots := 0, locals := 0 } : Room) s m #[(.ref o), (.int (1 : Int32)), (.long x2)] below meth c s₁ [] 0 0 := Stand.of_body Bd
  have e0 : s₁.heap = h0 := by rw [← hh, Bd.state]; rfl
  have N0 := Fr.nil n0
  have pre0 : ∀ t, Steps p.tables e below (s₁.setTop (mkF m 0 #[rv o, iv (1 : Int32), lv x2, .second] [])) t → Steps p.tables e below (s₁.setTop (entryFrame m #[(.ref o), (.int (1 : Int32)), (.long x2)] 4)) t := fun t k => castTop (efAD1 m o x2) k
  obtain ⟨T1, X1, e1, st1⟩ := getF X0 hx hZ hown (host := "") (Or.inl (own_w hw 62 rfl)) Via.refl e0 F_addresses_o (g := (mkF m 1 #[rv o, iv (1 : Int32), lv x2, .second] [(.ref o)])) rfl rfl (hb hby d6_1)
  obtain ⟨T2, X2, e2, st2⟩ := getF X1 hx hZ hown (host := "") (Or.inl (own_w hw 41 rfl)) Via.refl e1 F_arrivals_o (g := (mkF m 9 #[rv o, iv (1 : Int32), lv x2, .second] [(.ref o), (.long x2)])) rfl rfl (hb hby d6_9)
  obtain ⟨cl3, Ar3, qk3, Sz3, Ng3, Hs3, Gt3⟩ := id V_ar1
  have hin3 : ¬ ((1 : Int32) < 0 ∨ cl3.slots.size ≤ ((1 : Int32)).toNatClampNeg) := inb_of Sz3 ⟨by decide, by decide⟩
  have hat3 : cl3.slots[((1 : Int32)).toNatClampNeg]? = some (.long x2) := Hs3.at hin3 rfl
  have pre4 : ∀ tz, oS p e below T2 m 18 #[rv o, iv (1 : Int32), lv x2, .second] [] tz → oS p e below s₁ m 0 #[rv o, iv (1 : Int32), lv x2, .second] [] tz := fun tz kt => by
    show oS p e below s₁ m 0 #[rv o, iv (1 : Int32), lv x2, .second] [] _
    refine XS.aloadN X0.here hx rfl (hb hby d6_0) rfl rfl ?_
    show oS p e below s₁ m 1 #[rv o, iv (1 : Int32), lv x2, .second] [(.ref o)] _
    refine st1 _ ?_
    refine XS.ifnonnullNo X1.here hx rfl (hb hby d6_4) rfl ?_
    refine XS.lloadN X1.here hx rfl (hb hby d6_7) rfl ?_
    refine XS.aloadN X1.here hx rfl (hb hby d6_8) rfl rfl ?_
    show oS p e below T1 m 9 #[rv o, iv (1 : Int32), lv x2, .second] [(.ref o), (.long x2)] _
    refine st2 _ ?_
    refine XS.iloadN X2.here hx rfl (hb hby d6_12) rfl ?_
    refine X2.laload hx (j := (1 : Int32)) (v := (.long x2)) (by rw [e2]; exact Ar3.1) (State.isArrayOf_alike hZ.alike Ar3.2.1) Ar3.2.2 hin3 hat3 (g := (mkF m 13 #[rv o, iv (1 : Int32), lv x2, .second] [(.int (1 : Int32)), (.ref ar1), (.long x2)])) rfl rfl (hb hby d6_13) _ ?_
    refine XS.lcmp X2.here hx rfl (hb hby d6_14) rfl ?_
    show oS p e below T2 m 15 #[rv o, iv (1 : Int32), lv x2, .second] [(.int (lcmpW x2 x2))] _
    refine XS.ifNo X2.here hx rfl (hb hby d6_15) rfl ((if0 _ _).trans (teq ((lw_eq x2 x2).mpr (rfl : x2 = x2))).2) ?_
    exact kt
  obtain ⟨fs, hr, hrun, hended, hW, hsame⟩ := X2.leave (v := none) (fun _ => rfl)
  refine ⟨_, _, pre0 _ (pre4 _ ?_), hrun, hended, _, _, rfl, ?_, ⟨_, rfl⟩, hW, hsame.mono (by decide) (by decide)⟩
  · show oS p e below T2 m 18 #[rv o, iv (1 : Int32), lv x2, .second] [] _
    exact X2.returnOut hx Bd.returns (hb hby d6_18) hr
  · show QAD1 Z o x2 ar1 kz1 ev0 ev2 h0 n0 _ T2.heap _
    rw [e2]
    exact ⟨rfl, N0, rfl⟩
theorem efAD2 (m : MethodId) (o : Addr) (x2 : Int64) : entryFrame m #[(.ref o), (.int (2 : Int32)), (.long x2)] 4 = mkF m 0 #[rv o, iv (2 : Int32), lv x2, .second] [] := by first | (simp [entryFrame, mkF, argsToLocals, Value.category]; done) | rfl
def QAD2 (Z : State) (o : Addr) (x2 : Int64) (ar1 : Addr) (kz1 : ClassId) (ev0 : Int64) (ev1 : Int64) (h0 : Heap) (n0 : Nat) (v : Option Value) (h : Heap) (L : List Loc) : Prop := v = none ∧ Fr n0 L ∧ h = h0
set_option maxRecDepth 65536 in
set_option maxHeartbeats 40000000 in
theorem rmAD2 (l : Launch) (Z : State) (a0 : Array Value) (hw : ∀ d ∈ tables_1, d.before a0 Z = true) (ws : List Jvm.Cond) (o : Addr) (x2 : Int64) (ar1 : Addr) (kz1 : ClassId) (ev0 : Int64) (ev1 : Int64) (h0 : Heap) (n0 : Nat) (Z0 : n0 ≤ h0.size) (E_o : Exa Z h0 o oz1) (F_addresses_o : Fld Z h0 o oz1 "addresses" "[J" .null) (F_arrivals_o : Fld Z h0 o oz1 "arrivals" "[J" (.ref ar1)) (V_ar1 : Arv Z h0 ar1 kz1 .long (1024 : Int32) [(.long ev0), (.long ev1), (.long x2)] (.long (0 : Int64))) :
    MetFree l (⟨oz1, "address", "(IJ)V"⟩ : MethodName) (head1 (Jvm.Cond.code (⟨oz1, "address", "(IJ)V"⟩ : MethodName) prog_25_method_3_code 4 none :: ws) ({ frames := 0, cells := 0, slots := 0, locals := 0 } : Room)) (fun a U => a = #[(.ref o), (.int (2 : Int32)), (.long x2)] ∧ Z.Warmed39 U.vm ∧ U.heap = h0) (fun _ _ _ _ _ => True) (fun _ U oc U' => ∃ v L, oc = .returned v ∧ QAD2 Z o x2 ar1 kz1 ev0 ev1 h0 n0 v U'.heap L ∧ FrameEnd U oc U' L ({ frames := 0, cells := 0, slots := 0, locals := 0 } : Room).cells ({ frames := 0, cells := 0, slots := 0, locals := 0 } : Room).slots) := by
  refine MetFree.of_bodySF (plainFor_of_name own_pn1) hisR ?_
  intro p e s m args below meth c s₁ Bd hml0 hP hK
  obtain ⟨rfl, hZ, hh⟩ := hP
  have hx := Bd.exec
  have hby := Bd.bytes
  have hml : c.maxLocals = 4 := hml0
  have hown : s.vm.findClass oz1 = some m.cls := findClass_of_methodNamed Bd.named
  have hnm := (name_of_methodNamed Bd.named Bd.method).1
  have X0 : Stand p l e ({ frames := 0, cells := 0, slots := 0, locals := 0 } : Room) s m #[(.ref o), (.int (2 : Int32)), (.long x2)] below meth c s₁ [] 0 0 := Stand.of_body Bd
  have e0 : s₁.heap = h0 := by rw [← hh, Bd.state]; rfl
  have N0 := Fr.nil n0
  have pre0 : ∀ t, Steps p.tables e below (s₁.setTop (mkF m 0 #[rv o, iv (2 : Int32), lv x2, .second] [])) t → Steps p.tables e below (s₁.setTop (entryFrame m #[(.ref o), (.int (2 : Int32)), (.long x2)] 4)) t := fun t k => castTop (efAD2 m o x2) k
  obtain ⟨T1, X1, e1, st1⟩ := getF X0 hx hZ hown (host := "") (Or.inl (own_w hw 62 rfl)) Via.refl e0 F_addresses_o (g := (mkF m 1 #[rv o, iv (2 : Int32), lv x2, .second] [(.ref o)])) rfl rfl (hb hby d6_1)
  obtain ⟨T2, X2, e2, st2⟩ := getF X1 hx hZ hown (host := "") (Or.inl (own_w hw 41 rfl)) Via.refl e1 F_arrivals_o (g := (mkF m 9 #[rv o, iv (2 : Int32), lv x2, .second] [(.ref o), (.long x2)])) rfl rfl (hb hby d6_9)
  obtain ⟨cl3, Ar3, qk3, Sz3, Ng3, Hs3, Gt3⟩ := id V_ar1
  have hin3 : ¬ ((2 : Int32) < 0 ∨ cl3.slots.size ≤ ((2 : Int32)).toNatClampNeg) := inb_of Sz3 ⟨by decide, by decide⟩
  have hat3 : cl3.slots[((2 : Int32)).toNatClampNeg]? = some (.long x2) := Hs3.at hin3 rfl
  have pre4 : ∀ tz, oS p e below T2 m 18 #[rv o, iv (2 : Int32), lv x2, .second] [] tz → oS p e below s₁ m 0 #[rv o, iv (2 : Int32), lv x2, .second] [] tz := fun tz kt => by
    show oS p e below s₁ m 0 #[rv o, iv (2 : Int32), lv x2, .second] [] _
    refine XS.aloadN X0.here hx rfl (hb hby d6_0) rfl rfl ?_
    show oS p e below s₁ m 1 #[rv o, iv (2 : Int32), lv x2, .second] [(.ref o)] _
    refine st1 _ ?_
    refine XS.ifnonnullNo X1.here hx rfl (hb hby d6_4) rfl ?_
    refine XS.lloadN X1.here hx rfl (hb hby d6_7) rfl ?_
    refine XS.aloadN X1.here hx rfl (hb hby d6_8) rfl rfl ?_
    show oS p e below T1 m 9 #[rv o, iv (2 : Int32), lv x2, .second] [(.ref o), (.long x2)] _
    refine st2 _ ?_
    refine XS.iloadN X2.here hx rfl (hb hby d6_12) rfl ?_
    refine X2.laload hx (j := (2 : Int32)) (v := (.long x2)) (by rw [e2]; exact Ar3.1) (State.isArrayOf_alike hZ.alike Ar3.2.1) Ar3.2.2 hin3 hat3 (g := (mkF m 13 #[rv o, iv (2 : Int32), lv x2, .second] [(.int (2 : Int32)), (.ref ar1), (.long x2)])) rfl rfl (hb hby d6_13) _ ?_
    refine XS.lcmp X2.here hx rfl (hb hby d6_14) rfl ?_
    show oS p e below T2 m 15 #[rv o, iv (2 : Int32), lv x2, .second] [(.int (lcmpW x2 x2))] _
    refine XS.ifNo X2.here hx rfl (hb hby d6_15) rfl ((if0 _ _).trans (teq ((lw_eq x2 x2).mpr (rfl : x2 = x2))).2) ?_
    exact kt
  obtain ⟨fs, hr, hrun, hended, hW, hsame⟩ := X2.leave (v := none) (fun _ => rfl)
  refine ⟨_, _, pre0 _ (pre4 _ ?_), hrun, hended, _, _, rfl, ?_, ⟨_, rfl⟩, hW, hsame.mono (by decide) (by decide)⟩
  · show oS p e below T2 m 18 #[rv o, iv (2 : Int32), lv x2, .second] [] _
    exact X2.returnOut hx Bd.returns (hb hby d6_18) hr
  · show QAD2 Z o x2 ar1 kz1 ev0 ev1 h0 n0 _ T2.heap _
    rw [e2]
    exact ⟨rfl, N0, rfl⟩
theorem d9_0 : decode prog_24_method_27_code 0 = .ok (.lload_n 1, 1) := by decide +kernel
theorem d9_1 : decode prog_24_method_27_code 1 = .ok (.ldc2_w 143, 3) := by decide +kernel
theorem d9_4 : decode prog_24_method_27_code 4 = .ok (.lmul, 1) := by decide +kernel
theorem d9_5 : decode prog_24_method_27_code 5 = .ok (.bipush 64, 2) := by decide +kernel
theorem d9_7 : decode prog_24_method_27_code 7 = .ok (.aload_n 0, 1) := by decide +kernel
theorem d9_8 : decode prog_24_method_27_code 8 = .ok (.getfield 21, 3) := by decide +kernel
theorem d9_11 : decode prog_24_method_27_code 11 = .ok (.isub, 1) := by decide +kernel
theorem d9_12 : decode prog_24_method_27_code 12 = .ok (.lushr, 1) := by decide +kernel
theorem d9_13 : decode prog_24_method_27_code 13 = .ok (.l2i, 1) := by decide +kernel
theorem d9_14 : decode prog_24_method_27_code 14 = .ok (.ireturn, 1) := by decide +kernel
theorem ef9 (m : MethodId) (o : Addr) (x1 : Int64) : entryFrame m #[(.ref o), (.long x1)] 3 = mkF m 0 #[rv o, lv x1, .second] [] := by first | (simp [entryFrame, mkF, argsToLocals, Value.category]; done) | rfl
def Q9 (Z : State) (o : Addr) (x1 : Int64) (h0 : Heap) (n0 : Nat) (v : Option Value) (h : Heap) (L : List Loc) : Prop := ∃ (r : Int32), v = some (.int r) ∧ Fr n0 L ∧ h = h0 ∧ (¬ r < 0 ∧ r < 16)
set_option maxRecDepth 65536 in
set_option maxHeartbeats 40000000 in
theorem rm9 (l : Launch) (Z : State) (a0 : Array Value) (hw : ∀ d ∈ tables_1, d.before a0 Z = true) (ws : List Jvm.Cond) (o : Addr) (x1 : Int64) (h0 : Heap) (n0 : Nat) (Z0 : n0 ≤ h0.size) (E_o : Exa Z h0 o oz0) (F_indexBits_o : Fld Z h0 o oz0 "indexBits" "I" (.int (4 : Int32))) :
    MetFree l (⟨oz0, "slot", "(J)I"⟩ : MethodName) (head1 (Jvm.Cond.code (⟨oz0, "slot", "(J)I"⟩ : MethodName) prog_24_method_27_code 3 (some .int) :: ws) ({ frames := 0, cells := 0, slots := 0, locals := 0 } : Room)) (fun a U => a = #[(.ref o), (.long x1)] ∧ Z.Warmed39 U.vm ∧ U.heap = h0) (fun _ _ _ _ _ => True) (fun _ U oc U' => ∃ v L, oc = .returned v ∧ Q9 Z o x1 h0 n0 v U'.heap L ∧ FrameEnd U oc U' L ({ frames := 0, cells := 0, slots := 0, locals := 0 } : Room).cells ({ frames := 0, cells := 0, slots := 0, locals := 0 } : Room).slots) := by
  refine MetFree.of_bodySF (plainFor_of_name own_pn0) hisR ?_
  intro p e s m args below meth c s₁ Bd hml0 hP hK
  obtain ⟨rfl, hZ, hh⟩ := hP
  have hx := Bd.exec
  have hby := Bd.bytes
  have hml : c.maxLocals = 3 := hml0
  have hown : s.vm.findClass oz0 = some m.cls := findClass_of_methodNamed Bd.named
  have hnm := (name_of_methodNamed Bd.named Bd.method).1
  have X0 : Stand p l e ({ frames := 0, cells := 0, slots := 0, locals := 0 } : Room) s m #[(.ref o), (.long x1)] below meth c s₁ [] 0 0 := Stand.of_body Bd
  have e0 : s₁.heap = h0 := by rw [← hh, Bd.state]; rfl
  have N0 := Fr.nil n0
  have pre0 : ∀ t, Steps p.tables e below (s₁.setTop (mkF m 0 #[rv o, lv x1, .second] [])) t → Steps p.tables e below (s₁.setTop (entryFrame m #[(.ref o), (.long x1)] 3)) t := fun t k => castTop (ef9 m o x1) k
  obtain ⟨T1, X1, e1, st1⟩ := getF X0 hx hZ hown (host := "") (Or.inl (own_w hw 16 rfl)) Via.refl e0 F_indexBits_o (g := (mkF m 8 #[rv o, lv x1, .second] [(.ref o), (.int (64 : Int32)), (.long (x1 * (-7046029254386353131 : Int64)))])) rfl rfl (hb hby d9_8)
  have pre2 : ∀ tz, oS p e below T1 m 14 #[rv o, lv x1, .second] [(.int ((((x1 * (-7046029254386353131 : Int64)).toUInt64 >>> ((60 : Int32) &&& 0x3f).toInt64.toUInt64).toInt64).toInt32))] tz → oS p e below s₁ m 0 #[rv o, lv x1, .second] [] tz := fun tz kt => by
    show oS p e below s₁ m 0 #[rv o, lv x1, .second] [] _
    refine XS.lloadN X0.here hx rfl (hb hby d9_0) rfl ?_
    refine X0.ldc2Long hx hown (mvT hZ (own_w hw 83 rfl)) (g := (mkF m 1 #[rv o, lv x1, .second] [(.long x1)])) rfl (hb hby d9_1) _ ?_
    refine XS.lmul X0.here hx rfl (hb hby d9_4) rfl ?_
    refine XS.bipush X0.here hx rfl (hb hby d9_5) ?_
    show oS p e below s₁ m 7 #[rv o, lv x1, .second] [(.int (64 : Int32)), (.long (x1 * (-7046029254386353131 : Int64)))] _
    refine XS.aloadN X0.here hx rfl (hb hby d9_7) rfl rfl ?_
    show oS p e below s₁ m 8 #[rv o, lv x1, .second] [(.ref o), (.int (64 : Int32)), (.long (x1 * (-7046029254386353131 : Int64)))] _
    refine st1 _ ?_
    refine XS.isub X1.here hx rfl (hb hby d9_11) rfl ?_
    show oS p e below T1 m 12 #[rv o, lv x1, .second] [(.int (60 : Int32)), (.long (x1 * (-7046029254386353131 : Int64)))] _
    refine XS.lushr X1.here hx rfl (hb hby d9_12) rfl ?_
    refine XS.l2i X1.here hx rfl (hb hby d9_13) rfl ?_
    exact kt
  obtain ⟨fs, hr, hrun, hended, hW, hsame⟩ := X1.leave (v := some (.int ((((x1 * (-7046029254386353131 : Int64)).toUInt64 >>> ((60 : Int32) &&& 0x3f).toInt64.toUInt64).toInt64).toInt32))) (fun h => by rw [Bd.returns] at h; cases h)
  refine ⟨_, _, pre0 _ (pre2 _ ?_), hrun, hended, _, _, rfl, ?_, ⟨_, rfl⟩, hW, hsame.mono (by decide) (by decide)⟩
  · show oS p e below T1 m 14 #[rv o, lv x1, .second] [(.int ((((x1 * (-7046029254386353131 : Int64)).toUInt64 >>> ((60 : Int32) &&& 0x3f).toInt64.toUInt64).toInt64).toInt32))] _
    exact retOut X1 hx Bd.returns rfl (Or.inl ⟨rfl, Or.inl rfl, _, rfl⟩) (hb hby d9_14) hr
  · show Q9 Z o x1 h0 n0 _ T1.heap _
    rw [e1]
    exact ⟨((((x1 * (-7046029254386353131 : Int64)).toUInt64 >>> ((60 : Int32) &&& 0x3f).toInt64.toUInt64).toInt64).toInt32), rfl, N0, rfl, (own_slot _)⟩
theorem own_pd1 : parseMethodDescriptor "(J)I" = some ⟨[.long], some .int⟩ := by decide +kernel
theorem d8_0 : decode prog_24_method_28_code 0 = .ok (.aload_n 0, 1) := by decide +kernel
theorem d8_1 : decode prog_24_method_28_code 1 = .ok (.getfield 17, 3) := by decide +kernel
theorem d8_4 : decode prog_24_method_28_code 4 = .ok (.arraylength, 1) := by decide +kernel
theorem d8_5 : decode prog_24_method_28_code 5 = .ok (.iconst 1, 1) := by decide +kernel
theorem d8_6 : decode prog_24_method_28_code 6 = .ok (.isub, 1) := by decide +kernel
theorem d8_7 : decode prog_24_method_28_code 7 = .ok (.istore 4, 2) := by decide +kernel
theorem d8_9 : decode prog_24_method_28_code 9 = .ok (.aload_n 0, 1) := by decide +kernel
theorem d8_10 : decode prog_24_method_28_code 10 = .ok (.lload_n 1, 1) := by decide +kernel
theorem d8_11 : decode prog_24_method_28_code 11 = .ok (.invokevirtual 28, 3) := by decide +kernel
theorem d8_14 : decode prog_24_method_28_code 14 = .ok (.istore 5, 2) := by decide +kernel
theorem d8_16 : decode prog_24_method_28_code 16 = .ok (.aload_n 0, 1) := by decide +kernel
theorem d8_17 : decode prog_24_method_28_code 17 = .ok (.getfield 17, 3) := by decide +kernel
theorem d8_20 : decode prog_24_method_28_code 20 = .ok (.iload 5, 2) := by decide +kernel
theorem d8_22 : decode prog_24_method_28_code 22 = .ok (.iaload, 1) := by decide +kernel
theorem d8_23 : decode prog_24_method_28_code 23 = .ok (.ifCond .eq 15, 3) := by decide +kernel
theorem d8_38 : decode prog_24_method_28_code 38 = .ok (.aload_n 0, 1) := by decide +kernel
theorem d8_39 : decode prog_24_method_28_code 39 = .ok (.getfield 17, 3) := by decide +kernel
theorem d8_42 : decode prog_24_method_28_code 42 = .ok (.iload 5, 2) := by decide +kernel
theorem d8_44 : decode prog_24_method_28_code 44 = .ok (.iload_n 3, 1) := by decide +kernel
theorem d8_45 : decode prog_24_method_28_code 45 = .ok (.iconst 1, 1) := by decide +kernel
theorem d8_46 : decode prog_24_method_28_code 46 = .ok (.iadd, 1) := by decide +kernel
theorem d8_47 : decode prog_24_method_28_code 47 = .ok (.iastore, 1) := by decide +kernel
theorem d8_48 : decode prog_24_method_28_code 48 = .ok (.return_, 1) := by decide +kernel
theorem efIN0 (m : MethodId) (o : Addr) (x1 : Int64) : entryFrame m #[(.ref o), (.long x1), (.int (0 : Int32))] 6 = mkF m 0 #[rv o, lv x1, .second, iv (0 : Int32), .unset, .unset] [] := by first | (simp [entryFrame, mkF, argsToLocals, Value.category]; done) | rfl
def QIN0 (Z : State) (o : Addr) (x1 : Int64) (ix : Addr) (h0 : Heap) (n0 : Nat) (v : Option Value) (h : Heap) (L : List Loc) : Prop := v = none ∧ Fr n0 L ∧ Keep h0 h [ix] ∧ (own_Ix Z h ix 1)
set_option maxRecDepth 65536 in
set_option maxHeartbeats 40000000 in
theorem rmIN0 (l : Launch) (Z : State) (a0 : Array Value) (hw : ∀ d ∈ tables_1, d.before a0 Z = true) (ws : List Jvm.Cond) (o : Addr) (x1 : Int64) (ix : Addr) (h0 : Heap) (n0 : Nat) (Z0 : n0 ≤ h0.size) (E_o : Exa Z h0 o oz0) (g_ix : n0 ≤ ix) (F_index_o : Fld Z h0 o oz0 "index" "[I" (.ref ix)) (F_indexBits_o : Fld Z h0 o oz0 "indexBits" "I" (.int (4 : Int32))) (X_ix : own_Ix Z h0 ix 0) :
    MetFree l (⟨oz0, "insert", "(JI)V"⟩ : MethodName) (head1 (Jvm.Cond.code (⟨oz0, "insert", "(JI)V"⟩ : MethodName) prog_24_method_28_code 6 none :: ws) ({ frames := 1, cells := 0, slots := 0, locals := 14 } : Room)) (fun a U => a = #[(.ref o), (.long x1), (.int (0 : Int32))] ∧ Z.Warmed39 U.vm ∧ U.heap = h0) (fun _ _ _ _ _ => True) (fun _ U oc U' => ∃ v L, oc = .returned v ∧ QIN0 Z o x1 ix h0 n0 v U'.heap L ∧ FrameEnd U oc U' L ({ frames := 1, cells := 0, slots := 0, locals := 14 } : Room).cells ({ frames := 1, cells := 0, slots := 0, locals := 14 } : Room).slots) := by
  refine MetFree.of_bodySF (plainFor_of_name own_pn0) hisR ?_
  intro p e s m args below meth c s₁ Bd hml0 hP hK
  obtain ⟨rfl, hZ, hh⟩ := hP
  have hx := Bd.exec
  have hby := Bd.bytes
  have hml : c.maxLocals = 6 := hml0
  have hown : s.vm.findClass oz0 = some m.cls := findClass_of_methodNamed Bd.named
  have hnm := (name_of_methodNamed Bd.named Bd.method).1
  have X0 : Stand p l e ({ frames := 1, cells := 0, slots := 0, locals := 14 } : Room) s m #[(.ref o), (.long x1), (.int (0 : Int32))] below meth c s₁ [] 0 0 := Stand.of_body Bd
  have e0 : s₁.heap = h0 := by rw [← hh, Bd.state]; rfl
  have N0 := Fr.nil n0
  have pre0 : ∀ t, Steps p.tables e below (s₁.setTop (mkF m 0 #[rv o, lv x1, .second, iv (0 : Int32), .unset, .unset] [])) t → Steps p.tables e below (s₁.setTop (entryFrame m #[(.ref o), (.long x1), (.int (0 : Int32))] 6)) t := fun t k => castTop (efIN0 m o x1) k
  obtain ⟨cl, f, S, Ar, sz, hat, hS, hf⟩ := X_ix
  obtain ⟨T1, X1, e1, st1⟩ := getF X0 hx hZ hown (host := "") (Or.inl (own_w hw 14 rfl)) Via.refl e0 F_index_o (g := (mkF m 1 #[rv o, lv x1, .second, iv (0 : Int32), .unset, .unset] [(.ref o)])) rfl rfl (hb hby d8_1)
  obtain ⟨cq2, q2, q2'⟩ := E_o.cell
  obtain ⟨_, _, ⟨T2, Lw2, kw2, nw2⟩, -, X2, ⟨Lc2, hQ2, l2, y2, z2⟩, st2⟩ := X1.privateBack hx (y := (⟨oz0, "slot", "(J)I"⟩ : MethodName)) hown (mvT hZ (own_w hw 79 rfl)) (mvT hZ (own_w hw 80 rfl)) (own_selp hZ (own_w hw 1 rfl) (own_w hw 81 rfl) (own_w hw 80 rfl) (by decide)) (Cond.privateMethod_at (mvP hZ (own_w hw 81 rfl) (args := #[]))) (mvT hZ (own_w hw 82 rfl)) (by decide) (backOf (W := 0) (rm9 l Z a0 hw [] o x1 h0 n0 Z0 E_o F_indexBits_o) hZ (own_w hw 82 rfl) (own_w hw 2 rfl) (by decide) (by decide)) (g := (mkF m 11 #[rv o, lv x1, .second, iv (0 : Int32), iv (15 : Int32), .unset] [(.long x1), (.ref o)])) rfl (by rw [hml]; rfl) (Steps.refl _) (a := o) (by rw [e1]; exact q2) q2' (argsL := [(.long x1)]) (rest := []) (lenOf own_pd1 rfl) rfl (by show 2 * 0 + _ ≤ _; exact Nat.le_of_eq rfl) (hb hby d8_11) (fun _ _ => ⟨rfl, e1, (by decide : 0 + 0 ≤ _), (by decide : 0 + 0 ≤ _)⟩)
  dsimp only [Pt.U, Pt.locs, Pt.cells, Pt.slots] at X2 l2 y2 z2 st2 hQ2
  subst l2 y2 z2
  obtain ⟨r2, rfl, Nq2, eh2, pf2_0⟩ := hQ2
  have N2 := Fr.app N0 Nq2
  obtain ⟨T3, X3, e3, st3⟩ := getF X2 hx hZ hown (host := "") (Or.inl (own_w hw 14 rfl)) Via.refl eh2 F_index_o (g := (mkF m 17 #[rv o, lv x1, .second, iv (0 : Int32), iv (15 : Int32), iv r2] [(.ref o)])) rfl rfl (hb hby d8_17)
  have hb4 : ¬ r2 < 0 ∧ r2 < 16 := pf2_0
  have hin4 : ¬ (r2 < 0 ∨ cl.slots.size ≤ (r2).toNatClampNeg) := inb_of sz hb4
  have ha4 : cl.slots[(r2).toNatClampNeg]? = some (.int (f (r2).toNatClampNeg)) := hat _ (own_rng hb4)
  have hc23 : (f (r2).toNatClampNeg) = (0 : Int32) := Classical.byContradiction fun hc23 => by
    exact own_no0 hS (hf _ (own_rng hb4) hc23)
  obtain ⟨T5, X5, e5, st5⟩ := getF X3 hx hZ hown (host := "") (Or.inl (own_w hw 14 rfl)) Via.refl e3 F_index_o (g := (mkF m 39 #[rv o, lv x1, .second, iv (0 : Int32), iv (15 : Int32), iv r2] [(.ref o)])) rfl rfl (hb hby d8_39)
  obtain ⟨T6, h6, X6, e6, W6, st6⟩ := stI X5 hx hZ e5 Ar (j := r2) hin4 (g := (mkF m 47 #[rv o, lv x1, .second, iv (0 : Int32), iv (15 : Int32), iv r2] [(.int (1 : Int32)), (.int r2), (.ref ix)])) rfl rfl (hb hby d8_47)
  have Xw6 : own_Ix Z h6 ix 1 := own_Ix.set Ar sz hat hS hf W6
  have N6 := Fr.snoc X6 N2 g_ix
  have pre7 : ∀ tz, oS p e below T6 m 48 #[rv o, lv x1, .second, iv (0 : Int32), iv (15 : Int32), iv r2] [] tz → oS p e below s₁ m 0 #[rv o, lv x1, .second, iv (0 : Int32), .unset, .unset] [] tz := fun tz kt => by
    show oS p e below s₁ m 0 #[rv o, lv x1, .second, iv (0 : Int32), .unset, .unset] [] _
    refine XS.aloadN X0.here hx rfl (hb hby d8_0) rfl rfl ?_
    show oS p e below s₁ m 1 #[rv o, lv x1, .second, iv (0 : Int32), .unset, .unset] [(.ref o)] _
    refine st1 _ ?_
    refine X1.arraylength hx (by rw [e1]; exact Ar.1) (State.isArrayOf_alike hZ.alike Ar.2.1) (g := (mkF m 4 #[rv o, lv x1, .second, iv (0 : Int32), .unset, .unset] [(.ref ix)])) rfl rfl (hb hby d8_4) _ ?_
    rw [len_of sz (by decide)]
    show oS p e below T1 m 5 #[rv o, lv x1, .second, iv (0 : Int32), .unset, .unset] [(.int (16 : Int32))] _
    refine XS.iconst X1.here hx rfl (hb hby d8_5) ?_
    refine XS.isub X1.here hx rfl (hb hby d8_6) rfl ?_
    show oS p e below T1 m 7 #[rv o, lv x1, .second, iv (0 : Int32), .unset, .unset] [(.int (15 : Int32))] _
    refine XS.istore X1.here hx rfl (hb hby d8_7) rfl (l' := #[rv o, lv x1, .second, iv (0 : Int32), iv (15 : Int32), .unset]) rfl ?_
    refine XS.aloadN X1.here hx rfl (hb hby d8_9) rfl rfl ?_
    refine XS.lloadN X1.here hx rfl (hb hby d8_10) rfl ?_
    show oS p e below T1 m 11 #[rv o, lv x1, .second, iv (0 : Int32), iv (15 : Int32), .unset] [(.long x1), (.ref o)] _
    refine st2.trans ?_
    refine XS.istore X2.here hx rfl (hb hby d8_14) rfl (l' := #[rv o, lv x1, .second, iv (0 : Int32), iv (15 : Int32), iv r2]) rfl ?_
    refine XS.aloadN X2.here hx rfl (hb hby d8_16) rfl rfl ?_
    show oS p e below T2 m 17 #[rv o, lv x1, .second, iv (0 : Int32), iv (15 : Int32), iv r2] [(.ref o)] _
    refine st3 _ ?_
    refine XS.iload X3.here hx rfl (hb hby d8_20) rfl ?_
    refine X3.iaload hx (j := r2) (v := .int (f (r2).toNatClampNeg)) (by rw [e3]; exact Ar.1) (State.isArrayOf_alike hZ.alike Ar.2.1) Ar.2.2 hin4 ha4 (g := (mkF m 22 #[rv o, lv x1, .second, iv (0 : Int32), iv (15 : Int32), iv r2] [(.int r2), (.ref ix)])) rfl rfl (hb hby d8_22) _ ?_
    refine XS.ifYes X3.here hx rfl (pc0 := 23) (pc' := 38) rfl (hb hby d8_23) rfl ((if0 _ _).trans (teq hc23).1) (by decide) (by decide) ?_
    show oS p e below T3 m 38 #[rv o, lv x1, .second, iv (0 : Int32), iv (15 : Int32), iv r2] [] _
    refine XS.aloadN X3.here hx rfl (hb hby d8_38) rfl rfl ?_
    show oS p e below T3 m 39 #[rv o, lv x1, .second, iv (0 : Int32), iv (15 : Int32), iv r2] [(.ref o)] _
    refine st5 _ ?_
    refine XS.iload X5.here hx rfl (hb hby d8_42) rfl ?_
    refine XS.iloadN X5.here hx rfl (hb hby d8_44) rfl ?_
    refine XS.iconst X5.here hx rfl (hb hby d8_45) ?_
    show oS p e below T5 m 46 #[rv o, lv x1, .second, iv (0 : Int32), iv (15 : Int32), iv r2] [(.int (1 : Int32)), (.int (0 : Int32)), (.int r2), (.ref ix)] _
    refine XS.iadd X5.here hx rfl (hb hby d8_46) rfl ?_
    show oS p e below T5 m 47 #[rv o, lv x1, .second, iv (0 : Int32), iv (15 : Int32), iv r2] [(.int (1 : Int32)), (.int r2), (.ref ix)] _
    refine st6 _ ?_
    exact kt
  have KP8 : Keep h0 h6 [ix] := ((Keep.refl h0 [ix]).wr W6 (Or.inl (List.mem_of_getElem? (i := 0) rfl)))
  obtain ⟨fs, hr, hrun, hended, hW, hsame⟩ := X6.leave (v := none) (fun _ => rfl)
  refine ⟨_, _, pre0 _ (pre7 _ ?_), hrun, hended, _, _, rfl, ?_, ⟨_, rfl⟩, hW, hsame.mono (by decide) (by decide)⟩
  · show oS p e below T6 m 48 #[rv o, lv x1, .second, iv (0 : Int32), iv (15 : Int32), iv r2] [] _
    exact X6.returnOut hx Bd.returns (hb hby d8_48) hr
  · show QIN0 Z o x1 ix h0 n0 _ T6.heap _
    rw [e6]
    exact ⟨rfl, N6, KP8, Xw6⟩
theorem d8_26 : decode prog_24_method_28_code 26 = .ok (.iload 5, 2) := by decide +kernel
theorem d8_28 : decode prog_24_method_28_code 28 = .ok (.iconst 1, 1) := by decide +kernel
theorem d8_29 : decode prog_24_method_28_code 29 = .ok (.iadd, 1) := by decide +kernel
theorem d8_30 : decode prog_24_method_28_code 30 = .ok (.iload 4, 2) := by decide +kernel
theorem d8_32 : decode prog_24_method_28_code 32 = .ok (.iand, 1) := by decide +kernel
theorem d8_33 : decode prog_24_method_28_code 33 = .ok (.istore 5, 2) := by decide +kernel
theorem d8_35 : decode prog_24_method_28_code 35 = .ok (.goto (-19), 3) := by decide +kernel
theorem efIN1 (m : MethodId) (o : Addr) (x1 : Int64) : entryFrame m #[(.ref o), (.long x1), (.int (1 : Int32))] 6 = mkF m 0 #[rv o, lv x1, .second, iv (1 : Int32), .unset, .unset] [] := by first | (simp [entryFrame, mkF, argsToLocals, Value.category]; done) | rfl
def QIN1 (Z : State) (o : Addr) (x1 : Int64) (ix : Addr) (h0 : Heap) (n0 : Nat) (v : Option Value) (h : Heap) (L : List Loc) : Prop := v = none ∧ Fr n0 L ∧ Keep h0 h [ix] ∧ (own_Ix Z h ix 2)
set_option maxRecDepth 65536 in
set_option maxHeartbeats 40000000 in
theorem rmIN1 (l : Launch) (Z : State) (a0 : Array Value) (hw : ∀ d ∈ tables_1, d.before a0 Z = true) (ws : List Jvm.Cond) (o : Addr) (x1 : Int64) (ix : Addr) (h0 : Heap) (n0 : Nat) (Z0 : n0 ≤ h0.size) (E_o : Exa Z h0 o oz0) (g_ix : n0 ≤ ix) (F_index_o : Fld Z h0 o oz0 "index" "[I" (.ref ix)) (F_indexBits_o : Fld Z h0 o oz0 "indexBits" "I" (.int (4 : Int32))) (X_ix : own_Ix Z h0 ix 1) :
    MetFree l (⟨oz0, "insert", "(JI)V"⟩ : MethodName) (head1 (Jvm.Cond.code (⟨oz0, "insert", "(JI)V"⟩ : MethodName) prog_24_method_28_code 6 none :: ws) ({ frames := 1, cells := 0, slots := 0, locals := 14 } : Room)) (fun a U => a = #[(.ref o), (.long x1), (.int (1 : Int32))] ∧ Z.Warmed39 U.vm ∧ U.heap = h0) (fun _ _ _ _ _ => True) (fun _ U oc U' => ∃ v L, oc = .returned v ∧ QIN1 Z o x1 ix h0 n0 v U'.heap L ∧ FrameEnd U oc U' L ({ frames := 1, cells := 0, slots := 0, locals := 14 } : Room).cells ({ frames := 1, cells := 0, slots := 0, locals := 14 } : Room).slots) := by
  refine MetFree.of_bodySF (plainFor_of_name own_pn0) hisR ?_
  intro p e s m args below meth c s₁ Bd hml0 hP hK
  obtain ⟨rfl, hZ, hh⟩ := hP
  have hx := Bd.exec
  have hby := Bd.bytes
  have hml : c.maxLocals = 6 := hml0
  have hown : s.vm.findClass oz0 = some m.cls := findClass_of_methodNamed Bd.named
  have hnm := (name_of_methodNamed Bd.named Bd.method).1
  have X0 : Stand p l e ({ frames := 1, cells := 0, slots := 0, locals := 14 } : Room) s m #[(.ref o), (.long x1), (.int (1 : Int32))] below meth c s₁ [] 0 0 := Stand.of_body Bd
  have e0 : s₁.heap = h0 := by rw [← hh, Bd.state]; rfl
  have N0 := Fr.nil n0
  have pre0 : ∀ t, Steps p.tables e below (s₁.setTop (mkF m 0 #[rv o, lv x1, .second, iv (1 : Int32), .unset, .unset] [])) t → Steps p.tables e below (s₁.setTop (entryFrame m #[(.ref o), (.long x1), (.int (1 : Int32))] 6)) t := fun t k => castTop (efIN1 m o x1) k
  obtain ⟨cl, f, S, Ar, sz, hat, hS, hf⟩ := X_ix
  obtain ⟨T1, X1, e1, st1⟩ := getF X0 hx hZ hown (host := "") (Or.inl (own_w hw 14 rfl)) Via.refl e0 F_index_o (g := (mkF m 1 #[rv o, lv x1, .second, iv (1 : Int32), .unset, .unset] [(.ref o)])) rfl rfl (hb hby d8_1)
  obtain ⟨cq2, q2, q2'⟩ := E_o.cell
  obtain ⟨_, _, ⟨T2, Lw2, kw2, nw2⟩, -, X2, ⟨Lc2, hQ2, l2, y2, z2⟩, st2⟩ := X1.privateBack hx (y := (⟨oz0, "slot", "(J)I"⟩ : MethodName)) hown (mvT hZ (own_w hw 79 rfl)) (mvT hZ (own_w hw 80 rfl)) (own_selp hZ (own_w hw 1 rfl) (own_w hw 81 rfl) (own_w hw 80 rfl) (by decide)) (Cond.privateMethod_at (mvP hZ (own_w hw 81 rfl) (args := #[]))) (mvT hZ (own_w hw 82 rfl)) (by decide) (backOf (W := 0) (rm9 l Z a0 hw [] o x1 h0 n0 Z0 E_o F_indexBits_o) hZ (own_w hw 82 rfl) (own_w hw 2 rfl) (by decide) (by decide)) (g := (mkF m 11 #[rv o, lv x1, .second, iv (1 : Int32), iv (15 : Int32), .unset] [(.long x1), (.ref o)])) rfl (by rw [hml]; rfl) (Steps.refl _) (a := o) (by rw [e1]; exact q2) q2' (argsL := [(.long x1)]) (rest := []) (lenOf own_pd1 rfl) rfl (by show 2 * 0 + _ ≤ _; exact Nat.le_of_eq rfl) (hb hby d8_11) (fun _ _ => ⟨rfl, e1, (by decide : 0 + 0 ≤ _), (by decide : 0 + 0 ≤ _)⟩)
  dsimp only [Pt.U, Pt.locs, Pt.cells, Pt.slots] at X2 l2 y2 z2 st2 hQ2
  subst l2 y2 z2
  obtain ⟨r2, rfl, Nq2, eh2, pf2_0⟩ := hQ2
  have N2 := Fr.app N0 Nq2
  obtain ⟨T3, X3, e3, st3⟩ := getF X2 hx hZ hown (host := "") (Or.inl (own_w hw 14 rfl)) Via.refl eh2 F_index_o (g := (mkF m 17 #[rv o, lv x1, .second, iv (1 : Int32), iv (15 : Int32), iv r2] [(.ref o)])) rfl rfl (hb hby d8_17)
  have hb4 : ¬ r2 < 0 ∧ r2 < 16 := pf2_0
  have hin4 : ¬ (r2 < 0 ∨ cl.slots.size ≤ (r2).toNatClampNeg) := inb_of sz hb4
  have ha4 : cl.slots[(r2).toNatClampNeg]? = some (.int (f (r2).toNatClampNeg)) := hat _ (own_rng hb4)
  have pre5 : ∀ tz, oS p e below T3 m 23 #[rv o, lv x1, .second, iv (1 : Int32), iv (15 : Int32), iv r2] [(.int (f (r2).toNatClampNeg))] tz → oS p e below s₁ m 0 #[rv o, lv x1, .second, iv (1 : Int32), .unset, .unset] [] tz := fun tz kt => by
    show oS p e below s₁ m 0 #[rv o, lv x1, .second, iv (1 : Int32), .unset, .unset] [] _
    refine XS.aloadN X0.here hx rfl (hb hby d8_0) rfl rfl ?_
    show oS p e below s₁ m 1 #[rv o, lv x1, .second, iv (1 : Int32), .unset, .unset] [(.ref o)] _
    refine st1 _ ?_
    refine X1.arraylength hx (by rw [e1]; exact Ar.1) (State.isArrayOf_alike hZ.alike Ar.2.1) (g := (mkF m 4 #[rv o, lv x1, .second, iv (1 : Int32), .unset, .unset] [(.ref ix)])) rfl rfl (hb hby d8_4) _ ?_
    rw [len_of sz (by decide)]
    show oS p e below T1 m 5 #[rv o, lv x1, .second, iv (1 : Int32), .unset, .unset] [(.int (16 : Int32))] _
    refine XS.iconst X1.here hx rfl (hb hby d8_5) ?_
    refine XS.isub X1.here hx rfl (hb hby d8_6) rfl ?_
    show oS p e below T1 m 7 #[rv o, lv x1, .second, iv (1 : Int32), .unset, .unset] [(.int (15 : Int32))] _
    refine XS.istore X1.here hx rfl (hb hby d8_7) rfl (l' := #[rv o, lv x1, .second, iv (1 : Int32), iv (15 : Int32), .unset]) rfl ?_
    refine XS.aloadN X1.here hx rfl (hb hby d8_9) rfl rfl ?_
    refine XS.lloadN X1.here hx rfl (hb hby d8_10) rfl ?_
    show oS p e below T1 m 11 #[rv o, lv x1, .second, iv (1 : Int32), iv (15 : Int32), .unset] [(.long x1), (.ref o)] _
    refine st2.trans ?_
    refine XS.istore X2.here hx rfl (hb hby d8_14) rfl (l' := #[rv o, lv x1, .second, iv (1 : Int32), iv (15 : Int32), iv r2]) rfl ?_
    refine XS.aloadN X2.here hx rfl (hb hby d8_16) rfl rfl ?_
    show oS p e below T2 m 17 #[rv o, lv x1, .second, iv (1 : Int32), iv (15 : Int32), iv r2] [(.ref o)] _
    refine st3 _ ?_
    refine XS.iload X3.here hx rfl (hb hby d8_20) rfl ?_
    refine X3.iaload hx (j := r2) (v := .int (f (r2).toNatClampNeg)) (by rw [e3]; exact Ar.1) (State.isArrayOf_alike hZ.alike Ar.2.1) Ar.2.2 hin4 ha4 (g := (mkF m 22 #[rv o, lv x1, .second, iv (1 : Int32), iv (15 : Int32), iv r2] [(.int r2), (.ref ix)])) rfl rfl (hb hby d8_22) _ ?_
    exact kt
  by_cases hc23 : (f (r2).toNatClampNeg) = (0 : Int32)
  · obtain ⟨T6, X6, e6, st6⟩ := getF X3 hx hZ hown (host := "") (Or.inl (own_w hw 14 rfl)) Via.refl e3 F_index_o (g := (mkF m 39 #[rv o, lv x1, .second, iv (1 : Int32), iv (15 : Int32), iv r2] [(.ref o)])) rfl rfl (hb hby d8_39)
    obtain ⟨T7, h7, X7, e7, W7, st7⟩ := stI X6 hx hZ e6 Ar (j := r2) hin4 (g := (mkF m 47 #[rv o, lv x1, .second, iv (1 : Int32), iv (15 : Int32), iv r2] [(.int (2 : Int32)), (.int r2), (.ref ix)])) rfl rfl (hb hby d8_47)
    have Xw7 : own_Ix Z h7 ix 2 := own_Ix.set Ar sz hat hS hf W7
    have N7 := Fr.snoc X7 N2 g_ix
    have pre8 : ∀ tz, oS p e below T7 m 48 #[rv o, lv x1, .second, iv (1 : Int32), iv (15 : Int32), iv r2] [] tz → oS p e below T3 m 23 #[rv o, lv x1, .second, iv (1 : Int32), iv (15 : Int32), iv r2] [(.int (f (r2).toNatClampNeg))] tz := fun tz kt => by
      show oS p e below T3 m 23 #[rv o, lv x1, .second, iv (1 : Int32), iv (15 : Int32), iv r2] [(.int (f (r2).toNatClampNeg))] _
      refine XS.ifYes X3.here hx rfl (pc0 := 23) (pc' := 38) rfl (hb hby d8_23) rfl ((if0 _ _).trans (teq hc23).1) (by decide) (by decide) ?_
      refine XS.aloadN X3.here hx rfl (hb hby d8_38) rfl rfl ?_
      show oS p e below T3 m 39 #[rv o, lv x1, .second, iv (1 : Int32), iv (15 : Int32), iv r2] [(.ref o)] _
      refine st6 _ ?_
      refine XS.iload X6.here hx rfl (hb hby d8_42) rfl ?_
      refine XS.iloadN X6.here hx rfl (hb hby d8_44) rfl ?_
      refine XS.iconst X6.here hx rfl (hb hby d8_45) ?_
      show oS p e below T6 m 46 #[rv o, lv x1, .second, iv (1 : Int32), iv (15 : Int32), iv r2] [(.int (1 : Int32)), (.int (1 : Int32)), (.int r2), (.ref ix)] _
      refine XS.iadd X6.here hx rfl (hb hby d8_46) rfl ?_
      show oS p e below T6 m 47 #[rv o, lv x1, .second, iv (1 : Int32), iv (15 : Int32), iv r2] [(.int (2 : Int32)), (.int r2), (.ref ix)] _
      refine st7 _ ?_
      exact kt
    have KP9 : Keep h0 h7 [ix] := ((Keep.refl h0 [ix]).wr W7 (Or.inl (List.mem_of_getElem? (i := 0) rfl)))
    obtain ⟨fs, hr, hrun, hended, hW, hsame⟩ := X7.leave (v := none) (fun _ => rfl)
    refine ⟨_, _, pre0 _ (pre5 _ (pre8 _ ?_)), hrun, hended, _, _, rfl, ?_, ⟨_, rfl⟩, hW, hsame.mono (by decide) (by decide)⟩
    · show oS p e below T7 m 48 #[rv o, lv x1, .second, iv (1 : Int32), iv (15 : Int32), iv r2] [] _
      exact X7.returnOut hx Bd.returns (hb hby d8_48) hr
    · show QIN1 Z o x1 ix h0 n0 _ T7.heap _
      rw [e7]
      exact ⟨(by first | rfl | simp only [if_pos hc23]), N7, KP9, Xw7⟩
  · obtain ⟨T10, X10, e10, st10⟩ := getF X3 hx hZ hown (host := "") (Or.inl (own_w hw 14 rfl)) Via.refl e3 F_index_o (g := (mkF m 17 #[rv o, lv x1, .second, iv (1 : Int32), iv (15 : Int32), iv ((r2 + (1 : Int32)) &&& (15 : Int32))] [(.ref o)])) rfl rfl (hb hby d8_17)
    have hb11 : ¬ ((r2 + (1 : Int32)) &&& (15 : Int32)) < 0 ∧ ((r2 + (1 : Int32)) &&& (15 : Int32)) < 16 := (own_nx r2)
    have hin11 : ¬ (((r2 + (1 : Int32)) &&& (15 : Int32)) < 0 ∨ cl.slots.size ≤ (((r2 + (1 : Int32)) &&& (15 : Int32))).toNatClampNeg) := inb_of sz hb11
    have ha11 : cl.slots[(((r2 + (1 : Int32)) &&& (15 : Int32))).toNatClampNeg]? = some (.int (f (((r2 + (1 : Int32)) &&& (15 : Int32))).toNatClampNeg)) := hat _ (own_rng hb11)
    have hc23_2 : (f (((r2 + (1 : Int32)) &&& (15 : Int32))).toNatClampNeg) = (0 : Int32) := Classical.byContradiction fun hc23_2 => by
      exact own_no1 hS (own_rng hb4) (hf _ (own_rng hb4) hc23) (by rw [← own_nxN _ hb4]; exact hf _ (own_rng hb11) hc23_2)
    obtain ⟨T12, X12, e12, st12⟩ := getF X10 hx hZ hown (host := "") (Or.inl (own_w hw 14 rfl)) Via.refl e10 F_index_o (g := (mkF m 39 #[rv o, lv x1, .second, iv (1 : Int32), iv (15 : Int32), iv ((r2 + (1 : Int32)) &&& (15 : Int32))] [(.ref o)])) rfl rfl (hb hby d8_39)
    obtain ⟨T13, h13, X13, e13, W13, st13⟩ := stI X12 hx hZ e12 Ar (j := ((r2 + (1 : Int32)) &&& (15 : Int32))) hin11 (g := (mkF m 47 #[rv o, lv x1, .second, iv (1 : Int32), iv (15 : Int32), iv ((r2 + (1 : Int32)) &&& (15 : Int32))] [(.int (2 : Int32)), (.int ((r2 + (1 : Int32)) &&& (15 : Int32))), (.ref ix)])) rfl rfl (hb hby d8_47)
    have Xw13 : own_Ix Z h13 ix 2 := own_Ix.set Ar sz hat hS hf W13
    have N13 := Fr.snoc X13 N2 g_ix
    have pre14 : ∀ tz, oS p e below T13 m 48 #[rv o, lv x1, .second, iv (1 : Int32), iv (15 : Int32), iv ((r2 + (1 : Int32)) &&& (15 : Int32))] [] tz → oS p e below T3 m 23 #[rv o, lv x1, .second, iv (1 : Int32), iv (15 : Int32), iv r2] [(.int (f (r2).toNatClampNeg))] tz := fun tz kt => by
      show oS p e below T3 m 23 #[rv o, lv x1, .second, iv (1 : Int32), iv (15 : Int32), iv r2] [(.int (f (r2).toNatClampNeg))] _
      refine XS.ifNo X3.here hx rfl (hb hby d8_23) rfl ((if0 _ _).trans (feq hc23).1) ?_
      refine XS.iload X3.here hx rfl (hb hby d8_26) rfl ?_
      refine XS.iconst X3.here hx rfl (hb hby d8_28) ?_
      refine XS.iadd X3.here hx rfl (hb hby d8_29) rfl ?_
      show oS p e below T3 m 30 #[rv o, lv x1, .second, iv (1 : Int32), iv (15 : Int32), iv r2] [(.int (r2 + (1 : Int32)))] _
      refine XS.iload X3.here hx rfl (hb hby d8_30) rfl ?_
      refine XS.iand X3.here hx rfl (hb hby d8_32) rfl ?_
      refine XS.istore X3.here hx rfl (hb hby d8_33) rfl (l' := #[rv o, lv x1, .second, iv (1 : Int32), iv (15 : Int32), iv ((r2 + (1 : Int32)) &&& (15 : Int32))]) rfl ?_
      refine XS.goto X3.here hx rfl (pc0 := 35) (pc' := 16) rfl (hb hby d8_35) (by decide) (by decide) ?_
      show oS p e below T3 m 16 #[rv o, lv x1, .second, iv (1 : Int32), iv (15 : Int32), iv ((r2 + (1 : Int32)) &&& (15 : Int32))] [] _
      refine XS.aloadN X3.here hx rfl (hb hby d8_16) rfl rfl ?_
      show oS p e below T3 m 17 #[rv o, lv x1, .second, iv (1 : Int32), iv (15 : Int32), iv ((r2 + (1 : Int32)) &&& (15 : Int32))] [(.ref o)] _
      refine st10 _ ?_
      refine XS.iload X10.here hx rfl (hb hby d8_20) rfl ?_
      refine X10.iaload hx (j := ((r2 + (1 : Int32)) &&& (15 : Int32))) (v := .int (f (((r2 + (1 : Int32)) &&& (15 : Int32))).toNatClampNeg)) (by rw [e10]; exact Ar.1) (State.isArrayOf_alike hZ.alike Ar.2.1) Ar.2.2 hin11 ha11 (g := (mkF m 22 #[rv o, lv x1, .second, iv (1 : Int32), iv (15 : Int32), iv ((r2 + (1 : Int32)) &&& (15 : Int32))] [(.int ((r2 + (1 : Int32)) &&& (15 : Int32))), (.ref ix)])) rfl rfl (hb hby d8_22) _ ?_
      refine XS.ifYes X10.here hx rfl (pc0 := 23) (pc' := 38) rfl (hb hby d8_23) rfl ((if0 _ _).trans (teq hc23_2).1) (by decide) (by decide) ?_
      show oS p e below T10 m 38 #[rv o, lv x1, .second, iv (1 : Int32), iv (15 : Int32), iv ((r2 + (1 : Int32)) &&& (15 : Int32))] [] _
      refine XS.aloadN X10.here hx rfl (hb hby d8_38) rfl rfl ?_
      show oS p e below T10 m 39 #[rv o, lv x1, .second, iv (1 : Int32), iv (15 : Int32), iv ((r2 + (1 : Int32)) &&& (15 : Int32))] [(.ref o)] _
      refine st12 _ ?_
      refine XS.iload X12.here hx rfl (hb hby d8_42) rfl ?_
      refine XS.iloadN X12.here hx rfl (hb hby d8_44) rfl ?_
      refine XS.iconst X12.here hx rfl (hb hby d8_45) ?_
      show oS p e below T12 m 46 #[rv o, lv x1, .second, iv (1 : Int32), iv (15 : Int32), iv ((r2 + (1 : Int32)) &&& (15 : Int32))] [(.int (1 : Int32)), (.int (1 : Int32)), (.int ((r2 + (1 : Int32)) &&& (15 : Int32))), (.ref ix)] _
      refine XS.iadd X12.here hx rfl (hb hby d8_46) rfl ?_
      show oS p e below T12 m 47 #[rv o, lv x1, .second, iv (1 : Int32), iv (15 : Int32), iv ((r2 + (1 : Int32)) &&& (15 : Int32))] [(.int (2 : Int32)), (.int ((r2 + (1 : Int32)) &&& (15 : Int32))), (.ref ix)] _
      refine st13 _ ?_
      exact kt
    have KP15 : Keep h0 h13 [ix] := ((Keep.refl h0 [ix]).wr W13 (Or.inl (List.mem_of_getElem? (i := 0) rfl)))
    obtain ⟨fs, hr, hrun, hended, hW, hsame⟩ := X13.leave (v := none) (fun _ => rfl)
    refine ⟨_, _, pre0 _ (pre5 _ (pre14 _ ?_)), hrun, hended, _, _, rfl, ?_, ⟨_, rfl⟩, hW, hsame.mono (by decide) (by decide)⟩
    · show oS p e below T13 m 48 #[rv o, lv x1, .second, iv (1 : Int32), iv (15 : Int32), iv ((r2 + (1 : Int32)) &&& (15 : Int32))] [] _
      exact X13.returnOut hx Bd.returns (hb hby d8_48) hr
    · show QIN1 Z o x1 ix h0 n0 _ T13.heap _
      rw [e13]
      exact ⟨(by first | rfl | simp only [if_neg hc23]), N13, KP15, Xw13⟩
theorem efIN2 (m : MethodId) (o : Addr) (x1 : Int64) : entryFrame m #[(.ref o), (.long x1), (.int (2 : Int32))] 6 = mkF m 0 #[rv o, lv x1, .second, iv (2 : Int32), .unset, .unset] [] := by first | (simp [entryFrame, mkF, argsToLocals, Value.category]; done) | rfl
def QIN2 (Z : State) (o : Addr) (x1 : Int64) (ix : Addr) (h0 : Heap) (n0 : Nat) (v : Option Value) (h : Heap) (L : List Loc) : Prop := v = none ∧ Fr n0 L ∧ Keep h0 h [ix] ∧ (own_Ix Z h ix 3)
set_option maxRecDepth 65536 in
set_option maxHeartbeats 40000000 in
theorem rmIN2 (l : Launch) (Z : State) (a0 : Array Value) (hw : ∀ d ∈ tables_1, d.before a0 Z = true) (ws : List Jvm.Cond) (o : Addr) (x1 : Int64) (ix : Addr) (h0 : Heap) (n0 : Nat) (Z0 : n0 ≤ h0.size) (E_o : Exa Z h0 o oz0) (g_ix : n0 ≤ ix) (F_index_o : Fld Z h0 o oz0 "index" "[I" (.ref ix)) (F_indexBits_o : Fld Z h0 o oz0 "indexBits" "I" (.int (4 : Int32))) (X_ix : own_Ix Z h0 ix 2) :
    MetFree l (⟨oz0, "insert", "(JI)V"⟩ : MethodName) (head1 (Jvm.Cond.code (⟨oz0, "insert", "(JI)V"⟩ : MethodName) prog_24_method_28_code 6 none :: ws) ({ frames := 1, cells := 0, slots := 0, locals := 14 } : Room)) (fun a U => a = #[(.ref o), (.long x1), (.int (2 : Int32))] ∧ Z.Warmed39 U.vm ∧ U.heap = h0) (fun _ _ _ _ _ => True) (fun _ U oc U' => ∃ v L, oc = .returned v ∧ QIN2 Z o x1 ix h0 n0 v U'.heap L ∧ FrameEnd U oc U' L ({ frames := 1, cells := 0, slots := 0, locals := 14 } : Room).cells ({ frames := 1, cells := 0, slots := 0, locals := 14 } : Room).slots) := by
  refine MetFree.of_bodySF (plainFor_of_name own_pn0) hisR ?_
  intro p e s m args below meth c s₁ Bd hml0 hP hK
  obtain ⟨rfl, hZ, hh⟩ := hP
  have hx := Bd.exec
  have hby := Bd.bytes
  have hml : c.maxLocals = 6 := hml0
  have hown : s.vm.findClass oz0 = some m.cls := findClass_of_methodNamed Bd.named
  have hnm := (name_of_methodNamed Bd.named Bd.method).1
  have X0 : Stand p l e ({ frames := 1, cells := 0, slots := 0, locals := 14 } : Room) s m #[(.ref o), (.long x1), (.int (2 : Int32))] below meth c s₁ [] 0 0 := Stand.of_body Bd
  have e0 : s₁.heap = h0 := by rw [← hh, Bd.state]; rfl
  have N0 := Fr.nil n0
  have pre0 : ∀ t, Steps p.tables e below (s₁.setTop (mkF m 0 #[rv o, lv x1, .second, iv (2 : Int32), .unset, .unset] [])) t → Steps p.tables e below (s₁.setTop (entryFrame m #[(.ref o), (.long x1), (.int (2 : Int32))] 6)) t := fun t k => castTop (efIN2 m o x1) k
  obtain ⟨cl, f, S, Ar, sz, hat, hS, hf⟩ := X_ix
  obtain ⟨T1, X1, e1, st1⟩ := getF X0 hx hZ hown (host := "") (Or.inl (own_w hw 14 rfl)) Via.refl e0 F_index_o (g := (mkF m 1 #[rv o, lv x1, .second, iv (2 : Int32), .unset, .unset] [(.ref o)])) rfl rfl (hb hby d8_1)
  obtain ⟨cq2, q2, q2'⟩ := E_o.cell
  obtain ⟨_, _, ⟨T2, Lw2, kw2, nw2⟩, -, X2, ⟨Lc2, hQ2, l2, y2, z2⟩, st2⟩ := X1.privateBack hx (y := (⟨oz0, "slot", "(J)I"⟩ : MethodName)) hown (mvT hZ (own_w hw 79 rfl)) (mvT hZ (own_w hw 80 rfl)) (own_selp hZ (own_w hw 1 rfl) (own_w hw 81 rfl) (own_w hw 80 rfl) (by decide)) (Cond.privateMethod_at (mvP hZ (own_w hw 81 rfl) (args := #[]))) (mvT hZ (own_w hw 82 rfl)) (by decide) (backOf (W := 0) (rm9 l Z a0 hw [] o x1 h0 n0 Z0 E_o F_indexBits_o) hZ (own_w hw 82 rfl) (own_w hw 2 rfl) (by decide) (by decide)) (g := (mkF m 11 #[rv o, lv x1, .second, iv (2 : Int32), iv (15 : Int32), .unset] [(.long x1), (.ref o)])) rfl (by rw [hml]; rfl) (Steps.refl _) (a := o) (by rw [e1]; exact q2) q2' (argsL := [(.long x1)]) (rest := []) (lenOf own_pd1 rfl) rfl (by show 2 * 0 + _ ≤ _; exact Nat.le_of_eq rfl) (hb hby d8_11) (fun _ _ => ⟨rfl, e1, (by decide : 0 + 0 ≤ _), (by decide : 0 + 0 ≤ _)⟩)
  dsimp only [Pt.U, Pt.locs, Pt.cells, Pt.slots] at X2 l2 y2 z2 st2 hQ2
  subst l2 y2 z2
  obtain ⟨r2, rfl, Nq2, eh2, pf2_0⟩ := hQ2
  have N2 := Fr.app N0 Nq2
  obtain ⟨T3, X3, e3, st3⟩ := getF X2 hx hZ hown (host := "") (Or.inl (own_w hw 14 rfl)) Via.refl eh2 F_index_o (g := (mkF m 17 #[rv o, lv x1, .second, iv (2 : Int32), iv (15 : Int32), iv r2] [(.ref o)])) rfl rfl (hb hby d8_17)
  have hb4 : ¬ r2 < 0 ∧ r2 < 16 := pf2_0
  have hin4 : ¬ (r2 < 0 ∨ cl.slots.size ≤ (r2).toNatClampNeg) := inb_of sz hb4
  have ha4 : cl.slots[(r2).toNatClampNeg]? = some (.int (f (r2).toNatClampNeg)) := hat _ (own_rng hb4)
  have pre5 : ∀ tz, oS p e below T3 m 23 #[rv o, lv x1, .second, iv (2 : Int32), iv (15 : Int32), iv r2] [(.int (f (r2).toNatClampNeg))] tz → oS p e below s₁ m 0 #[rv o, lv x1, .second, iv (2 : Int32), .unset, .unset] [] tz := fun tz kt => by
    show oS p e below s₁ m 0 #[rv o, lv x1, .second, iv (2 : Int32), .unset, .unset] [] _
    refine XS.aloadN X0.here hx rfl (hb hby d8_0) rfl rfl ?_
    show oS p e below s₁ m 1 #[rv o, lv x1, .second, iv (2 : Int32), .unset, .unset] [(.ref o)] _
    refine st1 _ ?_
    refine X1.arraylength hx (by rw [e1]; exact Ar.1) (State.isArrayOf_alike hZ.alike Ar.2.1) (g := (mkF m 4 #[rv o, lv x1, .second, iv (2 : Int32), .unset, .unset] [(.ref ix)])) rfl rfl (hb hby d8_4) _ ?_
    rw [len_of sz (by decide)]
    show oS p e below T1 m 5 #[rv o, lv x1, .second, iv (2 : Int32), .unset, .unset] [(.int (16 : Int32))] _
    refine XS.iconst X1.here hx rfl (hb hby d8_5) ?_
    refine XS.isub X1.here hx rfl (hb hby d8_6) rfl ?_
    show oS p e below T1 m 7 #[rv o, lv x1, .second, iv (2 : Int32), .unset, .unset] [(.int (15 : Int32))] _
    refine XS.istore X1.here hx rfl (hb hby d8_7) rfl (l' := #[rv o, lv x1, .second, iv (2 : Int32), iv (15 : Int32), .unset]) rfl ?_
    refine XS.aloadN X1.here hx rfl (hb hby d8_9) rfl rfl ?_
    refine XS.lloadN X1.here hx rfl (hb hby d8_10) rfl ?_
    show oS p e below T1 m 11 #[rv o, lv x1, .second, iv (2 : Int32), iv (15 : Int32), .unset] [(.long x1), (.ref o)] _
    refine st2.trans ?_
    refine XS.istore X2.here hx rfl (hb hby d8_14) rfl (l' := #[rv o, lv x1, .second, iv (2 : Int32), iv (15 : Int32), iv r2]) rfl ?_
    refine XS.aloadN X2.here hx rfl (hb hby d8_16) rfl rfl ?_
    show oS p e below T2 m 17 #[rv o, lv x1, .second, iv (2 : Int32), iv (15 : Int32), iv r2] [(.ref o)] _
    refine st3 _ ?_
    refine XS.iload X3.here hx rfl (hb hby d8_20) rfl ?_
    refine X3.iaload hx (j := r2) (v := .int (f (r2).toNatClampNeg)) (by rw [e3]; exact Ar.1) (State.isArrayOf_alike hZ.alike Ar.2.1) Ar.2.2 hin4 ha4 (g := (mkF m 22 #[rv o, lv x1, .second, iv (2 : Int32), iv (15 : Int32), iv r2] [(.int r2), (.ref ix)])) rfl rfl (hb hby d8_22) _ ?_
    exact kt
  by_cases hc23 : (f (r2).toNatClampNeg) = (0 : Int32)
  · obtain ⟨T6, X6, e6, st6⟩ := getF X3 hx hZ hown (host := "") (Or.inl (own_w hw 14 rfl)) Via.refl e3 F_index_o (g := (mkF m 39 #[rv o, lv x1, .second, iv (2 : Int32), iv (15 : Int32), iv r2] [(.ref o)])) rfl rfl (hb hby d8_39)
    obtain ⟨T7, h7, X7, e7, W7, st7⟩ := stI X6 hx hZ e6 Ar (j := r2) hin4 (g := (mkF m 47 #[rv o, lv x1, .second, iv (2 : Int32), iv (15 : Int32), iv r2] [(.int (3 : Int32)), (.int r2), (.ref ix)])) rfl rfl (hb hby d8_47)
    have Xw7 : own_Ix Z h7 ix 3 := own_Ix.set Ar sz hat hS hf W7
    have N7 := Fr.snoc X7 N2 g_ix
    have pre8 : ∀ tz, oS p e below T7 m 48 #[rv o, lv x1, .second, iv (2 : Int32), iv (15 : Int32), iv r2] [] tz → oS p e below T3 m 23 #[rv o, lv x1, .second, iv (2 : Int32), iv (15 : Int32), iv r2] [(.int (f (r2).toNatClampNeg))] tz := fun tz kt => by
      show oS p e below T3 m 23 #[rv o, lv x1, .second, iv (2 : Int32), iv (15 : Int32), iv r2] [(.int (f (r2).toNatClampNeg))] _
      refine XS.ifYes X3.here hx rfl (pc0 := 23) (pc' := 38) rfl (hb hby d8_23) rfl ((if0 _ _).trans (teq hc23).1) (by decide) (by decide) ?_
      refine XS.aloadN X3.here hx rfl (hb hby d8_38) rfl rfl ?_
      show oS p e below T3 m 39 #[rv o, lv x1, .second, iv (2 : Int32), iv (15 : Int32), iv r2] [(.ref o)] _
      refine st6 _ ?_
      refine XS.iload X6.here hx rfl (hb hby d8_42) rfl ?_
      refine XS.iloadN X6.here hx rfl (hb hby d8_44) rfl ?_
      refine XS.iconst X6.here hx rfl (hb hby d8_45) ?_
      show oS p e below T6 m 46 #[rv o, lv x1, .second, iv (2 : Int32), iv (15 : Int32), iv r2] [(.int (1 : Int32)), (.int (2 : Int32)), (.int r2), (.ref ix)] _
      refine XS.iadd X6.here hx rfl (hb hby d8_46) rfl ?_
      show oS p e below T6 m 47 #[rv o, lv x1, .second, iv (2 : Int32), iv (15 : Int32), iv r2] [(.int (3 : Int32)), (.int r2), (.ref ix)] _
      refine st7 _ ?_
      exact kt
    have KP9 : Keep h0 h7 [ix] := ((Keep.refl h0 [ix]).wr W7 (Or.inl (List.mem_of_getElem? (i := 0) rfl)))
    obtain ⟨fs, hr, hrun, hended, hW, hsame⟩ := X7.leave (v := none) (fun _ => rfl)
    refine ⟨_, _, pre0 _ (pre5 _ (pre8 _ ?_)), hrun, hended, _, _, rfl, ?_, ⟨_, rfl⟩, hW, hsame.mono (by decide) (by decide)⟩
    · show oS p e below T7 m 48 #[rv o, lv x1, .second, iv (2 : Int32), iv (15 : Int32), iv r2] [] _
      exact X7.returnOut hx Bd.returns (hb hby d8_48) hr
    · show QIN2 Z o x1 ix h0 n0 _ T7.heap _
      rw [e7]
      exact ⟨(by first | rfl | simp only [if_pos hc23]), N7, KP9, Xw7⟩
  · obtain ⟨T10, X10, e10, st10⟩ := getF X3 hx hZ hown (host := "") (Or.inl (own_w hw 14 rfl)) Via.refl e3 F_index_o (g := (mkF m 17 #[rv o, lv x1, .second, iv (2 : Int32), iv (15 : Int32), iv ((r2 + (1 : Int32)) &&& (15 : Int32))] [(.ref o)])) rfl rfl (hb hby d8_17)
    have hb11 : ¬ ((r2 + (1 : Int32)) &&& (15 : Int32)) < 0 ∧ ((r2 + (1 : Int32)) &&& (15 : Int32)) < 16 := (own_nx r2)
    have hin11 : ¬ (((r2 + (1 : Int32)) &&& (15 : Int32)) < 0 ∨ cl.slots.size ≤ (((r2 + (1 : Int32)) &&& (15 : Int32))).toNatClampNeg) := inb_of sz hb11
    have ha11 : cl.slots[(((r2 + (1 : Int32)) &&& (15 : Int32))).toNatClampNeg]? = some (.int (f (((r2 + (1 : Int32)) &&& (15 : Int32))).toNatClampNeg)) := hat _ (own_rng hb11)
    have pre12 : ∀ tz, oS p e below T10 m 23 #[rv o, lv x1, .second, iv (2 : Int32), iv (15 : Int32), iv ((r2 + (1 : Int32)) &&& (15 : Int32))] [(.int (f (((r2 + (1 : Int32)) &&& (15 : Int32))).toNatClampNeg))] tz → oS p e below T3 m 23 #[rv o, lv x1, .second, iv (2 : Int32), iv (15 : Int32), iv r2] [(.int (f (r2).toNatClampNeg))] tz := fun tz kt => by
      show oS p e below T3 m 23 #[rv o, lv x1, .second, iv (2 : Int32), iv (15 : Int32), iv r2] [(.int (f (r2).toNatClampNeg))] _
      refine XS.ifNo X3.here hx rfl (hb hby d8_23) rfl ((if0 _ _).trans (feq hc23).1) ?_
      refine XS.iload X3.here hx rfl (hb hby d8_26) rfl ?_
      refine XS.iconst X3.here hx rfl (hb hby d8_28) ?_
      refine XS.iadd X3.here hx rfl (hb hby d8_29) rfl ?_
      show oS p e below T3 m 30 #[rv o, lv x1, .second, iv (2 : Int32), iv (15 : Int32), iv r2] [(.int (r2 + (1 : Int32)))] _
      refine XS.iload X3.here hx rfl (hb hby d8_30) rfl ?_
      refine XS.iand X3.here hx rfl (hb hby d8_32) rfl ?_
      refine XS.istore X3.here hx rfl (hb hby d8_33) rfl (l' := #[rv o, lv x1, .second, iv (2 : Int32), iv (15 : Int32), iv ((r2 + (1 : Int32)) &&& (15 : Int32))]) rfl ?_
      refine XS.goto X3.here hx rfl (pc0 := 35) (pc' := 16) rfl (hb hby d8_35) (by decide) (by decide) ?_
      show oS p e below T3 m 16 #[rv o, lv x1, .second, iv (2 : Int32), iv (15 : Int32), iv ((r2 + (1 : Int32)) &&& (15 : Int32))] [] _
      refine XS.aloadN X3.here hx rfl (hb hby d8_16) rfl rfl ?_
      show oS p e below T3 m 17 #[rv o, lv x1, .second, iv (2 : Int32), iv (15 : Int32), iv ((r2 + (1 : Int32)) &&& (15 : Int32))] [(.ref o)] _
      refine st10 _ ?_
      refine XS.iload X10.here hx rfl (hb hby d8_20) rfl ?_
      refine X10.iaload hx (j := ((r2 + (1 : Int32)) &&& (15 : Int32))) (v := .int (f (((r2 + (1 : Int32)) &&& (15 : Int32))).toNatClampNeg)) (by rw [e10]; exact Ar.1) (State.isArrayOf_alike hZ.alike Ar.2.1) Ar.2.2 hin11 ha11 (g := (mkF m 22 #[rv o, lv x1, .second, iv (2 : Int32), iv (15 : Int32), iv ((r2 + (1 : Int32)) &&& (15 : Int32))] [(.int ((r2 + (1 : Int32)) &&& (15 : Int32))), (.ref ix)])) rfl rfl (hb hby d8_22) _ ?_
      exact kt
    by_cases hc23_2 : (f (((r2 + (1 : Int32)) &&& (15 : Int32))).toNatClampNeg) = (0 : Int32)
    · obtain ⟨T13, X13, e13, st13⟩ := getF X10 hx hZ hown (host := "") (Or.inl (own_w hw 14 rfl)) Via.refl e10 F_index_o (g := (mkF m 39 #[rv o, lv x1, .second, iv (2 : Int32), iv (15 : Int32), iv ((r2 + (1 : Int32)) &&& (15 : Int32))] [(.ref o)])) rfl rfl (hb hby d8_39)
      obtain ⟨T14, h14, X14, e14, W14, st14⟩ := stI X13 hx hZ e13 Ar (j := ((r2 + (1 : Int32)) &&& (15 : Int32))) hin11 (g := (mkF m 47 #[rv o, lv x1, .second, iv (2 : Int32), iv (15 : Int32), iv ((r2 + (1 : Int32)) &&& (15 : Int32))] [(.int (3 : Int32)), (.int ((r2 + (1 : Int32)) &&& (15 : Int32))), (.ref ix)])) rfl rfl (hb hby d8_47)
      have Xw14 : own_Ix Z h14 ix 3 := own_Ix.set Ar sz hat hS hf W14
      have N14 := Fr.snoc X14 N2 g_ix
      have pre15 : ∀ tz, oS p e below T14 m 48 #[rv o, lv x1, .second, iv (2 : Int32), iv (15 : Int32), iv ((r2 + (1 : Int32)) &&& (15 : Int32))] [] tz → oS p e below T10 m 23 #[rv o, lv x1, .second, iv (2 : Int32), iv (15 : Int32), iv ((r2 + (1 : Int32)) &&& (15 : Int32))] [(.int (f (((r2 + (1 : Int32)) &&& (15 : Int32))).toNatClampNeg))] tz := fun tz kt => by
        show oS p e below T10 m 23 #[rv o, lv x1, .second, iv (2 : Int32), iv (15 : Int32), iv ((r2 + (1 : Int32)) &&& (15 : Int32))] [(.int (f (((r2 + (1 : Int32)) &&& (15 : Int32))).toNatClampNeg))] _
        refine XS.ifYes X10.here hx rfl (pc0 := 23) (pc' := 38) rfl (hb hby d8_23) rfl ((if0 _ _).trans (teq hc23_2).1) (by decide) (by decide) ?_
        refine XS.aloadN X10.here hx rfl (hb hby d8_38) rfl rfl ?_
        show oS p e below T10 m 39 #[rv o, lv x1, .second, iv (2 : Int32), iv (15 : Int32), iv ((r2 + (1 : Int32)) &&& (15 : Int32))] [(.ref o)] _
        refine st13 _ ?_
        refine XS.iload X13.here hx rfl (hb hby d8_42) rfl ?_
        refine XS.iloadN X13.here hx rfl (hb hby d8_44) rfl ?_
        refine XS.iconst X13.here hx rfl (hb hby d8_45) ?_
        show oS p e below T13 m 46 #[rv o, lv x1, .second, iv (2 : Int32), iv (15 : Int32), iv ((r2 + (1 : Int32)) &&& (15 : Int32))] [(.int (1 : Int32)), (.int (2 : Int32)), (.int ((r2 + (1 : Int32)) &&& (15 : Int32))), (.ref ix)] _
        refine XS.iadd X13.here hx rfl (hb hby d8_46) rfl ?_
        show oS p e below T13 m 47 #[rv o, lv x1, .second, iv (2 : Int32), iv (15 : Int32), iv ((r2 + (1 : Int32)) &&& (15 : Int32))] [(.int (3 : Int32)), (.int ((r2 + (1 : Int32)) &&& (15 : Int32))), (.ref ix)] _
        refine st14 _ ?_
        exact kt
      have KP16 : Keep h0 h14 [ix] := ((Keep.refl h0 [ix]).wr W14 (Or.inl (List.mem_of_getElem? (i := 0) rfl)))
      obtain ⟨fs, hr, hrun, hended, hW, hsame⟩ := X14.leave (v := none) (fun _ => rfl)
      refine ⟨_, _, pre0 _ (pre5 _ (pre12 _ (pre15 _ ?_))), hrun, hended, _, _, rfl, ?_, ⟨_, rfl⟩, hW, hsame.mono (by decide) (by decide)⟩
      · show oS p e below T14 m 48 #[rv o, lv x1, .second, iv (2 : Int32), iv (15 : Int32), iv ((r2 + (1 : Int32)) &&& (15 : Int32))] [] _
        exact X14.returnOut hx Bd.returns (hb hby d8_48) hr
      · show QIN2 Z o x1 ix h0 n0 _ T14.heap _
        rw [e14]
        exact ⟨(by first | rfl | simp only [if_neg hc23, if_pos hc23_2]), N14, KP16, Xw14⟩
    · obtain ⟨T17, X17, e17, st17⟩ := getF X10 hx hZ hown (host := "") (Or.inl (own_w hw 14 rfl)) Via.refl e10 F_index_o (g := (mkF m 17 #[rv o, lv x1, .second, iv (2 : Int32), iv (15 : Int32), iv ((((r2 + (1 : Int32)) &&& (15 : Int32)) + (1 : Int32)) &&& (15 : Int32))] [(.ref o)])) rfl rfl (hb hby d8_17)
      have hb18 : ¬ ((((r2 + (1 : Int32)) &&& (15 : Int32)) + (1 : Int32)) &&& (15 : Int32)) < 0 ∧ ((((r2 + (1 : Int32)) &&& (15 : Int32)) + (1 : Int32)) &&& (15 : Int32)) < 16 := (own_nx ((r2 + (1 : Int32)) &&& (15 : Int32)))
      have hin18 : ¬ (((((r2 + (1 : Int32)) &&& (15 : Int32)) + (1 : Int32)) &&& (15 : Int32)) < 0 ∨ cl.slots.size ≤ (((((r2 + (1 : Int32)) &&& (15 : Int32)) + (1 : Int32)) &&& (15 : Int32))).toNatClampNeg) := inb_of sz hb18
      have ha18 : cl.slots[(((((r2 + (1 : Int32)) &&& (15 : Int32)) + (1 : Int32)) &&& (15 : Int32))).toNatClampNeg]? = some (.int (f (((((r2 + (1 : Int32)) &&& (15 : Int32)) + (1 : Int32)) &&& (15 : Int32))).toNatClampNeg)) := hat _ (own_rng hb18)
      have hc23_3 : (f (((((r2 + (1 : Int32)) &&& (15 : Int32)) + (1 : Int32)) &&& (15 : Int32))).toNatClampNeg) = (0 : Int32) := Classical.byContradiction fun hc23_3 => by
        exact own_no2 hS (own_rng hb4) (hf _ (own_rng hb4) hc23) (by rw [← own_nxN _ hb4]; exact hf _ (own_rng hb11) hc23_2) (by have q := own_nxN _ hb11; rw [own_nxN _ hb4] at q; rw [← q]; exact hf _ (own_rng hb18) hc23_3)
      obtain ⟨T19, X19, e19, st19⟩ := getF X17 hx hZ hown (host := "") (Or.inl (own_w hw 14 rfl)) Via.refl e17 F_index_o (g := (mkF m 39 #[rv o, lv x1, .second, iv (2 : Int32), iv (15 : Int32), iv ((((r2 + (1 : Int32)) &&& (15 : Int32)) + (1 : Int32)) &&& (15 : Int32))] [(.ref o)])) rfl rfl (hb hby d8_39)
      obtain ⟨T20, h20, X20, e20, W20, st20⟩ := stI X19 hx hZ e19 Ar (j := ((((r2 + (1 : Int32)) &&& (15 : Int32)) + (1 : Int32)) &&& (15 : Int32))) hin18 (g := (mkF m 47 #[rv o, lv x1, .second, iv (2 : Int32), iv (15 : Int32), iv ((((r2 + (1 : Int32)) &&& (15 : Int32)) + (1 : Int32)) &&& (15 : Int32))] [(.int (3 : Int32)), (.int ((((r2 + (1 : Int32)) &&& (15 : Int32)) + (1 : Int32)) &&& (15 : Int32))), (.ref ix)])) rfl rfl (hb hby d8_47)
      have Xw20 : own_Ix Z h20 ix 3 := own_Ix.set Ar sz hat hS hf W20
      have N20 := Fr.snoc X20 N2 g_ix
      have pre21 : ∀ tz, oS p e below T20 m 48 #[rv o, lv x1, .second, iv (2 : Int32), iv (15 : Int32), iv ((((r2 + (1 : Int32)) &&& (15 : Int32)) + (1 : Int32)) &&& (15 : Int32))] [] tz → oS p e below T10 m 23 #[rv o, lv x1, .second, iv (2 : Int32), iv (15 : Int32), iv ((r2 + (1 : Int32)) &&& (15 : Int32))] [(.int (f (((r2 + (1 : Int32)) &&& (15 : Int32))).toNatClampNeg))] tz := fun tz kt => by
        show oS p e below T10 m 23 #[rv o, lv x1, .second, iv (2 : Int32), iv (15 : Int32), iv ((r2 + (1 : Int32)) &&& (15 : Int32))] [(.int (f (((r2 + (1 : Int32)) &&& (15 : Int32))).toNatClampNeg))] _
        refine XS.ifNo X10.here hx rfl (hb hby d8_23) rfl ((if0 _ _).trans (feq hc23_2).1) ?_
        refine XS.iload X10.here hx rfl (hb hby d8_26) rfl ?_
        refine XS.iconst X10.here hx rfl (hb hby d8_28) ?_
        refine XS.iadd X10.here hx rfl (hb hby d8_29) rfl ?_
        show oS p e below T10 m 30 #[rv o, lv x1, .second, iv (2 : Int32), iv (15 : Int32), iv ((r2 + (1 : Int32)) &&& (15 : Int32))] [(.int (((r2 + (1 : Int32)) &&& (15 : Int32)) + (1 : Int32)))] _
        refine XS.iload X10.here hx rfl (hb hby d8_30) rfl ?_
        refine XS.iand X10.here hx rfl (hb hby d8_32) rfl ?_
        refine XS.istore X10.here hx rfl (hb hby d8_33) rfl (l' := #[rv o, lv x1, .second, iv (2 : Int32), iv (15 : Int32), iv ((((r2 + (1 : Int32)) &&& (15 : Int32)) + (1 : Int32)) &&& (15 : Int32))]) rfl ?_
        refine XS.goto X10.here hx rfl (pc0 := 35) (pc' := 16) rfl (hb hby d8_35) (by decide) (by decide) ?_
        show oS p e below T10 m 16 #[rv o, lv x1, .second, iv (2 : Int32), iv (15 : Int32), iv ((((r2 + (1 : Int32)) &&& (15 : Int32)) + (1 : Int32)) &&& (15 : Int32))] [] _
        refine XS.aloadN X10.here hx rfl (hb hby d8_16) rfl rfl ?_
        show oS p e below T10 m 17 #[rv o, lv x1, .second, iv (2 : Int32), iv (15 : Int32), iv ((((r2 + (1 : Int32)) &&& (15 : Int32)) + (1 : Int32)) &&& (15 : Int32))] [(.ref o)] _
        refine st17 _ ?_
        refine XS.iload X17.here hx rfl (hb hby d8_20) rfl ?_
        refine X17.iaload hx (j := ((((r2 + (1 : Int32)) &&& (15 : Int32)) + (1 : Int32)) &&& (15 : Int32))) (v := .int (f (((((r2 + (1 : Int32)) &&& (15 : Int32)) + (1 : Int32)) &&& (15 : Int32))).toNatClampNeg)) (by rw [e17]; exact Ar.1) (State.isArrayOf_alike hZ.alike Ar.2.1) Ar.2.2 hin18 ha18 (g := (mkF m 22 #[rv o, lv x1, .second, iv (2 : Int32), iv (15 : Int32), iv ((((r2 + (1 : Int32)) &&& (15 : Int32)) + (1 : Int32)) &&& (15 : Int32))] [(.int ((((r2 + (1 : Int32)) &&& (15 : Int32)) + (1 : Int32)) &&& (15 : Int32))), (.ref ix)])) rfl rfl (hb hby d8_22) _ ?_
        refine XS.ifYes X17.here hx rfl (pc0 := 23) (pc' := 38) rfl (hb hby d8_23) rfl ((if0 _ _).trans (teq hc23_3).1) (by decide) (by decide) ?_
        show oS p e below T17 m 38 #[rv o, lv x1, .second, iv (2 : Int32), iv (15 : Int32), iv ((((r2 + (1 : Int32)) &&& (15 : Int32)) + (1 : Int32)) &&& (15 : Int32))] [] _
        refine XS.aloadN X17.here hx rfl (hb hby d8_38) rfl rfl ?_
        show oS p e below T17 m 39 #[rv o, lv x1, .second, iv (2 : Int32), iv (15 : Int32), iv ((((r2 + (1 : Int32)) &&& (15 : Int32)) + (1 : Int32)) &&& (15 : Int32))] [(.ref o)] _
        refine st19 _ ?_
        refine XS.iload X19.here hx rfl (hb hby d8_42) rfl ?_
        refine XS.iloadN X19.here hx rfl (hb hby d8_44) rfl ?_
        refine XS.iconst X19.here hx rfl (hb hby d8_45) ?_
        show oS p e below T19 m 46 #[rv o, lv x1, .second, iv (2 : Int32), iv (15 : Int32), iv ((((r2 + (1 : Int32)) &&& (15 : Int32)) + (1 : Int32)) &&& (15 : Int32))] [(.int (1 : Int32)), (.int (2 : Int32)), (.int ((((r2 + (1 : Int32)) &&& (15 : Int32)) + (1 : Int32)) &&& (15 : Int32))), (.ref ix)] _
        refine XS.iadd X19.here hx rfl (hb hby d8_46) rfl ?_
        show oS p e below T19 m 47 #[rv o, lv x1, .second, iv (2 : Int32), iv (15 : Int32), iv ((((r2 + (1 : Int32)) &&& (15 : Int32)) + (1 : Int32)) &&& (15 : Int32))] [(.int (3 : Int32)), (.int ((((r2 + (1 : Int32)) &&& (15 : Int32)) + (1 : Int32)) &&& (15 : Int32))), (.ref ix)] _
        refine st20 _ ?_
        exact kt
      have KP22 : Keep h0 h20 [ix] := ((Keep.refl h0 [ix]).wr W20 (Or.inl (List.mem_of_getElem? (i := 0) rfl)))
      obtain ⟨fs, hr, hrun, hended, hW, hsame⟩ := X20.leave (v := none) (fun _ => rfl)
      refine ⟨_, _, pre0 _ (pre5 _ (pre12 _ (pre21 _ ?_))), hrun, hended, _, _, rfl, ?_, ⟨_, rfl⟩, hW, hsame.mono (by decide) (by decide)⟩
      · show oS p e below T20 m 48 #[rv o, lv x1, .second, iv (2 : Int32), iv (15 : Int32), iv ((((r2 + (1 : Int32)) &&& (15 : Int32)) + (1 : Int32)) &&& (15 : Int32))] [] _
        exact X20.returnOut hx Bd.returns (hb hby d8_48) hr
      · show QIN2 Z o x1 ix h0 n0 _ T20.heap _
        rw [e20]
        exact ⟨(by first | rfl | simp only [if_neg hc23, if_neg hc23_2]), N20, KP22, Xw20⟩
theorem own_pd2 : parseMethodDescriptor "(I)Lcom/example/sidetrack/sidetrack/core/MessageTable$Chunk;" = some ⟨[.int], some (.object "com/example/sidetrack/sidetrack/core/MessageTable$Chunk")⟩ := by decide +kernel
theorem own_pd3 : parseMethodDescriptor "(IJ)V" = some ⟨[.int, .long], none⟩ := by decide +kernel
theorem own_pd4 : parseMethodDescriptor "(I)I" = some ⟨[.int], some .int⟩ := by decide +kernel
theorem own_pd5 : parseMethodDescriptor "(JI)V" = some ⟨[.long, .int], none⟩ := by decide +kernel
theorem d3_0 : decode prog_24_method_4_code 0 = .ok (.aload_n 0, 1) := by decide +kernel
theorem d3_1 : decode prog_24_method_4_code 1 = .ok (.getfield 36, 3) := by decide +kernel
theorem d3_4 : decode prog_24_method_4_code 4 = .ok (.ldc 39, 2) := by decide +kernel
theorem d3_6 : decode prog_24_method_4_code 6 = .ok (.if_icmp .ne 7, 3) := by decide +kernel
theorem d3_13 : decode prog_24_method_4_code 13 = .ok (.aload_n 0, 1) := by decide +kernel
theorem d3_14 : decode prog_24_method_4_code 14 = .ok (.getfield 36, 3) := by decide +kernel
theorem d3_17 : decode prog_24_method_4_code 17 = .ok (.istore 11, 2) := by decide +kernel
theorem d3_19 : decode prog_24_method_4_code 19 = .ok (.aload_n 0, 1) := by decide +kernel
theorem d3_20 : decode prog_24_method_4_code 20 = .ok (.iload 11, 2) := by decide +kernel
theorem d3_22 : decode prog_24_method_4_code 22 = .ok (.invokevirtual 43, 3) := by decide +kernel
theorem d3_25 : decode prog_24_method_4_code 25 = .ok (.astore 12, 2) := by decide +kernel
theorem d3_27 : decode prog_24_method_4_code 27 = .ok (.iload 11, 2) := by decide +kernel
theorem d3_29 : decode prog_24_method_4_code 29 = .ok (.sipush 1023, 3) := by decide +kernel
theorem d3_32 : decode prog_24_method_4_code 32 = .ok (.iand, 1) := by decide +kernel
theorem d3_33 : decode prog_24_method_4_code 33 = .ok (.istore 13, 2) := by decide +kernel
theorem d3_35 : decode prog_24_method_4_code 35 = .ok (.aload 12, 2) := by decide +kernel
theorem d3_37 : decode prog_24_method_4_code 37 = .ok (.getfield 47, 3) := by decide +kernel
theorem d3_40 : decode prog_24_method_4_code 40 = .ok (.iload 13, 2) := by decide +kernel
theorem d3_42 : decode prog_24_method_4_code 42 = .ok (.lload_n 1, 1) := by decide +kernel
theorem d3_43 : decode prog_24_method_4_code 43 = .ok (.lastore, 1) := by decide +kernel
theorem d3_44 : decode prog_24_method_4_code 44 = .ok (.aload 12, 2) := by decide +kernel
theorem d3_46 : decode prog_24_method_4_code 46 = .ok (.getfield 51, 3) := by decide +kernel
theorem d3_49 : decode prog_24_method_4_code 49 = .ok (.iload 13, 2) := by decide +kernel
theorem d3_51 : decode prog_24_method_4_code 51 = .ok (.lload_n 3, 1) := by decide +kernel
theorem d3_52 : decode prog_24_method_4_code 52 = .ok (.lastore, 1) := by decide +kernel
theorem d3_53 : decode prog_24_method_4_code 53 = .ok (.aload 12, 2) := by decide +kernel
theorem d3_55 : decode prog_24_method_4_code 55 = .ok (.iload 13, 2) := by decide +kernel
theorem d3_57 : decode prog_24_method_4_code 57 = .ok (.lload 5, 2) := by decide +kernel
theorem d3_59 : decode prog_24_method_4_code 59 = .ok (.invokevirtual 54, 3) := by decide +kernel
theorem d3_62 : decode prog_24_method_4_code 62 = .ok (.aload 12, 2) := by decide +kernel
theorem d3_64 : decode prog_24_method_4_code 64 = .ok (.getfield 58, 3) := by decide +kernel
theorem d3_67 : decode prog_24_method_4_code 67 = .ok (.iload 13, 2) := by decide +kernel
theorem d3_69 : decode prog_24_method_4_code 69 = .ok (.lload 7, 2) := by decide +kernel
theorem d3_71 : decode prog_24_method_4_code 71 = .ok (.lastore, 1) := by decide +kernel
theorem d3_72 : decode prog_24_method_4_code 72 = .ok (.aload 12, 2) := by decide +kernel
theorem d3_74 : decode prog_24_method_4_code 74 = .ok (.getfield 61, 3) := by decide +kernel
theorem d3_77 : decode prog_24_method_4_code 77 = .ok (.iload 13, 2) := by decide +kernel
theorem d3_79 : decode prog_24_method_4_code 79 = .ok (.iload 9, 2) := by decide +kernel
theorem d3_81 : decode prog_24_method_4_code 81 = .ok (.iastore, 1) := by decide +kernel
theorem d3_82 : decode prog_24_method_4_code 82 = .ok (.aload 12, 2) := by decide +kernel
theorem d3_84 : decode prog_24_method_4_code 84 = .ok (.getfield 64, 3) := by decide +kernel
theorem d3_87 : decode prog_24_method_4_code 87 = .ok (.iload 13, 2) := by decide +kernel
theorem d3_89 : decode prog_24_method_4_code 89 = .ok (.iload 10, 2) := by decide +kernel
theorem d3_91 : decode prog_24_method_4_code 91 = .ok (.iastore, 1) := by decide +kernel
theorem d3_92 : decode prog_24_method_4_code 92 = .ok (.aload 12, 2) := by decide +kernel
theorem d3_94 : decode prog_24_method_4_code 94 = .ok (.getfield 67, 3) := by decide +kernel
theorem d3_97 : decode prog_24_method_4_code 97 = .ok (.iload 13, 2) := by decide +kernel
theorem d3_99 : decode prog_24_method_4_code 99 = .ok (.iconst 1, 1) := by decide +kernel
theorem d3_100 : decode prog_24_method_4_code 100 = .ok (.bastore, 1) := by decide +kernel
theorem d3_101 : decode prog_24_method_4_code 101 = .ok (.aload 12, 2) := by decide +kernel
theorem d3_103 : decode prog_24_method_4_code 103 = .ok (.dup, 1) := by decide +kernel
theorem d3_104 : decode prog_24_method_4_code 104 = .ok (.getfield 71, 3) := by decide +kernel
theorem d3_107 : decode prog_24_method_4_code 107 = .ok (.iconst 1, 1) := by decide +kernel
theorem d3_108 : decode prog_24_method_4_code 108 = .ok (.iadd, 1) := by decide +kernel
theorem d3_109 : decode prog_24_method_4_code 109 = .ok (.putfield 71, 3) := by decide +kernel
theorem d3_112 : decode prog_24_method_4_code 112 = .ok (.aload_n 0, 1) := by decide +kernel
theorem d3_113 : decode prog_24_method_4_code 113 = .ok (.dup, 1) := by decide +kernel
theorem d3_114 : decode prog_24_method_4_code 114 = .ok (.getfield 36, 3) := by decide +kernel
theorem d3_117 : decode prog_24_method_4_code 117 = .ok (.iconst 1, 1) := by decide +kernel
theorem d3_118 : decode prog_24_method_4_code 118 = .ok (.iadd, 1) := by decide +kernel
theorem d3_119 : decode prog_24_method_4_code 119 = .ok (.putfield 36, 3) := by decide +kernel
theorem d3_122 : decode prog_24_method_4_code 122 = .ok (.aload_n 0, 1) := by decide +kernel
theorem d3_123 : decode prog_24_method_4_code 123 = .ok (.dup, 1) := by decide +kernel
theorem d3_124 : decode prog_24_method_4_code 124 = .ok (.getfield 25, 3) := by decide +kernel
theorem d3_127 : decode prog_24_method_4_code 127 = .ok (.iconst 1, 1) := by decide +kernel
theorem d3_128 : decode prog_24_method_4_code 128 = .ok (.iadd, 1) := by decide +kernel
theorem d3_129 : decode prog_24_method_4_code 129 = .ok (.putfield 25, 3) := by decide +kernel
theorem d3_132 : decode prog_24_method_4_code 132 = .ok (.aload_n 0, 1) := by decide +kernel
theorem d3_133 : decode prog_24_method_4_code 133 = .ok (.getfield 25, 3) := by decide +kernel
theorem d3_136 : decode prog_24_method_4_code 136 = .ok (.aload_n 0, 1) := by decide +kernel
theorem d3_137 : decode prog_24_method_4_code 137 = .ok (.getfield 21, 3) := by decide +kernel
theorem d3_140 : decode prog_24_method_4_code 140 = .ok (.invokestatic 74, 3) := by decide +kernel
theorem d3_143 : decode prog_24_method_4_code 143 = .ok (.if_icmp .le 16, 3) := by decide +kernel
theorem d3_159 : decode prog_24_method_4_code 159 = .ok (.aload_n 0, 1) := by decide +kernel
theorem d3_160 : decode prog_24_method_4_code 160 = .ok (.lload_n 1, 1) := by decide +kernel
theorem d3_161 : decode prog_24_method_4_code 161 = .ok (.iload 11, 2) := by decide +kernel
theorem d3_163 : decode prog_24_method_4_code 163 = .ok (.invokevirtual 82, 3) := by decide +kernel
theorem d3_166 : decode prog_24_method_4_code 166 = .ok (.return_, 1) := by decide +kernel
theorem efADD0 (m : MethodId) (o : Addr) (x1 : Int64) (x2 : Int64) (x4 : Int64) (x5 : Int32) (x6 : Int32) : entryFrame m #[(.ref o), (.long x1), (.long x2), (.long x2), (.long x4), (.int x5), (.int x6)] 14 = mkF m 0 #[rv o, lv x1, .second, lv x2, .second, lv x2, .second, lv x4, .second, iv x5, iv x6, .unset, .unset, .unset] [] := by first | (simp [entryFrame, mkF, argsToLocals, Value.category]; done) | rfl
def QADD0 (Z : State) (o : Addr) (x1 : Int64) (x2 : Int64) (x4 : Int64) (x5 : Int32) (x6 : Int32) (cs : Addr) (kc : ClassId) (ix : Addr) (h0 : Heap) (n0 : Nat) (v : Option Value) (h : Heap) (L : List Loc) : Prop := ∃ (ch : Addr) (ar0 : Addr) (ar1 : Addr) (ar2 : Addr) (ar3 : Addr) (ar4 : Addr) (ar5 : Addr) (kz0 : ClassId) (kz1 : ClassId) (kz2 : ClassId) (kz3 : ClassId) (kz4 : ClassId) (kz5 : ClassId), v = none ∧ Fr n0 L ∧ Keep h0 h [o, cs, ix] ∧ h0.size ≤ ch ∧ n0 ≤ ch ∧ Exa Z h ch oz1 ∧ h0.size ≤ ar0 ∧ h0.size ≤ ar1 ∧ h0.size ≤ ar2 ∧ h0.size ≤ ar3 ∧ h0.size ≤ ar4 ∧ h0.size ≤ ar5 ∧ n0 ≤ ar0 ∧ n0 ≤ ar1 ∧ n0 ≤ ar2 ∧ n0 ≤ ar3 ∧ n0 ≤ ar4 ∧ n0 ≤ ar5 ∧ ar0 ≠ ar1 ∧ ar0 ≠ ar2 ∧ ar0 ≠ ar3 ∧ ar0 ≠ ar4 ∧ ar0 ≠ ar5 ∧ ar1 ≠ ar2 ∧ ar1 ≠ ar3 ∧ ar1 ≠ ar4 ∧ ar1 ≠ ar5 ∧ ar2 ≠ ar3 ∧ ar2 ≠ ar4 ∧ ar2 ≠ ar5 ∧ ar3 ≠ ar4 ∧ ar3 ≠ ar5 ∧ ar4 ≠ ar5 ∧ Fld Z h o oz0 "chunks" oz2 (.ref cs) ∧ Fld Z h o oz0 "index" "[I" (.ref ix) ∧ Fld Z h o oz0 "indexBits" "I" (.int (4 : Int32)) ∧ Fld Z h o oz0 "tail" "I" (.int (1 : Int32)) ∧ Fld Z h o oz0 "size" "I" (.int (1 : Int32)) ∧ Fld Z h o oz0 "firstChunk" "I" (.int (0 : Int32)) ∧ Fld Z h o oz0 "heldChunks" "I" (.int (1 : Int32)) ∧ Fld Z h o oz0 "head" "I" (.int (0 : Int32)) ∧ Fld Z h o oz0 "availableFrom" "I" (.int (0 : Int32)) ∧ Arv Z h cs kc (.object oz1) (1 : Int32) [(.ref ch)] .null ∧ (own_Ix Z h ix 1) ∧ Fld Z h ch oz1 "rows" "I" (.int (1 : Int32)) ∧ Fld Z h ch oz1 "addresses" "[J" .null ∧ Fld Z h ch oz1 "ids" "[J" (.ref ar0) ∧ Fld Z h ch oz1 "arrivals" "[J" (.ref ar1) ∧ Fld Z h ch oz1 "arrivedAts" "[J" (.ref ar2) ∧ Fld Z h ch oz1 "deliveryCounts" "[I" (.ref ar3) ∧ Fld Z h ch oz1 "causes" "[I" (.ref ar4) ∧ Fld Z h ch oz1 "states" "[B" (.ref ar5) ∧ Arv Z h ar0 kz0 .long (1024 : Int32) [(.long x1), (.long (0 : Int64)), (.long (0 : Int64))] (.long (0 : Int64)) ∧ Arv Z h ar1 kz1 .long (1024 : Int32) [(.long x2), (.long (0 : Int64)), (.long (0 : Int64))] (.long (0 : Int64)) ∧ Arv Z h ar2 kz2 .long (1024 : Int32) [(.long x4), (.long (0 : Int64)), (.long (0 : Int64))] (.long (0 : Int64)) ∧ Arv Z h ar3 kz3 .int (1024 : Int32) [(.int x5), (.int (0 : Int32)), (.int (0 : Int32))] (.int (0 : Int32)) ∧ Arv Z h ar4 kz4 .int (1024 : Int32) [(.int x6), (.int (0 : Int32)), (.int (0 : Int32))] (.int (0 : Int32)) ∧ Arv Z h ar5 kz5 .byte (1024 : Int32) [(.int (1 : Int32)), (.int (0 : Int32)), (.int (0 : Int32))] (.int (0 : Int32))
set_option maxRecDepth 65536 in
set_option maxHeartbeats 40000000 in
theorem rmADD0 (l : Launch) (Z : State) (a0 : Array Value) (hw : ∀ d ∈ tables_1, d.before a0 Z = true) (ws : List Jvm.Cond) (o : Addr) (x1 : Int64) (x2 : Int64) (x4 : Int64) (x5 : Int32) (x6 : Int32) (cs : Addr) (kc : ClassId) (ix : Addr) (h0 : Heap) (n0 : Nat) (Z0 : n0 ≤ h0.size) (E_o : Exa Z h0 o oz0) (g_o : n0 ≤ o) (g_cs : n0 ≤ cs) (g_ix : n0 ≤ ix) (O_cs : Ovr Z kc oz1) (F_chunks_o : Fld Z h0 o oz0 "chunks" oz2 (.ref cs)) (F_index_o : Fld Z h0 o oz0 "index" "[I" (.ref ix)) (F_indexBits_o : Fld Z h0 o oz0 "indexBits" "I" (.int (4 : Int32))) (F_tail_o : Fld Z h0 o oz0 "tail" "I" (.int (0 : Int32))) (F_size_o : Fld Z h0 o oz0 "size" "I" (.int (0 : Int32))) (F_firstChunk_o : Fld Z h0 o oz0 "firstChunk" "I" (.int (0 : Int32))) (F_heldChunks_o : Fld Z h0 o oz0 "heldChunks" "I" (.int (0 : Int32))) (F_head_o : Fld Z h0 o oz0 "head" "I" (.int (0 : Int32))) (F_availableFrom_o : Fld Z h0 o oz0 "availableFrom" "I" (.int (0 : Int32))) (V_cs : Arv Z h0 cs kc (.object oz1) (1 : Int32) [.null] .null) (X_ix : own_Ix Z h0 ix 0) (ne_cs_ix : cs ≠ ix) :
    MetFree l (⟨oz0, "add", "(JJJJII)V"⟩ : MethodName) (head1 (Jvm.Cond.code (⟨oz0, "add", "(JJJJII)V"⟩ : MethodName) prog_24_method_4_code 14 none :: ws) ({ frames := 3, cells := 7, slots := 6152, locals := 41 } : Room)) (fun a U => a = #[(.ref o), (.long x1), (.long x2), (.long x2), (.long x4), (.int x5), (.int x6)] ∧ Z.Warmed39 U.vm ∧ U.heap = h0) (fun _ _ _ _ _ => True) (fun _ U oc U' => ∃ v L, oc = .returned v ∧ QADD0 Z o x1 x2 x4 x5 x6 cs kc ix h0 n0 v U'.heap L ∧ FrameEnd U oc U' L ({ frames := 3, cells := 7, slots := 6152, locals := 41 } : Room).cells ({ frames := 3, cells := 7, slots := 6152, locals := 41 } : Room).slots) := by
  refine MetFree.of_bodySF (plainFor_of_name own_pn0) hisR ?_
  intro p e s m args below meth c s₁ Bd hml0 hP hK
  obtain ⟨rfl, hZ, hh⟩ := hP
  have hx := Bd.exec
  have hby := Bd.bytes
  have hml : c.maxLocals = 14 := hml0
  have hown : s.vm.findClass oz0 = some m.cls := findClass_of_methodNamed Bd.named
  have hnm := (name_of_methodNamed Bd.named Bd.method).1
  have X0 : Stand p l e ({ frames := 3, cells := 7, slots := 6152, locals := 41 } : Room) s m #[(.ref o), (.long x1), (.long x2), (.long x2), (.long x4), (.int x5), (.int x6)] below meth c s₁ [] 0 0 := Stand.of_body Bd
  have e0 : s₁.heap = h0 := by rw [← hh, Bd.state]; rfl
  have N0 := Fr.nil n0
  have pre0 : ∀ t, Steps p.tables e below (s₁.setTop (mkF m 0 #[rv o, lv x1, .second, lv x2, .second, lv x2, .second, lv x4, .second, iv x5, iv x6, .unset, .unset, .unset] [])) t → Steps p.tables e below (s₁.setTop (entryFrame m #[(.ref o), (.long x1), (.long x2), (.long x2), (.long x4), (.int x5), (.int x6)] 14)) t := fun t k => castTop (efADD0 m o x1 x2 x4 x5 x6) k
  obtain ⟨T1, X1, e1, st1⟩ := getF X0 hx hZ hown (host := "") (Or.inl (own_w hw 23 rfl)) Via.refl e0 F_tail_o (g := (mkF m 1 #[rv o, lv x1, .second, lv x2, .second, lv x2, .second, lv x4, .second, iv x5, iv x6, .unset, .unset, .unset] [(.ref o)])) rfl rfl (hb hby d3_1)
  obtain ⟨T2, X2, e2, st2⟩ := getF X1 hx hZ hown (host := "") (Or.inl (own_w hw 23 rfl)) Via.refl e1 F_tail_o (g := (mkF m 14 #[rv o, lv x1, .second, lv x2, .second, lv x2, .second, lv x4, .second, iv x5, iv x6, .unset, .unset, .unset] [(.ref o)])) rfl rfl (hb hby d3_14)
  obtain ⟨cq3, q3, q3'⟩ := E_o.cell
  obtain ⟨_, _, ⟨T3, Lw3, kw3, nw3⟩, -, X3, ⟨Lc3, hQ3, l3, y3, z3⟩, st3⟩ := X2.privateBack hx (y := (⟨oz0, "chunkForAdd", oz4⟩ : MethodName)) hown (mvT hZ (own_w hw 26 rfl)) (mvT hZ (own_w hw 27 rfl)) (own_selp hZ (own_w hw 1 rfl) (own_w hw 28 rfl) (own_w hw 27 rfl) (by decide)) (Cond.privateMethod_at (mvP hZ (own_w hw 28 rfl) (args := #[]))) (mvT hZ (own_w hw 29 rfl)) (by decide) (backOf (W := 0) (rmCA l Z a0 hw [] o cs kc (.int (0 : Int32)) (.int (0 : Int32)) (.int (0 : Int32)) (.int (0 : Int32)) (.ref ix) (.int (4 : Int32)) h0 n0 Z0 E_o F_chunks_o F_firstChunk_o g_o g_cs O_cs F_heldChunks_o V_cs F_tail_o F_size_o F_head_o F_availableFrom_o F_index_o F_indexBits_o) hZ (own_w hw 29 rfl) (own_w hw 2 rfl) (by decide) (by decide)) (g := (mkF m 22 #[rv o, lv x1, .second, lv x2, .second, lv x2, .second, lv x4, .second, iv x5, iv x6, iv (0 : Int32), .unset, .unset] [(.int (0 : Int32)), (.ref o)])) rfl (by rw [hml]; rfl) (Steps.refl _) (a := o) (by rw [e2]; exact q3) q3' (argsL := [(.int (0 : Int32))]) (rest := []) (lenOf own_pd2 rfl) rfl (by show 2 * 0 + _ ≤ _; exact Nat.le_of_eq rfl) (hb hby d3_22) (fun _ _ => ⟨rfl, e2, (by decide : 0 + 7 ≤ _), (by decide : 0 + 6152 ≤ _)⟩)
  dsimp only [Pt.U, Pt.locs, Pt.cells, Pt.slots] at X3 l3 y3 z3 st3 hQ3
  subst l3 y3 z3
  obtain ⟨ch3, ar03, ar13, ar23, ar33, ar43, ar53, kz03, kz13, kz23, kz33, kz43, kz53, rfl, Nq3, K3, pf3_0, pf3_1, pf3_2, pf3_3, pf3_4, pf3_5, pf3_6, pf3_7, pf3_8, pf3_9, pf3_10, pf3_11, pf3_12, pf3_13, pf3_14, pf3_15, pf3_16, pf3_17, pf3_18, pf3_19, pf3_20, pf3_21, pf3_22, pf3_23, pf3_24, pf3_25, pf3_26, pf3_27, pf3_28, pf3_29, pf3_30, pf3_31, pf3_32, pf3_33, pf3_34, pf3_35, pf3_36, pf3_37, pf3_38, pf3_39, pf3_40, pf3_41, pf3_42, pf3_43, pf3_44, pf3_45, pf3_46, pf3_47, pf3_48, pf3_49, pf3_50, pf3_51, pf3_52, pf3_53⟩ := hQ3
  have N3 := Fr.app N0 Nq3
  have ne_o_ch3 : o ≠ ch3 := Nat.ne_of_lt (Nat.lt_of_lt_of_le E_o.lt pf3_0)
  have ne_cs_ch3 : cs ≠ ch3 := Nat.ne_of_lt (Nat.lt_of_lt_of_le V_cs.lt pf3_0)
  have ne_ix_ch3 : ix ≠ ch3 := Nat.ne_of_lt (Nat.lt_of_lt_of_le X_ix.lt pf3_0)
  have ne_o_ar03 : o ≠ ar03 := Nat.ne_of_lt (Nat.lt_of_lt_of_le E_o.lt pf3_3)
  have ne_cs_ar03 : cs ≠ ar03 := Nat.ne_of_lt (Nat.lt_of_lt_of_le V_cs.lt pf3_3)
  have ne_ix_ar03 : ix ≠ ar03 := Nat.ne_of_lt (Nat.lt_of_lt_of_le X_ix.lt pf3_3)
  have ne_o_ar13 : o ≠ ar13 := Nat.ne_of_lt (Nat.lt_of_lt_of_le E_o.lt pf3_4)
  have ne_cs_ar13 : cs ≠ ar13 := Nat.ne_of_lt (Nat.lt_of_lt_of_le V_cs.lt pf3_4)
  have ne_ix_ar13 : ix ≠ ar13 := Nat.ne_of_lt (Nat.lt_of_lt_of_le X_ix.lt pf3_4)
  have ne_o_ar23 : o ≠ ar23 := Nat.ne_of_lt (Nat.lt_of_lt_of_le E_o.lt pf3_5)
  have ne_cs_ar23 : cs ≠ ar23 := Nat.ne_of_lt (Nat.lt_of_lt_of_le V_cs.lt pf3_5)
  have ne_ix_ar23 : ix ≠ ar23 := Nat.ne_of_lt (Nat.lt_of_lt_of_le X_ix.lt pf3_5)
  have ne_o_ar33 : o ≠ ar33 := Nat.ne_of_lt (Nat.lt_of_lt_of_le E_o.lt pf3_6)
  have ne_cs_ar33 : cs ≠ ar33 := Nat.ne_of_lt (Nat.lt_of_lt_of_le V_cs.lt pf3_6)
  have ne_ix_ar33 : ix ≠ ar33 := Nat.ne_of_lt (Nat.lt_of_lt_of_le X_ix.lt pf3_6)
  have ne_o_ar43 : o ≠ ar43 := Nat.ne_of_lt (Nat.lt_of_lt_of_le E_o.lt pf3_7)
  have ne_cs_ar43 : cs ≠ ar43 := Nat.ne_of_lt (Nat.lt_of_lt_of_le V_cs.lt pf3_7)
  have ne_ix_ar43 : ix ≠ ar43 := Nat.ne_of_lt (Nat.lt_of_lt_of_le X_ix.lt pf3_7)
  have ne_o_ar53 : o ≠ ar53 := Nat.ne_of_lt (Nat.lt_of_lt_of_le E_o.lt pf3_8)
  have ne_cs_ar53 : cs ≠ ar53 := Nat.ne_of_lt (Nat.lt_of_lt_of_le V_cs.lt pf3_8)
  have ne_ix_ar53 : ix ≠ ar53 := Nat.ne_of_lt (Nat.lt_of_lt_of_le X_ix.lt pf3_8)
  obtain ⟨cl5, Ar5, qk5, Sz5, Ng5, Hs5, Gt5⟩ := id pf3_36
  have hin5 : ¬ ((0 : Int32) < 0 ∨ cl5.slots.size ≤ ((0 : Int32)).toNatClampNeg) := inb_of Sz5 ⟨by decide, by decide⟩
  obtain ⟨T6, h6, X6, e6, W6, st6⟩ := stJ X3 hx hZ rfl Ar5 (j := (0 : Int32)) hin5 (g := (mkF m 43 #[rv o, lv x1, .second, lv x2, .second, lv x2, .second, lv x4, .second, iv x5, iv x6, iv (0 : Int32), rv ch3, iv (0 : Int32)] [(.long x1), (.int (0 : Int32)), (.ref ar03)])) rfl rfl (hb hby d3_43)
  have Va6 : Arv Z h6 ar03 kz03 .long (1024 : Int32) [(.long x1), (.long (0 : Int64)), (.long (0 : Int64))] (.long (0 : Int64)) := Arv.set Ar5 qk5 Sz5 Ng5 Hs5 Gt5 rfl W6 0 rfl (Nat.le_of_ble_eq_true rfl)
  have N6 := Fr.snoc X6 N3 pf3_9
  obtain ⟨_, Arn7, -⟩ := id Va6
  have ne7 : ch3 ≠ ar03 := ne_arr (pf3_2.wr W6) (own_w hw 32 rfl) Arn7
  have Fc8 : Fld Z h6 ch3 oz1 "arrivals" "[J" (.ref ar13) := (pf3_31.other W6 (Or.inl ne7))
  have Vc10 : Arv Z h6 ar13 kz13 .long (1024 : Int32) [(.long (0 : Int64)), (.long (0 : Int64)), (.long (0 : Int64))] (.long (0 : Int64)) := (pf3_37.other W6 (Ne.symm pf3_15))
  obtain ⟨cl11, Ar11, qk11, Sz11, Ng11, Hs11, Gt11⟩ := id Vc10
  have hin11 : ¬ ((0 : Int32) < 0 ∨ cl11.slots.size ≤ ((0 : Int32)).toNatClampNeg) := inb_of Sz11 ⟨by decide, by decide⟩
  obtain ⟨T12, h12, X12, e12, W12, st12⟩ := stJ X6 hx hZ e6 Ar11 (j := (0 : Int32)) hin11 (g := (mkF m 52 #[rv o, lv x1, .second, lv x2, .second, lv x2, .second, lv x4, .second, iv x5, iv x6, iv (0 : Int32), rv ch3, iv (0 : Int32)] [(.long x2), (.int (0 : Int32)), (.ref ar13)])) rfl rfl (hb hby d3_52)
  have Va12 : Arv Z h12 ar13 kz13 .long (1024 : Int32) [(.long x2), (.long (0 : Int64)), (.long (0 : Int64))] (.long (0 : Int64)) := Arv.set Ar11 qk11 Sz11 Ng11 Hs11 Gt11 rfl W12 0 rfl (Nat.le_of_ble_eq_true rfl)
  have N12 := Fr.snoc X12 N6 pf3_10
  have Ec14 : Exa Z h12 ch3 oz1 := ((pf3_2.wr W6).wr W12)
  obtain ⟨_, Arn15, -⟩ := id Va12
  have ne15 : ch3 ≠ ar13 := ne_arr Ec14 (own_w hw 32 rfl) Arn15
  have Fc16 : Fld Z h12 ch3 oz1 "addresses" "[J" .null := ((pf3_43.other W6 (Or.inl ne7)).other W12 (Or.inl ne15))
  have Fc17 : Fld Z h12 ch3 oz1 "arrivals" "[J" (.ref ar13) := (Fc8.other W12 (Or.inl ne15))
  have Zc18 : n0 ≤ h12.size := (Nat.le_trans (Nat.le_trans (Nat.le_trans Z0 K3.1) (Keep.of_wr W6).1) (Keep.of_wr W12).1)
  obtain ⟨cq13, kq13, q13a, q13b, q13c⟩ := isOf hZ e12 Ec14
  obtain ⟨_, _, ⟨T13, Lw13, kw13, nw13⟩, -, X13, ⟨Lc13, hQ13, l13, y13, z13⟩, st13⟩ := X12.virtualBack hx (y := (⟨oz1, "address", "(IJ)V"⟩ : MethodName)) (z := (⟨oz1, "address", "(IJ)V"⟩ : MethodName)) hown (mvT hZ (own_w hw 57 rfl)) (mvT hZ (own_w hw 58 rfl)) (notFace_of_selects (args := #[]) (mvT hZ (own_w hw 60 rfl))) (mvT hZ (own_w hw 60 rfl)) (mvT hZ (own_w hw 59 rfl)) (by decide) (backOf (W := 0) (rmAD0 l Z a0 hw [] ch3 x2 ar13 kz13 (0 : Int64) (0 : Int64) h12 n0 Zc18 Ec14 Fc16 Fc17 Va12) hZ (own_w hw 61 rfl) (own_w hw 33 rfl) (by decide) (by decide)) q13a q13c (g := (mkF m 59 #[rv o, lv x1, .second, lv x2, .second, lv x2, .second, lv x4, .second, iv x5, iv x6, iv (0 : Int32), rv ch3, iv (0 : Int32)] [(.long x2), (.int (0 : Int32)), (.ref ch3)])) rfl (by rw [hml]; rfl) (Steps.refl _) (argsL := [(.int (0 : Int32)), (.long x2)]) (rest := []) (lenOf own_pd3 rfl) rfl (by show 2 * 0 + _ ≤ _; exact Nat.le_of_eq rfl) (hb hby d3_59) (fun _ _ => ⟨rfl, e12, (by decide : 7 + 0 ≤ _), (by decide : 6152 + 0 ≤ _)⟩)
  dsimp only [Pt.U, Pt.locs, Pt.cells, Pt.slots] at X13 l13 y13 z13 st13 hQ13
  subst l13 y13 z13
  obtain ⟨rfl, Nq13, eh13⟩ := hQ13
  have N13 := Fr.app N12 Nq13
  have Fc19 : Fld Z h12 ch3 oz1 "arrivedAts" "[J" (.ref ar23) := ((pf3_32.other W6 (Or.inl ne7)).other W12 (Or.inl ne15))
  have Vc21 : Arv Z h12 ar23 kz23 .long (1024 : Int32) [(.long (0 : Int64)), (.long (0 : Int64)), (.long (0 : Int64))] (.long (0 : Int64)) := ((pf3_38.other W6 (Ne.symm pf3_16)).other W12 (Ne.symm pf3_20))
  obtain ⟨cl22, Ar22, qk22, Sz22, Ng22, Hs22, Gt22⟩ := id Vc21
  have hin22 : ¬ ((0 : Int32) < 0 ∨ cl22.slots.size ≤ ((0 : Int32)).toNatClampNeg) := inb_of Sz22 ⟨by decide, by decide⟩
  obtain ⟨T23, h23, X23, e23, W23, st23⟩ := stJ X13 hx hZ eh13 Ar22 (j := (0 : Int32)) hin22 (g := (mkF m 71 #[rv o, lv x1, .second, lv x2, .second, lv x2, .second, lv x4, .second, iv x5, iv x6, iv (0 : Int32), rv ch3, iv (0 : Int32)] [(.long x4), (.int (0 : Int32)), (.ref ar23)])) rfl rfl (hb hby d3_71)
  have Va23 : Arv Z h23 ar23 kz23 .long (1024 : Int32) [(.long x4), (.long (0 : Int64)), (.long (0 : Int64))] (.long (0 : Int64)) := Arv.set Ar22 qk22 Sz22 Ng22 Hs22 Gt22 rfl W23 0 rfl (Nat.le_of_ble_eq_true rfl)
  have N23 := Fr.snoc X23 N13 pf3_11
  obtain ⟨_, Arn24, -⟩ := id Va23
  have ne24 : ch3 ≠ ar23 := ne_arr (Ec14.wr W23) (own_w hw 32 rfl) Arn24
  have Fc25 : Fld Z h23 ch3 oz1 "deliveryCounts" "[I" (.ref ar33) := (((pf3_33.other W6 (Or.inl ne7)).other W12 (Or.inl ne15)).other W23 (Or.inl ne24))
  have Vc27 : Arv Z h23 ar33 kz33 .int (1024 : Int32) [(.int (0 : Int32)), (.int (0 : Int32)), (.int (0 : Int32))] (.int (0 : Int32)) := (((pf3_39.other W6 (Ne.symm pf3_17)).other W12 (Ne.symm pf3_21)).other W23 (Ne.symm pf3_24))
  obtain ⟨cl28, Ar28, qk28, Sz28, Ng28, Hs28, Gt28⟩ := id Vc27
  have hin28 : ¬ ((0 : Int32) < 0 ∨ cl28.slots.size ≤ ((0 : Int32)).toNatClampNeg) := inb_of Sz28 ⟨by decide, by decide⟩
  obtain ⟨T29, h29, X29, e29, W29, st29⟩ := stI X23 hx hZ e23 Ar28 (j := (0 : Int32)) hin28 (g := (mkF m 81 #[rv o, lv x1, .second, lv x2, .second, lv x2, .second, lv x4, .second, iv x5, iv x6, iv (0 : Int32), rv ch3, iv (0 : Int32)] [(.int x5), (.int (0 : Int32)), (.ref ar33)])) rfl rfl (hb hby d3_81)
  have Va29 : Arv Z h29 ar33 kz33 .int (1024 : Int32) [(.int x5), (.int (0 : Int32)), (.int (0 : Int32))] (.int (0 : Int32)) := Arv.set Ar28 qk28 Sz28 Ng28 Hs28 Gt28 rfl W29 0 rfl (Nat.le_of_ble_eq_true rfl)
  have N29 := Fr.snoc X29 N23 pf3_12
  obtain ⟨_, Arn30, -⟩ := id Va29
  have ne30 : ch3 ≠ ar33 := ne_arr ((Ec14.wr W23).wr W29) (own_w hw 32 rfl) Arn30
  have Fc31 : Fld Z h29 ch3 oz1 "causes" "[I" (.ref ar43) := ((((pf3_34.other W6 (Or.inl ne7)).other W12 (Or.inl ne15)).other W23 (Or.inl ne24)).other W29 (Or.inl ne30))
  have Vc33 : Arv Z h29 ar43 kz43 .int (1024 : Int32) [(.int (0 : Int32)), (.int (0 : Int32)), (.int (0 : Int32))] (.int (0 : Int32)) := ((((pf3_40.other W6 (Ne.symm pf3_18)).other W12 (Ne.symm pf3_22)).other W23 (Ne.symm pf3_25)).other W29 (Ne.symm pf3_27))
  obtain ⟨cl34, Ar34, qk34, Sz34, Ng34, Hs34, Gt34⟩ := id Vc33
  have hin34 : ¬ ((0 : Int32) < 0 ∨ cl34.slots.size ≤ ((0 : Int32)).toNatClampNeg) := inb_of Sz34 ⟨by decide, by decide⟩
  obtain ⟨T35, h35, X35, e35, W35, st35⟩ := stI X29 hx hZ e29 Ar34 (j := (0 : Int32)) hin34 (g := (mkF m 91 #[rv o, lv x1, .second, lv x2, .second, lv x2, .second, lv x4, .second, iv x5, iv x6, iv (0 : Int32), rv ch3, iv (0 : Int32)] [(.int x6), (.int (0 : Int32)), (.ref ar43)])) rfl rfl (hb hby d3_91)
  have Va35 : Arv Z h35 ar43 kz43 .int (1024 : Int32) [(.int x6), (.int (0 : Int32)), (.int (0 : Int32))] (.int (0 : Int32)) := Arv.set Ar34 qk34 Sz34 Ng34 Hs34 Gt34 rfl W35 0 rfl (Nat.le_of_ble_eq_true rfl)
  have N35 := Fr.snoc X35 N29 pf3_13
  obtain ⟨_, Arn36, -⟩ := id Va35
  have ne36 : ch3 ≠ ar43 := ne_arr (((Ec14.wr W23).wr W29).wr W35) (own_w hw 32 rfl) Arn36
  have Fc37 : Fld Z h35 ch3 oz1 "states" "[B" (.ref ar53) := (((((pf3_35.other W6 (Or.inl ne7)).other W12 (Or.inl ne15)).other W23 (Or.inl ne24)).other W29 (Or.inl ne30)).other W35 (Or.inl ne36))
  have Vc39 : Arv Z h35 ar53 kz53 .byte (1024 : Int32) [(.int (0 : Int32)), (.int (0 : Int32)), (.int (0 : Int32))] (.int (0 : Int32)) := (((((pf3_41.other W6 (Ne.symm pf3_19)).other W12 (Ne.symm pf3_23)).other W23 (Ne.symm pf3_26)).other W29 (Ne.symm pf3_28)).other W35 (Ne.symm pf3_29))
  obtain ⟨cl40, Ar40, qk40, Sz40, Ng40, Hs40, Gt40⟩ := id Vc39
  have hin40 : ¬ ((0 : Int32) < 0 ∨ cl40.slots.size ≤ ((0 : Int32)).toNatClampNeg) := inb_of Sz40 ⟨by decide, by decide⟩
  obtain ⟨T41, h41, X41, e41, W41, st41⟩ := stB X35 hx hZ e35 Ar40 (j := (0 : Int32)) hin40 (g := (mkF m 100 #[rv o, lv x1, .second, lv x2, .second, lv x2, .second, lv x4, .second, iv x5, iv x6, iv (0 : Int32), rv ch3, iv (0 : Int32)] [(.int (1 : Int32)), (.int (0 : Int32)), (.ref ar53)])) rfl rfl (hb hby d3_100)
  have Va41 : Arv Z h41 ar53 kz53 .byte (1024 : Int32) [(.int (1 : Int32)), (.int (0 : Int32)), (.int (0 : Int32))] (.int (0 : Int32)) := Arv.set Ar40 qk40 Sz40 Ng40 Hs40 Gt40 (fits_nar_byte _) W41 0 rfl (Nat.le_of_ble_eq_true rfl)
  have N41 := Fr.snoc X41 N35 pf3_14
  obtain ⟨_, Arn42, -⟩ := id Va41
  have ne42 : ch3 ≠ ar53 := ne_arr ((((Ec14.wr W23).wr W29).wr W35).wr W41) (own_w hw 32 rfl) Arn42
  have Fc43 : Fld Z h41 ch3 oz1 "rows" "I" (.int (0 : Int32)) := ((((((pf3_42.other W6 (Or.inl ne7)).other W12 (Or.inl ne15)).other W23 (Or.inl ne24)).other W29 (Or.inl ne30)).other W35 (Or.inl ne36)).other W41 (Or.inl ne42))
  have Ec45 : Exa Z h41 ch3 oz1 := ((((Ec14.wr W23).wr W29).wr W35).wr W41)
  obtain ⟨T46, h46, X46, e46, W46, st46⟩ := own_putR X41 hx hZ hown (own_w hw 68 rfl) e41 Fc43 Ec45 (own_w hw 69 rfl) (own_w hw 32 rfl) (ty := .int) (by decide) rfl rfl (g := (mkF m 109 #[rv o, lv x1, .second, lv x2, .second, lv x2, .second, lv x4, .second, iv x5, iv x6, iv (0 : Int32), rv ch3, iv (0 : Int32)] [(.int (1 : Int32)), (.ref ch3)])) rfl rfl (hb hby d3_109)
  have Fw46 : Fld Z h46 ch3 oz1 "rows" "I" (.int (1 : Int32)) := Fc43.same W46
  have N46 := Fr.snoc X46 N41 pf3_1
  have Fc47 : Fld Z h46 o oz0 "tail" "I" (.int (0 : Int32)) := (((((((pf3_48.other W6 (Or.inl ne_o_ar03)).other W12 (Or.inl ne_o_ar13)).other W23 (Or.inl ne_o_ar23)).other W29 (Or.inl ne_o_ar33)).other W35 (Or.inl ne_o_ar43)).other W41 (Or.inl ne_o_ar53)).other W46 (Or.inl ne_o_ch3))
  obtain ⟨T48, X48, e48, st48⟩ := getF X46 hx hZ hown (host := "") (Or.inl (own_w hw 23 rfl)) Via.refl e46 Fc47 (g := (mkF m 114 #[rv o, lv x1, .second, lv x2, .second, lv x2, .second, lv x4, .second, iv x5, iv x6, iv (0 : Int32), rv ch3, iv (0 : Int32)] [(.ref o), (.ref o)])) rfl rfl (hb hby d3_114)
  have Ec49 : Exa Z h46 o oz0 := ((((((((E_o.keep K3).wr W6).wr W12).wr W23).wr W29).wr W35).wr W41).wr W46)
  obtain ⟨T50, h50, X50, e50, W50, st50⟩ := putF X48 hx hZ hown (host := "") (Or.inl (own_w hw 23 rfl)) Via.refl e48 Fc47 Ec49 (Or.inl (own_w hw 24 rfl)) (own_w hw 1 rfl) (ty := .int) (by decide) rfl rfl (g := (mkF m 119 #[rv o, lv x1, .second, lv x2, .second, lv x2, .second, lv x4, .second, iv x5, iv x6, iv (0 : Int32), rv ch3, iv (0 : Int32)] [(.int (1 : Int32)), (.ref o)])) rfl rfl (hb hby d3_119)
  have Fw50 : Fld Z h50 o oz0 "tail" "I" (.int (1 : Int32)) := Fc47.same W50
  have N50 := Fr.snoc X50 N46 g_o
  have Fc51 : Fld Z h50 o oz0 "size" "I" (.int (0 : Int32)) := ((((((((pf3_49.other W6 (Or.inl ne_o_ar03)).other W12 (Or.inl ne_o_ar13)).other W23 (Or.inl ne_o_ar23)).other W29 (Or.inl ne_o_ar33)).other W35 (Or.inl ne_o_ar43)).other W41 (Or.inl ne_o_ar53)).other W46 (Or.inl ne_o_ch3)).other W50 (Or.inr (slot_ne (Or.inl (own_w hw 71 rfl)) (Or.inl (own_w hw 24 rfl)) (by decide) (t := .int) (t' := .int) (by decide) (by decide))))
  obtain ⟨T52, X52, e52, st52⟩ := getF X50 hx hZ hown (host := "") (Or.inl (own_w hw 70 rfl)) Via.refl e50 Fc51 (g := (mkF m 124 #[rv o, lv x1, .second, lv x2, .second, lv x2, .second, lv x4, .second, iv x5, iv x6, iv (0 : Int32), rv ch3, iv (0 : Int32)] [(.ref o), (.ref o)])) rfl rfl (hb hby d3_124)
  have Ec53 : Exa Z h50 o oz0 := (Ec49.wr W50)
  obtain ⟨T54, h54, X54, e54, W54, st54⟩ := putF X52 hx hZ hown (host := "") (Or.inl (own_w hw 70 rfl)) Via.refl e52 Fc51 Ec53 (Or.inl (own_w hw 71 rfl)) (own_w hw 1 rfl) (ty := .int) (by decide) rfl rfl (g := (mkF m 129 #[rv o, lv x1, .second, lv x2, .second, lv x2, .second, lv x4, .second, iv x5, iv x6, iv (0 : Int32), rv ch3, iv (0 : Int32)] [(.int (1 : Int32)), (.ref o)])) rfl rfl (hb hby d3_129)
  have Fw54 : Fld Z h54 o oz0 "size" "I" (.int (1 : Int32)) := Fc51.same W54
  have N54 := Fr.snoc X54 N50 g_o
  obtain ⟨T55, X55, e55, st55⟩ := getF X54 hx hZ hown (host := "") (Or.inl (own_w hw 70 rfl)) Via.refl e54 Fw54 (g := (mkF m 133 #[rv o, lv x1, .second, lv x2, .second, lv x2, .second, lv x4, .second, iv x5, iv x6, iv (0 : Int32), rv ch3, iv (0 : Int32)] [(.ref o)])) rfl rfl (hb hby d3_133)
  have Fc56 : Fld Z h54 o oz0 "indexBits" "I" (.int (4 : Int32)) := (((((((((pf3_53.other W6 (Or.inl ne_o_ar03)).other W12 (Or.inl ne_o_ar13)).other W23 (Or.inl ne_o_ar23)).other W29 (Or.inl ne_o_ar33)).other W35 (Or.inl ne_o_ar43)).other W41 (Or.inl ne_o_ar53)).other W46 (Or.inl ne_o_ch3)).other W50 (Or.inr (slot_ne (Or.inl (own_w hw 17 rfl)) (Or.inl (own_w hw 24 rfl)) (by decide) (t := .int) (t' := .int) (by decide) (by decide)))).other W54 (Or.inr (slot_ne (Or.inl (own_w hw 17 rfl)) (Or.inl (own_w hw 71 rfl)) (by decide) (t := .int) (t' := .int) (by decide) (by decide))))
  obtain ⟨T57, X57, e57, st57⟩ := getF X55 hx hZ hown (host := "") (Or.inl (own_w hw 16 rfl)) Via.refl e55 Fc56 (g := (mkF m 137 #[rv o, lv x1, .second, lv x2, .second, lv x2, .second, lv x4, .second, iv x5, iv x6, iv (0 : Int32), rv ch3, iv (0 : Int32)] [(.ref o), (.int (1 : Int32))])) rfl rfl (hb hby d3_137)
  have Zc59 : n0 ≤ h54.size := (Nat.le_trans (Nat.le_trans (Nat.le_trans (Nat.le_trans (Nat.le_trans (Nat.le_trans (Nat.le_trans Zc18 (Keep.of_wr W23).1) (Keep.of_wr W29).1) (Keep.of_wr W35).1) (Keep.of_wr W41).1) (Keep.of_wr W46).1) (Keep.of_wr W50).1) (Keep.of_wr W54).1)
  obtain ⟨_, _, ⟨T58, Lw58, kw58, nw58⟩, -, X58, ⟨Lc58, hQ58, l58, y58, z58⟩, st58⟩ := Jvm.LawKit.callS X57 hx (y := (⟨oz0, "maxLoad", "(I)I"⟩ : MethodName)) hown (mvT hZ (own_w hw 72 rfl)) (mvT hZ (own_w hw 73 rfl)) (mvT hZ (own_w hw 2 rfl)) (mvT hZ (own_w hw 74 rfl)) (by decide) (backOf (W := 1) (rm7 l Z a0 hw []  h54 n0 Zc59 ) hZ (own_w hw 74 rfl) (own_w hw 2 rfl) (by decide) (by decide)) (g := (mkF m 140 #[rv o, lv x1, .second, lv x2, .second, lv x2, .second, lv x4, .second, iv x5, iv x6, iv (0 : Int32), rv ch3, iv (0 : Int32)] [(.int (4 : Int32)), (.int (1 : Int32))])) rfl (by rw [hml]; rfl) (argsL := [(.int (4 : Int32))]) (rest := [(.int (1 : Int32))]) (lenOf own_pd4 rfl) rfl (by show 2 * 0 + _ ≤ _; exact Nat.le_of_eq rfl) (hb hby d3_140) (fun _ _ => ⟨rfl, e57, (by decide : 7 + 0 ≤ _), (by decide : 6152 + 0 ≤ _)⟩)
  dsimp only [Pt.U, Pt.locs, Pt.cells, Pt.slots] at X58 l58 y58 z58 st58 hQ58
  subst l58 y58 z58
  obtain ⟨rfl, Nq58, eh58⟩ := hQ58
  have N58 := Fr.app N54 Nq58
  have Ec61 : Exa Z h54 o oz0 := (Ec53.wr W54)
  have Fc62 : Fld Z h54 o oz0 "index" "[I" (.ref ix) := (((((((((pf3_52.other W6 (Or.inl ne_o_ar03)).other W12 (Or.inl ne_o_ar13)).other W23 (Or.inl ne_o_ar23)).other W29 (Or.inl ne_o_ar33)).other W35 (Or.inl ne_o_ar43)).other W41 (Or.inl ne_o_ar53)).other W46 (Or.inl ne_o_ch3)).other W50 (Or.inr (slot_ne (Or.inl (own_w hw 15 rfl)) (Or.inl (own_w hw 24 rfl)) (by decide) (t := (.array .int)) (t' := .int) (by decide) (by decide)))).other W54 (Or.inr (slot_ne (Or.inl (own_w hw 15 rfl)) (Or.inl (own_w hw 71 rfl)) (by decide) (t := (.array .int)) (t' := .int) (by decide) (by decide))))
  obtain ⟨_, _, _, Arn63, -⟩ := id X_ix
  have ne63 : o ≠ ix := ne_arr E_o (own_w hw 1 rfl) Arn63
  have Xc64 : own_Ix Z h54 ix 0 := ((((((((((X_ix.keep K3 (ninS (Ne.symm ne63) (ninS (Ne.symm ne_cs_ix) nin0))).other W6 ne_ix_ar03).other W12 ne_ix_ar13).other W23 ne_ix_ar23).other W29 ne_ix_ar33).other W35 ne_ix_ar43).other W41 ne_ix_ar53).other W46 ne_ix_ch3).other W50 (Ne.symm ne63)).other W54 (Ne.symm ne63))
  obtain ⟨cq60, q60, q60'⟩ := Ec61.cell
  obtain ⟨_, _, ⟨T60, Lw60, kw60, nw60⟩, -, X60, ⟨Lc60, hQ60, l60, y60, z60⟩, st60⟩ := X58.privateBack hx (y := (⟨oz0, "insert", "(JI)V"⟩ : MethodName)) hown (mvT hZ (own_w hw 75 rfl)) (mvT hZ (own_w hw 76 rfl)) (own_selp hZ (own_w hw 1 rfl) (own_w hw 77 rfl) (own_w hw 76 rfl) (by decide)) (Cond.privateMethod_at (mvP hZ (own_w hw 77 rfl) (args := #[]))) (mvT hZ (own_w hw 78 rfl)) (by decide) (backOf (W := 0) (rmIN0 l Z a0 hw [] o x1 ix h54 n0 Zc59 Ec61 g_ix Fc62 Fc56 Xc64) hZ (own_w hw 78 rfl) (own_w hw 2 rfl) (by decide) (by decide)) (g := (mkF m 163 #[rv o, lv x1, .second, lv x2, .second, lv x2, .second, lv x4, .second, iv x5, iv x6, iv (0 : Int32), rv ch3, iv (0 : Int32)] [(.int (0 : Int32)), (.long x1), (.ref o)])) rfl (by rw [hml]; rfl) (Steps.refl _) (a := o) (by rw [eh58]; exact q60) q60' (argsL := [(.long x1), (.int (0 : Int32))]) (rest := []) (lenOf own_pd5 rfl) rfl (by show 2 * 0 + _ ≤ _; exact Nat.le_of_eq rfl) (hb hby d3_163) (fun _ _ => ⟨rfl, eh58, (by decide : 7 + 0 ≤ _), (by decide : 6152 + 0 ≤ _)⟩)
  dsimp only [Pt.U, Pt.locs, Pt.cells, Pt.slots] at X60 l60 y60 z60 st60 hQ60
  subst l60 y60 z60
  obtain ⟨rfl, Nq60, K60, pf60_0⟩ := hQ60
  have N60 := Fr.app N58 Nq60
  have pre65 : ∀ tz, oS p e below T60 m 166 #[rv o, lv x1, .second, lv x2, .second, lv x2, .second, lv x4, .second, iv x5, iv x6, iv (0 : Int32), rv ch3, iv (0 : Int32)] [] tz → oS p e below s₁ m 0 #[rv o, lv x1, .second, lv x2, .second, lv x2, .second, lv x4, .second, iv x5, iv x6, .unset, .unset, .unset] [] tz := fun tz kt => by
    show oS p e below s₁ m 0 #[rv o, lv x1, .second, lv x2, .second, lv x2, .second, lv x4, .second, iv x5, iv x6, .unset, .unset, .unset] [] _
    refine XS.aloadN X0.here hx rfl (hb hby d3_0) rfl rfl ?_
    show oS p e below s₁ m 1 #[rv o, lv x1, .second, lv x2, .second, lv x2, .second, lv x4, .second, iv x5, iv x6, .unset, .unset, .unset] [(.ref o)] _
    refine st1 _ ?_
    refine X1.ldcInt hx hown (mvT hZ (own_w hw 25 rfl)) (g := (mkF m 4 #[rv o, lv x1, .second, lv x2, .second, lv x2, .second, lv x4, .second, iv x5, iv x6, .unset, .unset, .unset] [(.int (0 : Int32))])) rfl (hb hby d3_4) _ ?_
    refine XS.icmpYes X1.here hx rfl (pc0 := 6) (pc' := 13) rfl (hb hby d3_6) rfl (feq (by decide : ¬ ((0 : Int32) = (2147482623 : Int32)))).2 (by decide) (by decide) ?_
    refine XS.aloadN X1.here hx rfl (hb hby d3_13) rfl rfl ?_
    show oS p e below T1 m 14 #[rv o, lv x1, .second, lv x2, .second, lv x2, .second, lv x4, .second, iv x5, iv x6, .unset, .unset, .unset] [(.ref o)] _
    refine st2 _ ?_
    refine XS.istore X2.here hx rfl (hb hby d3_17) rfl (l' := #[rv o, lv x1, .second, lv x2, .second, lv x2, .second, lv x4, .second, iv x5, iv x6, iv (0 : Int32), .unset, .unset]) rfl ?_
    refine XS.aloadN X2.here hx rfl (hb hby d3_19) rfl rfl ?_
    refine XS.iload X2.here hx rfl (hb hby d3_20) rfl ?_
    show oS p e below T2 m 22 #[rv o, lv x1, .second, lv x2, .second, lv x2, .second, lv x4, .second, iv x5, iv x6, iv (0 : Int32), .unset, .unset] [(.int (0 : Int32)), (.ref o)] _
    refine st3.trans ?_
    refine XS.astore X3.here hx rfl (hb hby d3_25) rfl rfl (l' := #[rv o, lv x1, .second, lv x2, .second, lv x2, .second, lv x4, .second, iv x5, iv x6, iv (0 : Int32), rv ch3, .unset]) rfl ?_
    refine XS.iload X3.here hx rfl (hb hby d3_27) rfl ?_
    refine XS.sipush X3.here hx rfl (hb hby d3_29) ?_
    show oS p e below T3 m 32 #[rv o, lv x1, .second, lv x2, .second, lv x2, .second, lv x4, .second, iv x5, iv x6, iv (0 : Int32), rv ch3, .unset] [(.int (1023 : Int32)), (.int (0 : Int32))] _
    refine XS.iand X3.here hx rfl (hb hby d3_32) rfl ?_
    show oS p e below T3 m 33 #[rv o, lv x1, .second, lv x2, .second, lv x2, .second, lv x4, .second, iv x5, iv x6, iv (0 : Int32), rv ch3, .unset] [(.int (0 : Int32))] _
    refine XS.istore X3.here hx rfl (hb hby d3_33) rfl (l' := #[rv o, lv x1, .second, lv x2, .second, lv x2, .second, lv x4, .second, iv x5, iv x6, iv (0 : Int32), rv ch3, iv (0 : Int32)]) rfl ?_
    refine XS.aload X3.here hx rfl (hb hby d3_35) rfl rfl ?_
    refine own_getR X3 hx hZ hown (own_w hw 55 rfl) rfl pf3_30 (g := (mkF m 37 #[rv o, lv x1, .second, lv x2, .second, lv x2, .second, lv x4, .second, iv x5, iv x6, iv (0 : Int32), rv ch3, iv (0 : Int32)] [(.ref ch3)])) rfl rfl (hb hby d3_37) _ ?_
    refine XS.iload X3.here hx rfl (hb hby d3_40) rfl ?_
    show oS p e below T3 m 42 #[rv o, lv x1, .second, lv x2, .second, lv x2, .second, lv x4, .second, iv x5, iv x6, iv (0 : Int32), rv ch3, iv (0 : Int32)] [(.int (0 : Int32)), (.ref ar03)] _
    refine XS.lloadN X3.here hx rfl (hb hby d3_42) rfl ?_
    show oS p e below T3 m 43 #[rv o, lv x1, .second, lv x2, .second, lv x2, .second, lv x4, .second, iv x5, iv x6, iv (0 : Int32), rv ch3, iv (0 : Int32)] [(.long x1), (.int (0 : Int32)), (.ref ar03)] _
    refine st6 _ ?_
    refine XS.aload X6.here hx rfl (hb hby d3_44) rfl rfl ?_
    refine own_getR X6 hx hZ hown (own_w hw 56 rfl) e6 Fc8 (g := (mkF m 46 #[rv o, lv x1, .second, lv x2, .second, lv x2, .second, lv x4, .second, iv x5, iv x6, iv (0 : Int32), rv ch3, iv (0 : Int32)] [(.ref ch3)])) rfl rfl (hb hby d3_46) _ ?_
    refine XS.iload X6.here hx rfl (hb hby d3_49) rfl ?_
    show oS p e below T6 m 51 #[rv o, lv x1, .second, lv x2, .second, lv x2, .second, lv x4, .second, iv x5, iv x6, iv (0 : Int32), rv ch3, iv (0 : Int32)] [(.int (0 : Int32)), (.ref ar13)] _
    refine XS.lloadN X6.here hx rfl (hb hby d3_51) rfl ?_
    show oS p e below T6 m 52 #[rv o, lv x1, .second, lv x2, .second, lv x2, .second, lv x4, .second, iv x5, iv x6, iv (0 : Int32), rv ch3, iv (0 : Int32)] [(.long x2), (.int (0 : Int32)), (.ref ar13)] _
    refine st12 _ ?_
    refine XS.aload X12.here hx rfl (hb hby d3_53) rfl rfl ?_
    refine XS.iload X12.here hx rfl (hb hby d3_55) rfl ?_
    refine XS.lload X12.here hx rfl (hb hby d3_57) rfl ?_
    show oS p e below T12 m 59 #[rv o, lv x1, .second, lv x2, .second, lv x2, .second, lv x4, .second, iv x5, iv x6, iv (0 : Int32), rv ch3, iv (0 : Int32)] [(.long x2), (.int (0 : Int32)), (.ref ch3)] _
    refine st13.trans ?_
    refine XS.aload X13.here hx rfl (hb hby d3_62) rfl rfl ?_
    refine own_getR X13 hx hZ hown (own_w hw 64 rfl) eh13 Fc19 (g := (mkF m 64 #[rv o, lv x1, .second, lv x2, .second, lv x2, .second, lv x4, .second, iv x5, iv x6, iv (0 : Int32), rv ch3, iv (0 : Int32)] [(.ref ch3)])) rfl rfl (hb hby d3_64) _ ?_
    refine XS.iload X13.here hx rfl (hb hby d3_67) rfl ?_
    show oS p e below T13 m 69 #[rv o, lv x1, .second, lv x2, .second, lv x2, .second, lv x4, .second, iv x5, iv x6, iv (0 : Int32), rv ch3, iv (0 : Int32)] [(.int (0 : Int32)), (.ref ar23)] _
    refine XS.lload X13.here hx rfl (hb hby d3_69) rfl ?_
    show oS p e below T13 m 71 #[rv o, lv x1, .second, lv x2, .second, lv x2, .second, lv x4, .second, iv x5, iv x6, iv (0 : Int32), rv ch3, iv (0 : Int32)] [(.long x4), (.int (0 : Int32)), (.ref ar23)] _
    refine st23 _ ?_
    refine XS.aload X23.here hx rfl (hb hby d3_72) rfl rfl ?_
    refine own_getR X23 hx hZ hown (own_w hw 65 rfl) e23 Fc25 (g := (mkF m 74 #[rv o, lv x1, .second, lv x2, .second, lv x2, .second, lv x4, .second, iv x5, iv x6, iv (0 : Int32), rv ch3, iv (0 : Int32)] [(.ref ch3)])) rfl rfl (hb hby d3_74) _ ?_
    refine XS.iload X23.here hx rfl (hb hby d3_77) rfl ?_
    show oS p e below T23 m 79 #[rv o, lv x1, .second, lv x2, .second, lv x2, .second, lv x4, .second, iv x5, iv x6, iv (0 : Int32), rv ch3, iv (0 : Int32)] [(.int (0 : Int32)), (.ref ar33)] _
    refine XS.iload X23.here hx rfl (hb hby d3_79) rfl ?_
    show oS p e below T23 m 81 #[rv o, lv x1, .second, lv x2, .second, lv x2, .second, lv x4, .second, iv x5, iv x6, iv (0 : Int32), rv ch3, iv (0 : Int32)] [(.int x5), (.int (0 : Int32)), (.ref ar33)] _
    refine st29 _ ?_
    refine XS.aload X29.here hx rfl (hb hby d3_82) rfl rfl ?_
    refine own_getR X29 hx hZ hown (own_w hw 66 rfl) e29 Fc31 (g := (mkF m 84 #[rv o, lv x1, .second, lv x2, .second, lv x2, .second, lv x4, .second, iv x5, iv x6, iv (0 : Int32), rv ch3, iv (0 : Int32)] [(.ref ch3)])) rfl rfl (hb hby d3_84) _ ?_
    refine XS.iload X29.here hx rfl (hb hby d3_87) rfl ?_
    show oS p e below T29 m 89 #[rv o, lv x1, .second, lv x2, .second, lv x2, .second, lv x4, .second, iv x5, iv x6, iv (0 : Int32), rv ch3, iv (0 : Int32)] [(.int (0 : Int32)), (.ref ar43)] _
    refine XS.iload X29.here hx rfl (hb hby d3_89) rfl ?_
    show oS p e below T29 m 91 #[rv o, lv x1, .second, lv x2, .second, lv x2, .second, lv x4, .second, iv x5, iv x6, iv (0 : Int32), rv ch3, iv (0 : Int32)] [(.int x6), (.int (0 : Int32)), (.ref ar43)] _
    refine st35 _ ?_
    refine XS.aload X35.here hx rfl (hb hby d3_92) rfl rfl ?_
    refine own_getR X35 hx hZ hown (own_w hw 67 rfl) e35 Fc37 (g := (mkF m 94 #[rv o, lv x1, .second, lv x2, .second, lv x2, .second, lv x4, .second, iv x5, iv x6, iv (0 : Int32), rv ch3, iv (0 : Int32)] [(.ref ch3)])) rfl rfl (hb hby d3_94) _ ?_
    refine XS.iload X35.here hx rfl (hb hby d3_97) rfl ?_
    show oS p e below T35 m 99 #[rv o, lv x1, .second, lv x2, .second, lv x2, .second, lv x4, .second, iv x5, iv x6, iv (0 : Int32), rv ch3, iv (0 : Int32)] [(.int (0 : Int32)), (.ref ar53)] _
    refine XS.iconst X35.here hx rfl (hb hby d3_99) ?_
    show oS p e below T35 m 100 #[rv o, lv x1, .second, lv x2, .second, lv x2, .second, lv x4, .second, iv x5, iv x6, iv (0 : Int32), rv ch3, iv (0 : Int32)] [(.int (1 : Int32)), (.int (0 : Int32)), (.ref ar53)] _
    refine st41 _ ?_
    refine XS.aload X41.here hx rfl (hb hby d3_101) rfl rfl ?_
    refine XS.dup X41.here hx rfl (hb hby d3_103) rfl rfl ?_
    refine own_getR X41 hx hZ hown (own_w hw 68 rfl) e41 Fc43 (g := (mkF m 104 #[rv o, lv x1, .second, lv x2, .second, lv x2, .second, lv x4, .second, iv x5, iv x6, iv (0 : Int32), rv ch3, iv (0 : Int32)] [(.ref ch3), (.ref ch3)])) rfl rfl (hb hby d3_104) _ ?_
    show oS p e below T41 m 107 #[rv o, lv x1, .second, lv x2, .second, lv x2, .second, lv x4, .second, iv x5, iv x6, iv (0 : Int32), rv ch3, iv (0 : Int32)] [(.int (0 : Int32)), (.ref ch3)] _
    refine XS.iconst X41.here hx rfl (hb hby d3_107) ?_
    refine XS.iadd X41.here hx rfl (hb hby d3_108) rfl ?_
    show oS p e below T41 m 109 #[rv o, lv x1, .second, lv x2, .second, lv x2, .second, lv x4, .second, iv x5, iv x6, iv (0 : Int32), rv ch3, iv (0 : Int32)] [(.int (1 : Int32)), (.ref ch3)] _
    refine st46 _ ?_
    refine XS.aloadN X46.here hx rfl (hb hby d3_112) rfl rfl ?_
    refine XS.dup X46.here hx rfl (hb hby d3_113) rfl rfl ?_
    show oS p e below T46 m 114 #[rv o, lv x1, .second, lv x2, .second, lv x2, .second, lv x4, .second, iv x5, iv x6, iv (0 : Int32), rv ch3, iv (0 : Int32)] [(.ref o), (.ref o)] _
    refine st48 _ ?_
    refine XS.iconst X48.here hx rfl (hb hby d3_117) ?_
    refine XS.iadd X48.here hx rfl (hb hby d3_118) rfl ?_
    show oS p e below T48 m 119 #[rv o, lv x1, .second, lv x2, .second, lv x2, .second, lv x4, .second, iv x5, iv x6, iv (0 : Int32), rv ch3, iv (0 : Int32)] [(.int (1 : Int32)), (.ref o)] _
    refine st50 _ ?_
    refine XS.aloadN X50.here hx rfl (hb hby d3_122) rfl rfl ?_
    refine XS.dup X50.here hx rfl (hb hby d3_123) rfl rfl ?_
    show oS p e below T50 m 124 #[rv o, lv x1, .second, lv x2, .second, lv x2, .second, lv x4, .second, iv x5, iv x6, iv (0 : Int32), rv ch3, iv (0 : Int32)] [(.ref o), (.ref o)] _
    refine st52 _ ?_
    refine XS.iconst X52.here hx rfl (hb hby d3_127) ?_
    refine XS.iadd X52.here hx rfl (hb hby d3_128) rfl ?_
    show oS p e below T52 m 129 #[rv o, lv x1, .second, lv x2, .second, lv x2, .second, lv x4, .second, iv x5, iv x6, iv (0 : Int32), rv ch3, iv (0 : Int32)] [(.int (1 : Int32)), (.ref o)] _
    refine st54 _ ?_
    refine XS.aloadN X54.here hx rfl (hb hby d3_132) rfl rfl ?_
    show oS p e below T54 m 133 #[rv o, lv x1, .second, lv x2, .second, lv x2, .second, lv x4, .second, iv x5, iv x6, iv (0 : Int32), rv ch3, iv (0 : Int32)] [(.ref o)] _
    refine st55 _ ?_
    refine XS.aloadN X55.here hx rfl (hb hby d3_136) rfl rfl ?_
    show oS p e below T55 m 137 #[rv o, lv x1, .second, lv x2, .second, lv x2, .second, lv x4, .second, iv x5, iv x6, iv (0 : Int32), rv ch3, iv (0 : Int32)] [(.ref o), (.int (1 : Int32))] _
    refine st57 _ ?_
    show oS p e below T57 m 140 #[rv o, lv x1, .second, lv x2, .second, lv x2, .second, lv x4, .second, iv x5, iv x6, iv (0 : Int32), rv ch3, iv (0 : Int32)] [(.int (4 : Int32)), (.int (1 : Int32))] _
    refine st58 _ ?_
    refine XS.icmpYes X58.here hx rfl (pc0 := 143) (pc' := 159) rfl (hb hby d3_143) rfl (flt (by decide : ¬ ((12 : Int32) < (1 : Int32)))).2.2.2 (by decide) (by decide) ?_
    refine XS.aloadN X58.here hx rfl (hb hby d3_159) rfl rfl ?_
    refine XS.lloadN X58.here hx rfl (hb hby d3_160) rfl ?_
    show oS p e below T58 m 161 #[rv o, lv x1, .second, lv x2, .second, lv x2, .second, lv x4, .second, iv x5, iv x6, iv (0 : Int32), rv ch3, iv (0 : Int32)] [(.long x1), (.ref o)] _
    refine XS.iload X58.here hx rfl (hb hby d3_161) rfl ?_
    show oS p e below T58 m 163 #[rv o, lv x1, .second, lv x2, .second, lv x2, .second, lv x4, .second, iv x5, iv x6, iv (0 : Int32), rv ch3, iv (0 : Int32)] [(.int (0 : Int32)), (.long x1), (.ref o)] _
    refine st60.trans ?_
    exact kt
  have KP66 : Keep h0 T60.heap [o, cs, ix] := ((((((((((((Keep.refl h0 [o, cs, ix]).trans K3 (allS (Or.inl (List.mem_of_getElem? (i := 0) rfl)) (allS (Or.inl (List.mem_of_getElem? (i := 1) rfl)) all0))).wr W6 (Or.inr (Nat.le_trans (Keep.refl h0 [o, cs, ix]).1 pf3_3))).wr W12 (Or.inr (Nat.le_trans (Keep.refl h0 [o, cs, ix]).1 pf3_4))).wr W23 (Or.inr (Nat.le_trans (Keep.refl h0 [o, cs, ix]).1 pf3_5))).wr W29 (Or.inr (Nat.le_trans (Keep.refl h0 [o, cs, ix]).1 pf3_6))).wr W35 (Or.inr (Nat.le_trans (Keep.refl h0 [o, cs, ix]).1 pf3_7))).wr W41 (Or.inr (Nat.le_trans (Keep.refl h0 [o, cs, ix]).1 pf3_8))).wr W46 (Or.inr (Nat.le_trans (Keep.refl h0 [o, cs, ix]).1 pf3_0))).wr W50 (Or.inl (List.mem_of_getElem? (i := 0) rfl))).wr W54 (Or.inl (List.mem_of_getElem? (i := 0) rfl))).trans K60 (allS (Or.inl (List.mem_of_getElem? (i := 2) rfl)) all0))
  have Ec67 : Exa Z T60.heap ch3 oz1 := ((((Ec45.wr W46).wr W50).wr W54).keep K60)
  have Fc68 : Fld Z T60.heap o oz0 "chunks" oz2 (.ref cs) := ((((((((((pf3_44.other W6 (Or.inl ne_o_ar03)).other W12 (Or.inl ne_o_ar13)).other W23 (Or.inl ne_o_ar23)).other W29 (Or.inl ne_o_ar33)).other W35 (Or.inl ne_o_ar43)).other W41 (Or.inl ne_o_ar53)).other W46 (Or.inl ne_o_ch3)).other W50 (Or.inr (slot_ne (Or.inl (own_w hw 12 rfl)) (Or.inl (own_w hw 24 rfl)) (by decide) (t := (.array (.object oz1))) (t' := .int) (by decide) (by decide)))).other W54 (Or.inr (slot_ne (Or.inl (own_w hw 12 rfl)) (Or.inl (own_w hw 71 rfl)) (by decide) (t := (.array (.object oz1))) (t' := .int) (by decide) (by decide)))).keep K60 (ninS ne63 nin0))
  have Fc69 : Fld Z T60.heap o oz0 "index" "[I" (.ref ix) := (Fc62.keep K60 (ninS ne63 nin0))
  have Fc70 : Fld Z T60.heap o oz0 "indexBits" "I" (.int (4 : Int32)) := (Fc56.keep K60 (ninS ne63 nin0))
  have Fc71 : Fld Z T60.heap o oz0 "tail" "I" (.int (1 : Int32)) := ((Fw50.other W54 (Or.inr (slot_ne (Or.inl (own_w hw 24 rfl)) (Or.inl (own_w hw 71 rfl)) (by decide) (t := .int) (t' := .int) (by decide) (by decide)))).keep K60 (ninS ne63 nin0))
  have Fc72 : Fld Z T60.heap o oz0 "size" "I" (.int (1 : Int32)) := (Fw54.keep K60 (ninS ne63 nin0))
  have Fc73 : Fld Z T60.heap o oz0 "firstChunk" "I" (.int (0 : Int32)) := ((((((((((pf3_45.other W6 (Or.inl ne_o_ar03)).other W12 (Or.inl ne_o_ar13)).other W23 (Or.inl ne_o_ar23)).other W29 (Or.inl ne_o_ar33)).other W35 (Or.inl ne_o_ar43)).other W41 (Or.inl ne_o_ar53)).other W46 (Or.inl ne_o_ch3)).other W50 (Or.inr (slot_ne (Or.inl (own_w hw 31 rfl)) (Or.inl (own_w hw 24 rfl)) (by decide) (t := .int) (t' := .int) (by decide) (by decide)))).other W54 (Or.inr (slot_ne (Or.inl (own_w hw 31 rfl)) (Or.inl (own_w hw 71 rfl)) (by decide) (t := .int) (t' := .int) (by decide) (by decide)))).keep K60 (ninS ne63 nin0))
  have Fc74 : Fld Z T60.heap o oz0 "heldChunks" "I" (.int (1 : Int32)) := ((((((((((pf3_46.other W6 (Or.inl ne_o_ar03)).other W12 (Or.inl ne_o_ar13)).other W23 (Or.inl ne_o_ar23)).other W29 (Or.inl ne_o_ar33)).other W35 (Or.inl ne_o_ar43)).other W41 (Or.inl ne_o_ar53)).other W46 (Or.inl ne_o_ch3)).other W50 (Or.inr (slot_ne (Or.inl (own_w hw 54 rfl)) (Or.inl (own_w hw 24 rfl)) (by decide) (t := .int) (t' := .int) (by decide) (by decide)))).other W54 (Or.inr (slot_ne (Or.inl (own_w hw 54 rfl)) (Or.inl (own_w hw 71 rfl)) (by decide) (t := .int) (t' := .int) (by decide) (by decide)))).keep K60 (ninS ne63 nin0))
  have Fc75 : Fld Z T60.heap o oz0 "head" "I" (.int (0 : Int32)) := ((((((((((pf3_50.other W6 (Or.inl ne_o_ar03)).other W12 (Or.inl ne_o_ar13)).other W23 (Or.inl ne_o_ar23)).other W29 (Or.inl ne_o_ar33)).other W35 (Or.inl ne_o_ar43)).other W41 (Or.inl ne_o_ar53)).other W46 (Or.inl ne_o_ch3)).other W50 (Or.inr (slot_ne (Or.inl (own_w hw 111 rfl)) (Or.inl (own_w hw 24 rfl)) (by decide) (t := .int) (t' := .int) (by decide) (by decide)))).other W54 (Or.inr (slot_ne (Or.inl (own_w hw 111 rfl)) (Or.inl (own_w hw 71 rfl)) (by decide) (t := .int) (t' := .int) (by decide) (by decide)))).keep K60 (ninS ne63 nin0))
  have Fc76 : Fld Z T60.heap o oz0 "availableFrom" "I" (.int (0 : Int32)) := ((((((((((pf3_51.other W6 (Or.inl ne_o_ar03)).other W12 (Or.inl ne_o_ar13)).other W23 (Or.inl ne_o_ar23)).other W29 (Or.inl ne_o_ar33)).other W35 (Or.inl ne_o_ar43)).other W41 (Or.inl ne_o_ar53)).other W46 (Or.inl ne_o_ch3)).other W50 (Or.inr (slot_ne (Or.inl (own_w hw 105 rfl)) (Or.inl (own_w hw 24 rfl)) (by decide) (t := .int) (t' := .int) (by decide) (by decide)))).other W54 (Or.inr (slot_ne (Or.inl (own_w hw 105 rfl)) (Or.inl (own_w hw 71 rfl)) (by decide) (t := .int) (t' := .int) (by decide) (by decide)))).keep K60 (ninS ne63 nin0))
  obtain ⟨_, Arn77, -⟩ := id pf3_47
  have ne77 : o ≠ cs := ne_arr (E_o.keep K3) (own_w hw 1 rfl) Arn77
  have Vc78 : Arv Z T60.heap cs kc (.object oz1) (1 : Int32) [(.ref ch3)] .null := ((((((((((pf3_47.other W6 ne_cs_ar03).other W12 ne_cs_ar13).other W23 ne_cs_ar23).other W29 ne_cs_ar33).other W35 ne_cs_ar43).other W41 ne_cs_ar53).other W46 ne_cs_ch3).other W50 (Ne.symm ne77)).other W54 (Ne.symm ne77)).keep K60 (ninS ne_cs_ix nin0))
  have Fc79 : Fld Z T60.heap ch3 oz1 "rows" "I" (.int (1 : Int32)) := (((Fw46.other W50 (Or.inl (Ne.symm ne_o_ch3))).other W54 (Or.inl (Ne.symm ne_o_ch3))).keep K60 (ninS (Ne.symm ne_ix_ch3) nin0))
  have Fc80 : Fld Z T60.heap ch3 oz1 "addresses" "[J" .null := ((((((((Fc16.other W23 (Or.inl ne24)).other W29 (Or.inl ne30)).other W35 (Or.inl ne36)).other W41 (Or.inl ne42)).other W46 (Or.inr (slot_ne (Or.inl (own_w hw 63 rfl)) (Or.inl (own_w hw 69 rfl)) (by decide) (t := (.array .long)) (t' := .int) (by decide) (by decide)))).other W50 (Or.inl (Ne.symm ne_o_ch3))).other W54 (Or.inl (Ne.symm ne_o_ch3))).keep K60 (ninS (Ne.symm ne_ix_ch3) nin0))
  have Fc81 : Fld Z T60.heap ch3 oz1 "ids" "[J" (.ref ar03) := ((((((((((pf3_30.other W6 (Or.inl ne7)).other W12 (Or.inl ne15)).other W23 (Or.inl ne24)).other W29 (Or.inl ne30)).other W35 (Or.inl ne36)).other W41 (Or.inl ne42)).other W46 (Or.inr (slot_ne (Or.inr (own_w hw 40 rfl)) (Or.inl (own_w hw 69 rfl)) (by decide) (t := (.array .long)) (t' := .int) (by decide) (by decide)))).other W50 (Or.inl (Ne.symm ne_o_ch3))).other W54 (Or.inl (Ne.symm ne_o_ch3))).keep K60 (ninS (Ne.symm ne_ix_ch3) nin0))
  have Fc82 : Fld Z T60.heap ch3 oz1 "arrivals" "[J" (.ref ar13) := ((((((((Fc17.other W23 (Or.inl ne24)).other W29 (Or.inl ne30)).other W35 (Or.inl ne36)).other W41 (Or.inl ne42)).other W46 (Or.inr (slot_ne (Or.inr (own_w hw 42 rfl)) (Or.inl (own_w hw 69 rfl)) (by decide) (t := (.array .long)) (t' := .int) (by decide) (by decide)))).other W50 (Or.inl (Ne.symm ne_o_ch3))).other W54 (Or.inl (Ne.symm ne_o_ch3))).keep K60 (ninS (Ne.symm ne_ix_ch3) nin0))
  have Fc83 : Fld Z T60.heap ch3 oz1 "arrivedAts" "[J" (.ref ar23) := ((((((((Fc19.other W23 (Or.inl ne24)).other W29 (Or.inl ne30)).other W35 (Or.inl ne36)).other W41 (Or.inl ne42)).other W46 (Or.inr (slot_ne (Or.inr (own_w hw 44 rfl)) (Or.inl (own_w hw 69 rfl)) (by decide) (t := (.array .long)) (t' := .int) (by decide) (by decide)))).other W50 (Or.inl (Ne.symm ne_o_ch3))).other W54 (Or.inl (Ne.symm ne_o_ch3))).keep K60 (ninS (Ne.symm ne_ix_ch3) nin0))
  have Fc84 : Fld Z T60.heap ch3 oz1 "deliveryCounts" "[I" (.ref ar33) := (((((((Fc25.other W29 (Or.inl ne30)).other W35 (Or.inl ne36)).other W41 (Or.inl ne42)).other W46 (Or.inr (slot_ne (Or.inr (own_w hw 46 rfl)) (Or.inl (own_w hw 69 rfl)) (by decide) (t := (.array .int)) (t' := .int) (by decide) (by decide)))).other W50 (Or.inl (Ne.symm ne_o_ch3))).other W54 (Or.inl (Ne.symm ne_o_ch3))).keep K60 (ninS (Ne.symm ne_ix_ch3) nin0))
  have Fc85 : Fld Z T60.heap ch3 oz1 "causes" "[I" (.ref ar43) := ((((((Fc31.other W35 (Or.inl ne36)).other W41 (Or.inl ne42)).other W46 (Or.inr (slot_ne (Or.inr (own_w hw 48 rfl)) (Or.inl (own_w hw 69 rfl)) (by decide) (t := (.array .int)) (t' := .int) (by decide) (by decide)))).other W50 (Or.inl (Ne.symm ne_o_ch3))).other W54 (Or.inl (Ne.symm ne_o_ch3))).keep K60 (ninS (Ne.symm ne_ix_ch3) nin0))
  have Fc86 : Fld Z T60.heap ch3 oz1 "states" "[B" (.ref ar53) := (((((Fc37.other W41 (Or.inl ne42)).other W46 (Or.inr (slot_ne (Or.inr (own_w hw 51 rfl)) (Or.inl (own_w hw 69 rfl)) (by decide) (t := (.array .byte)) (t' := .int) (by decide) (by decide)))).other W50 (Or.inl (Ne.symm ne_o_ch3))).other W54 (Or.inl (Ne.symm ne_o_ch3))).keep K60 (ninS (Ne.symm ne_ix_ch3) nin0))
  have Vc87 : Arv Z T60.heap ar03 kz03 .long (1024 : Int32) [(.long x1), (.long (0 : Int64)), (.long (0 : Int64))] (.long (0 : Int64)) := (((((((((Va6.other W12 pf3_15).other W23 pf3_16).other W29 pf3_17).other W35 pf3_18).other W41 pf3_19).other W46 (Ne.symm ne7)).other W50 (Ne.symm ne_o_ar03)).other W54 (Ne.symm ne_o_ar03)).keep K60 (ninS (Ne.symm ne_ix_ar03) nin0))
  have Vc88 : Arv Z T60.heap ar13 kz13 .long (1024 : Int32) [(.long x2), (.long (0 : Int64)), (.long (0 : Int64))] (.long (0 : Int64)) := ((((((((Va12.other W23 pf3_20).other W29 pf3_21).other W35 pf3_22).other W41 pf3_23).other W46 (Ne.symm ne15)).other W50 (Ne.symm ne_o_ar13)).other W54 (Ne.symm ne_o_ar13)).keep K60 (ninS (Ne.symm ne_ix_ar13) nin0))
  have Vc89 : Arv Z T60.heap ar23 kz23 .long (1024 : Int32) [(.long x4), (.long (0 : Int64)), (.long (0 : Int64))] (.long (0 : Int64)) := (((((((Va23.other W29 pf3_24).other W35 pf3_25).other W41 pf3_26).other W46 (Ne.symm ne24)).other W50 (Ne.symm ne_o_ar23)).other W54 (Ne.symm ne_o_ar23)).keep K60 (ninS (Ne.symm ne_ix_ar23) nin0))
  have Vc90 : Arv Z T60.heap ar33 kz33 .int (1024 : Int32) [(.int x5), (.int (0 : Int32)), (.int (0 : Int32))] (.int (0 : Int32)) := ((((((Va29.other W35 pf3_27).other W41 pf3_28).other W46 (Ne.symm ne30)).other W50 (Ne.symm ne_o_ar33)).other W54 (Ne.symm ne_o_ar33)).keep K60 (ninS (Ne.symm ne_ix_ar33) nin0))
  have Vc91 : Arv Z T60.heap ar43 kz43 .int (1024 : Int32) [(.int x6), (.int (0 : Int32)), (.int (0 : Int32))] (.int (0 : Int32)) := (((((Va35.other W41 pf3_29).other W46 (Ne.symm ne36)).other W50 (Ne.symm ne_o_ar43)).other W54 (Ne.symm ne_o_ar43)).keep K60 (ninS (Ne.symm ne_ix_ar43) nin0))
  have Vc92 : Arv Z T60.heap ar53 kz53 .byte (1024 : Int32) [(.int (1 : Int32)), (.int (0 : Int32)), (.int (0 : Int32))] (.int (0 : Int32)) := ((((Va41.other W46 (Ne.symm ne42)).other W50 (Ne.symm ne_o_ar53)).other W54 (Ne.symm ne_o_ar53)).keep K60 (ninS (Ne.symm ne_ix_ar53) nin0))
  obtain ⟨fs, hr, hrun, hended, hW, hsame⟩ := X60.leave (v := none) (fun _ => rfl)
  refine ⟨_, _, pre0 _ (pre65 _ ?_), hrun, hended, _, _, rfl, ?_, ⟨_, rfl⟩, hW, hsame.mono (by decide) (by decide)⟩
  · show oS p e below T60 m 166 #[rv o, lv x1, .second, lv x2, .second, lv x2, .second, lv x4, .second, iv x5, iv x6, iv (0 : Int32), rv ch3, iv (0 : Int32)] [] _
    exact X60.returnOut hx Bd.returns (hb hby d3_166) hr
  · show QADD0 Z o x1 x2 x4 x5 x6 cs kc ix h0 n0 _ T60.heap _
    exact ⟨ch3, ar03, ar13, ar23, ar33, ar43, ar53, kz03, kz13, kz23, kz33, kz43, kz53, rfl, N60, KP66, (Nat.le_trans (Keep.refl h0 [o, cs, ix]).1 pf3_0), pf3_1, Ec67, (Nat.le_trans (Keep.refl h0 [o, cs, ix]).1 pf3_3), (Nat.le_trans (Keep.refl h0 [o, cs, ix]).1 pf3_4), (Nat.le_trans (Keep.refl h0 [o, cs, ix]).1 pf3_5), (Nat.le_trans (Keep.refl h0 [o, cs, ix]).1 pf3_6), (Nat.le_trans (Keep.refl h0 [o, cs, ix]).1 pf3_7), (Nat.le_trans (Keep.refl h0 [o, cs, ix]).1 pf3_8), pf3_9, pf3_10, pf3_11, pf3_12, pf3_13, pf3_14, pf3_15, pf3_16, pf3_17, pf3_18, pf3_19, pf3_20, pf3_21, pf3_22, pf3_23, pf3_24, pf3_25, pf3_26, pf3_27, pf3_28, pf3_29, Fc68, Fc69, Fc70, Fc71, Fc72, Fc73, Fc74, Fc75, Fc76, Vc78, pf60_0, Fc79, Fc80, Fc81, Fc82, Fc83, Fc84, Fc85, Fc86, Vc87, Vc88, Vc89, Vc90, Vc91, Vc92⟩
theorem efADD1 (m : MethodId) (o : Addr) (x1 : Int64) (x2 : Int64) (x4 : Int64) (x5 : Int32) (x6 : Int32) : entryFrame m #[(.ref o), (.long x1), (.long x2), (.long x2), (.long x4), (.int x5), (.int x6)] 14 = mkF m 0 #[rv o, lv x1, .second, lv x2, .second, lv x2, .second, lv x4, .second, iv x5, iv x6, .unset, .unset, .unset] [] := by first | (simp [entryFrame, mkF, argsToLocals, Value.category]; done) | rfl
def QADD1 (Z : State) (o : Addr) (x1 : Int64) (x2 : Int64) (x4 : Int64) (x5 : Int32) (x6 : Int32) (cs : Addr) (kc : ClassId) (ix : Addr) (ch : Addr) (ar0 : Addr) (ar1 : Addr) (ar2 : Addr) (ar3 : Addr) (ar4 : Addr) (ar5 : Addr) (kz0 : ClassId) (kz1 : ClassId) (kz2 : ClassId) (kz3 : ClassId) (kz4 : ClassId) (kz5 : ClassId) (e0_0 : Int64) (e1_0 : Int64) (e2_0 : Int64) (e3_0 : Int32) (e4_0 : Int32) (h0 : Heap) (n0 : Nat) (v : Option Value) (h : Heap) (L : List Loc) : Prop := v = none ∧ Fr n0 L ∧ Keep h0 h [o, ch, ix, ar0, ar1, ar2, ar3, ar4, ar5] ∧ Fld Z h o oz0 "chunks" oz2 (.ref cs) ∧ Fld Z h o oz0 "index" "[I" (.ref ix) ∧ Fld Z h o oz0 "indexBits" "I" (.int (4 : Int32)) ∧ Fld Z h o oz0 "tail" "I" (.int (2 : Int32)) ∧ Fld Z h o oz0 "size" "I" (.int (2 : Int32)) ∧ Fld Z h o oz0 "firstChunk" "I" (.int (0 : Int32)) ∧ Fld Z h o oz0 "heldChunks" "I" (.int (1 : Int32)) ∧ Fld Z h o oz0 "head" "I" (.int (0 : Int32)) ∧ Fld Z h o oz0 "availableFrom" "I" (.int (0 : Int32)) ∧ (own_Ix Z h ix 2) ∧ Fld Z h ch oz1 "rows" "I" (.int (2 : Int32)) ∧ Fld Z h ch oz1 "addresses" "[J" .null ∧ Fld Z h ch oz1 "ids" "[J" (.ref ar0) ∧ Fld Z h ch oz1 "arrivals" "[J" (.ref ar1) ∧ Fld Z h ch oz1 "arrivedAts" "[J" (.ref ar2) ∧ Fld Z h ch oz1 "deliveryCounts" "[I" (.ref ar3) ∧ Fld Z h ch oz1 "causes" "[I" (.ref ar4) ∧ Fld Z h ch oz1 "states" "[B" (.ref ar5) ∧ Arv Z h ar0 kz0 .long (1024 : Int32) [(.long e0_0), (.long x1), (.long (0 : Int64))] (.long (0 : Int64)) ∧ Arv Z h ar1 kz1 .long (1024 : Int32) [(.long e1_0), (.long x2), (.long (0 : Int64))] (.long (0 : Int64)) ∧ Arv Z h ar2 kz2 .long (1024 : Int32) [(.long e2_0), (.long x4), (.long (0 : Int64))] (.long (0 : Int64)) ∧ Arv Z h ar3 kz3 .int (1024 : Int32) [(.int e3_0), (.int x5), (.int (0 : Int32))] (.int (0 : Int32)) ∧ Arv Z h ar4 kz4 .int (1024 : Int32) [(.int e4_0), (.int x6), (.int (0 : Int32))] (.int (0 : Int32)) ∧ Arv Z h ar5 kz5 .byte (1024 : Int32) [(.int (1 : Int32)), (.int (1 : Int32)), (.int (0 : Int32))] (.int (0 : Int32))
set_option maxRecDepth 65536 in
set_option maxHeartbeats 40000000 in
theorem rmADD1 (l : Launch) (Z : State) (a0 : Array Value) (hw : ∀ d ∈ tables_1, d.before a0 Z = true) (ws : List Jvm.Cond) (o : Addr) (x1 : Int64) (x2 : Int64) (x4 : Int64) (x5 : Int32) (x6 : Int32) (cs : Addr) (kc : ClassId) (ix : Addr) (ch : Addr) (ar0 : Addr) (ar1 : Addr) (ar2 : Addr) (ar3 : Addr) (ar4 : Addr) (ar5 : Addr) (kz0 : ClassId) (kz1 : ClassId) (kz2 : ClassId) (kz3 : ClassId) (kz4 : ClassId) (kz5 : ClassId) (e0_0 : Int64) (e1_0 : Int64) (e2_0 : Int64) (e3_0 : Int32) (e4_0 : Int32) (h0 : Heap) (n0 : Nat) (Z0 : n0 ≤ h0.size) (E_o : Exa Z h0 o oz0) (g_o : n0 ≤ o) (g_cs : n0 ≤ cs) (g_ix : n0 ≤ ix) (O_cs : Ovr Z kc oz1) (F_chunks_o : Fld Z h0 o oz0 "chunks" oz2 (.ref cs)) (F_index_o : Fld Z h0 o oz0 "index" "[I" (.ref ix)) (F_indexBits_o : Fld Z h0 o oz0 "indexBits" "I" (.int (4 : Int32))) (F_tail_o : Fld Z h0 o oz0 "tail" "I" (.int (1 : Int32))) (F_size_o : Fld Z h0 o oz0 "size" "I" (.int (1 : Int32))) (F_firstChunk_o : Fld Z h0 o oz0 "firstChunk" "I" (.int (0 : Int32))) (F_heldChunks_o : Fld Z h0 o oz0 "heldChunks" "I" (.int (1 : Int32))) (F_head_o : Fld Z h0 o oz0 "head" "I" (.int (0 : Int32))) (F_availableFrom_o : Fld Z h0 o oz0 "availableFrom" "I" (.int (0 : Int32))) (V_cs : Arv Z h0 cs kc (.object oz1) (1 : Int32) [(.ref ch)] .null) (X_ix : own_Ix Z h0 ix 1) (E_ch : Exa Z h0 ch oz1) (g_ch : n0 ≤ ch) (g_ar0 : n0 ≤ ar0) (g_ar1 : n0 ≤ ar1) (g_ar2 : n0 ≤ ar2) (g_ar3 : n0 ≤ ar3) (g_ar4 : n0 ≤ ar4) (g_ar5 : n0 ≤ ar5) (ne_cs_ix : cs ≠ ix) (ne_cs_ar0 : cs ≠ ar0) (ne_cs_ar1 : cs ≠ ar1) (ne_cs_ar2 : cs ≠ ar2) (ne_cs_ar3 : cs ≠ ar3) (ne_cs_ar4 : cs ≠ ar4) (ne_cs_ar5 : cs ≠ ar5) (ne_ix_ar0 : ix ≠ ar0) (ne_ix_ar1 : ix ≠ ar1) (ne_ix_ar2 : ix ≠ ar2) (ne_ix_ar3 : ix ≠ ar3) (ne_ix_ar4 : ix ≠ ar4) (ne_ix_ar5 : ix ≠ ar5) (ne_ar0_ar1 : ar0 ≠ ar1) (ne_ar0_ar2 : ar0 ≠ ar2) (ne_ar0_ar3 : ar0 ≠ ar3) (ne_ar0_ar4 : ar0 ≠ ar4) (ne_ar0_ar5 : ar0 ≠ ar5) (ne_ar1_ar2 : ar1 ≠ ar2) (ne_ar1_ar3 : ar1 ≠ ar3) (ne_ar1_ar4 : ar1 ≠ ar4) (ne_ar1_ar5 : ar1 ≠ ar5) (ne_ar2_ar3 : ar2 ≠ ar3) (ne_ar2_ar4 : ar2 ≠ ar4) (ne_ar2_ar5 : ar2 ≠ ar5) (ne_ar3_ar4 : ar3 ≠ ar4) (ne_ar3_ar5 : ar3 ≠ ar5) (ne_ar4_ar5 : ar4 ≠ ar5) (F_rows_ch : Fld Z h0 ch oz1 "rows" "I" (.int (1 : Int32))) (F_addresses_ch : Fld Z h0 ch oz1 "addresses" "[J" .null) (F_ids_ch : Fld Z h0 ch oz1 "ids" "[J" (.ref ar0)) (F_arrivals_ch : Fld Z h0 ch oz1 "arrivals" "[J" (.ref ar1)) (F_arrivedAts_ch : Fld Z h0 ch oz1 "arrivedAts" "[J" (.ref ar2)) (F_deliveryCounts_ch : Fld Z h0 ch oz1 "deliveryCounts" "[I" (.ref ar3)) (F_causes_ch : Fld Z h0 ch oz1 "causes" "[I" (.ref ar4)) (F_states_ch : Fld Z h0 ch oz1 "states" "[B" (.ref ar5)) (V_ar0 : Arv Z h0 ar0 kz0 .long (1024 : Int32) [(.long e0_0), (.long (0 : Int64)), (.long (0 : Int64))] (.long (0 : Int64))) (V_ar1 : Arv Z h0 ar1 kz1 .long (1024 : Int32) [(.long e1_0), (.long (0 : Int64)), (.long (0 : Int64))] (.long (0 : Int64))) (V_ar2 : Arv Z h0 ar2 kz2 .long (1024 : Int32) [(.long e2_0), (.long (0 : Int64)), (.long (0 : Int64))] (.long (0 : Int64))) (V_ar3 : Arv Z h0 ar3 kz3 .int (1024 : Int32) [(.int e3_0), (.int (0 : Int32)), (.int (0 : Int32))] (.int (0 : Int32))) (V_ar4 : Arv Z h0 ar4 kz4 .int (1024 : Int32) [(.int e4_0), (.int (0 : Int32)), (.int (0 : Int32))] (.int (0 : Int32))) (V_ar5 : Arv Z h0 ar5 kz5 .byte (1024 : Int32) [(.int (1 : Int32)), (.int (0 : Int32)), (.int (0 : Int32))] (.int (0 : Int32))) :
    MetFree l (⟨oz0, "add", "(JJJJII)V"⟩ : MethodName) (head1 (Jvm.Cond.code (⟨oz0, "add", "(JJJJII)V"⟩ : MethodName) prog_24_method_4_code 14 none :: ws) ({ frames := 2, cells := 0, slots := 0, locals := 31 } : Room)) (fun a U => a = #[(.ref o), (.long x1), (.long x2), (.long x2), (.long x4), (.int x5), (.int x6)] ∧ Z.Warmed39 U.vm ∧ U.heap = h0) (fun _ _ _ _ _ => True) (fun _ U oc U' => ∃ v L, oc = .returned v ∧ QADD1 Z o x1 x2 x4 x5 x6 cs kc ix ch ar0 ar1 ar2 ar3 ar4 ar5 kz0 kz1 kz2 kz3 kz4 kz5 e0_0 e1_0 e2_0 e3_0 e4_0 h0 n0 v U'.heap L ∧ FrameEnd U oc U' L ({ frames := 2, cells := 0, slots := 0, locals := 31 } : Room).cells ({ frames := 2, cells := 0, slots := 0, locals := 31 } : Room).slots) := by
  refine MetFree.of_bodySF (plainFor_of_name own_pn0) hisR ?_
  intro p e s m args below meth c s₁ Bd hml0 hP hK
  obtain ⟨rfl, hZ, hh⟩ := hP
  have hx := Bd.exec
  have hby := Bd.bytes
  have hml : c.maxLocals = 14 := hml0
  have hown : s.vm.findClass oz0 = some m.cls := findClass_of_methodNamed Bd.named
  have hnm := (name_of_methodNamed Bd.named Bd.method).1
  have X0 : Stand p l e ({ frames := 2, cells := 0, slots := 0, locals := 31 } : Room) s m #[(.ref o), (.long x1), (.long x2), (.long x2), (.long x4), (.int x5), (.int x6)] below meth c s₁ [] 0 0 := Stand.of_body Bd
  have e0 : s₁.heap = h0 := by rw [← hh, Bd.state]; rfl
  have N0 := Fr.nil n0
  have pre0 : ∀ t, Steps p.tables e below (s₁.setTop (mkF m 0 #[rv o, lv x1, .second, lv x2, .second, lv x2, .second, lv x4, .second, iv x5, iv x6, .unset, .unset, .unset] [])) t → Steps p.tables e below (s₁.setTop (entryFrame m #[(.ref o), (.long x1), (.long x2), (.long x2), (.long x4), (.int x5), (.int x6)] 14)) t := fun t k => castTop (efADD1 m o x1 x2 x4 x5 x6) k
  obtain ⟨T1, X1, e1, st1⟩ := getF X0 hx hZ hown (host := "") (Or.inl (own_w hw 23 rfl)) Via.refl e0 F_tail_o (g := (mkF m 1 #[rv o, lv x1, .second, lv x2, .second, lv x2, .second, lv x4, .second, iv x5, iv x6, .unset, .unset, .unset] [(.ref o)])) rfl rfl (hb hby d3_1)
  obtain ⟨T2, X2, e2, st2⟩ := getF X1 hx hZ hown (host := "") (Or.inl (own_w hw 23 rfl)) Via.refl e1 F_tail_o (g := (mkF m 14 #[rv o, lv x1, .second, lv x2, .second, lv x2, .second, lv x4, .second, iv x5, iv x6, .unset, .unset, .unset] [(.ref o)])) rfl rfl (hb hby d3_14)
  obtain ⟨cq3, q3, q3'⟩ := E_o.cell
  obtain ⟨_, _, ⟨T3, Lw3, kw3, nw3⟩, -, X3, ⟨Lc3, hQ3, l3, y3, z3⟩, st3⟩ := X2.privateBack hx (y := (⟨oz0, "chunkForAdd", oz4⟩ : MethodName)) hown (mvT hZ (own_w hw 26 rfl)) (mvT hZ (own_w hw 27 rfl)) (own_selp hZ (own_w hw 1 rfl) (own_w hw 28 rfl) (own_w hw 27 rfl) (by decide)) (Cond.privateMethod_at (mvP hZ (own_w hw 28 rfl) (args := #[]))) (mvT hZ (own_w hw 29 rfl)) (by decide) (backOf (W := 0) (rmCB1 l Z a0 hw [] o cs kc ch h0 n0 Z0 E_o F_chunks_o F_firstChunk_o V_cs) hZ (own_w hw 29 rfl) (own_w hw 2 rfl) (by decide) (by decide)) (g := (mkF m 22 #[rv o, lv x1, .second, lv x2, .second, lv x2, .second, lv x4, .second, iv x5, iv x6, iv (1 : Int32), .unset, .unset] [(.int (1 : Int32)), (.ref o)])) rfl (by rw [hml]; rfl) (Steps.refl _) (a := o) (by rw [e2]; exact q3) q3' (argsL := [(.int (1 : Int32))]) (rest := []) (lenOf own_pd2 rfl) rfl (by show 2 * 0 + _ ≤ _; exact Nat.le_of_eq rfl) (hb hby d3_22) (fun _ _ => ⟨rfl, e2, (by decide : 0 + 0 ≤ _), (by decide : 0 + 0 ≤ _)⟩)
  dsimp only [Pt.U, Pt.locs, Pt.cells, Pt.slots] at X3 l3 y3 z3 st3 hQ3
  subst l3 y3 z3
  obtain ⟨rfl, Nq3, eh3⟩ := hQ3
  have N3 := Fr.app N0 Nq3
  obtain ⟨cl5, Ar5, qk5, Sz5, Ng5, Hs5, Gt5⟩ := id V_ar0
  have hin5 : ¬ ((1 : Int32) < 0 ∨ cl5.slots.size ≤ ((1 : Int32)).toNatClampNeg) := inb_of Sz5 ⟨by decide, by decide⟩
  obtain ⟨T6, h6, X6, e6, W6, st6⟩ := stJ X3 hx hZ eh3 Ar5 (j := (1 : Int32)) hin5 (g := (mkF m 43 #[rv o, lv x1, .second, lv x2, .second, lv x2, .second, lv x4, .second, iv x5, iv x6, iv (1 : Int32), rv ch, iv (1 : Int32)] [(.long x1), (.int (1 : Int32)), (.ref ar0)])) rfl rfl (hb hby d3_43)
  have Va6 : Arv Z h6 ar0 kz0 .long (1024 : Int32) [(.long e0_0), (.long x1), (.long (0 : Int64))] (.long (0 : Int64)) := Arv.set Ar5 qk5 Sz5 Ng5 Hs5 Gt5 rfl W6 1 rfl (Nat.le_of_ble_eq_true rfl)
  have N6 := Fr.snoc X6 N3 g_ar0
  obtain ⟨_, Arn7, -⟩ := id Va6
  have ne7 : ch ≠ ar0 := ne_arr (E_ch.wr W6) (own_w hw 32 rfl) Arn7
  have Fc8 : Fld Z h6 ch oz1 "arrivals" "[J" (.ref ar1) := (F_arrivals_ch.other W6 (Or.inl ne7))
  have Vc10 : Arv Z h6 ar1 kz1 .long (1024 : Int32) [(.long e1_0), (.long (0 : Int64)), (.long (0 : Int64))] (.long (0 : Int64)) := (V_ar1.other W6 (Ne.symm ne_ar0_ar1))
  obtain ⟨cl11, Ar11, qk11, Sz11, Ng11, Hs11, Gt11⟩ := id Vc10
  have hin11 : ¬ ((1 : Int32) < 0 ∨ cl11.slots.size ≤ ((1 : Int32)).toNatClampNeg) := inb_of Sz11 ⟨by decide, by decide⟩
  obtain ⟨T12, h12, X12, e12, W12, st12⟩ := stJ X6 hx hZ e6 Ar11 (j := (1 : Int32)) hin11 (g := (mkF m 52 #[rv o, lv x1, .second, lv x2, .second, lv x2, .second, lv x4, .second, iv x5, iv x6, iv (1 : Int32), rv ch, iv (1 : Int32)] [(.long x2), (.int (1 : Int32)), (.ref ar1)])) rfl rfl (hb hby d3_52)
  have Va12 : Arv Z h12 ar1 kz1 .long (1024 : Int32) [(.long e1_0), (.long x2), (.long (0 : Int64))] (.long (0 : Int64)) := Arv.set Ar11 qk11 Sz11 Ng11 Hs11 Gt11 rfl W12 1 rfl (Nat.le_of_ble_eq_true rfl)
  have N12 := Fr.snoc X12 N6 g_ar1
  have Ec14 : Exa Z h12 ch oz1 := ((E_ch.wr W6).wr W12)
  obtain ⟨_, Arn15, -⟩ := id Va12
  have ne15 : ch ≠ ar1 := ne_arr Ec14 (own_w hw 32 rfl) Arn15
  have Fc16 : Fld Z h12 ch oz1 "addresses" "[J" .null := ((F_addresses_ch.other W6 (Or.inl ne7)).other W12 (Or.inl ne15))
  have Fc17 : Fld Z h12 ch oz1 "arrivals" "[J" (.ref ar1) := (Fc8.other W12 (Or.inl ne15))
  have Zc18 : n0 ≤ h12.size := (Nat.le_trans (Nat.le_trans Z0 (Keep.of_wr W6).1) (Keep.of_wr W12).1)
  obtain ⟨cq13, kq13, q13a, q13b, q13c⟩ := isOf hZ e12 Ec14
  obtain ⟨_, _, ⟨T13, Lw13, kw13, nw13⟩, -, X13, ⟨Lc13, hQ13, l13, y13, z13⟩, st13⟩ := X12.virtualBack hx (y := (⟨oz1, "address", "(IJ)V"⟩ : MethodName)) (z := (⟨oz1, "address", "(IJ)V"⟩ : MethodName)) hown (mvT hZ (own_w hw 57 rfl)) (mvT hZ (own_w hw 58 rfl)) (notFace_of_selects (args := #[]) (mvT hZ (own_w hw 60 rfl))) (mvT hZ (own_w hw 60 rfl)) (mvT hZ (own_w hw 59 rfl)) (by decide) (backOf (W := 0) (rmAD1 l Z a0 hw [] ch x2 ar1 kz1 e1_0 (0 : Int64) h12 n0 Zc18 Ec14 Fc16 Fc17 Va12) hZ (own_w hw 61 rfl) (own_w hw 33 rfl) (by decide) (by decide)) q13a q13c (g := (mkF m 59 #[rv o, lv x1, .second, lv x2, .second, lv x2, .second, lv x4, .second, iv x5, iv x6, iv (1 : Int32), rv ch, iv (1 : Int32)] [(.long x2), (.int (1 : Int32)), (.ref ch)])) rfl (by rw [hml]; rfl) (Steps.refl _) (argsL := [(.int (1 : Int32)), (.long x2)]) (rest := []) (lenOf own_pd3 rfl) rfl (by show 2 * 0 + _ ≤ _; exact Nat.le_of_eq rfl) (hb hby d3_59) (fun _ _ => ⟨rfl, e12, (by decide : 0 + 0 ≤ _), (by decide : 0 + 0 ≤ _)⟩)
  dsimp only [Pt.U, Pt.locs, Pt.cells, Pt.slots] at X13 l13 y13 z13 st13 hQ13
  subst l13 y13 z13
  obtain ⟨rfl, Nq13, eh13⟩ := hQ13
  have N13 := Fr.app N12 Nq13
  have Fc19 : Fld Z h12 ch oz1 "arrivedAts" "[J" (.ref ar2) := ((F_arrivedAts_ch.other W6 (Or.inl ne7)).other W12 (Or.inl ne15))
  have Vc21 : Arv Z h12 ar2 kz2 .long (1024 : Int32) [(.long e2_0), (.long (0 : Int64)), (.long (0 : Int64))] (.long (0 : Int64)) := ((V_ar2.other W6 (Ne.symm ne_ar0_ar2)).other W12 (Ne.symm ne_ar1_ar2))
  obtain ⟨cl22, Ar22, qk22, Sz22, Ng22, Hs22, Gt22⟩ := id Vc21
  have hin22 : ¬ ((1 : Int32) < 0 ∨ cl22.slots.size ≤ ((1 : Int32)).toNatClampNeg) := inb_of Sz22 ⟨by decide, by decide⟩
  obtain ⟨T23, h23, X23, e23, W23, st23⟩ := stJ X13 hx hZ eh13 Ar22 (j := (1 : Int32)) hin22 (g := (mkF m 71 #[rv o, lv x1, .second, lv x2, .second, lv x2, .second, lv x4, .second, iv x5, iv x6, iv (1 : Int32), rv ch, iv (1 : Int32)] [(.long x4), (.int (1 : Int32)), (.ref ar2)])) rfl rfl (hb hby d3_71)
  have Va23 : Arv Z h23 ar2 kz2 .long (1024 : Int32) [(.long e2_0), (.long x4), (.long (0 : Int64))] (.long (0 : Int64)) := Arv.set Ar22 qk22 Sz22 Ng22 Hs22 Gt22 rfl W23 1 rfl (Nat.le_of_ble_eq_true rfl)
  have N23 := Fr.snoc X23 N13 g_ar2
  obtain ⟨_, Arn24, -⟩ := id Va23
  have ne24 : ch ≠ ar2 := ne_arr (Ec14.wr W23) (own_w hw 32 rfl) Arn24
  have Fc25 : Fld Z h23 ch oz1 "deliveryCounts" "[I" (.ref ar3) := (((F_deliveryCounts_ch.other W6 (Or.inl ne7)).other W12 (Or.inl ne15)).other W23 (Or.inl ne24))
  have Vc27 : Arv Z h23 ar3 kz3 .int (1024 : Int32) [(.int e3_0), (.int (0 : Int32)), (.int (0 : Int32))] (.int (0 : Int32)) := (((V_ar3.other W6 (Ne.symm ne_ar0_ar3)).other W12 (Ne.symm ne_ar1_ar3)).other W23 (Ne.symm ne_ar2_ar3))
  obtain ⟨cl28, Ar28, qk28, Sz28, Ng28, Hs28, Gt28⟩ := id Vc27
  have hin28 : ¬ ((1 : Int32) < 0 ∨ cl28.slots.size ≤ ((1 : Int32)).toNatClampNeg) := inb_of Sz28 ⟨by decide, by decide⟩
  obtain ⟨T29, h29, X29, e29, W29, st29⟩ := stI X23 hx hZ e23 Ar28 (j := (1 : Int32)) hin28 (g := (mkF m 81 #[rv o, lv x1, .second, lv x2, .second, lv x2, .second, lv x4, .second, iv x5, iv x6, iv (1 : Int32), rv ch, iv (1 : Int32)] [(.int x5), (.int (1 : Int32)), (.ref ar3)])) rfl rfl (hb hby d3_81)
  have Va29 : Arv Z h29 ar3 kz3 .int (1024 : Int32) [(.int e3_0), (.int x5), (.int (0 : Int32))] (.int (0 : Int32)) := Arv.set Ar28 qk28 Sz28 Ng28 Hs28 Gt28 rfl W29 1 rfl (Nat.le_of_ble_eq_true rfl)
  have N29 := Fr.snoc X29 N23 g_ar3
  obtain ⟨_, Arn30, -⟩ := id Va29
  have ne30 : ch ≠ ar3 := ne_arr ((Ec14.wr W23).wr W29) (own_w hw 32 rfl) Arn30
  have Fc31 : Fld Z h29 ch oz1 "causes" "[I" (.ref ar4) := ((((F_causes_ch.other W6 (Or.inl ne7)).other W12 (Or.inl ne15)).other W23 (Or.inl ne24)).other W29 (Or.inl ne30))
  have Vc33 : Arv Z h29 ar4 kz4 .int (1024 : Int32) [(.int e4_0), (.int (0 : Int32)), (.int (0 : Int32))] (.int (0 : Int32)) := ((((V_ar4.other W6 (Ne.symm ne_ar0_ar4)).other W12 (Ne.symm ne_ar1_ar4)).other W23 (Ne.symm ne_ar2_ar4)).other W29 (Ne.symm ne_ar3_ar4))
  obtain ⟨cl34, Ar34, qk34, Sz34, Ng34, Hs34, Gt34⟩ := id Vc33
  have hin34 : ¬ ((1 : Int32) < 0 ∨ cl34.slots.size ≤ ((1 : Int32)).toNatClampNeg) := inb_of Sz34 ⟨by decide, by decide⟩
  obtain ⟨T35, h35, X35, e35, W35, st35⟩ := stI X29 hx hZ e29 Ar34 (j := (1 : Int32)) hin34 (g := (mkF m 91 #[rv o, lv x1, .second, lv x2, .second, lv x2, .second, lv x4, .second, iv x5, iv x6, iv (1 : Int32), rv ch, iv (1 : Int32)] [(.int x6), (.int (1 : Int32)), (.ref ar4)])) rfl rfl (hb hby d3_91)
  have Va35 : Arv Z h35 ar4 kz4 .int (1024 : Int32) [(.int e4_0), (.int x6), (.int (0 : Int32))] (.int (0 : Int32)) := Arv.set Ar34 qk34 Sz34 Ng34 Hs34 Gt34 rfl W35 1 rfl (Nat.le_of_ble_eq_true rfl)
  have N35 := Fr.snoc X35 N29 g_ar4
  obtain ⟨_, Arn36, -⟩ := id Va35
  have ne36 : ch ≠ ar4 := ne_arr (((Ec14.wr W23).wr W29).wr W35) (own_w hw 32 rfl) Arn36
  have Fc37 : Fld Z h35 ch oz1 "states" "[B" (.ref ar5) := (((((F_states_ch.other W6 (Or.inl ne7)).other W12 (Or.inl ne15)).other W23 (Or.inl ne24)).other W29 (Or.inl ne30)).other W35 (Or.inl ne36))
  have Vc39 : Arv Z h35 ar5 kz5 .byte (1024 : Int32) [(.int (1 : Int32)), (.int (0 : Int32)), (.int (0 : Int32))] (.int (0 : Int32)) := (((((V_ar5.other W6 (Ne.symm ne_ar0_ar5)).other W12 (Ne.symm ne_ar1_ar5)).other W23 (Ne.symm ne_ar2_ar5)).other W29 (Ne.symm ne_ar3_ar5)).other W35 (Ne.symm ne_ar4_ar5))
  obtain ⟨cl40, Ar40, qk40, Sz40, Ng40, Hs40, Gt40⟩ := id Vc39
  have hin40 : ¬ ((1 : Int32) < 0 ∨ cl40.slots.size ≤ ((1 : Int32)).toNatClampNeg) := inb_of Sz40 ⟨by decide, by decide⟩
  obtain ⟨T41, h41, X41, e41, W41, st41⟩ := stB X35 hx hZ e35 Ar40 (j := (1 : Int32)) hin40 (g := (mkF m 100 #[rv o, lv x1, .second, lv x2, .second, lv x2, .second, lv x4, .second, iv x5, iv x6, iv (1 : Int32), rv ch, iv (1 : Int32)] [(.int (1 : Int32)), (.int (1 : Int32)), (.ref ar5)])) rfl rfl (hb hby d3_100)
  have Va41 : Arv Z h41 ar5 kz5 .byte (1024 : Int32) [(.int (1 : Int32)), (.int (1 : Int32)), (.int (0 : Int32))] (.int (0 : Int32)) := Arv.set Ar40 qk40 Sz40 Ng40 Hs40 Gt40 (fits_nar_byte _) W41 1 rfl (Nat.le_of_ble_eq_true rfl)
  have N41 := Fr.snoc X41 N35 g_ar5
  obtain ⟨_, Arn42, -⟩ := id Va41
  have ne42 : ch ≠ ar5 := ne_arr ((((Ec14.wr W23).wr W29).wr W35).wr W41) (own_w hw 32 rfl) Arn42
  have Fc43 : Fld Z h41 ch oz1 "rows" "I" (.int (1 : Int32)) := ((((((F_rows_ch.other W6 (Or.inl ne7)).other W12 (Or.inl ne15)).other W23 (Or.inl ne24)).other W29 (Or.inl ne30)).other W35 (Or.inl ne36)).other W41 (Or.inl ne42))
  have Ec45 : Exa Z h41 ch oz1 := ((((Ec14.wr W23).wr W29).wr W35).wr W41)
  obtain ⟨T46, h46, X46, e46, W46, st46⟩ := own_putR X41 hx hZ hown (own_w hw 68 rfl) e41 Fc43 Ec45 (own_w hw 69 rfl) (own_w hw 32 rfl) (ty := .int) (by decide) rfl rfl (g := (mkF m 109 #[rv o, lv x1, .second, lv x2, .second, lv x2, .second, lv x4, .second, iv x5, iv x6, iv (1 : Int32), rv ch, iv (1 : Int32)] [(.int (2 : Int32)), (.ref ch)])) rfl rfl (hb hby d3_109)
  have Fw46 : Fld Z h46 ch oz1 "rows" "I" (.int (2 : Int32)) := Fc43.same W46
  have N46 := Fr.snoc X46 N41 g_ch
  obtain ⟨_, Arn47, -⟩ := id Va6
  have ne47 : o ≠ ar0 := ne_arr (E_o.wr W6) (own_w hw 1 rfl) Arn47
  obtain ⟨_, Arn48, -⟩ := id Va12
  have ne48 : o ≠ ar1 := ne_arr ((E_o.wr W6).wr W12) (own_w hw 1 rfl) Arn48
  obtain ⟨_, Arn49, -⟩ := id Va23
  have ne49 : o ≠ ar2 := ne_arr (((E_o.wr W6).wr W12).wr W23) (own_w hw 1 rfl) Arn49
  obtain ⟨_, Arn50, -⟩ := id Va29
  have ne50 : o ≠ ar3 := ne_arr ((((E_o.wr W6).wr W12).wr W23).wr W29) (own_w hw 1 rfl) Arn50
  obtain ⟨_, Arn51, -⟩ := id Va35
  have ne51 : o ≠ ar4 := ne_arr (((((E_o.wr W6).wr W12).wr W23).wr W29).wr W35) (own_w hw 1 rfl) Arn51
  obtain ⟨_, Arn52, -⟩ := id Va41
  have ne52 : o ≠ ar5 := ne_arr ((((((E_o.wr W6).wr W12).wr W23).wr W29).wr W35).wr W41) (own_w hw 1 rfl) Arn52
  have Ec54 : Exa Z h46 o oz0 := (((((((E_o.wr W6).wr W12).wr W23).wr W29).wr W35).wr W41).wr W46)
  have Ec55 : Exa Z h46 ch oz1 := (Ec45.wr W46)
  have ne53 : o ≠ ch := ne_exa Ec54 Ec55 (by decide)
  have Fc56 : Fld Z h46 o oz0 "tail" "I" (.int (1 : Int32)) := (((((((F_tail_o.other W6 (Or.inl ne47)).other W12 (Or.inl ne48)).other W23 (Or.inl ne49)).other W29 (Or.inl ne50)).other W35 (Or.inl ne51)).other W41 (Or.inl ne52)).other W46 (Or.inl ne53))
  obtain ⟨T57, X57, e57, st57⟩ := getF X46 hx hZ hown (host := "") (Or.inl (own_w hw 23 rfl)) Via.refl e46 Fc56 (g := (mkF m 114 #[rv o, lv x1, .second, lv x2, .second, lv x2, .second, lv x4, .second, iv x5, iv x6, iv (1 : Int32), rv ch, iv (1 : Int32)] [(.ref o), (.ref o)])) rfl rfl (hb hby d3_114)
  obtain ⟨T58, h58, X58, e58, W58, st58⟩ := putF X57 hx hZ hown (host := "") (Or.inl (own_w hw 23 rfl)) Via.refl e57 Fc56 Ec54 (Or.inl (own_w hw 24 rfl)) (own_w hw 1 rfl) (ty := .int) (by decide) rfl rfl (g := (mkF m 119 #[rv o, lv x1, .second, lv x2, .second, lv x2, .second, lv x4, .second, iv x5, iv x6, iv (1 : Int32), rv ch, iv (1 : Int32)] [(.int (2 : Int32)), (.ref o)])) rfl rfl (hb hby d3_119)
  have Fw58 : Fld Z h58 o oz0 "tail" "I" (.int (2 : Int32)) := Fc56.same W58
  have N58 := Fr.snoc X58 N46 g_o
  have Fc59 : Fld Z h58 o oz0 "size" "I" (.int (1 : Int32)) := ((((((((F_size_o.other W6 (Or.inl ne47)).other W12 (Or.inl ne48)).other W23 (Or.inl ne49)).other W29 (Or.inl ne50)).other W35 (Or.inl ne51)).other W41 (Or.inl ne52)).other W46 (Or.inl ne53)).other W58 (Or.inr (slot_ne (Or.inl (own_w hw 71 rfl)) (Or.inl (own_w hw 24 rfl)) (by decide) (t := .int) (t' := .int) (by decide) (by decide))))
  obtain ⟨T60, X60, e60, st60⟩ := getF X58 hx hZ hown (host := "") (Or.inl (own_w hw 70 rfl)) Via.refl e58 Fc59 (g := (mkF m 124 #[rv o, lv x1, .second, lv x2, .second, lv x2, .second, lv x4, .second, iv x5, iv x6, iv (1 : Int32), rv ch, iv (1 : Int32)] [(.ref o), (.ref o)])) rfl rfl (hb hby d3_124)
  have Ec61 : Exa Z h58 o oz0 := (Ec54.wr W58)
  obtain ⟨T62, h62, X62, e62, W62, st62⟩ := putF X60 hx hZ hown (host := "") (Or.inl (own_w hw 70 rfl)) Via.refl e60 Fc59 Ec61 (Or.inl (own_w hw 71 rfl)) (own_w hw 1 rfl) (ty := .int) (by decide) rfl rfl (g := (mkF m 129 #[rv o, lv x1, .second, lv x2, .second, lv x2, .second, lv x4, .second, iv x5, iv x6, iv (1 : Int32), rv ch, iv (1 : Int32)] [(.int (2 : Int32)), (.ref o)])) rfl rfl (hb hby d3_129)
  have Fw62 : Fld Z h62 o oz0 "size" "I" (.int (2 : Int32)) := Fc59.same W62
  have N62 := Fr.snoc X62 N58 g_o
  obtain ⟨T63, X63, e63, st63⟩ := getF X62 hx hZ hown (host := "") (Or.inl (own_w hw 70 rfl)) Via.refl e62 Fw62 (g := (mkF m 133 #[rv o, lv x1, .second, lv x2, .second, lv x2, .second, lv x4, .second, iv x5, iv x6, iv (1 : Int32), rv ch, iv (1 : Int32)] [(.ref o)])) rfl rfl (hb hby d3_133)
  have Fc64 : Fld Z h62 o oz0 "indexBits" "I" (.int (4 : Int32)) := (((((((((F_indexBits_o.other W6 (Or.inl ne47)).other W12 (Or.inl ne48)).other W23 (Or.inl ne49)).other W29 (Or.inl ne50)).other W35 (Or.inl ne51)).other W41 (Or.inl ne52)).other W46 (Or.inl ne53)).other W58 (Or.inr (slot_ne (Or.inl (own_w hw 17 rfl)) (Or.inl (own_w hw 24 rfl)) (by decide) (t := .int) (t' := .int) (by decide) (by decide)))).other W62 (Or.inr (slot_ne (Or.inl (own_w hw 17 rfl)) (Or.inl (own_w hw 71 rfl)) (by decide) (t := .int) (t' := .int) (by decide) (by decide))))
  obtain ⟨T65, X65, e65, st65⟩ := getF X63 hx hZ hown (host := "") (Or.inl (own_w hw 16 rfl)) Via.refl e63 Fc64 (g := (mkF m 137 #[rv o, lv x1, .second, lv x2, .second, lv x2, .second, lv x4, .second, iv x5, iv x6, iv (1 : Int32), rv ch, iv (1 : Int32)] [(.ref o), (.int (2 : Int32))])) rfl rfl (hb hby d3_137)
  have Zc67 : n0 ≤ h62.size := (Nat.le_trans (Nat.le_trans (Nat.le_trans (Nat.le_trans (Nat.le_trans (Nat.le_trans (Nat.le_trans Zc18 (Keep.of_wr W23).1) (Keep.of_wr W29).1) (Keep.of_wr W35).1) (Keep.of_wr W41).1) (Keep.of_wr W46).1) (Keep.of_wr W58).1) (Keep.of_wr W62).1)
  obtain ⟨_, _, ⟨T66, Lw66, kw66, nw66⟩, -, X66, ⟨Lc66, hQ66, l66, y66, z66⟩, st66⟩ := Jvm.LawKit.callS X65 hx (y := (⟨oz0, "maxLoad", "(I)I"⟩ : MethodName)) hown (mvT hZ (own_w hw 72 rfl)) (mvT hZ (own_w hw 73 rfl)) (mvT hZ (own_w hw 2 rfl)) (mvT hZ (own_w hw 74 rfl)) (by decide) (backOf (W := 1) (rm7 l Z a0 hw []  h62 n0 Zc67 ) hZ (own_w hw 74 rfl) (own_w hw 2 rfl) (by decide) (by decide)) (g := (mkF m 140 #[rv o, lv x1, .second, lv x2, .second, lv x2, .second, lv x4, .second, iv x5, iv x6, iv (1 : Int32), rv ch, iv (1 : Int32)] [(.int (4 : Int32)), (.int (2 : Int32))])) rfl (by rw [hml]; rfl) (argsL := [(.int (4 : Int32))]) (rest := [(.int (2 : Int32))]) (lenOf own_pd4 rfl) rfl (by show 2 * 0 + _ ≤ _; exact Nat.le_of_eq rfl) (hb hby d3_140) (fun _ _ => ⟨rfl, e65, (by decide : 0 + 0 ≤ _), (by decide : 0 + 0 ≤ _)⟩)
  dsimp only [Pt.U, Pt.locs, Pt.cells, Pt.slots] at X66 l66 y66 z66 st66 hQ66
  subst l66 y66 z66
  obtain ⟨rfl, Nq66, eh66⟩ := hQ66
  have N66 := Fr.app N62 Nq66
  have Ec69 : Exa Z h62 o oz0 := (Ec61.wr W62)
  have Fc70 : Fld Z h62 o oz0 "index" "[I" (.ref ix) := (((((((((F_index_o.other W6 (Or.inl ne47)).other W12 (Or.inl ne48)).other W23 (Or.inl ne49)).other W29 (Or.inl ne50)).other W35 (Or.inl ne51)).other W41 (Or.inl ne52)).other W46 (Or.inl ne53)).other W58 (Or.inr (slot_ne (Or.inl (own_w hw 15 rfl)) (Or.inl (own_w hw 24 rfl)) (by decide) (t := (.array .int)) (t' := .int) (by decide) (by decide)))).other W62 (Or.inr (slot_ne (Or.inl (own_w hw 15 rfl)) (Or.inl (own_w hw 71 rfl)) (by decide) (t := (.array .int)) (t' := .int) (by decide) (by decide))))
  obtain ⟨_, _, _, Arn71, -⟩ := id X_ix
  have ne71 : ch ≠ ix := ne_arr E_ch (own_w hw 32 rfl) Arn71
  obtain ⟨_, _, _, Arn72, -⟩ := id X_ix
  have ne72 : o ≠ ix := ne_arr E_o (own_w hw 1 rfl) Arn72
  have Xc73 : own_Ix Z h62 ix 1 := (((((((((X_ix.other W6 ne_ix_ar0).other W12 ne_ix_ar1).other W23 ne_ix_ar2).other W29 ne_ix_ar3).other W35 ne_ix_ar4).other W41 ne_ix_ar5).other W46 (Ne.symm ne71)).other W58 (Ne.symm ne72)).other W62 (Ne.symm ne72))
  obtain ⟨cq68, q68, q68'⟩ := Ec69.cell
  obtain ⟨_, _, ⟨T68, Lw68, kw68, nw68⟩, -, X68, ⟨Lc68, hQ68, l68, y68, z68⟩, st68⟩ := X66.privateBack hx (y := (⟨oz0, "insert", "(JI)V"⟩ : MethodName)) hown (mvT hZ (own_w hw 75 rfl)) (mvT hZ (own_w hw 76 rfl)) (own_selp hZ (own_w hw 1 rfl) (own_w hw 77 rfl) (own_w hw 76 rfl) (by decide)) (Cond.privateMethod_at (mvP hZ (own_w hw 77 rfl) (args := #[]))) (mvT hZ (own_w hw 78 rfl)) (by decide) (backOf (W := 0) (rmIN1 l Z a0 hw [] o x1 ix h62 n0 Zc67 Ec69 g_ix Fc70 Fc64 Xc73) hZ (own_w hw 78 rfl) (own_w hw 2 rfl) (by decide) (by decide)) (g := (mkF m 163 #[rv o, lv x1, .second, lv x2, .second, lv x2, .second, lv x4, .second, iv x5, iv x6, iv (1 : Int32), rv ch, iv (1 : Int32)] [(.int (1 : Int32)), (.long x1), (.ref o)])) rfl (by rw [hml]; rfl) (Steps.refl _) (a := o) (by rw [eh66]; exact q68) q68' (argsL := [(.long x1), (.int (1 : Int32))]) (rest := []) (lenOf own_pd5 rfl) rfl (by show 2 * 0 + _ ≤ _; exact Nat.le_of_eq rfl) (hb hby d3_163) (fun _ _ => ⟨rfl, eh66, (by decide : 0 + 0 ≤ _), (by decide : 0 + 0 ≤ _)⟩)
  dsimp only [Pt.U, Pt.locs, Pt.cells, Pt.slots] at X68 l68 y68 z68 st68 hQ68
  subst l68 y68 z68
  obtain ⟨rfl, Nq68, K68, pf68_0⟩ := hQ68
  have N68 := Fr.app N66 Nq68
  have pre74 : ∀ tz, oS p e below T68 m 166 #[rv o, lv x1, .second, lv x2, .second, lv x2, .second, lv x4, .second, iv x5, iv x6, iv (1 : Int32), rv ch, iv (1 : Int32)] [] tz → oS p e below s₁ m 0 #[rv o, lv x1, .second, lv x2, .second, lv x2, .second, lv x4, .second, iv x5, iv x6, .unset, .unset, .unset] [] tz := fun tz kt => by
    show oS p e below s₁ m 0 #[rv o, lv x1, .second, lv x2, .second, lv x2, .second, lv x4, .second, iv x5, iv x6, .unset, .unset, .unset] [] _
    refine XS.aloadN X0.here hx rfl (hb hby d3_0) rfl rfl ?_
    show oS p e below s₁ m 1 #[rv o, lv x1, .second, lv x2, .second, lv x2, .second, lv x4, .second, iv x5, iv x6, .unset, .unset, .unset] [(.ref o)] _
    refine st1 _ ?_
    refine X1.ldcInt hx hown (mvT hZ (own_w hw 25 rfl)) (g := (mkF m 4 #[rv o, lv x1, .second, lv x2, .second, lv x2, .second, lv x4, .second, iv x5, iv x6, .unset, .unset, .unset] [(.int (1 : Int32))])) rfl (hb hby d3_4) _ ?_
    refine XS.icmpYes X1.here hx rfl (pc0 := 6) (pc' := 13) rfl (hb hby d3_6) rfl (feq (by decide : ¬ ((1 : Int32) = (2147482623 : Int32)))).2 (by decide) (by decide) ?_
    refine XS.aloadN X1.here hx rfl (hb hby d3_13) rfl rfl ?_
    show oS p e below T1 m 14 #[rv o, lv x1, .second, lv x2, .second, lv x2, .second, lv x4, .second, iv x5, iv x6, .unset, .unset, .unset] [(.ref o)] _
    refine st2 _ ?_
    refine XS.istore X2.here hx rfl (hb hby d3_17) rfl (l' := #[rv o, lv x1, .second, lv x2, .second, lv x2, .second, lv x4, .second, iv x5, iv x6, iv (1 : Int32), .unset, .unset]) rfl ?_
    refine XS.aloadN X2.here hx rfl (hb hby d3_19) rfl rfl ?_
    refine XS.iload X2.here hx rfl (hb hby d3_20) rfl ?_
    show oS p e below T2 m 22 #[rv o, lv x1, .second, lv x2, .second, lv x2, .second, lv x4, .second, iv x5, iv x6, iv (1 : Int32), .unset, .unset] [(.int (1 : Int32)), (.ref o)] _
    refine st3.trans ?_
    refine XS.astore X3.here hx rfl (hb hby d3_25) rfl rfl (l' := #[rv o, lv x1, .second, lv x2, .second, lv x2, .second, lv x4, .second, iv x5, iv x6, iv (1 : Int32), rv ch, .unset]) rfl ?_
    refine XS.iload X3.here hx rfl (hb hby d3_27) rfl ?_
    refine XS.sipush X3.here hx rfl (hb hby d3_29) ?_
    show oS p e below T3 m 32 #[rv o, lv x1, .second, lv x2, .second, lv x2, .second, lv x4, .second, iv x5, iv x6, iv (1 : Int32), rv ch, .unset] [(.int (1023 : Int32)), (.int (1 : Int32))] _
    refine XS.iand X3.here hx rfl (hb hby d3_32) rfl ?_
    show oS p e below T3 m 33 #[rv o, lv x1, .second, lv x2, .second, lv x2, .second, lv x4, .second, iv x5, iv x6, iv (1 : Int32), rv ch, .unset] [(.int (1 : Int32))] _
    refine XS.istore X3.here hx rfl (hb hby d3_33) rfl (l' := #[rv o, lv x1, .second, lv x2, .second, lv x2, .second, lv x4, .second, iv x5, iv x6, iv (1 : Int32), rv ch, iv (1 : Int32)]) rfl ?_
    refine XS.aload X3.here hx rfl (hb hby d3_35) rfl rfl ?_
    refine own_getR X3 hx hZ hown (own_w hw 55 rfl) eh3 F_ids_ch (g := (mkF m 37 #[rv o, lv x1, .second, lv x2, .second, lv x2, .second, lv x4, .second, iv x5, iv x6, iv (1 : Int32), rv ch, iv (1 : Int32)] [(.ref ch)])) rfl rfl (hb hby d3_37) _ ?_
    refine XS.iload X3.here hx rfl (hb hby d3_40) rfl ?_
    show oS p e below T3 m 42 #[rv o, lv x1, .second, lv x2, .second, lv x2, .second, lv x4, .second, iv x5, iv x6, iv (1 : Int32), rv ch, iv (1 : Int32)] [(.int (1 : Int32)), (.ref ar0)] _
    refine XS.lloadN X3.here hx rfl (hb hby d3_42) rfl ?_
    show oS p e below T3 m 43 #[rv o, lv x1, .second, lv x2, .second, lv x2, .second, lv x4, .second, iv x5, iv x6, iv (1 : Int32), rv ch, iv (1 : Int32)] [(.long x1), (.int (1 : Int32)), (.ref ar0)] _
    refine st6 _ ?_
    refine XS.aload X6.here hx rfl (hb hby d3_44) rfl rfl ?_
    refine own_getR X6 hx hZ hown (own_w hw 56 rfl) e6 Fc8 (g := (mkF m 46 #[rv o, lv x1, .second, lv x2, .second, lv x2, .second, lv x4, .second, iv x5, iv x6, iv (1 : Int32), rv ch, iv (1 : Int32)] [(.ref ch)])) rfl rfl (hb hby d3_46) _ ?_
    refine XS.iload X6.here hx rfl (hb hby d3_49) rfl ?_
    show oS p e below T6 m 51 #[rv o, lv x1, .second, lv x2, .second, lv x2, .second, lv x4, .second, iv x5, iv x6, iv (1 : Int32), rv ch, iv (1 : Int32)] [(.int (1 : Int32)), (.ref ar1)] _
    refine XS.lloadN X6.here hx rfl (hb hby d3_51) rfl ?_
    show oS p e below T6 m 52 #[rv o, lv x1, .second, lv x2, .second, lv x2, .second, lv x4, .second, iv x5, iv x6, iv (1 : Int32), rv ch, iv (1 : Int32)] [(.long x2), (.int (1 : Int32)), (.ref ar1)] _
    refine st12 _ ?_
    refine XS.aload X12.here hx rfl (hb hby d3_53) rfl rfl ?_
    refine XS.iload X12.here hx rfl (hb hby d3_55) rfl ?_
    refine XS.lload X12.here hx rfl (hb hby d3_57) rfl ?_
    show oS p e below T12 m 59 #[rv o, lv x1, .second, lv x2, .second, lv x2, .second, lv x4, .second, iv x5, iv x6, iv (1 : Int32), rv ch, iv (1 : Int32)] [(.long x2), (.int (1 : Int32)), (.ref ch)] _
    refine st13.trans ?_
    refine XS.aload X13.here hx rfl (hb hby d3_62) rfl rfl ?_
    refine own_getR X13 hx hZ hown (own_w hw 64 rfl) eh13 Fc19 (g := (mkF m 64 #[rv o, lv x1, .second, lv x2, .second, lv x2, .second, lv x4, .second, iv x5, iv x6, iv (1 : Int32), rv ch, iv (1 : Int32)] [(.ref ch)])) rfl rfl (hb hby d3_64) _ ?_
    refine XS.iload X13.here hx rfl (hb hby d3_67) rfl ?_
    show oS p e below T13 m 69 #[rv o, lv x1, .second, lv x2, .second, lv x2, .second, lv x4, .second, iv x5, iv x6, iv (1 : Int32), rv ch, iv (1 : Int32)] [(.int (1 : Int32)), (.ref ar2)] _
    refine XS.lload X13.here hx rfl (hb hby d3_69) rfl ?_
    show oS p e below T13 m 71 #[rv o, lv x1, .second, lv x2, .second, lv x2, .second, lv x4, .second, iv x5, iv x6, iv (1 : Int32), rv ch, iv (1 : Int32)] [(.long x4), (.int (1 : Int32)), (.ref ar2)] _
    refine st23 _ ?_
    refine XS.aload X23.here hx rfl (hb hby d3_72) rfl rfl ?_
    refine own_getR X23 hx hZ hown (own_w hw 65 rfl) e23 Fc25 (g := (mkF m 74 #[rv o, lv x1, .second, lv x2, .second, lv x2, .second, lv x4, .second, iv x5, iv x6, iv (1 : Int32), rv ch, iv (1 : Int32)] [(.ref ch)])) rfl rfl (hb hby d3_74) _ ?_
    refine XS.iload X23.here hx rfl (hb hby d3_77) rfl ?_
    show oS p e below T23 m 79 #[rv o, lv x1, .second, lv x2, .second, lv x2, .second, lv x4, .second, iv x5, iv x6, iv (1 : Int32), rv ch, iv (1 : Int32)] [(.int (1 : Int32)), (.ref ar3)] _
    refine XS.iload X23.here hx rfl (hb hby d3_79) rfl ?_
    show oS p e below T23 m 81 #[rv o, lv x1, .second, lv x2, .second, lv x2, .second, lv x4, .second, iv x5, iv x6, iv (1 : Int32), rv ch, iv (1 : Int32)] [(.int x5), (.int (1 : Int32)), (.ref ar3)] _
    refine st29 _ ?_
    refine XS.aload X29.here hx rfl (hb hby d3_82) rfl rfl ?_
    refine own_getR X29 hx hZ hown (own_w hw 66 rfl) e29 Fc31 (g := (mkF m 84 #[rv o, lv x1, .second, lv x2, .second, lv x2, .second, lv x4, .second, iv x5, iv x6, iv (1 : Int32), rv ch, iv (1 : Int32)] [(.ref ch)])) rfl rfl (hb hby d3_84) _ ?_
    refine XS.iload X29.here hx rfl (hb hby d3_87) rfl ?_
    show oS p e below T29 m 89 #[rv o, lv x1, .second, lv x2, .second, lv x2, .second, lv x4, .second, iv x5, iv x6, iv (1 : Int32), rv ch, iv (1 : Int32)] [(.int (1 : Int32)), (.ref ar4)] _
    refine XS.iload X29.here hx rfl (hb hby d3_89) rfl ?_
    show oS p e below T29 m 91 #[rv o, lv x1, .second, lv x2, .second, lv x2, .second, lv x4, .second, iv x5, iv x6, iv (1 : Int32), rv ch, iv (1 : Int32)] [(.int x6), (.int (1 : Int32)), (.ref ar4)] _
    refine st35 _ ?_
    refine XS.aload X35.here hx rfl (hb hby d3_92) rfl rfl ?_
    refine own_getR X35 hx hZ hown (own_w hw 67 rfl) e35 Fc37 (g := (mkF m 94 #[rv o, lv x1, .second, lv x2, .second, lv x2, .second, lv x4, .second, iv x5, iv x6, iv (1 : Int32), rv ch, iv (1 : Int32)] [(.ref ch)])) rfl rfl (hb hby d3_94) _ ?_
    refine XS.iload X35.here hx rfl (hb hby d3_97) rfl ?_
    show oS p e below T35 m 99 #[rv o, lv x1, .second, lv x2, .second, lv x2, .second, lv x4, .second, iv x5, iv x6, iv (1 : Int32), rv ch, iv (1 : Int32)] [(.int (1 : Int32)), (.ref ar5)] _
    refine XS.iconst X35.here hx rfl (hb hby d3_99) ?_
    show oS p e below T35 m 100 #[rv o, lv x1, .second, lv x2, .second, lv x2, .second, lv x4, .second, iv x5, iv x6, iv (1 : Int32), rv ch, iv (1 : Int32)] [(.int (1 : Int32)), (.int (1 : Int32)), (.ref ar5)] _
    refine st41 _ ?_
    refine XS.aload X41.here hx rfl (hb hby d3_101) rfl rfl ?_
    refine XS.dup X41.here hx rfl (hb hby d3_103) rfl rfl ?_
    refine own_getR X41 hx hZ hown (own_w hw 68 rfl) e41 Fc43 (g := (mkF m 104 #[rv o, lv x1, .second, lv x2, .second, lv x2, .second, lv x4, .second, iv x5, iv x6, iv (1 : Int32), rv ch, iv (1 : Int32)] [(.ref ch), (.ref ch)])) rfl rfl (hb hby d3_104) _ ?_
    show oS p e below T41 m 107 #[rv o, lv x1, .second, lv x2, .second, lv x2, .second, lv x4, .second, iv x5, iv x6, iv (1 : Int32), rv ch, iv (1 : Int32)] [(.int (1 : Int32)), (.ref ch)] _
    refine XS.iconst X41.here hx rfl (hb hby d3_107) ?_
    refine XS.iadd X41.here hx rfl (hb hby d3_108) rfl ?_
    show oS p e below T41 m 109 #[rv o, lv x1, .second, lv x2, .second, lv x2, .second, lv x4, .second, iv x5, iv x6, iv (1 : Int32), rv ch, iv (1 : Int32)] [(.int (2 : Int32)), (.ref ch)] _
    refine st46 _ ?_
    refine XS.aloadN X46.here hx rfl (hb hby d3_112) rfl rfl ?_
    refine XS.dup X46.here hx rfl (hb hby d3_113) rfl rfl ?_
    show oS p e below T46 m 114 #[rv o, lv x1, .second, lv x2, .second, lv x2, .second, lv x4, .second, iv x5, iv x6, iv (1 : Int32), rv ch, iv (1 : Int32)] [(.ref o), (.ref o)] _
    refine st57 _ ?_
    refine XS.iconst X57.here hx rfl (hb hby d3_117) ?_
    refine XS.iadd X57.here hx rfl (hb hby d3_118) rfl ?_
    show oS p e below T57 m 119 #[rv o, lv x1, .second, lv x2, .second, lv x2, .second, lv x4, .second, iv x5, iv x6, iv (1 : Int32), rv ch, iv (1 : Int32)] [(.int (2 : Int32)), (.ref o)] _
    refine st58 _ ?_
    refine XS.aloadN X58.here hx rfl (hb hby d3_122) rfl rfl ?_
    refine XS.dup X58.here hx rfl (hb hby d3_123) rfl rfl ?_
    show oS p e below T58 m 124 #[rv o, lv x1, .second, lv x2, .second, lv x2, .second, lv x4, .second, iv x5, iv x6, iv (1 : Int32), rv ch, iv (1 : Int32)] [(.ref o), (.ref o)] _
    refine st60 _ ?_
    refine XS.iconst X60.here hx rfl (hb hby d3_127) ?_
    refine XS.iadd X60.here hx rfl (hb hby d3_128) rfl ?_
    show oS p e below T60 m 129 #[rv o, lv x1, .second, lv x2, .second, lv x2, .second, lv x4, .second, iv x5, iv x6, iv (1 : Int32), rv ch, iv (1 : Int32)] [(.int (2 : Int32)), (.ref o)] _
    refine st62 _ ?_
    refine XS.aloadN X62.here hx rfl (hb hby d3_132) rfl rfl ?_
    show oS p e below T62 m 133 #[rv o, lv x1, .second, lv x2, .second, lv x2, .second, lv x4, .second, iv x5, iv x6, iv (1 : Int32), rv ch, iv (1 : Int32)] [(.ref o)] _
    refine st63 _ ?_
    refine XS.aloadN X63.here hx rfl (hb hby d3_136) rfl rfl ?_
    show oS p e below T63 m 137 #[rv o, lv x1, .second, lv x2, .second, lv x2, .second, lv x4, .second, iv x5, iv x6, iv (1 : Int32), rv ch, iv (1 : Int32)] [(.ref o), (.int (2 : Int32))] _
    refine st65 _ ?_
    show oS p e below T65 m 140 #[rv o, lv x1, .second, lv x2, .second, lv x2, .second, lv x4, .second, iv x5, iv x6, iv (1 : Int32), rv ch, iv (1 : Int32)] [(.int (4 : Int32)), (.int (2 : Int32))] _
    refine st66 _ ?_
    refine XS.icmpYes X66.here hx rfl (pc0 := 143) (pc' := 159) rfl (hb hby d3_143) rfl (flt (by decide : ¬ ((12 : Int32) < (2 : Int32)))).2.2.2 (by decide) (by decide) ?_
    refine XS.aloadN X66.here hx rfl (hb hby d3_159) rfl rfl ?_
    refine XS.lloadN X66.here hx rfl (hb hby d3_160) rfl ?_
    show oS p e below T66 m 161 #[rv o, lv x1, .second, lv x2, .second, lv x2, .second, lv x4, .second, iv x5, iv x6, iv (1 : Int32), rv ch, iv (1 : Int32)] [(.long x1), (.ref o)] _
    refine XS.iload X66.here hx rfl (hb hby d3_161) rfl ?_
    show oS p e below T66 m 163 #[rv o, lv x1, .second, lv x2, .second, lv x2, .second, lv x4, .second, iv x5, iv x6, iv (1 : Int32), rv ch, iv (1 : Int32)] [(.int (1 : Int32)), (.long x1), (.ref o)] _
    refine st68.trans ?_
    exact kt
  have KP75 : Keep h0 T68.heap [o, ch, ix, ar0, ar1, ar2, ar3, ar4, ar5] := (((((((((((Keep.refl h0 [o, ch, ix, ar0, ar1, ar2, ar3, ar4, ar5]).wr W6 (Or.inl (List.mem_of_getElem? (i := 3) rfl))).wr W12 (Or.inl (List.mem_of_getElem? (i := 4) rfl))).wr W23 (Or.inl (List.mem_of_getElem? (i := 5) rfl))).wr W29 (Or.inl (List.mem_of_getElem? (i := 6) rfl))).wr W35 (Or.inl (List.mem_of_getElem? (i := 7) rfl))).wr W41 (Or.inl (List.mem_of_getElem? (i := 8) rfl))).wr W46 (Or.inl (List.mem_of_getElem? (i := 1) rfl))).wr W58 (Or.inl (List.mem_of_getElem? (i := 0) rfl))).wr W62 (Or.inl (List.mem_of_getElem? (i := 0) rfl))).trans K68 (allS (Or.inl (List.mem_of_getElem? (i := 2) rfl)) all0))
  have Fc76 : Fld Z T68.heap o oz0 "chunks" oz2 (.ref cs) := ((((((((((F_chunks_o.other W6 (Or.inl ne47)).other W12 (Or.inl ne48)).other W23 (Or.inl ne49)).other W29 (Or.inl ne50)).other W35 (Or.inl ne51)).other W41 (Or.inl ne52)).other W46 (Or.inl ne53)).other W58 (Or.inr (slot_ne (Or.inl (own_w hw 12 rfl)) (Or.inl (own_w hw 24 rfl)) (by decide) (t := (.array (.object oz1))) (t' := .int) (by decide) (by decide)))).other W62 (Or.inr (slot_ne (Or.inl (own_w hw 12 rfl)) (Or.inl (own_w hw 71 rfl)) (by decide) (t := (.array (.object oz1))) (t' := .int) (by decide) (by decide)))).keep K68 (ninS ne72 nin0))
  have Fc77 : Fld Z T68.heap o oz0 "index" "[I" (.ref ix) := (Fc70.keep K68 (ninS ne72 nin0))
  have Fc78 : Fld Z T68.heap o oz0 "indexBits" "I" (.int (4 : Int32)) := (Fc64.keep K68 (ninS ne72 nin0))
  have Fc79 : Fld Z T68.heap o oz0 "tail" "I" (.int (2 : Int32)) := ((Fw58.other W62 (Or.inr (slot_ne (Or.inl (own_w hw 24 rfl)) (Or.inl (own_w hw 71 rfl)) (by decide) (t := .int) (t' := .int) (by decide) (by decide)))).keep K68 (ninS ne72 nin0))
  have Fc80 : Fld Z T68.heap o oz0 "size" "I" (.int (2 : Int32)) := (Fw62.keep K68 (ninS ne72 nin0))
  have Fc81 : Fld Z T68.heap o oz0 "firstChunk" "I" (.int (0 : Int32)) := ((((((((((F_firstChunk_o.other W6 (Or.inl ne47)).other W12 (Or.inl ne48)).other W23 (Or.inl ne49)).other W29 (Or.inl ne50)).other W35 (Or.inl ne51)).other W41 (Or.inl ne52)).other W46 (Or.inl ne53)).other W58 (Or.inr (slot_ne (Or.inl (own_w hw 31 rfl)) (Or.inl (own_w hw 24 rfl)) (by decide) (t := .int) (t' := .int) (by decide) (by decide)))).other W62 (Or.inr (slot_ne (Or.inl (own_w hw 31 rfl)) (Or.inl (own_w hw 71 rfl)) (by decide) (t := .int) (t' := .int) (by decide) (by decide)))).keep K68 (ninS ne72 nin0))
  have Fc82 : Fld Z T68.heap o oz0 "heldChunks" "I" (.int (1 : Int32)) := ((((((((((F_heldChunks_o.other W6 (Or.inl ne47)).other W12 (Or.inl ne48)).other W23 (Or.inl ne49)).other W29 (Or.inl ne50)).other W35 (Or.inl ne51)).other W41 (Or.inl ne52)).other W46 (Or.inl ne53)).other W58 (Or.inr (slot_ne (Or.inl (own_w hw 54 rfl)) (Or.inl (own_w hw 24 rfl)) (by decide) (t := .int) (t' := .int) (by decide) (by decide)))).other W62 (Or.inr (slot_ne (Or.inl (own_w hw 54 rfl)) (Or.inl (own_w hw 71 rfl)) (by decide) (t := .int) (t' := .int) (by decide) (by decide)))).keep K68 (ninS ne72 nin0))
  have Fc83 : Fld Z T68.heap o oz0 "head" "I" (.int (0 : Int32)) := ((((((((((F_head_o.other W6 (Or.inl ne47)).other W12 (Or.inl ne48)).other W23 (Or.inl ne49)).other W29 (Or.inl ne50)).other W35 (Or.inl ne51)).other W41 (Or.inl ne52)).other W46 (Or.inl ne53)).other W58 (Or.inr (slot_ne (Or.inl (own_w hw 111 rfl)) (Or.inl (own_w hw 24 rfl)) (by decide) (t := .int) (t' := .int) (by decide) (by decide)))).other W62 (Or.inr (slot_ne (Or.inl (own_w hw 111 rfl)) (Or.inl (own_w hw 71 rfl)) (by decide) (t := .int) (t' := .int) (by decide) (by decide)))).keep K68 (ninS ne72 nin0))
  have Fc84 : Fld Z T68.heap o oz0 "availableFrom" "I" (.int (0 : Int32)) := ((((((((((F_availableFrom_o.other W6 (Or.inl ne47)).other W12 (Or.inl ne48)).other W23 (Or.inl ne49)).other W29 (Or.inl ne50)).other W35 (Or.inl ne51)).other W41 (Or.inl ne52)).other W46 (Or.inl ne53)).other W58 (Or.inr (slot_ne (Or.inl (own_w hw 105 rfl)) (Or.inl (own_w hw 24 rfl)) (by decide) (t := .int) (t' := .int) (by decide) (by decide)))).other W62 (Or.inr (slot_ne (Or.inl (own_w hw 105 rfl)) (Or.inl (own_w hw 71 rfl)) (by decide) (t := .int) (t' := .int) (by decide) (by decide)))).keep K68 (ninS ne72 nin0))
  have Fc85 : Fld Z T68.heap ch oz1 "rows" "I" (.int (2 : Int32)) := (((Fw46.other W58 (Or.inl (Ne.symm ne53))).other W62 (Or.inl (Ne.symm ne53))).keep K68 (ninS ne71 nin0))
  have Fc86 : Fld Z T68.heap ch oz1 "addresses" "[J" .null := ((((((((Fc16.other W23 (Or.inl ne24)).other W29 (Or.inl ne30)).other W35 (Or.inl ne36)).other W41 (Or.inl ne42)).other W46 (Or.inr (slot_ne (Or.inl (own_w hw 63 rfl)) (Or.inl (own_w hw 69 rfl)) (by decide) (t := (.array .long)) (t' := .int) (by decide) (by decide)))).other W58 (Or.inl (Ne.symm ne53))).other W62 (Or.inl (Ne.symm ne53))).keep K68 (ninS ne71 nin0))
  have Fc87 : Fld Z T68.heap ch oz1 "ids" "[J" (.ref ar0) := ((((((((((F_ids_ch.other W6 (Or.inl ne7)).other W12 (Or.inl ne15)).other W23 (Or.inl ne24)).other W29 (Or.inl ne30)).other W35 (Or.inl ne36)).other W41 (Or.inl ne42)).other W46 (Or.inr (slot_ne (Or.inr (own_w hw 40 rfl)) (Or.inl (own_w hw 69 rfl)) (by decide) (t := (.array .long)) (t' := .int) (by decide) (by decide)))).other W58 (Or.inl (Ne.symm ne53))).other W62 (Or.inl (Ne.symm ne53))).keep K68 (ninS ne71 nin0))
  have Fc88 : Fld Z T68.heap ch oz1 "arrivals" "[J" (.ref ar1) := ((((((((Fc17.other W23 (Or.inl ne24)).other W29 (Or.inl ne30)).other W35 (Or.inl ne36)).other W41 (Or.inl ne42)).other W46 (Or.inr (slot_ne (Or.inr (own_w hw 42 rfl)) (Or.inl (own_w hw 69 rfl)) (by decide) (t := (.array .long)) (t' := .int) (by decide) (by decide)))).other W58 (Or.inl (Ne.symm ne53))).other W62 (Or.inl (Ne.symm ne53))).keep K68 (ninS ne71 nin0))
  have Fc89 : Fld Z T68.heap ch oz1 "arrivedAts" "[J" (.ref ar2) := ((((((((Fc19.other W23 (Or.inl ne24)).other W29 (Or.inl ne30)).other W35 (Or.inl ne36)).other W41 (Or.inl ne42)).other W46 (Or.inr (slot_ne (Or.inr (own_w hw 44 rfl)) (Or.inl (own_w hw 69 rfl)) (by decide) (t := (.array .long)) (t' := .int) (by decide) (by decide)))).other W58 (Or.inl (Ne.symm ne53))).other W62 (Or.inl (Ne.symm ne53))).keep K68 (ninS ne71 nin0))
  have Fc90 : Fld Z T68.heap ch oz1 "deliveryCounts" "[I" (.ref ar3) := (((((((Fc25.other W29 (Or.inl ne30)).other W35 (Or.inl ne36)).other W41 (Or.inl ne42)).other W46 (Or.inr (slot_ne (Or.inr (own_w hw 46 rfl)) (Or.inl (own_w hw 69 rfl)) (by decide) (t := (.array .int)) (t' := .int) (by decide) (by decide)))).other W58 (Or.inl (Ne.symm ne53))).other W62 (Or.inl (Ne.symm ne53))).keep K68 (ninS ne71 nin0))
  have Fc91 : Fld Z T68.heap ch oz1 "causes" "[I" (.ref ar4) := ((((((Fc31.other W35 (Or.inl ne36)).other W41 (Or.inl ne42)).other W46 (Or.inr (slot_ne (Or.inr (own_w hw 48 rfl)) (Or.inl (own_w hw 69 rfl)) (by decide) (t := (.array .int)) (t' := .int) (by decide) (by decide)))).other W58 (Or.inl (Ne.symm ne53))).other W62 (Or.inl (Ne.symm ne53))).keep K68 (ninS ne71 nin0))
  have Fc92 : Fld Z T68.heap ch oz1 "states" "[B" (.ref ar5) := (((((Fc37.other W41 (Or.inl ne42)).other W46 (Or.inr (slot_ne (Or.inr (own_w hw 51 rfl)) (Or.inl (own_w hw 69 rfl)) (by decide) (t := (.array .byte)) (t' := .int) (by decide) (by decide)))).other W58 (Or.inl (Ne.symm ne53))).other W62 (Or.inl (Ne.symm ne53))).keep K68 (ninS ne71 nin0))
  have Vc93 : Arv Z T68.heap ar0 kz0 .long (1024 : Int32) [(.long e0_0), (.long x1), (.long (0 : Int64))] (.long (0 : Int64)) := (((((((((Va6.other W12 ne_ar0_ar1).other W23 ne_ar0_ar2).other W29 ne_ar0_ar3).other W35 ne_ar0_ar4).other W41 ne_ar0_ar5).other W46 (Ne.symm ne7)).other W58 (Ne.symm ne47)).other W62 (Ne.symm ne47)).keep K68 (ninS (Ne.symm ne_ix_ar0) nin0))
  have Vc94 : Arv Z T68.heap ar1 kz1 .long (1024 : Int32) [(.long e1_0), (.long x2), (.long (0 : Int64))] (.long (0 : Int64)) := ((((((((Va12.other W23 ne_ar1_ar2).other W29 ne_ar1_ar3).other W35 ne_ar1_ar4).other W41 ne_ar1_ar5).other W46 (Ne.symm ne15)).other W58 (Ne.symm ne48)).other W62 (Ne.symm ne48)).keep K68 (ninS (Ne.symm ne_ix_ar1) nin0))
  have Vc95 : Arv Z T68.heap ar2 kz2 .long (1024 : Int32) [(.long e2_0), (.long x4), (.long (0 : Int64))] (.long (0 : Int64)) := (((((((Va23.other W29 ne_ar2_ar3).other W35 ne_ar2_ar4).other W41 ne_ar2_ar5).other W46 (Ne.symm ne24)).other W58 (Ne.symm ne49)).other W62 (Ne.symm ne49)).keep K68 (ninS (Ne.symm ne_ix_ar2) nin0))
  have Vc96 : Arv Z T68.heap ar3 kz3 .int (1024 : Int32) [(.int e3_0), (.int x5), (.int (0 : Int32))] (.int (0 : Int32)) := ((((((Va29.other W35 ne_ar3_ar4).other W41 ne_ar3_ar5).other W46 (Ne.symm ne30)).other W58 (Ne.symm ne50)).other W62 (Ne.symm ne50)).keep K68 (ninS (Ne.symm ne_ix_ar3) nin0))
  have Vc97 : Arv Z T68.heap ar4 kz4 .int (1024 : Int32) [(.int e4_0), (.int x6), (.int (0 : Int32))] (.int (0 : Int32)) := (((((Va35.other W41 ne_ar4_ar5).other W46 (Ne.symm ne36)).other W58 (Ne.symm ne51)).other W62 (Ne.symm ne51)).keep K68 (ninS (Ne.symm ne_ix_ar4) nin0))
  have Vc98 : Arv Z T68.heap ar5 kz5 .byte (1024 : Int32) [(.int (1 : Int32)), (.int (1 : Int32)), (.int (0 : Int32))] (.int (0 : Int32)) := ((((Va41.other W46 (Ne.symm ne42)).other W58 (Ne.symm ne52)).other W62 (Ne.symm ne52)).keep K68 (ninS (Ne.symm ne_ix_ar5) nin0))
  obtain ⟨fs, hr, hrun, hended, hW, hsame⟩ := X68.leave (v := none) (fun _ => rfl)
  refine ⟨_, _, pre0 _ (pre74 _ ?_), hrun, hended, _, _, rfl, ?_, ⟨_, rfl⟩, hW, hsame.mono (by decide) (by decide)⟩
  · show oS p e below T68 m 166 #[rv o, lv x1, .second, lv x2, .second, lv x2, .second, lv x4, .second, iv x5, iv x6, iv (1 : Int32), rv ch, iv (1 : Int32)] [] _
    exact X68.returnOut hx Bd.returns (hb hby d3_166) hr
  · show QADD1 Z o x1 x2 x4 x5 x6 cs kc ix ch ar0 ar1 ar2 ar3 ar4 ar5 kz0 kz1 kz2 kz3 kz4 kz5 e0_0 e1_0 e2_0 e3_0 e4_0 h0 n0 _ T68.heap _
    exact ⟨rfl, N68, KP75, Fc76, Fc77, Fc78, Fc79, Fc80, Fc81, Fc82, Fc83, Fc84, pf68_0, Fc85, Fc86, Fc87, Fc88, Fc89, Fc90, Fc91, Fc92, Vc93, Vc94, Vc95, Vc96, Vc97, Vc98⟩
theorem efADD2 (m : MethodId) (o : Addr) (x1 : Int64) (x2 : Int64) (x4 : Int64) (x5 : Int32) (x6 : Int32) : entryFrame m #[(.ref o), (.long x1), (.long x2), (.long x2), (.long x4), (.int x5), (.int x6)] 14 = mkF m 0 #[rv o, lv x1, .second, lv x2, .second, lv x2, .second, lv x4, .second, iv x5, iv x6, .unset, .unset, .unset] [] := by first | (simp [entryFrame, mkF, argsToLocals, Value.category]; done) | rfl
def QADD2 (Z : State) (o : Addr) (x1 : Int64) (x2 : Int64) (x4 : Int64) (x5 : Int32) (x6 : Int32) (cs : Addr) (kc : ClassId) (ix : Addr) (ch : Addr) (ar0 : Addr) (ar1 : Addr) (ar2 : Addr) (ar3 : Addr) (ar4 : Addr) (ar5 : Addr) (kz0 : ClassId) (kz1 : ClassId) (kz2 : ClassId) (kz3 : ClassId) (kz4 : ClassId) (kz5 : ClassId) (e0_0 : Int64) (e0_1 : Int64) (e1_0 : Int64) (e1_1 : Int64) (e2_0 : Int64) (e2_1 : Int64) (e3_0 : Int32) (e3_1 : Int32) (e4_0 : Int32) (e4_1 : Int32) (h0 : Heap) (n0 : Nat) (v : Option Value) (h : Heap) (L : List Loc) : Prop := v = none ∧ Fr n0 L ∧ Keep h0 h [o, ch, ix, ar0, ar1, ar2, ar3, ar4, ar5] ∧ Fld Z h o oz0 "chunks" oz2 (.ref cs) ∧ Fld Z h o oz0 "index" "[I" (.ref ix) ∧ Fld Z h o oz0 "indexBits" "I" (.int (4 : Int32)) ∧ Fld Z h o oz0 "tail" "I" (.int (3 : Int32)) ∧ Fld Z h o oz0 "size" "I" (.int (3 : Int32)) ∧ Fld Z h o oz0 "firstChunk" "I" (.int (0 : Int32)) ∧ Fld Z h o oz0 "heldChunks" "I" (.int (1 : Int32)) ∧ Fld Z h o oz0 "head" "I" (.int (0 : Int32)) ∧ Fld Z h o oz0 "availableFrom" "I" (.int (0 : Int32)) ∧ (own_Ix Z h ix 3) ∧ Fld Z h ch oz1 "rows" "I" (.int (3 : Int32)) ∧ Fld Z h ch oz1 "addresses" "[J" .null ∧ Fld Z h ch oz1 "ids" "[J" (.ref ar0) ∧ Fld Z h ch oz1 "arrivals" "[J" (.ref ar1) ∧ Fld Z h ch oz1 "arrivedAts" "[J" (.ref ar2) ∧ Fld Z h ch oz1 "deliveryCounts" "[I" (.ref ar3) ∧ Fld Z h ch oz1 "causes" "[I" (.ref ar4) ∧ Fld Z h ch oz1 "states" "[B" (.ref ar5) ∧ Arv Z h ar0 kz0 .long (1024 : Int32) [(.long e0_0), (.long e0_1), (.long x1)] (.long (0 : Int64)) ∧ Arv Z h ar1 kz1 .long (1024 : Int32) [(.long e1_0), (.long e1_1), (.long x2)] (.long (0 : Int64)) ∧ Arv Z h ar2 kz2 .long (1024 : Int32) [(.long e2_0), (.long e2_1), (.long x4)] (.long (0 : Int64)) ∧ Arv Z h ar3 kz3 .int (1024 : Int32) [(.int e3_0), (.int e3_1), (.int x5)] (.int (0 : Int32)) ∧ Arv Z h ar4 kz4 .int (1024 : Int32) [(.int e4_0), (.int e4_1), (.int x6)] (.int (0 : Int32)) ∧ Arv Z h ar5 kz5 .byte (1024 : Int32) [(.int (1 : Int32)), (.int (1 : Int32)), (.int (1 : Int32))] (.int (0 : Int32))
set_option maxRecDepth 65536 in
set_option maxHeartbeats 40000000 in
theorem rmADD2 (l : Launch) (Z : State) (a0 : Array Value) (hw : ∀ d ∈ tables_1, d.before a0 Z = true) (ws : List Jvm.Cond) (o : Addr) (x1 : Int64) (x2 : Int64) (x4 : Int64) (x5 : Int32) (x6 : Int32) (cs : Addr) (kc : ClassId) (ix : Addr) (ch : Addr) (ar0 : Addr) (ar1 : Addr) (ar2 : Addr) (ar3 : Addr) (ar4 : Addr) (ar5 : Addr) (kz0 : ClassId) (kz1 : ClassId) (kz2 : ClassId) (kz3 : ClassId) (kz4 : ClassId) (kz5 : ClassId) (e0_0 : Int64) (e0_1 : Int64) (e1_0 : Int64) (e1_1 : Int64) (e2_0 : Int64) (e2_1 : Int64) (e3_0 : Int32) (e3_1 : Int32) (e4_0 : Int32) (e4_1 : Int32) (h0 : Heap) (n0 : Nat) (Z0 : n0 ≤ h0.size) (E_o : Exa Z h0 o oz0) (g_o : n0 ≤ o) (g_cs : n0 ≤ cs) (g_ix : n0 ≤ ix) (O_cs : Ovr Z kc oz1) (F_chunks_o : Fld Z h0 o oz0 "chunks" oz2 (.ref cs)) (F_index_o : Fld Z h0 o oz0 "index" "[I" (.ref ix)) (F_indexBits_o : Fld Z h0 o oz0 "indexBits" "I" (.int (4 : Int32))) (F_tail_o : Fld Z h0 o oz0 "tail" "I" (.int (2 : Int32))) (F_size_o : Fld Z h0 o oz0 "size" "I" (.int (2 : Int32))) (F_firstChunk_o : Fld Z h0 o oz0 "firstChunk" "I" (.int (0 : Int32))) (F_heldChunks_o : Fld Z h0 o oz0 "heldChunks" "I" (.int (1 : Int32))) (F_head_o : Fld Z h0 o oz0 "head" "I" (.int (0 : Int32))) (F_availableFrom_o : Fld Z h0 o oz0 "availableFrom" "I" (.int (0 : Int32))) (V_cs : Arv Z h0 cs kc (.object oz1) (1 : Int32) [(.ref ch)] .null) (X_ix : own_Ix Z h0 ix 2) (E_ch : Exa Z h0 ch oz1) (g_ch : n0 ≤ ch) (g_ar0 : n0 ≤ ar0) (g_ar1 : n0 ≤ ar1) (g_ar2 : n0 ≤ ar2) (g_ar3 : n0 ≤ ar3) (g_ar4 : n0 ≤ ar4) (g_ar5 : n0 ≤ ar5) (ne_cs_ix : cs ≠ ix) (ne_cs_ar0 : cs ≠ ar0) (ne_cs_ar1 : cs ≠ ar1) (ne_cs_ar2 : cs ≠ ar2) (ne_cs_ar3 : cs ≠ ar3) (ne_cs_ar4 : cs ≠ ar4) (ne_cs_ar5 : cs ≠ ar5) (ne_ix_ar0 : ix ≠ ar0) (ne_ix_ar1 : ix ≠ ar1) (ne_ix_ar2 : ix ≠ ar2) (ne_ix_ar3 : ix ≠ ar3) (ne_ix_ar4 : ix ≠ ar4) (ne_ix_ar5 : ix ≠ ar5) (ne_ar0_ar1 : ar0 ≠ ar1) (ne_ar0_ar2 : ar0 ≠ ar2) (ne_ar0_ar3 : ar0 ≠ ar3) (ne_ar0_ar4 : ar0 ≠ ar4) (ne_ar0_ar5 : ar0 ≠ ar5) (ne_ar1_ar2 : ar1 ≠ ar2) (ne_ar1_ar3 : ar1 ≠ ar3) (ne_ar1_ar4 : ar1 ≠ ar4) (ne_ar1_ar5 : ar1 ≠ ar5) (ne_ar2_ar3 : ar2 ≠ ar3) (ne_ar2_ar4 : ar2 ≠ ar4) (ne_ar2_ar5 : ar2 ≠ ar5) (ne_ar3_ar4 : ar3 ≠ ar4) (ne_ar3_ar5 : ar3 ≠ ar5) (ne_ar4_ar5 : ar4 ≠ ar5) (F_rows_ch : Fld Z h0 ch oz1 "rows" "I" (.int (2 : Int32))) (F_addresses_ch : Fld Z h0 ch oz1 "addresses" "[J" .null) (F_ids_ch : Fld Z h0 ch oz1 "ids" "[J" (.ref ar0)) (F_arrivals_ch : Fld Z h0 ch oz1 "arrivals" "[J" (.ref ar1)) (F_arrivedAts_ch : Fld Z h0 ch oz1 "arrivedAts" "[J" (.ref ar2)) (F_deliveryCounts_ch : Fld Z h0 ch oz1 "deliveryCounts" "[I" (.ref ar3)) (F_causes_ch : Fld Z h0 ch oz1 "causes" "[I" (.ref ar4)) (F_states_ch : Fld Z h0 ch oz1 "states" "[B" (.ref ar5)) (V_ar0 : Arv Z h0 ar0 kz0 .long (1024 : Int32) [(.long e0_0), (.long e0_1), (.long (0 : Int64))] (.long (0 : Int64))) (V_ar1 : Arv Z h0 ar1 kz1 .long (1024 : Int32) [(.long e1_0), (.long e1_1), (.long (0 : Int64))] (.long (0 : Int64))) (V_ar2 : Arv Z h0 ar2 kz2 .long (1024 : Int32) [(.long e2_0), (.long e2_1), (.long (0 : Int64))] (.long (0 : Int64))) (V_ar3 : Arv Z h0 ar3 kz3 .int (1024 : Int32) [(.int e3_0), (.int e3_1), (.int (0 : Int32))] (.int (0 : Int32))) (V_ar4 : Arv Z h0 ar4 kz4 .int (1024 : Int32) [(.int e4_0), (.int e4_1), (.int (0 : Int32))] (.int (0 : Int32))) (V_ar5 : Arv Z h0 ar5 kz5 .byte (1024 : Int32) [(.int (1 : Int32)), (.int (1 : Int32)), (.int (0 : Int32))] (.int (0 : Int32))) :
    MetFree l (⟨oz0, "add", "(JJJJII)V"⟩ : MethodName) (head1 (Jvm.Cond.code (⟨oz0, "add", "(JJJJII)V"⟩ : MethodName) prog_24_method_4_code 14 none :: ws) ({ frames := 2, cells := 0, slots := 0, locals := 31 } : Room)) (fun a U => a = #[(.ref o), (.long x1), (.long x2), (.long x2), (.long x4), (.int x5), (.int x6)] ∧ Z.Warmed39 U.vm ∧ U.heap = h0) (fun _ _ _ _ _ => True) (fun _ U oc U' => ∃ v L, oc = .returned v ∧ QADD2 Z o x1 x2 x4 x5 x6 cs kc ix ch ar0 ar1 ar2 ar3 ar4 ar5 kz0 kz1 kz2 kz3 kz4 kz5 e0_0 e0_1 e1_0 e1_1 e2_0 e2_1 e3_0 e3_1 e4_0 e4_1 h0 n0 v U'.heap L ∧ FrameEnd U oc U' L ({ frames := 2, cells := 0, slots := 0, locals := 31 } : Room).cells ({ frames := 2, cells := 0, slots := 0, locals := 31 } : Room).slots) := by
  refine MetFree.of_bodySF (plainFor_of_name own_pn0) hisR ?_
  intro p e s m args below meth c s₁ Bd hml0 hP hK
  obtain ⟨rfl, hZ, hh⟩ := hP
  have hx := Bd.exec
  have hby := Bd.bytes
  have hml : c.maxLocals = 14 := hml0
  have hown : s.vm.findClass oz0 = some m.cls := findClass_of_methodNamed Bd.named
  have hnm := (name_of_methodNamed Bd.named Bd.method).1
  have X0 : Stand p l e ({ frames := 2, cells := 0, slots := 0, locals := 31 } : Room) s m #[(.ref o), (.long x1), (.long x2), (.long x2), (.long x4), (.int x5), (.int x6)] below meth c s₁ [] 0 0 := Stand.of_body Bd
  have e0 : s₁.heap = h0 := by rw [← hh, Bd.state]; rfl
  have N0 := Fr.nil n0
  have pre0 : ∀ t, Steps p.tables e below (s₁.setTop (mkF m 0 #[rv o, lv x1, .second, lv x2, .second, lv x2, .second, lv x4, .second, iv x5, iv x6, .unset, .unset, .unset] [])) t → Steps p.tables e below (s₁.setTop (entryFrame m #[(.ref o), (.long x1), (.long x2), (.long x2), (.long x4), (.int x5), (.int x6)] 14)) t := fun t k => castTop (efADD2 m o x1 x2 x4 x5 x6) k
  obtain ⟨T1, X1, e1, st1⟩ := getF X0 hx hZ hown (host := "") (Or.inl (own_w hw 23 rfl)) Via.refl e0 F_tail_o (g := (mkF m 1 #[rv o, lv x1, .second, lv x2, .second, lv x2, .second, lv x4, .second, iv x5, iv x6, .unset, .unset, .unset] [(.ref o)])) rfl rfl (hb hby d3_1)
  obtain ⟨T2, X2, e2, st2⟩ := getF X1 hx hZ hown (host := "") (Or.inl (own_w hw 23 rfl)) Via.refl e1 F_tail_o (g := (mkF m 14 #[rv o, lv x1, .second, lv x2, .second, lv x2, .second, lv x4, .second, iv x5, iv x6, .unset, .unset, .unset] [(.ref o)])) rfl rfl (hb hby d3_14)
  obtain ⟨cq3, q3, q3'⟩ := E_o.cell
  obtain ⟨_, _, ⟨T3, Lw3, kw3, nw3⟩, -, X3, ⟨Lc3, hQ3, l3, y3, z3⟩, st3⟩ := X2.privateBack hx (y := (⟨oz0, "chunkForAdd", oz4⟩ : MethodName)) hown (mvT hZ (own_w hw 26 rfl)) (mvT hZ (own_w hw 27 rfl)) (own_selp hZ (own_w hw 1 rfl) (own_w hw 28 rfl) (own_w hw 27 rfl) (by decide)) (Cond.privateMethod_at (mvP hZ (own_w hw 28 rfl) (args := #[]))) (mvT hZ (own_w hw 29 rfl)) (by decide) (backOf (W := 0) (rmCB2 l Z a0 hw [] o cs kc ch h0 n0 Z0 E_o F_chunks_o F_firstChunk_o V_cs) hZ (own_w hw 29 rfl) (own_w hw 2 rfl) (by decide) (by decide)) (g := (mkF m 22 #[rv o, lv x1, .second, lv x2, .second, lv x2, .second, lv x4, .second, iv x5, iv x6, iv (2 : Int32), .unset, .unset] [(.int (2 : Int32)), (.ref o)])) rfl (by rw [hml]; rfl) (Steps.refl _) (a := o) (by rw [e2]; exact q3) q3' (argsL := [(.int (2 : Int32))]) (rest := []) (lenOf own_pd2 rfl) rfl (by show 2 * 0 + _ ≤ _; exact Nat.le_of_eq rfl) (hb hby d3_22) (fun _ _ => ⟨rfl, e2, (by decide : 0 + 0 ≤ _), (by decide : 0 + 0 ≤ _)⟩)
  dsimp only [Pt.U, Pt.locs, Pt.cells, Pt.slots] at X3 l3 y3 z3 st3 hQ3
  subst l3 y3 z3
  obtain ⟨rfl, Nq3, eh3⟩ := hQ3
  have N3 := Fr.app N0 Nq3
  obtain ⟨cl5, Ar5, qk5, Sz5, Ng5, Hs5, Gt5⟩ := id V_ar0
  have hin5 : ¬ ((2 : Int32) < 0 ∨ cl5.slots.size ≤ ((2 : Int32)).toNatClampNeg) := inb_of Sz5 ⟨by decide, by decide⟩
  obtain ⟨T6, h6, X6, e6, W6, st6⟩ := stJ X3 hx hZ eh3 Ar5 (j := (2 : Int32)) hin5 (g := (mkF m 43 #[rv o, lv x1, .second, lv x2, .second, lv x2, .second, lv x4, .second, iv x5, iv x6, iv (2 : Int32), rv ch, iv (2 : Int32)] [(.long x1), (.int (2 : Int32)), (.ref ar0)])) rfl rfl (hb hby d3_43)
  have Va6 : Arv Z h6 ar0 kz0 .long (1024 : Int32) [(.long e0_0), (.long e0_1), (.long x1)] (.long (0 : Int64)) := Arv.set Ar5 qk5 Sz5 Ng5 Hs5 Gt5 rfl W6 2 rfl (Nat.le_of_ble_eq_true rfl)
  have N6 := Fr.snoc X6 N3 g_ar0
  obtain ⟨_, Arn7, -⟩ := id Va6
  have ne7 : ch ≠ ar0 := ne_arr (E_ch.wr W6) (own_w hw 32 rfl) Arn7
  have Fc8 : Fld Z h6 ch oz1 "arrivals" "[J" (.ref ar1) := (F_arrivals_ch.other W6 (Or.inl ne7))
  have Vc10 : Arv Z h6 ar1 kz1 .long (1024 : Int32) [(.long e1_0), (.long e1_1), (.long (0 : Int64))] (.long (0 : Int64)) := (V_ar1.other W6 (Ne.symm ne_ar0_ar1))
  obtain ⟨cl11, Ar11, qk11, Sz11, Ng11, Hs11, Gt11⟩ := id Vc10
  have hin11 : ¬ ((2 : Int32) < 0 ∨ cl11.slots.size ≤ ((2 : Int32)).toNatClampNeg) := inb_of Sz11 ⟨by decide, by decide⟩
  obtain ⟨T12, h12, X12, e12, W12, st12⟩ := stJ X6 hx hZ e6 Ar11 (j := (2 : Int32)) hin11 (g := (mkF m 52 #[rv o, lv x1, .second, lv x2, .second, lv x2, .second, lv x4, .second, iv x5, iv x6, iv (2 : Int32), rv ch, iv (2 : Int32)] [(.long x2), (.int (2 : Int32)), (.ref ar1)])) rfl rfl (hb hby d3_52)
  have Va12 : Arv Z h12 ar1 kz1 .long (1024 : Int32) [(.long e1_0), (.long e1_1), (.long x2)] (.long (0 : Int64)) := Arv.set Ar11 qk11 Sz11 Ng11 Hs11 Gt11 rfl W12 2 rfl (Nat.le_of_ble_eq_true rfl)
  have N12 := Fr.snoc X12 N6 g_ar1
  have Ec14 : Exa Z h12 ch oz1 := ((E_ch.wr W6).wr W12)
  obtain ⟨_, Arn15, -⟩ := id Va12
  have ne15 : ch ≠ ar1 := ne_arr Ec14 (own_w hw 32 rfl) Arn15
  have Fc16 : Fld Z h12 ch oz1 "addresses" "[J" .null := ((F_addresses_ch.other W6 (Or.inl ne7)).other W12 (Or.inl ne15))
  have Fc17 : Fld Z h12 ch oz1 "arrivals" "[J" (.ref ar1) := (Fc8.other W12 (Or.inl ne15))
  have Zc18 : n0 ≤ h12.size := (Nat.le_trans (Nat.le_trans Z0 (Keep.of_wr W6).1) (Keep.of_wr W12).1)
  obtain ⟨cq13, kq13, q13a, q13b, q13c⟩ := isOf hZ e12 Ec14
  obtain ⟨_, _, ⟨T13, Lw13, kw13, nw13⟩, -, X13, ⟨Lc13, hQ13, l13, y13, z13⟩, st13⟩ := X12.virtualBack hx (y := (⟨oz1, "address", "(IJ)V"⟩ : MethodName)) (z := (⟨oz1, "address", "(IJ)V"⟩ : MethodName)) hown (mvT hZ (own_w hw 57 rfl)) (mvT hZ (own_w hw 58 rfl)) (notFace_of_selects (args := #[]) (mvT hZ (own_w hw 60 rfl))) (mvT hZ (own_w hw 60 rfl)) (mvT hZ (own_w hw 59 rfl)) (by decide) (backOf (W := 0) (rmAD2 l Z a0 hw [] ch x2 ar1 kz1 e1_0 e1_1 h12 n0 Zc18 Ec14 Fc16 Fc17 Va12) hZ (own_w hw 61 rfl) (own_w hw 33 rfl) (by decide) (by decide)) q13a q13c (g := (mkF m 59 #[rv o, lv x1, .second, lv x2, .second, lv x2, .second, lv x4, .second, iv x5, iv x6, iv (2 : Int32), rv ch, iv (2 : Int32)] [(.long x2), (.int (2 : Int32)), (.ref ch)])) rfl (by rw [hml]; rfl) (Steps.refl _) (argsL := [(.int (2 : Int32)), (.long x2)]) (rest := []) (lenOf own_pd3 rfl) rfl (by show 2 * 0 + _ ≤ _; exact Nat.le_of_eq rfl) (hb hby d3_59) (fun _ _ => ⟨rfl, e12, (by decide : 0 + 0 ≤ _), (by decide : 0 + 0 ≤ _)⟩)
  dsimp only [Pt.U, Pt.locs, Pt.cells, Pt.slots] at X13 l13 y13 z13 st13 hQ13
  subst l13 y13 z13
  obtain ⟨rfl, Nq13, eh13⟩ := hQ13
  have N13 := Fr.app N12 Nq13
  have Fc19 : Fld Z h12 ch oz1 "arrivedAts" "[J" (.ref ar2) := ((F_arrivedAts_ch.other W6 (Or.inl ne7)).other W12 (Or.inl ne15))
  have Vc21 : Arv Z h12 ar2 kz2 .long (1024 : Int32) [(.long e2_0), (.long e2_1), (.long (0 : Int64))] (.long (0 : Int64)) := ((V_ar2.other W6 (Ne.symm ne_ar0_ar2)).other W12 (Ne.symm ne_ar1_ar2))
  obtain ⟨cl22, Ar22, qk22, Sz22, Ng22, Hs22, Gt22⟩ := id Vc21
  have hin22 : ¬ ((2 : Int32) < 0 ∨ cl22.slots.size ≤ ((2 : Int32)).toNatClampNeg) := inb_of Sz22 ⟨by decide, by decide⟩
  obtain ⟨T23, h23, X23, e23, W23, st23⟩ := stJ X13 hx hZ eh13 Ar22 (j := (2 : Int32)) hin22 (g := (mkF m 71 #[rv o, lv x1, .second, lv x2, .second, lv x2, .second, lv x4, .second, iv x5, iv x6, iv (2 : Int32), rv ch, iv (2 : Int32)] [(.long x4), (.int (2 : Int32)), (.ref ar2)])) rfl rfl (hb hby d3_71)
  have Va23 : Arv Z h23 ar2 kz2 .long (1024 : Int32) [(.long e2_0), (.long e2_1), (.long x4)] (.long (0 : Int64)) := Arv.set Ar22 qk22 Sz22 Ng22 Hs22 Gt22 rfl W23 2 rfl (Nat.le_of_ble_eq_true rfl)
  have N23 := Fr.snoc X23 N13 g_ar2
  obtain ⟨_, Arn24, -⟩ := id Va23
  have ne24 : ch ≠ ar2 := ne_arr (Ec14.wr W23) (own_w hw 32 rfl) Arn24
  have Fc25 : Fld Z h23 ch oz1 "deliveryCounts" "[I" (.ref ar3) := (((F_deliveryCounts_ch.other W6 (Or.inl ne7)).other W12 (Or.inl ne15)).other W23 (Or.inl ne24))
  have Vc27 : Arv Z h23 ar3 kz3 .int (1024 : Int32) [(.int e3_0), (.int e3_1), (.int (0 : Int32))] (.int (0 : Int32)) := (((V_ar3.other W6 (Ne.symm ne_ar0_ar3)).other W12 (Ne.symm ne_ar1_ar3)).other W23 (Ne.symm ne_ar2_ar3))
  obtain ⟨cl28, Ar28, qk28, Sz28, Ng28, Hs28, Gt28⟩ := id Vc27
  have hin28 : ¬ ((2 : Int32) < 0 ∨ cl28.slots.size ≤ ((2 : Int32)).toNatClampNeg) := inb_of Sz28 ⟨by decide, by decide⟩
  obtain ⟨T29, h29, X29, e29, W29, st29⟩ := stI X23 hx hZ e23 Ar28 (j := (2 : Int32)) hin28 (g := (mkF m 81 #[rv o, lv x1, .second, lv x2, .second, lv x2, .second, lv x4, .second, iv x5, iv x6, iv (2 : Int32), rv ch, iv (2 : Int32)] [(.int x5), (.int (2 : Int32)), (.ref ar3)])) rfl rfl (hb hby d3_81)
  have Va29 : Arv Z h29 ar3 kz3 .int (1024 : Int32) [(.int e3_0), (.int e3_1), (.int x5)] (.int (0 : Int32)) := Arv.set Ar28 qk28 Sz28 Ng28 Hs28 Gt28 rfl W29 2 rfl (Nat.le_of_ble_eq_true rfl)
  have N29 := Fr.snoc X29 N23 g_ar3
  obtain ⟨_, Arn30, -⟩ := id Va29
  have ne30 : ch ≠ ar3 := ne_arr ((Ec14.wr W23).wr W29) (own_w hw 32 rfl) Arn30
  have Fc31 : Fld Z h29 ch oz1 "causes" "[I" (.ref ar4) := ((((F_causes_ch.other W6 (Or.inl ne7)).other W12 (Or.inl ne15)).other W23 (Or.inl ne24)).other W29 (Or.inl ne30))
  have Vc33 : Arv Z h29 ar4 kz4 .int (1024 : Int32) [(.int e4_0), (.int e4_1), (.int (0 : Int32))] (.int (0 : Int32)) := ((((V_ar4.other W6 (Ne.symm ne_ar0_ar4)).other W12 (Ne.symm ne_ar1_ar4)).other W23 (Ne.symm ne_ar2_ar4)).other W29 (Ne.symm ne_ar3_ar4))
  obtain ⟨cl34, Ar34, qk34, Sz34, Ng34, Hs34, Gt34⟩ := id Vc33
  have hin34 : ¬ ((2 : Int32) < 0 ∨ cl34.slots.size ≤ ((2 : Int32)).toNatClampNeg) := inb_of Sz34 ⟨by decide, by decide⟩
  obtain ⟨T35, h35, X35, e35, W35, st35⟩ := stI X29 hx hZ e29 Ar34 (j := (2 : Int32)) hin34 (g := (mkF m 91 #[rv o, lv x1, .second, lv x2, .second, lv x2, .second, lv x4, .second, iv x5, iv x6, iv (2 : Int32), rv ch, iv (2 : Int32)] [(.int x6), (.int (2 : Int32)), (.ref ar4)])) rfl rfl (hb hby d3_91)
  have Va35 : Arv Z h35 ar4 kz4 .int (1024 : Int32) [(.int e4_0), (.int e4_1), (.int x6)] (.int (0 : Int32)) := Arv.set Ar34 qk34 Sz34 Ng34 Hs34 Gt34 rfl W35 2 rfl (Nat.le_of_ble_eq_true rfl)
  have N35 := Fr.snoc X35 N29 g_ar4
  obtain ⟨_, Arn36, -⟩ := id Va35
  have ne36 : ch ≠ ar4 := ne_arr (((Ec14.wr W23).wr W29).wr W35) (own_w hw 32 rfl) Arn36
  have Fc37 : Fld Z h35 ch oz1 "states" "[B" (.ref ar5) := (((((F_states_ch.other W6 (Or.inl ne7)).other W12 (Or.inl ne15)).other W23 (Or.inl ne24)).other W29 (Or.inl ne30)).other W35 (Or.inl ne36))
  have Vc39 : Arv Z h35 ar5 kz5 .byte (1024 : Int32) [(.int (1 : Int32)), (.int (1 : Int32)), (.int (0 : Int32))] (.int (0 : Int32)) := (((((V_ar5.other W6 (Ne.symm ne_ar0_ar5)).other W12 (Ne.symm ne_ar1_ar5)).other W23 (Ne.symm ne_ar2_ar5)).other W29 (Ne.symm ne_ar3_ar5)).other W35 (Ne.symm ne_ar4_ar5))
  obtain ⟨cl40, Ar40, qk40, Sz40, Ng40, Hs40, Gt40⟩ := id Vc39
  have hin40 : ¬ ((2 : Int32) < 0 ∨ cl40.slots.size ≤ ((2 : Int32)).toNatClampNeg) := inb_of Sz40 ⟨by decide, by decide⟩
  obtain ⟨T41, h41, X41, e41, W41, st41⟩ := stB X35 hx hZ e35 Ar40 (j := (2 : Int32)) hin40 (g := (mkF m 100 #[rv o, lv x1, .second, lv x2, .second, lv x2, .second, lv x4, .second, iv x5, iv x6, iv (2 : Int32), rv ch, iv (2 : Int32)] [(.int (1 : Int32)), (.int (2 : Int32)), (.ref ar5)])) rfl rfl (hb hby d3_100)
  have Va41 : Arv Z h41 ar5 kz5 .byte (1024 : Int32) [(.int (1 : Int32)), (.int (1 : Int32)), (.int (1 : Int32))] (.int (0 : Int32)) := Arv.set Ar40 qk40 Sz40 Ng40 Hs40 Gt40 (fits_nar_byte _) W41 2 rfl (Nat.le_of_ble_eq_true rfl)
  have N41 := Fr.snoc X41 N35 g_ar5
  obtain ⟨_, Arn42, -⟩ := id Va41
  have ne42 : ch ≠ ar5 := ne_arr ((((Ec14.wr W23).wr W29).wr W35).wr W41) (own_w hw 32 rfl) Arn42
  have Fc43 : Fld Z h41 ch oz1 "rows" "I" (.int (2 : Int32)) := ((((((F_rows_ch.other W6 (Or.inl ne7)).other W12 (Or.inl ne15)).other W23 (Or.inl ne24)).other W29 (Or.inl ne30)).other W35 (Or.inl ne36)).other W41 (Or.inl ne42))
  have Ec45 : Exa Z h41 ch oz1 := ((((Ec14.wr W23).wr W29).wr W35).wr W41)
  obtain ⟨T46, h46, X46, e46, W46, st46⟩ := own_putR X41 hx hZ hown (own_w hw 68 rfl) e41 Fc43 Ec45 (own_w hw 69 rfl) (own_w hw 32 rfl) (ty := .int) (by decide) rfl rfl (g := (mkF m 109 #[rv o, lv x1, .second, lv x2, .second, lv x2, .second, lv x4, .second, iv x5, iv x6, iv (2 : Int32), rv ch, iv (2 : Int32)] [(.int (3 : Int32)), (.ref ch)])) rfl rfl (hb hby d3_109)
  have Fw46 : Fld Z h46 ch oz1 "rows" "I" (.int (3 : Int32)) := Fc43.same W46
  have N46 := Fr.snoc X46 N41 g_ch
  obtain ⟨_, Arn47, -⟩ := id Va6
  have ne47 : o ≠ ar0 := ne_arr (E_o.wr W6) (own_w hw 1 rfl) Arn47
  obtain ⟨_, Arn48, -⟩ := id Va12
  have ne48 : o ≠ ar1 := ne_arr ((E_o.wr W6).wr W12) (own_w hw 1 rfl) Arn48
  obtain ⟨_, Arn49, -⟩ := id Va23
  have ne49 : o ≠ ar2 := ne_arr (((E_o.wr W6).wr W12).wr W23) (own_w hw 1 rfl) Arn49
  obtain ⟨_, Arn50, -⟩ := id Va29
  have ne50 : o ≠ ar3 := ne_arr ((((E_o.wr W6).wr W12).wr W23).wr W29) (own_w hw 1 rfl) Arn50
  obtain ⟨_, Arn51, -⟩ := id Va35
  have ne51 : o ≠ ar4 := ne_arr (((((E_o.wr W6).wr W12).wr W23).wr W29).wr W35) (own_w hw 1 rfl) Arn51
  obtain ⟨_, Arn52, -⟩ := id Va41
  have ne52 : o ≠ ar5 := ne_arr ((((((E_o.wr W6).wr W12).wr W23).wr W29).wr W35).wr W41) (own_w hw 1 rfl) Arn52
  have Ec54 : Exa Z h46 o oz0 := (((((((E_o.wr W6).wr W12).wr W23).wr W29).wr W35).wr W41).wr W46)
  have Ec55 : Exa Z h46 ch oz1 := (Ec45.wr W46)
  have ne53 : o ≠ ch := ne_exa Ec54 Ec55 (by decide)
  have Fc56 : Fld Z h46 o oz0 "tail" "I" (.int (2 : Int32)) := (((((((F_tail_o.other W6 (Or.inl ne47)).other W12 (Or.inl ne48)).other W23 (Or.inl ne49)).other W29 (Or.inl ne50)).other W35 (Or.inl ne51)).other W41 (Or.inl ne52)).other W46 (Or.inl ne53))
  obtain ⟨T57, X57, e57, st57⟩ := getF X46 hx hZ hown (host := "") (Or.inl (own_w hw 23 rfl)) Via.refl e46 Fc56 (g := (mkF m 114 #[rv o, lv x1, .second, lv x2, .second, lv x2, .second, lv x4, .second, iv x5, iv x6, iv (2 : Int32), rv ch, iv (2 : Int32)] [(.ref o), (.ref o)])) rfl rfl (hb hby d3_114)
  obtain ⟨T58, h58, X58, e58, W58, st58⟩ := putF X57 hx hZ hown (host := "") (Or.inl (own_w hw 23 rfl)) Via.refl e57 Fc56 Ec54 (Or.inl (own_w hw 24 rfl)) (own_w hw 1 rfl) (ty := .int) (by decide) rfl rfl (g := (mkF m 119 #[rv o, lv x1, .second, lv x2, .second, lv x2, .second, lv x4, .second, iv x5, iv x6, iv (2 : Int32), rv ch, iv (2 : Int32)] [(.int (3 : Int32)), (.ref o)])) rfl rfl (hb hby d3_119)
  have Fw58 : Fld Z h58 o oz0 "tail" "I" (.int (3 : Int32)) := Fc56.same W58
  have N58 := Fr.snoc X58 N46 g_o
  have Fc59 : Fld Z h58 o oz0 "size" "I" (.int (2 : Int32)) := ((((((((F_size_o.other W6 (Or.inl ne47)).other W12 (Or.inl ne48)).other W23 (Or.inl ne49)).other W29 (Or.inl ne50)).other W35 (Or.inl ne51)).other W41 (Or.inl ne52)).other W46 (Or.inl ne53)).other W58 (Or.inr (slot_ne (Or.inl (own_w hw 71 rfl)) (Or.inl (own_w hw 24 rfl)) (by decide) (t := .int) (t' := .int) (by decide) (by decide))))
  obtain ⟨T60, X60, e60, st60⟩ := getF X58 hx hZ hown (host := "") (Or.inl (own_w hw 70 rfl)) Via.refl e58 Fc59 (g := (mkF m 124 #[rv o, lv x1, .second, lv x2, .second, lv x2, .second, lv x4, .second, iv x5, iv x6, iv (2 : Int32), rv ch, iv (2 : Int32)] [(.ref o), (.ref o)])) rfl rfl (hb hby d3_124)
  have Ec61 : Exa Z h58 o oz0 := (Ec54.wr W58)
  obtain ⟨T62, h62, X62, e62, W62, st62⟩ := putF X60 hx hZ hown (host := "") (Or.inl (own_w hw 70 rfl)) Via.refl e60 Fc59 Ec61 (Or.inl (own_w hw 71 rfl)) (own_w hw 1 rfl) (ty := .int) (by decide) rfl rfl (g := (mkF m 129 #[rv o, lv x1, .second, lv x2, .second, lv x2, .second, lv x4, .second, iv x5, iv x6, iv (2 : Int32), rv ch, iv (2 : Int32)] [(.int (3 : Int32)), (.ref o)])) rfl rfl (hb hby d3_129)
  have Fw62 : Fld Z h62 o oz0 "size" "I" (.int (3 : Int32)) := Fc59.same W62
  have N62 := Fr.snoc X62 N58 g_o
  obtain ⟨T63, X63, e63, st63⟩ := getF X62 hx hZ hown (host := "") (Or.inl (own_w hw 70 rfl)) Via.refl e62 Fw62 (g := (mkF m 133 #[rv o, lv x1, .second, lv x2, .second, lv x2, .second, lv x4, .second, iv x5, iv x6, iv (2 : Int32), rv ch, iv (2 : Int32)] [(.ref o)])) rfl rfl (hb hby d3_133)
  have Fc64 : Fld Z h62 o oz0 "indexBits" "I" (.int (4 : Int32)) := (((((((((F_indexBits_o.other W6 (Or.inl ne47)).other W12 (Or.inl ne48)).other W23 (Or.inl ne49)).other W29 (Or.inl ne50)).other W35 (Or.inl ne51)).other W41 (Or.inl ne52)).other W46 (Or.inl ne53)).other W58 (Or.inr (slot_ne (Or.inl (own_w hw 17 rfl)) (Or.inl (own_w hw 24 rfl)) (by decide) (t := .int) (t' := .int) (by decide) (by decide)))).other W62 (Or.inr (slot_ne (Or.inl (own_w hw 17 rfl)) (Or.inl (own_w hw 71 rfl)) (by decide) (t := .int) (t' := .int) (by decide) (by decide))))
  obtain ⟨T65, X65, e65, st65⟩ := getF X63 hx hZ hown (host := "") (Or.inl (own_w hw 16 rfl)) Via.refl e63 Fc64 (g := (mkF m 137 #[rv o, lv x1, .second, lv x2, .second, lv x2, .second, lv x4, .second, iv x5, iv x6, iv (2 : Int32), rv ch, iv (2 : Int32)] [(.ref o), (.int (3 : Int32))])) rfl rfl (hb hby d3_137)
  have Zc67 : n0 ≤ h62.size := (Nat.le_trans (Nat.le_trans (Nat.le_trans (Nat.le_trans (Nat.le_trans (Nat.le_trans (Nat.le_trans Zc18 (Keep.of_wr W23).1) (Keep.of_wr W29).1) (Keep.of_wr W35).1) (Keep.of_wr W41).1) (Keep.of_wr W46).1) (Keep.of_wr W58).1) (Keep.of_wr W62).1)
  obtain ⟨_, _, ⟨T66, Lw66, kw66, nw66⟩, -, X66, ⟨Lc66, hQ66, l66, y66, z66⟩, st66⟩ := Jvm.LawKit.callS X65 hx (y := (⟨oz0, "maxLoad", "(I)I"⟩ : MethodName)) hown (mvT hZ (own_w hw 72 rfl)) (mvT hZ (own_w hw 73 rfl)) (mvT hZ (own_w hw 2 rfl)) (mvT hZ (own_w hw 74 rfl)) (by decide) (backOf (W := 1) (rm7 l Z a0 hw []  h62 n0 Zc67 ) hZ (own_w hw 74 rfl) (own_w hw 2 rfl) (by decide) (by decide)) (g := (mkF m 140 #[rv o, lv x1, .second, lv x2, .second, lv x2, .second, lv x4, .second, iv x5, iv x6, iv (2 : Int32), rv ch, iv (2 : Int32)] [(.int (4 : Int32)), (.int (3 : Int32))])) rfl (by rw [hml]; rfl) (argsL := [(.int (4 : Int32))]) (rest := [(.int (3 : Int32))]) (lenOf own_pd4 rfl) rfl (by show 2 * 0 + _ ≤ _; exact Nat.le_of_eq rfl) (hb hby d3_140) (fun _ _ => ⟨rfl, e65, (by decide : 0 + 0 ≤ _), (by decide : 0 + 0 ≤ _)⟩)
  dsimp only [Pt.U, Pt.locs, Pt.cells, Pt.slots] at X66 l66 y66 z66 st66 hQ66
  subst l66 y66 z66
  obtain ⟨rfl, Nq66, eh66⟩ := hQ66
  have N66 := Fr.app N62 Nq66
  have Ec69 : Exa Z h62 o oz0 := (Ec61.wr W62)
  have Fc70 : Fld Z h62 o oz0 "index" "[I" (.ref ix) := (((((((((F_index_o.other W6 (Or.inl ne47)).other W12 (Or.inl ne48)).other W23 (Or.inl ne49)).other W29 (Or.inl ne50)).other W35 (Or.inl ne51)).other W41 (Or.inl ne52)).other W46 (Or.inl ne53)).other W58 (Or.inr (slot_ne (Or.inl (own_w hw 15 rfl)) (Or.inl (own_w hw 24 rfl)) (by decide) (t := (.array .int)) (t' := .int) (by decide) (by decide)))).other W62 (Or.inr (slot_ne (Or.inl (own_w hw 15 rfl)) (Or.inl (own_w hw 71 rfl)) (by decide) (t := (.array .int)) (t' := .int) (by decide) (by decide))))
  obtain ⟨_, _, _, Arn71, -⟩ := id X_ix
  have ne71 : ch ≠ ix := ne_arr E_ch (own_w hw 32 rfl) Arn71
  obtain ⟨_, _, _, Arn72, -⟩ := id X_ix
  have ne72 : o ≠ ix := ne_arr E_o (own_w hw 1 rfl) Arn72
  have Xc73 : own_Ix Z h62 ix 2 := (((((((((X_ix.other W6 ne_ix_ar0).other W12 ne_ix_ar1).other W23 ne_ix_ar2).other W29 ne_ix_ar3).other W35 ne_ix_ar4).other W41 ne_ix_ar5).other W46 (Ne.symm ne71)).other W58 (Ne.symm ne72)).other W62 (Ne.symm ne72))
  obtain ⟨cq68, q68, q68'⟩ := Ec69.cell
  obtain ⟨_, _, ⟨T68, Lw68, kw68, nw68⟩, -, X68, ⟨Lc68, hQ68, l68, y68, z68⟩, st68⟩ := X66.privateBack hx (y := (⟨oz0, "insert", "(JI)V"⟩ : MethodName)) hown (mvT hZ (own_w hw 75 rfl)) (mvT hZ (own_w hw 76 rfl)) (own_selp hZ (own_w hw 1 rfl) (own_w hw 77 rfl) (own_w hw 76 rfl) (by decide)) (Cond.privateMethod_at (mvP hZ (own_w hw 77 rfl) (args := #[]))) (mvT hZ (own_w hw 78 rfl)) (by decide) (backOf (W := 0) (rmIN2 l Z a0 hw [] o x1 ix h62 n0 Zc67 Ec69 g_ix Fc70 Fc64 Xc73) hZ (own_w hw 78 rfl) (own_w hw 2 rfl) (by decide) (by decide)) (g := (mkF m 163 #[rv o, lv x1, .second, lv x2, .second, lv x2, .second, lv x4, .second, iv x5, iv x6, iv (2 : Int32), rv ch, iv (2 : Int32)] [(.int (2 : Int32)), (.long x1), (.ref o)])) rfl (by rw [hml]; rfl) (Steps.refl _) (a := o) (by rw [eh66]; exact q68) q68' (argsL := [(.long x1), (.int (2 : Int32))]) (rest := []) (lenOf own_pd5 rfl) rfl (by show 2 * 0 + _ ≤ _; exact Nat.le_of_eq rfl) (hb hby d3_163) (fun _ _ => ⟨rfl, eh66, (by decide : 0 + 0 ≤ _), (by decide : 0 + 0 ≤ _)⟩)
  dsimp only [Pt.U, Pt.locs, Pt.cells, Pt.slots] at X68 l68 y68 z68 st68 hQ68
  subst l68 y68 z68
  obtain ⟨rfl, Nq68, K68, pf68_0⟩ := hQ68
  have N68 := Fr.app N66 Nq68
  have pre74 : ∀ tz, oS p e below T68 m 166 #[rv o, lv x1, .second, lv x2, .second, lv x2, .second, lv x4, .second, iv x5, iv x6, iv (2 : Int32), rv ch, iv (2 : Int32)] [] tz → oS p e below s₁ m 0 #[rv o, lv x1, .second, lv x2, .second, lv x2, .second, lv x4, .second, iv x5, iv x6, .unset, .unset, .unset] [] tz := fun tz kt => by
    show oS p e below s₁ m 0 #[rv o, lv x1, .second, lv x2, .second, lv x2, .second, lv x4, .second, iv x5, iv x6, .unset, .unset, .unset] [] _
    refine XS.aloadN X0.here hx rfl (hb hby d3_0) rfl rfl ?_
    show oS p e below s₁ m 1 #[rv o, lv x1, .second, lv x2, .second, lv x2, .second, lv x4, .second, iv x5, iv x6, .unset, .unset, .unset] [(.ref o)] _
    refine st1 _ ?_
    refine X1.ldcInt hx hown (mvT hZ (own_w hw 25 rfl)) (g := (mkF m 4 #[rv o, lv x1, .second, lv x2, .second, lv x2, .second, lv x4, .second, iv x5, iv x6, .unset, .unset, .unset] [(.int (2 : Int32))])) rfl (hb hby d3_4) _ ?_
    refine XS.icmpYes X1.here hx rfl (pc0 := 6) (pc' := 13) rfl (hb hby d3_6) rfl (feq (by decide : ¬ ((2 : Int32) = (2147482623 : Int32)))).2 (by decide) (by decide) ?_
    refine XS.aloadN X1.here hx rfl (hb hby d3_13) rfl rfl ?_
    show oS p e below T1 m 14 #[rv o, lv x1, .second, lv x2, .second, lv x2, .second, lv x4, .second, iv x5, iv x6, .unset, .unset, .unset] [(.ref o)] _
    refine st2 _ ?_
    refine XS.istore X2.here hx rfl (hb hby d3_17) rfl (l' := #[rv o, lv x1, .second, lv x2, .second, lv x2, .second, lv x4, .second, iv x5, iv x6, iv (2 : Int32), .unset, .unset]) rfl ?_
    refine XS.aloadN X2.here hx rfl (hb hby d3_19) rfl rfl ?_
    refine XS.iload X2.here hx rfl (hb hby d3_20) rfl ?_
    show oS p e below T2 m 22 #[rv o, lv x1, .second, lv x2, .second, lv x2, .second, lv x4, .second, iv x5, iv x6, iv (2 : Int32), .unset, .unset] [(.int (2 : Int32)), (.ref o)] _
    refine st3.trans ?_
    refine XS.astore X3.here hx rfl (hb hby d3_25) rfl rfl (l' := #[rv o, lv x1, .second, lv x2, .second, lv x2, .second, lv x4, .second, iv x5, iv x6, iv (2 : Int32), rv ch, .unset]) rfl ?_
    refine XS.iload X3.here hx rfl (hb hby d3_27) rfl ?_
    refine XS.sipush X3.here hx rfl (hb hby d3_29) ?_
    show oS p e below T3 m 32 #[rv o, lv x1, .second, lv x2, .second, lv x2, .second, lv x4, .second, iv x5, iv x6, iv (2 : Int32), rv ch, .unset] [(.int (1023 : Int32)), (.int (2 : Int32))] _
    refine XS.iand X3.here hx rfl (hb hby d3_32) rfl ?_
    show oS p e below T3 m 33 #[rv o, lv x1, .second, lv x2, .second, lv x2, .second, lv x4, .second, iv x5, iv x6, iv (2 : Int32), rv ch, .unset] [(.int (2 : Int32))] _
    refine XS.istore X3.here hx rfl (hb hby d3_33) rfl (l' := #[rv o, lv x1, .second, lv x2, .second, lv x2, .second, lv x4, .second, iv x5, iv x6, iv (2 : Int32), rv ch, iv (2 : Int32)]) rfl ?_
    refine XS.aload X3.here hx rfl (hb hby d3_35) rfl rfl ?_
    refine own_getR X3 hx hZ hown (own_w hw 55 rfl) eh3 F_ids_ch (g := (mkF m 37 #[rv o, lv x1, .second, lv x2, .second, lv x2, .second, lv x4, .second, iv x5, iv x6, iv (2 : Int32), rv ch, iv (2 : Int32)] [(.ref ch)])) rfl rfl (hb hby d3_37) _ ?_
    refine XS.iload X3.here hx rfl (hb hby d3_40) rfl ?_
    show oS p e below T3 m 42 #[rv o, lv x1, .second, lv x2, .second, lv x2, .second, lv x4, .second, iv x5, iv x6, iv (2 : Int32), rv ch, iv (2 : Int32)] [(.int (2 : Int32)), (.ref ar0)] _
    refine XS.lloadN X3.here hx rfl (hb hby d3_42) rfl ?_
    show oS p e below T3 m 43 #[rv o, lv x1, .second, lv x2, .second, lv x2, .second, lv x4, .second, iv x5, iv x6, iv (2 : Int32), rv ch, iv (2 : Int32)] [(.long x1), (.int (2 : Int32)), (.ref ar0)] _
    refine st6 _ ?_
    refine XS.aload X6.here hx rfl (hb hby d3_44) rfl rfl ?_
    refine own_getR X6 hx hZ hown (own_w hw 56 rfl) e6 Fc8 (g := (mkF m 46 #[rv o, lv x1, .second, lv x2, .second, lv x2, .second, lv x4, .second, iv x5, iv x6, iv (2 : Int32), rv ch, iv (2 : Int32)] [(.ref ch)])) rfl rfl (hb hby d3_46) _ ?_
    refine XS.iload X6.here hx rfl (hb hby d3_49) rfl ?_
    show oS p e below T6 m 51 #[rv o, lv x1, .second, lv x2, .second, lv x2, .second, lv x4, .second, iv x5, iv x6, iv (2 : Int32), rv ch, iv (2 : Int32)] [(.int (2 : Int32)), (.ref ar1)] _
    refine XS.lloadN X6.here hx rfl (hb hby d3_51) rfl ?_
    show oS p e below T6 m 52 #[rv o, lv x1, .second, lv x2, .second, lv x2, .second, lv x4, .second, iv x5, iv x6, iv (2 : Int32), rv ch, iv (2 : Int32)] [(.long x2), (.int (2 : Int32)), (.ref ar1)] _
    refine st12 _ ?_
    refine XS.aload X12.here hx rfl (hb hby d3_53) rfl rfl ?_
    refine XS.iload X12.here hx rfl (hb hby d3_55) rfl ?_
    refine XS.lload X12.here hx rfl (hb hby d3_57) rfl ?_
    show oS p e below T12 m 59 #[rv o, lv x1, .second, lv x2, .second, lv x2, .second, lv x4, .second, iv x5, iv x6, iv (2 : Int32), rv ch, iv (2 : Int32)] [(.long x2), (.int (2 : Int32)), (.ref ch)] _
    refine st13.trans ?_
    refine XS.aload X13.here hx rfl (hb hby d3_62) rfl rfl ?_
    refine own_getR X13 hx hZ hown (own_w hw 64 rfl) eh13 Fc19 (g := (mkF m 64 #[rv o, lv x1, .second, lv x2, .second, lv x2, .second, lv x4, .second, iv x5, iv x6, iv (2 : Int32), rv ch, iv (2 : Int32)] [(.ref ch)])) rfl rfl (hb hby d3_64) _ ?_
    refine XS.iload X13.here hx rfl (hb hby d3_67) rfl ?_
    show oS p e below T13 m 69 #[rv o, lv x1, .second, lv x2, .second, lv x2, .second, lv x4, .second, iv x5, iv x6, iv (2 : Int32), rv ch, iv (2 : Int32)] [(.int (2 : Int32)), (.ref ar2)] _
    refine XS.lload X13.here hx rfl (hb hby d3_69) rfl ?_
    show oS p e below T13 m 71 #[rv o, lv x1, .second, lv x2, .second, lv x2, .second, lv x4, .second, iv x5, iv x6, iv (2 : Int32), rv ch, iv (2 : Int32)] [(.long x4), (.int (2 : Int32)), (.ref ar2)] _
    refine st23 _ ?_
    refine XS.aload X23.here hx rfl (hb hby d3_72) rfl rfl ?_
    refine own_getR X23 hx hZ hown (own_w hw 65 rfl) e23 Fc25 (g := (mkF m 74 #[rv o, lv x1, .second, lv x2, .second, lv x2, .second, lv x4, .second, iv x5, iv x6, iv (2 : Int32), rv ch, iv (2 : Int32)] [(.ref ch)])) rfl rfl (hb hby d3_74) _ ?_
    refine XS.iload X23.here hx rfl (hb hby d3_77) rfl ?_
    show oS p e below T23 m 79 #[rv o, lv x1, .second, lv x2, .second, lv x2, .second, lv x4, .second, iv x5, iv x6, iv (2 : Int32), rv ch, iv (2 : Int32)] [(.int (2 : Int32)), (.ref ar3)] _
    refine XS.iload X23.here hx rfl (hb hby d3_79) rfl ?_
    show oS p e below T23 m 81 #[rv o, lv x1, .second, lv x2, .second, lv x2, .second, lv x4, .second, iv x5, iv x6, iv (2 : Int32), rv ch, iv (2 : Int32)] [(.int x5), (.int (2 : Int32)), (.ref ar3)] _
    refine st29 _ ?_
    refine XS.aload X29.here hx rfl (hb hby d3_82) rfl rfl ?_
    refine own_getR X29 hx hZ hown (own_w hw 66 rfl) e29 Fc31 (g := (mkF m 84 #[rv o, lv x1, .second, lv x2, .second, lv x2, .second, lv x4, .second, iv x5, iv x6, iv (2 : Int32), rv ch, iv (2 : Int32)] [(.ref ch)])) rfl rfl (hb hby d3_84) _ ?_
    refine XS.iload X29.here hx rfl (hb hby d3_87) rfl ?_
    show oS p e below T29 m 89 #[rv o, lv x1, .second, lv x2, .second, lv x2, .second, lv x4, .second, iv x5, iv x6, iv (2 : Int32), rv ch, iv (2 : Int32)] [(.int (2 : Int32)), (.ref ar4)] _
    refine XS.iload X29.here hx rfl (hb hby d3_89) rfl ?_
    show oS p e below T29 m 91 #[rv o, lv x1, .second, lv x2, .second, lv x2, .second, lv x4, .second, iv x5, iv x6, iv (2 : Int32), rv ch, iv (2 : Int32)] [(.int x6), (.int (2 : Int32)), (.ref ar4)] _
    refine st35 _ ?_
    refine XS.aload X35.here hx rfl (hb hby d3_92) rfl rfl ?_
    refine own_getR X35 hx hZ hown (own_w hw 67 rfl) e35 Fc37 (g := (mkF m 94 #[rv o, lv x1, .second, lv x2, .second, lv x2, .second, lv x4, .second, iv x5, iv x6, iv (2 : Int32), rv ch, iv (2 : Int32)] [(.ref ch)])) rfl rfl (hb hby d3_94) _ ?_
    refine XS.iload X35.here hx rfl (hb hby d3_97) rfl ?_
    show oS p e below T35 m 99 #[rv o, lv x1, .second, lv x2, .second, lv x2, .second, lv x4, .second, iv x5, iv x6, iv (2 : Int32), rv ch, iv (2 : Int32)] [(.int (2 : Int32)), (.ref ar5)] _
    refine XS.iconst X35.here hx rfl (hb hby d3_99) ?_
    show oS p e below T35 m 100 #[rv o, lv x1, .second, lv x2, .second, lv x2, .second, lv x4, .second, iv x5, iv x6, iv (2 : Int32), rv ch, iv (2 : Int32)] [(.int (1 : Int32)), (.int (2 : Int32)), (.ref ar5)] _
    refine st41 _ ?_
    refine XS.aload X41.here hx rfl (hb hby d3_101) rfl rfl ?_
    refine XS.dup X41.here hx rfl (hb hby d3_103) rfl rfl ?_
    refine own_getR X41 hx hZ hown (own_w hw 68 rfl) e41 Fc43 (g := (mkF m 104 #[rv o, lv x1, .second, lv x2, .second, lv x2, .second, lv x4, .second, iv x5, iv x6, iv (2 : Int32), rv ch, iv (2 : Int32)] [(.ref ch), (.ref ch)])) rfl rfl (hb hby d3_104) _ ?_
    show oS p e below T41 m 107 #[rv o, lv x1, .second, lv x2, .second, lv x2, .second, lv x4, .second, iv x5, iv x6, iv (2 : Int32), rv ch, iv (2 : Int32)] [(.int (2 : Int32)), (.ref ch)] _
    refine XS.iconst X41.here hx rfl (hb hby d3_107) ?_
    refine XS.iadd X41.here hx rfl (hb hby d3_108) rfl ?_
    show oS p e below T41 m 109 #[rv o, lv x1, .second, lv x2, .second, lv x2, .second, lv x4, .second, iv x5, iv x6, iv (2 : Int32), rv ch, iv (2 : Int32)] [(.int (3 : Int32)), (.ref ch)] _
    refine st46 _ ?_
    refine XS.aloadN X46.here hx rfl (hb hby d3_112) rfl rfl ?_
    refine XS.dup X46.here hx rfl (hb hby d3_113) rfl rfl ?_
    show oS p e below T46 m 114 #[rv o, lv x1, .second, lv x2, .second, lv x2, .second, lv x4, .second, iv x5, iv x6, iv (2 : Int32), rv ch, iv (2 : Int32)] [(.ref o), (.ref o)] _
    refine st57 _ ?_
    refine XS.iconst X57.here hx rfl (hb hby d3_117) ?_
    refine XS.iadd X57.here hx rfl (hb hby d3_118) rfl ?_
    show oS p e below T57 m 119 #[rv o, lv x1, .second, lv x2, .second, lv x2, .second, lv x4, .second, iv x5, iv x6, iv (2 : Int32), rv ch, iv (2 : Int32)] [(.int (3 : Int32)), (.ref o)] _
    refine st58 _ ?_
    refine XS.aloadN X58.here hx rfl (hb hby d3_122) rfl rfl ?_
    refine XS.dup X58.here hx rfl (hb hby d3_123) rfl rfl ?_
    show oS p e below T58 m 124 #[rv o, lv x1, .second, lv x2, .second, lv x2, .second, lv x4, .second, iv x5, iv x6, iv (2 : Int32), rv ch, iv (2 : Int32)] [(.ref o), (.ref o)] _
    refine st60 _ ?_
    refine XS.iconst X60.here hx rfl (hb hby d3_127) ?_
    refine XS.iadd X60.here hx rfl (hb hby d3_128) rfl ?_
    show oS p e below T60 m 129 #[rv o, lv x1, .second, lv x2, .second, lv x2, .second, lv x4, .second, iv x5, iv x6, iv (2 : Int32), rv ch, iv (2 : Int32)] [(.int (3 : Int32)), (.ref o)] _
    refine st62 _ ?_
    refine XS.aloadN X62.here hx rfl (hb hby d3_132) rfl rfl ?_
    show oS p e below T62 m 133 #[rv o, lv x1, .second, lv x2, .second, lv x2, .second, lv x4, .second, iv x5, iv x6, iv (2 : Int32), rv ch, iv (2 : Int32)] [(.ref o)] _
    refine st63 _ ?_
    refine XS.aloadN X63.here hx rfl (hb hby d3_136) rfl rfl ?_
    show oS p e below T63 m 137 #[rv o, lv x1, .second, lv x2, .second, lv x2, .second, lv x4, .second, iv x5, iv x6, iv (2 : Int32), rv ch, iv (2 : Int32)] [(.ref o), (.int (3 : Int32))] _
    refine st65 _ ?_
    show oS p e below T65 m 140 #[rv o, lv x1, .second, lv x2, .second, lv x2, .second, lv x4, .second, iv x5, iv x6, iv (2 : Int32), rv ch, iv (2 : Int32)] [(.int (4 : Int32)), (.int (3 : Int32))] _
    refine st66 _ ?_
    refine XS.icmpYes X66.here hx rfl (pc0 := 143) (pc' := 159) rfl (hb hby d3_143) rfl (flt (by decide : ¬ ((12 : Int32) < (3 : Int32)))).2.2.2 (by decide) (by decide) ?_
    refine XS.aloadN X66.here hx rfl (hb hby d3_159) rfl rfl ?_
    refine XS.lloadN X66.here hx rfl (hb hby d3_160) rfl ?_
    show oS p e below T66 m 161 #[rv o, lv x1, .second, lv x2, .second, lv x2, .second, lv x4, .second, iv x5, iv x6, iv (2 : Int32), rv ch, iv (2 : Int32)] [(.long x1), (.ref o)] _
    refine XS.iload X66.here hx rfl (hb hby d3_161) rfl ?_
    show oS p e below T66 m 163 #[rv o, lv x1, .second, lv x2, .second, lv x2, .second, lv x4, .second, iv x5, iv x6, iv (2 : Int32), rv ch, iv (2 : Int32)] [(.int (2 : Int32)), (.long x1), (.ref o)] _
    refine st68.trans ?_
    exact kt
  have KP75 : Keep h0 T68.heap [o, ch, ix, ar0, ar1, ar2, ar3, ar4, ar5] := (((((((((((Keep.refl h0 [o, ch, ix, ar0, ar1, ar2, ar3, ar4, ar5]).wr W6 (Or.inl (List.mem_of_getElem? (i := 3) rfl))).wr W12 (Or.inl (List.mem_of_getElem? (i := 4) rfl))).wr W23 (Or.inl (List.mem_of_getElem? (i := 5) rfl))).wr W29 (Or.inl (List.mem_of_getElem? (i := 6) rfl))).wr W35 (Or.inl (List.mem_of_getElem? (i := 7) rfl))).wr W41 (Or.inl (List.mem_of_getElem? (i := 8) rfl))).wr W46 (Or.inl (List.mem_of_getElem? (i := 1) rfl))).wr W58 (Or.inl (List.mem_of_getElem? (i := 0) rfl))).wr W62 (Or.inl (List.mem_of_getElem? (i := 0) rfl))).trans K68 (allS (Or.inl (List.mem_of_getElem? (i := 2) rfl)) all0))
  have Fc76 : Fld Z T68.heap o oz0 "chunks" oz2 (.ref cs) := ((((((((((F_chunks_o.other W6 (Or.inl ne47)).other W12 (Or.inl ne48)).other W23 (Or.inl ne49)).other W29 (Or.inl ne50)).other W35 (Or.inl ne51)).other W41 (Or.inl ne52)).other W46 (Or.inl ne53)).other W58 (Or.inr (slot_ne (Or.inl (own_w hw 12 rfl)) (Or.inl (own_w hw 24 rfl)) (by decide) (t := (.array (.object oz1))) (t' := .int) (by decide) (by decide)))).other W62 (Or.inr (slot_ne (Or.inl (own_w hw 12 rfl)) (Or.inl (own_w hw 71 rfl)) (by decide) (t := (.array (.object oz1))) (t' := .int) (by decide) (by decide)))).keep K68 (ninS ne72 nin0))
  have Fc77 : Fld Z T68.heap o oz0 "index" "[I" (.ref ix) := (Fc70.keep K68 (ninS ne72 nin0))
  have Fc78 : Fld Z T68.heap o oz0 "indexBits" "I" (.int (4 : Int32)) := (Fc64.keep K68 (ninS ne72 nin0))
  have Fc79 : Fld Z T68.heap o oz0 "tail" "I" (.int (3 : Int32)) := ((Fw58.other W62 (Or.inr (slot_ne (Or.inl (own_w hw 24 rfl)) (Or.inl (own_w hw 71 rfl)) (by decide) (t := .int) (t' := .int) (by decide) (by decide)))).keep K68 (ninS ne72 nin0))
  have Fc80 : Fld Z T68.heap o oz0 "size" "I" (.int (3 : Int32)) := (Fw62.keep K68 (ninS ne72 nin0))
  have Fc81 : Fld Z T68.heap o oz0 "firstChunk" "I" (.int (0 : Int32)) := ((((((((((F_firstChunk_o.other W6 (Or.inl ne47)).other W12 (Or.inl ne48)).other W23 (Or.inl ne49)).other W29 (Or.inl ne50)).other W35 (Or.inl ne51)).other W41 (Or.inl ne52)).other W46 (Or.inl ne53)).other W58 (Or.inr (slot_ne (Or.inl (own_w hw 31 rfl)) (Or.inl (own_w hw 24 rfl)) (by decide) (t := .int) (t' := .int) (by decide) (by decide)))).other W62 (Or.inr (slot_ne (Or.inl (own_w hw 31 rfl)) (Or.inl (own_w hw 71 rfl)) (by decide) (t := .int) (t' := .int) (by decide) (by decide)))).keep K68 (ninS ne72 nin0))
  have Fc82 : Fld Z T68.heap o oz0 "heldChunks" "I" (.int (1 : Int32)) := ((((((((((F_heldChunks_o.other W6 (Or.inl ne47)).other W12 (Or.inl ne48)).other W23 (Or.inl ne49)).other W29 (Or.inl ne50)).other W35 (Or.inl ne51)).other W41 (Or.inl ne52)).other W46 (Or.inl ne53)).other W58 (Or.inr (slot_ne (Or.inl (own_w hw 54 rfl)) (Or.inl (own_w hw 24 rfl)) (by decide) (t := .int) (t' := .int) (by decide) (by decide)))).other W62 (Or.inr (slot_ne (Or.inl (own_w hw 54 rfl)) (Or.inl (own_w hw 71 rfl)) (by decide) (t := .int) (t' := .int) (by decide) (by decide)))).keep K68 (ninS ne72 nin0))
  have Fc83 : Fld Z T68.heap o oz0 "head" "I" (.int (0 : Int32)) := ((((((((((F_head_o.other W6 (Or.inl ne47)).other W12 (Or.inl ne48)).other W23 (Or.inl ne49)).other W29 (Or.inl ne50)).other W35 (Or.inl ne51)).other W41 (Or.inl ne52)).other W46 (Or.inl ne53)).other W58 (Or.inr (slot_ne (Or.inl (own_w hw 111 rfl)) (Or.inl (own_w hw 24 rfl)) (by decide) (t := .int) (t' := .int) (by decide) (by decide)))).other W62 (Or.inr (slot_ne (Or.inl (own_w hw 111 rfl)) (Or.inl (own_w hw 71 rfl)) (by decide) (t := .int) (t' := .int) (by decide) (by decide)))).keep K68 (ninS ne72 nin0))
  have Fc84 : Fld Z T68.heap o oz0 "availableFrom" "I" (.int (0 : Int32)) := ((((((((((F_availableFrom_o.other W6 (Or.inl ne47)).other W12 (Or.inl ne48)).other W23 (Or.inl ne49)).other W29 (Or.inl ne50)).other W35 (Or.inl ne51)).other W41 (Or.inl ne52)).other W46 (Or.inl ne53)).other W58 (Or.inr (slot_ne (Or.inl (own_w hw 105 rfl)) (Or.inl (own_w hw 24 rfl)) (by decide) (t := .int) (t' := .int) (by decide) (by decide)))).other W62 (Or.inr (slot_ne (Or.inl (own_w hw 105 rfl)) (Or.inl (own_w hw 71 rfl)) (by decide) (t := .int) (t' := .int) (by decide) (by decide)))).keep K68 (ninS ne72 nin0))
  have Fc85 : Fld Z T68.heap ch oz1 "rows" "I" (.int (3 : Int32)) := (((Fw46.other W58 (Or.inl (Ne.symm ne53))).other W62 (Or.inl (Ne.symm ne53))).keep K68 (ninS ne71 nin0))
  have Fc86 : Fld Z T68.heap ch oz1 "addresses" "[J" .null := ((((((((Fc16.other W23 (Or.inl ne24)).other W29 (Or.inl ne30)).other W35 (Or.inl ne36)).other W41 (Or.inl ne42)).other W46 (Or.inr (slot_ne (Or.inl (own_w hw 63 rfl)) (Or.inl (own_w hw 69 rfl)) (by decide) (t := (.array .long)) (t' := .int) (by decide) (by decide)))).other W58 (Or.inl (Ne.symm ne53))).other W62 (Or.inl (Ne.symm ne53))).keep K68 (ninS ne71 nin0))
  have Fc87 : Fld Z T68.heap ch oz1 "ids" "[J" (.ref ar0) := ((((((((((F_ids_ch.other W6 (Or.inl ne7)).other W12 (Or.inl ne15)).other W23 (Or.inl ne24)).other W29 (Or.inl ne30)).other W35 (Or.inl ne36)).other W41 (Or.inl ne42)).other W46 (Or.inr (slot_ne (Or.inr (own_w hw 40 rfl)) (Or.inl (own_w hw 69 rfl)) (by decide) (t := (.array .long)) (t' := .int) (by decide) (by decide)))).other W58 (Or.inl (Ne.symm ne53))).other W62 (Or.inl (Ne.symm ne53))).keep K68 (ninS ne71 nin0))
  have Fc88 : Fld Z T68.heap ch oz1 "arrivals" "[J" (.ref ar1) := ((((((((Fc17.other W23 (Or.inl ne24)).other W29 (Or.inl ne30)).other W35 (Or.inl ne36)).other W41 (Or.inl ne42)).other W46 (Or.inr (slot_ne (Or.inr (own_w hw 42 rfl)) (Or.inl (own_w hw 69 rfl)) (by decide) (t := (.array .long)) (t' := .int) (by decide) (by decide)))).other W58 (Or.inl (Ne.symm ne53))).other W62 (Or.inl (Ne.symm ne53))).keep K68 (ninS ne71 nin0))
  have Fc89 : Fld Z T68.heap ch oz1 "arrivedAts" "[J" (.ref ar2) := ((((((((Fc19.other W23 (Or.inl ne24)).other W29 (Or.inl ne30)).other W35 (Or.inl ne36)).other W41 (Or.inl ne42)).other W46 (Or.inr (slot_ne (Or.inr (own_w hw 44 rfl)) (Or.inl (own_w hw 69 rfl)) (by decide) (t := (.array .long)) (t' := .int) (by decide) (by decide)))).other W58 (Or.inl (Ne.symm ne53))).other W62 (Or.inl (Ne.symm ne53))).keep K68 (ninS ne71 nin0))
  have Fc90 : Fld Z T68.heap ch oz1 "deliveryCounts" "[I" (.ref ar3) := (((((((Fc25.other W29 (Or.inl ne30)).other W35 (Or.inl ne36)).other W41 (Or.inl ne42)).other W46 (Or.inr (slot_ne (Or.inr (own_w hw 46 rfl)) (Or.inl (own_w hw 69 rfl)) (by decide) (t := (.array .int)) (t' := .int) (by decide) (by decide)))).other W58 (Or.inl (Ne.symm ne53))).other W62 (Or.inl (Ne.symm ne53))).keep K68 (ninS ne71 nin0))
  have Fc91 : Fld Z T68.heap ch oz1 "causes" "[I" (.ref ar4) := ((((((Fc31.other W35 (Or.inl ne36)).other W41 (Or.inl ne42)).other W46 (Or.inr (slot_ne (Or.inr (own_w hw 48 rfl)) (Or.inl (own_w hw 69 rfl)) (by decide) (t := (.array .int)) (t' := .int) (by decide) (by decide)))).other W58 (Or.inl (Ne.symm ne53))).other W62 (Or.inl (Ne.symm ne53))).keep K68 (ninS ne71 nin0))
  have Fc92 : Fld Z T68.heap ch oz1 "states" "[B" (.ref ar5) := (((((Fc37.other W41 (Or.inl ne42)).other W46 (Or.inr (slot_ne (Or.inr (own_w hw 51 rfl)) (Or.inl (own_w hw 69 rfl)) (by decide) (t := (.array .byte)) (t' := .int) (by decide) (by decide)))).other W58 (Or.inl (Ne.symm ne53))).other W62 (Or.inl (Ne.symm ne53))).keep K68 (ninS ne71 nin0))
  have Vc93 : Arv Z T68.heap ar0 kz0 .long (1024 : Int32) [(.long e0_0), (.long e0_1), (.long x1)] (.long (0 : Int64)) := (((((((((Va6.other W12 ne_ar0_ar1).other W23 ne_ar0_ar2).other W29 ne_ar0_ar3).other W35 ne_ar0_ar4).other W41 ne_ar0_ar5).other W46 (Ne.symm ne7)).other W58 (Ne.symm ne47)).other W62 (Ne.symm ne47)).keep K68 (ninS (Ne.symm ne_ix_ar0) nin0))
  have Vc94 : Arv Z T68.heap ar1 kz1 .long (1024 : Int32) [(.long e1_0), (.long e1_1), (.long x2)] (.long (0 : Int64)) := ((((((((Va12.other W23 ne_ar1_ar2).other W29 ne_ar1_ar3).other W35 ne_ar1_ar4).other W41 ne_ar1_ar5).other W46 (Ne.symm ne15)).other W58 (Ne.symm ne48)).other W62 (Ne.symm ne48)).keep K68 (ninS (Ne.symm ne_ix_ar1) nin0))
  have Vc95 : Arv Z T68.heap ar2 kz2 .long (1024 : Int32) [(.long e2_0), (.long e2_1), (.long x4)] (.long (0 : Int64)) := (((((((Va23.other W29 ne_ar2_ar3).other W35 ne_ar2_ar4).other W41 ne_ar2_ar5).other W46 (Ne.symm ne24)).other W58 (Ne.symm ne49)).other W62 (Ne.symm ne49)).keep K68 (ninS (Ne.symm ne_ix_ar2) nin0))
  have Vc96 : Arv Z T68.heap ar3 kz3 .int (1024 : Int32) [(.int e3_0), (.int e3_1), (.int x5)] (.int (0 : Int32)) := ((((((Va29.other W35 ne_ar3_ar4).other W41 ne_ar3_ar5).other W46 (Ne.symm ne30)).other W58 (Ne.symm ne50)).other W62 (Ne.symm ne50)).keep K68 (ninS (Ne.symm ne_ix_ar3) nin0))
  have Vc97 : Arv Z T68.heap ar4 kz4 .int (1024 : Int32) [(.int e4_0), (.int e4_1), (.int x6)] (.int (0 : Int32)) := (((((Va35.other W41 ne_ar4_ar5).other W46 (Ne.symm ne36)).other W58 (Ne.symm ne51)).other W62 (Ne.symm ne51)).keep K68 (ninS (Ne.symm ne_ix_ar4) nin0))
  have Vc98 : Arv Z T68.heap ar5 kz5 .byte (1024 : Int32) [(.int (1 : Int32)), (.int (1 : Int32)), (.int (1 : Int32))] (.int (0 : Int32)) := ((((Va41.other W46 (Ne.symm ne42)).other W58 (Ne.symm ne52)).other W62 (Ne.symm ne52)).keep K68 (ninS (Ne.symm ne_ix_ar5) nin0))
  obtain ⟨fs, hr, hrun, hended, hW, hsame⟩ := X68.leave (v := none) (fun _ => rfl)
  refine ⟨_, _, pre0 _ (pre74 _ ?_), hrun, hended, _, _, rfl, ?_, ⟨_, rfl⟩, hW, hsame.mono (by decide) (by decide)⟩
  · show oS p e below T68 m 166 #[rv o, lv x1, .second, lv x2, .second, lv x2, .second, lv x4, .second, iv x5, iv x6, iv (2 : Int32), rv ch, iv (2 : Int32)] [] _
    exact X68.returnOut hx Bd.returns (hb hby d3_166) hr
  · show QADD2 Z o x1 x2 x4 x5 x6 cs kc ix ch ar0 ar1 ar2 ar3 ar4 ar5 kz0 kz1 kz2 kz3 kz4 kz5 e0_0 e0_1 e1_0 e1_1 e2_0 e2_1 e3_0 e3_1 e4_0 e4_1 h0 n0 _ T68.heap _
    exact ⟨rfl, N68, KP75, Fc76, Fc77, Fc78, Fc79, Fc80, Fc81, Fc82, Fc83, Fc84, pf68_0, Fc85, Fc86, Fc87, Fc88, Fc89, Fc90, Fc91, Fc92, Vc93, Vc94, Vc95, Vc96, Vc97, Vc98⟩
theorem d11_0 : decode prog_24_method_22_code 0 = .ok (.aload_n 0, 1) := by decide +kernel
theorem d11_1 : decode prog_24_method_22_code 1 = .ok (.getfield 13, 3) := by decide +kernel
theorem d11_4 : decode prog_24_method_22_code 4 = .ok (.iload_n 1, 1) := by decide +kernel
theorem d11_5 : decode prog_24_method_22_code 5 = .ok (.bipush 10, 2) := by decide +kernel
theorem d11_7 : decode prog_24_method_22_code 7 = .ok (.iushr, 1) := by decide +kernel
theorem d11_8 : decode prog_24_method_22_code 8 = .ok (.aload_n 0, 1) := by decide +kernel
theorem d11_9 : decode prog_24_method_22_code 9 = .ok (.getfield 129, 3) := by decide +kernel
theorem d11_12 : decode prog_24_method_22_code 12 = .ok (.isub, 1) := by decide +kernel
theorem d11_13 : decode prog_24_method_22_code 13 = .ok (.aaload, 1) := by decide +kernel
theorem d11_14 : decode prog_24_method_22_code 14 = .ok (.areturn, 1) := by decide +kernel
theorem efCH0 (m : MethodId) (o : Addr) : entryFrame m #[(.ref o), (.int (0 : Int32))] 2 = mkF m 0 #[rv o, iv (0 : Int32)] [] := by first | (simp [entryFrame, mkF, argsToLocals, Value.category]; done) | rfl
def QCH0 (Z : State) (o : Addr) (cs : Addr) (kc : ClassId) (ch : Addr) (h0 : Heap) (n0 : Nat) (v : Option Value) (h : Heap) (L : List Loc) : Prop := v = some (.ref ch) ∧ Fr n0 L ∧ h = h0
set_option maxRecDepth 65536 in
set_option maxHeartbeats 40000000 in
theorem rmCH0 (l : Launch) (Z : State) (a0 : Array Value) (hw : ∀ d ∈ tables_1, d.before a0 Z = true) (ws : List Jvm.Cond) (o : Addr) (cs : Addr) (kc : ClassId) (ch : Addr) (h0 : Heap) (n0 : Nat) (Z0 : n0 ≤ h0.size) (E_o : Exa Z h0 o oz0) (F_chunks_o : Fld Z h0 o oz0 "chunks" oz2 (.ref cs)) (F_firstChunk_o : Fld Z h0 o oz0 "firstChunk" "I" (.int (0 : Int32))) (V_cs : Arv Z h0 cs kc (.object oz1) (1 : Int32) [(.ref ch)] .null) :
    MetFree l (⟨oz0, "chunk", oz4⟩ : MethodName) (head1 (Jvm.Cond.code (⟨oz0, "chunk", oz4⟩ : MethodName) prog_24_method_22_code 2 (some (.object oz1)) :: ws) ({ frames := 0, cells := 0, slots := 0, locals := 0 } : Room)) (fun a U => a = #[(.ref o), (.int (0 : Int32))] ∧ Z.Warmed39 U.vm ∧ U.heap = h0) (fun _ _ _ _ _ => True) (fun _ U oc U' => ∃ v L, oc = .returned v ∧ QCH0 Z o cs kc ch h0 n0 v U'.heap L ∧ FrameEnd U oc U' L ({ frames := 0, cells := 0, slots := 0, locals := 0 } : Room).cells ({ frames := 0, cells := 0, slots := 0, locals := 0 } : Room).slots) := by
  refine MetFree.of_bodySF (plainFor_of_name own_pn0) hisR ?_
  intro p e s m args below meth c s₁ Bd hml0 hP hK
  obtain ⟨rfl, hZ, hh⟩ := hP
  have hx := Bd.exec
  have hby := Bd.bytes
  have hml : c.maxLocals = 2 := hml0
  have hown : s.vm.findClass oz0 = some m.cls := findClass_of_methodNamed Bd.named
  have hnm := (name_of_methodNamed Bd.named Bd.method).1
  have X0 : Stand p l e ({ frames := 0, cells := 0, slots := 0, locals := 0 } : Room) s m #[(.ref o), (.int (0 : Int32))] below meth c s₁ [] 0 0 := Stand.of_body Bd
  have e0 : s₁.heap = h0 := by rw [← hh, Bd.state]; rfl
  have N0 := Fr.nil n0
  have pre0 : ∀ t, Steps p.tables e below (s₁.setTop (mkF m 0 #[rv o, iv (0 : Int32)] [])) t → Steps p.tables e below (s₁.setTop (entryFrame m #[(.ref o), (.int (0 : Int32))] 2)) t := fun t k => castTop (efCH0 m o) k
  obtain ⟨T1, X1, e1, st1⟩ := getF X0 hx hZ hown (host := "") (Or.inl (own_w hw 11 rfl)) Via.refl e0 F_chunks_o (g := (mkF m 1 #[rv o, iv (0 : Int32)] [(.ref o)])) rfl rfl (hb hby d11_1)
  obtain ⟨T2, X2, e2, st2⟩ := getF X1 hx hZ hown (host := "") (Or.inl (own_w hw 30 rfl)) Via.refl e1 F_firstChunk_o (g := (mkF m 9 #[rv o, iv (0 : Int32)] [(.ref o), (.int (0 : Int32)), (.ref cs)])) rfl rfl (hb hby d11_9)
  obtain ⟨cl3, Ar3, qk3, Sz3, Ng3, Hs3, Gt3⟩ := id V_cs
  have hin3 : ¬ ((0 : Int32) < 0 ∨ cl3.slots.size ≤ ((0 : Int32)).toNatClampNeg) := inb_of Sz3 ⟨by decide, by decide⟩
  have hat3 : cl3.slots[((0 : Int32)).toNatClampNeg]? = some (.ref ch) := Hs3.at hin3 rfl
  have pre4 : ∀ tz, oS p e below T2 m 14 #[rv o, iv (0 : Int32)] [(.ref ch)] tz → oS p e below s₁ m 0 #[rv o, iv (0 : Int32)] [] tz := fun tz kt => by
    show oS p e below s₁ m 0 #[rv o, iv (0 : Int32)] [] _
    refine XS.aloadN X0.here hx rfl (hb hby d11_0) rfl rfl ?_
    show oS p e below s₁ m 1 #[rv o, iv (0 : Int32)] [(.ref o)] _
    refine st1 _ ?_
    refine XS.iloadN X1.here hx rfl (hb hby d11_4) rfl ?_
    refine XS.bipush X1.here hx rfl (hb hby d11_5) ?_
    refine XS.iushr X1.here hx rfl (hb hby d11_7) rfl ?_
    show oS p e below T1 m 8 #[rv o, iv (0 : Int32)] [(.int (0 : Int32)), (.ref cs)] _
    refine XS.aloadN X1.here hx rfl (hb hby d11_8) rfl rfl ?_
    show oS p e below T1 m 9 #[rv o, iv (0 : Int32)] [(.ref o), (.int (0 : Int32)), (.ref cs)] _
    refine st2 _ ?_
    refine XS.isub X2.here hx rfl (hb hby d11_12) rfl ?_
    show oS p e below T2 m 13 #[rv o, iv (0 : Int32)] [(.int (0 : Int32)), (.ref cs)] _
    refine X2.aaload hx (j := (0 : Int32)) (v := (.ref ch)) (by rw [e2]; exact Ar3.1) (State.isArrayOf_alike hZ.alike Ar3.2.1) rfl Ar3.2.2 hin3 hat3 (g := (mkF m 13 #[rv o, iv (0 : Int32)] [(.int (0 : Int32)), (.ref cs)])) rfl rfl (hb hby d11_13) _ ?_
    exact kt
  obtain ⟨fs, hr, hrun, hended, hW, hsame⟩ := X2.leave (v := some (.ref ch)) (fun h => by rw [Bd.returns] at h; cases h)
  refine ⟨_, _, pre0 _ (pre4 _ ?_), hrun, hended, _, _, rfl, ?_, ⟨_, rfl⟩, hW, hsame.mono (by decide) (by decide)⟩
  · show oS p e below T2 m 14 #[rv o, iv (0 : Int32)] [(.ref ch)] _
    exact retOut X2 hx Bd.returns rfl (Or.inr (Or.inr (Or.inr (Or.inr ⟨rfl, rfl, rfl⟩)))) (hb hby d11_14) hr
  · show QCH0 Z o cs kc ch h0 n0 _ T2.heap _
    rw [e2]
    exact ⟨rfl, N0, rfl⟩
theorem efCH1 (m : MethodId) (o : Addr) : entryFrame m #[(.ref o), (.int (1 : Int32))] 2 = mkF m 0 #[rv o, iv (1 : Int32)] [] := by first | (simp [entryFrame, mkF, argsToLocals, Value.category]; done) | rfl
def QCH1 (Z : State) (o : Addr) (cs : Addr) (kc : ClassId) (ch : Addr) (h0 : Heap) (n0 : Nat) (v : Option Value) (h : Heap) (L : List Loc) : Prop := v = some (.ref ch) ∧ Fr n0 L ∧ h = h0
set_option maxRecDepth 65536 in
set_option maxHeartbeats 40000000 in
theorem rmCH1 (l : Launch) (Z : State) (a0 : Array Value) (hw : ∀ d ∈ tables_1, d.before a0 Z = true) (ws : List Jvm.Cond) (o : Addr) (cs : Addr) (kc : ClassId) (ch : Addr) (h0 : Heap) (n0 : Nat) (Z0 : n0 ≤ h0.size) (E_o : Exa Z h0 o oz0) (F_chunks_o : Fld Z h0 o oz0 "chunks" oz2 (.ref cs)) (F_firstChunk_o : Fld Z h0 o oz0 "firstChunk" "I" (.int (0 : Int32))) (V_cs : Arv Z h0 cs kc (.object oz1) (1 : Int32) [(.ref ch)] .null) :
    MetFree l (⟨oz0, "chunk", oz4⟩ : MethodName) (head1 (Jvm.Cond.code (⟨oz0, "chunk", oz4⟩ : MethodName) prog_24_method_22_code 2 (some (.object oz1)) :: ws) ({ frames := 0, cells := 0, slots := 0, locals := 0 } : Room)) (fun a U => a = #[(.ref o), (.int (1 : Int32))] ∧ Z.Warmed39 U.vm ∧ U.heap = h0) (fun _ _ _ _ _ => True) (fun _ U oc U' => ∃ v L, oc = .returned v ∧ QCH1 Z o cs kc ch h0 n0 v U'.heap L ∧ FrameEnd U oc U' L ({ frames := 0, cells := 0, slots := 0, locals := 0 } : Room).cells ({ frames := 0, cells := 0, slots := 0, locals := 0 } : Room).slots) := by
  refine MetFree.of_bodySF (plainFor_of_name own_pn0) hisR ?_
  intro p e s m args below meth c s₁ Bd hml0 hP hK
  obtain ⟨rfl, hZ, hh⟩ := hP
  have hx := Bd.exec
  have hby := Bd.bytes
  have hml : c.maxLocals = 2 := hml0
  have hown : s.vm.findClass oz0 = some m.cls := findClass_of_methodNamed Bd.named
  have hnm := (name_of_methodNamed Bd.named Bd.method).1
  have X0 : Stand p l e ({ frames := 0, cells := 0, slots := 0, locals := 0 } : Room) s m #[(.ref o), (.int (1 : Int32))] below meth c s₁ [] 0 0 := Stand.of_body Bd
  have e0 : s₁.heap = h0 := by rw [← hh, Bd.state]; rfl
  have N0 := Fr.nil n0
  have pre0 : ∀ t, Steps p.tables e below (s₁.setTop (mkF m 0 #[rv o, iv (1 : Int32)] [])) t → Steps p.tables e below (s₁.setTop (entryFrame m #[(.ref o), (.int (1 : Int32))] 2)) t := fun t k => castTop (efCH1 m o) k
  obtain ⟨T1, X1, e1, st1⟩ := getF X0 hx hZ hown (host := "") (Or.inl (own_w hw 11 rfl)) Via.refl e0 F_chunks_o (g := (mkF m 1 #[rv o, iv (1 : Int32)] [(.ref o)])) rfl rfl (hb hby d11_1)
  obtain ⟨T2, X2, e2, st2⟩ := getF X1 hx hZ hown (host := "") (Or.inl (own_w hw 30 rfl)) Via.refl e1 F_firstChunk_o (g := (mkF m 9 #[rv o, iv (1 : Int32)] [(.ref o), (.int (0 : Int32)), (.ref cs)])) rfl rfl (hb hby d11_9)
  obtain ⟨cl3, Ar3, qk3, Sz3, Ng3, Hs3, Gt3⟩ := id V_cs
  have hin3 : ¬ ((0 : Int32) < 0 ∨ cl3.slots.size ≤ ((0 : Int32)).toNatClampNeg) := inb_of Sz3 ⟨by decide, by decide⟩
  have hat3 : cl3.slots[((0 : Int32)).toNatClampNeg]? = some (.ref ch) := Hs3.at hin3 rfl
  have pre4 : ∀ tz, oS p e below T2 m 14 #[rv o, iv (1 : Int32)] [(.ref ch)] tz → oS p e below s₁ m 0 #[rv o, iv (1 : Int32)] [] tz := fun tz kt => by
    show oS p e below s₁ m 0 #[rv o, iv (1 : Int32)] [] _
    refine XS.aloadN X0.here hx rfl (hb hby d11_0) rfl rfl ?_
    show oS p e below s₁ m 1 #[rv o, iv (1 : Int32)] [(.ref o)] _
    refine st1 _ ?_
    refine XS.iloadN X1.here hx rfl (hb hby d11_4) rfl ?_
    refine XS.bipush X1.here hx rfl (hb hby d11_5) ?_
    refine XS.iushr X1.here hx rfl (hb hby d11_7) rfl ?_
    show oS p e below T1 m 8 #[rv o, iv (1 : Int32)] [(.int (0 : Int32)), (.ref cs)] _
    refine XS.aloadN X1.here hx rfl (hb hby d11_8) rfl rfl ?_
    show oS p e below T1 m 9 #[rv o, iv (1 : Int32)] [(.ref o), (.int (0 : Int32)), (.ref cs)] _
    refine st2 _ ?_
    refine XS.isub X2.here hx rfl (hb hby d11_12) rfl ?_
    show oS p e below T2 m 13 #[rv o, iv (1 : Int32)] [(.int (0 : Int32)), (.ref cs)] _
    refine X2.aaload hx (j := (0 : Int32)) (v := (.ref ch)) (by rw [e2]; exact Ar3.1) (State.isArrayOf_alike hZ.alike Ar3.2.1) rfl Ar3.2.2 hin3 hat3 (g := (mkF m 13 #[rv o, iv (1 : Int32)] [(.int (0 : Int32)), (.ref cs)])) rfl rfl (hb hby d11_13) _ ?_
    exact kt
  obtain ⟨fs, hr, hrun, hended, hW, hsame⟩ := X2.leave (v := some (.ref ch)) (fun h => by rw [Bd.returns] at h; cases h)
  refine ⟨_, _, pre0 _ (pre4 _ ?_), hrun, hended, _, _, rfl, ?_, ⟨_, rfl⟩, hW, hsame.mono (by decide) (by decide)⟩
  · show oS p e below T2 m 14 #[rv o, iv (1 : Int32)] [(.ref ch)] _
    exact retOut X2 hx Bd.returns rfl (Or.inr (Or.inr (Or.inr (Or.inr ⟨rfl, rfl, rfl⟩)))) (hb hby d11_14) hr
  · show QCH1 Z o cs kc ch h0 n0 _ T2.heap _
    rw [e2]
    exact ⟨rfl, N0, rfl⟩
theorem efCH2 (m : MethodId) (o : Addr) : entryFrame m #[(.ref o), (.int (2 : Int32))] 2 = mkF m 0 #[rv o, iv (2 : Int32)] [] := by first | (simp [entryFrame, mkF, argsToLocals, Value.category]; done) | rfl
def QCH2 (Z : State) (o : Addr) (cs : Addr) (kc : ClassId) (ch : Addr) (h0 : Heap) (n0 : Nat) (v : Option Value) (h : Heap) (L : List Loc) : Prop := v = some (.ref ch) ∧ Fr n0 L ∧ h = h0
set_option maxRecDepth 65536 in
set_option maxHeartbeats 40000000 in
theorem rmCH2 (l : Launch) (Z : State) (a0 : Array Value) (hw : ∀ d ∈ tables_1, d.before a0 Z = true) (ws : List Jvm.Cond) (o : Addr) (cs : Addr) (kc : ClassId) (ch : Addr) (h0 : Heap) (n0 : Nat) (Z0 : n0 ≤ h0.size) (E_o : Exa Z h0 o oz0) (F_chunks_o : Fld Z h0 o oz0 "chunks" oz2 (.ref cs)) (F_firstChunk_o : Fld Z h0 o oz0 "firstChunk" "I" (.int (0 : Int32))) (V_cs : Arv Z h0 cs kc (.object oz1) (1 : Int32) [(.ref ch)] .null) :
    MetFree l (⟨oz0, "chunk", oz4⟩ : MethodName) (head1 (Jvm.Cond.code (⟨oz0, "chunk", oz4⟩ : MethodName) prog_24_method_22_code 2 (some (.object oz1)) :: ws) ({ frames := 0, cells := 0, slots := 0, locals := 0 } : Room)) (fun a U => a = #[(.ref o), (.int (2 : Int32))] ∧ Z.Warmed39 U.vm ∧ U.heap = h0) (fun _ _ _ _ _ => True) (fun _ U oc U' => ∃ v L, oc = .returned v ∧ QCH2 Z o cs kc ch h0 n0 v U'.heap L ∧ FrameEnd U oc U' L ({ frames := 0, cells := 0, slots := 0, locals := 0 } : Room).cells ({ frames := 0, cells := 0, slots := 0, locals := 0 } : Room).slots) := by
  refine MetFree.of_bodySF (plainFor_of_name own_pn0) hisR ?_
  intro p e s m args below meth c s₁ Bd hml0 hP hK
  obtain ⟨rfl, hZ, hh⟩ := hP
  have hx := Bd.exec
  have hby := Bd.bytes
  have hml : c.maxLocals = 2 := hml0
  have hown : s.vm.findClass oz0 = some m.cls := findClass_of_methodNamed Bd.named
  have hnm := (name_of_methodNamed Bd.named Bd.method).1
  have X0 : Stand p l e ({ frames := 0, cells := 0, slots := 0, locals := 0 } : Room) s m #[(.ref o), (.int (2 : Int32))] below meth c s₁ [] 0 0 := Stand.of_body Bd
  have e0 : s₁.heap = h0 := by rw [← hh, Bd.state]; rfl
  have N0 := Fr.nil n0
  have pre0 : ∀ t, Steps p.tables e below (s₁.setTop (mkF m 0 #[rv o, iv (2 : Int32)] [])) t → Steps p.tables e below (s₁.setTop (entryFrame m #[(.ref o), (.int (2 : Int32))] 2)) t := fun t k => castTop (efCH2 m o) k
  obtain ⟨T1, X1, e1, st1⟩ := getF X0 hx hZ hown (host := "") (Or.inl (own_w hw 11 rfl)) Via.refl e0 F_chunks_o (g := (mkF m 1 #[rv o, iv (2 : Int32)] [(.ref o)])) rfl rfl (hb hby d11_1)
  obtain ⟨T2, X2, e2, st2⟩ := getF X1 hx hZ hown (host := "") (Or.inl (own_w hw 30 rfl)) Via.refl e1 F_firstChunk_o (g := (mkF m 9 #[rv o, iv (2 : Int32)] [(.ref o), (.int (0 : Int32)), (.ref cs)])) rfl rfl (hb hby d11_9)
  obtain ⟨cl3, Ar3, qk3, Sz3, Ng3, Hs3, Gt3⟩ := id V_cs
  have hin3 : ¬ ((0 : Int32) < 0 ∨ cl3.slots.size ≤ ((0 : Int32)).toNatClampNeg) := inb_of Sz3 ⟨by decide, by decide⟩
  have hat3 : cl3.slots[((0 : Int32)).toNatClampNeg]? = some (.ref ch) := Hs3.at hin3 rfl
  have pre4 : ∀ tz, oS p e below T2 m 14 #[rv o, iv (2 : Int32)] [(.ref ch)] tz → oS p e below s₁ m 0 #[rv o, iv (2 : Int32)] [] tz := fun tz kt => by
    show oS p e below s₁ m 0 #[rv o, iv (2 : Int32)] [] _
    refine XS.aloadN X0.here hx rfl (hb hby d11_0) rfl rfl ?_
    show oS p e below s₁ m 1 #[rv o, iv (2 : Int32)] [(.ref o)] _
    refine st1 _ ?_
    refine XS.iloadN X1.here hx rfl (hb hby d11_4) rfl ?_
    refine XS.bipush X1.here hx rfl (hb hby d11_5) ?_
    refine XS.iushr X1.here hx rfl (hb hby d11_7) rfl ?_
    show oS p e below T1 m 8 #[rv o, iv (2 : Int32)] [(.int (0 : Int32)), (.ref cs)] _
    refine XS.aloadN X1.here hx rfl (hb hby d11_8) rfl rfl ?_
    show oS p e below T1 m 9 #[rv o, iv (2 : Int32)] [(.ref o), (.int (0 : Int32)), (.ref cs)] _
    refine st2 _ ?_
    refine XS.isub X2.here hx rfl (hb hby d11_12) rfl ?_
    show oS p e below T2 m 13 #[rv o, iv (2 : Int32)] [(.int (0 : Int32)), (.ref cs)] _
    refine X2.aaload hx (j := (0 : Int32)) (v := (.ref ch)) (by rw [e2]; exact Ar3.1) (State.isArrayOf_alike hZ.alike Ar3.2.1) rfl Ar3.2.2 hin3 hat3 (g := (mkF m 13 #[rv o, iv (2 : Int32)] [(.int (0 : Int32)), (.ref cs)])) rfl rfl (hb hby d11_13) _ ?_
    exact kt
  obtain ⟨fs, hr, hrun, hended, hW, hsame⟩ := X2.leave (v := some (.ref ch)) (fun h => by rw [Bd.returns] at h; cases h)
  refine ⟨_, _, pre0 _ (pre4 _ ?_), hrun, hended, _, _, rfl, ?_, ⟨_, rfl⟩, hW, hsame.mono (by decide) (by decide)⟩
  · show oS p e below T2 m 14 #[rv o, iv (2 : Int32)] [(.ref ch)] _
    exact retOut X2 hx Bd.returns rfl (Or.inr (Or.inr (Or.inr (Or.inr ⟨rfl, rfl, rfl⟩)))) (hb hby d11_14) hr
  · show QCH2 Z o cs kc ch h0 n0 _ T2.heap _
    rw [e2]
    exact ⟨rfl, N0, rfl⟩
theorem d14_0 : decode jdk_29_method_69_code 0 = .ok (.iload_n 0, 1) := by decide +kernel
theorem d14_1 : decode jdk_29_method_69_code 1 = .ok (.iload_n 1, 1) := by decide +kernel
theorem d14_2 : decode jdk_29_method_69_code 2 = .ok (.if_icmp .gt 7, 3) := by decide +kernel
theorem d14_5 : decode jdk_29_method_69_code 5 = .ok (.iload_n 0, 1) := by decide +kernel
theorem d14_6 : decode jdk_29_method_69_code 6 = .ok (.goto 4, 3) := by decide +kernel
theorem d14_9 : decode jdk_29_method_69_code 9 = .ok (.iload_n 1, 1) := by decide +kernel
theorem d14_10 : decode jdk_29_method_69_code 10 = .ok (.ireturn, 1) := by decide +kernel
theorem ef14 (m : MethodId) (x1 : Int32) (x2 : Int32) : entryFrame m #[(.int x1), (.int x2)] 2 = mkF m 0 #[iv x1, iv x2] [] := by first | (simp [entryFrame, mkF, argsToLocals, Value.category]; done) | rfl
def Q14 (Z : State) (x1 : Int32) (x2 : Int32) (h0 : Heap) (n0 : Nat) (v : Option Value) (h : Heap) (L : List Loc) : Prop := v = some (.int (if x2 < x1 then x2 else x1)) ∧ Fr n0 L ∧ h = h0
set_option maxRecDepth 65536 in
set_option maxHeartbeats 40000000 in
theorem rm14 (l : Launch) (Z : State) (a0 : Array Value) (hw : ∀ d ∈ tables_1, d.before a0 Z = true) (ws : List Jvm.Cond) (x1 : Int32) (x2 : Int32) (h0 : Heap) (n0 : Nat) (Z0 : n0 ≤ h0.size) :
    MetFree l (⟨"java/lang/Math", "min", "(II)I"⟩ : MethodName) (head1 (Jvm.Cond.code (⟨"java/lang/Math", "min", "(II)I"⟩ : MethodName) jdk_29_method_69_code 2 (some .int) :: ws) ({ frames := 0, cells := 0, slots := 0, locals := 0 } : Room)) (fun a U => a = #[(.int x1), (.int x2)] ∧ Z.Warmed39 U.vm ∧ U.heap = h0) (fun _ _ _ _ _ => True) (fun _ U oc U' => ∃ v L, oc = .returned v ∧ Q14 Z x1 x2 h0 n0 v U'.heap L ∧ FrameEnd U oc U' L ({ frames := 0, cells := 0, slots := 0, locals := 0 } : Room).cells ({ frames := 0, cells := 0, slots := 0, locals := 0 } : Room).slots) := by
  refine MetFree.of_bodySF (Jvm.Free.JP.mathPlain rfl (by decide +kernel)) hisR ?_
  intro p e s m args below meth c s₁ Bd hml0 hP hK
  obtain ⟨rfl, hZ, hh⟩ := hP
  have hx := Bd.exec
  have hby := Bd.bytes
  have hml : c.maxLocals = 2 := hml0
  have hown : s.vm.findClass "java/lang/Math" = some m.cls := findClass_of_methodNamed Bd.named
  have hnm := (name_of_methodNamed Bd.named Bd.method).1
  have X0 : Stand p l e ({ frames := 0, cells := 0, slots := 0, locals := 0 } : Room) s m #[(.int x1), (.int x2)] below meth c s₁ [] 0 0 := Stand.of_body Bd
  have e0 : s₁.heap = h0 := by rw [← hh, Bd.state]; rfl
  have N0 := Fr.nil n0
  have pre0 : ∀ t, Steps p.tables e below (s₁.setTop (mkF m 0 #[iv x1, iv x2] [])) t → Steps p.tables e below (s₁.setTop (entryFrame m #[(.int x1), (.int x2)] 2)) t := fun t k => castTop (ef14 m x1 x2) k
  have pre1 : ∀ tz, oS p e below s₁ m 2 #[iv x1, iv x2] [(.int x2), (.int x1)] tz → oS p e below s₁ m 0 #[iv x1, iv x2] [] tz := fun tz kt => by
    show oS p e below s₁ m 0 #[iv x1, iv x2] [] _
    refine XS.iloadN X0.here hx rfl (hb hby d14_0) rfl ?_
    refine XS.iloadN X0.here hx rfl (hb hby d14_1) rfl ?_
    exact kt
  by_cases hc2 : x2 < x1
  · have pre2 : ∀ tz, oS p e below s₁ m 10 #[iv x1, iv x2] [(.int x2)] tz → oS p e below s₁ m 2 #[iv x1, iv x2] [(.int x2), (.int x1)] tz := fun tz kt => by
      show oS p e below s₁ m 2 #[iv x1, iv x2] [(.int x2), (.int x1)] _
      refine XS.icmpYes X0.here hx rfl (pc0 := 2) (pc' := 9) rfl (hb hby d14_2) rfl (tlt hc2).2.2.1 (by decide) (by decide) ?_
      refine XS.iloadN X0.here hx rfl (hb hby d14_9) rfl ?_
      exact kt
    obtain ⟨fs, hr, hrun, hended, hW, hsame⟩ := X0.leave (v := some (.int x2)) (fun h => by rw [Bd.returns] at h; cases h)
    refine ⟨_, _, pre0 _ (pre1 _ (pre2 _ ?_)), hrun, hended, _, _, rfl, ?_, ⟨_, rfl⟩, hW, hsame.mono (by decide) (by decide)⟩
    · show oS p e below s₁ m 10 #[iv x1, iv x2] [(.int x2)] _
      exact retOut X0 hx Bd.returns rfl (Or.inl ⟨rfl, Or.inl rfl, _, rfl⟩) (hb hby d14_10) hr
    · show Q14 Z x1 x2 h0 n0 _ s₁.heap _
      rw [e0]
      exact ⟨(by first | rfl | simp only [if_pos hc2]), N0, rfl⟩
  · have pre3 : ∀ tz, oS p e below s₁ m 10 #[iv x1, iv x2] [(.int x1)] tz → oS p e below s₁ m 2 #[iv x1, iv x2] [(.int x2), (.int x1)] tz := fun tz kt => by
      show oS p e below s₁ m 2 #[iv x1, iv x2] [(.int x2), (.int x1)] _
      refine XS.icmpNo X0.here hx rfl (hb hby d14_2) rfl (flt hc2).2.2.1 ?_
      refine XS.iloadN X0.here hx rfl (hb hby d14_5) rfl ?_
      refine XS.goto X0.here hx rfl (pc0 := 6) (pc' := 10) rfl (hb hby d14_6) (by decide) (by decide) ?_
      exact kt
    obtain ⟨fs, hr, hrun, hended, hW, hsame⟩ := X0.leave (v := some (.int x1)) (fun h => by rw [Bd.returns] at h; cases h)
    refine ⟨_, _, pre0 _ (pre1 _ (pre3 _ ?_)), hrun, hended, _, _, rfl, ?_, ⟨_, rfl⟩, hW, hsame.mono (by decide) (by decide)⟩
    · show oS p e below s₁ m 10 #[iv x1, iv x2] [(.int x1)] _
      exact retOut X0 hx Bd.returns rfl (Or.inl ⟨rfl, Or.inl rfl, _, rfl⟩) (hb hby d14_10) hr
    · show Q14 Z x1 x2 h0 n0 _ s₁.heap _
      rw [e0]
      exact ⟨(by first | rfl | simp only [if_neg hc2]), N0, rfl⟩
theorem own_b01 {c : Prop} [Decidable c] {v : Int32} (hv : v = (if c then (0 : Int32) else (1 : Int32))) (h : ¬ v = (0 : Int32)) : (1 : Int32) = v := by
  subst hv
  by_cases q : c
  · rw [if_pos q] at h; exact absurd rfl h
  · rw [if_neg q]
theorem own_n3 (x y : Int32) (hy : y = ((x &&& (2147483647 : Int32)) % (3 : Int32))) : y = 0 ∨ y = 1 ∨ y = 2 := by
  have h1 := c_mask x 2147483647 31 (by decide) (by decide)
  have h2 := (c_irem (x &&& 2147483647) 3 3 (by decide)).1 (by omega)
  rw [← hy] at h2
  simp only [← Int32.toInt_inj]
  have e0 : (0 : Int32).toInt = 0 := rfl
  have e1 : (1 : Int32).toInt = 1 := rfl
  have e2 : (2 : Int32).toInt = 2 := rfl
  omega
theorem d10_0 : decode prog_24_method_19_code 0 = .ok (.aload_n 0, 1) := by decide +kernel
theorem d10_1 : decode prog_24_method_19_code 1 = .ok (.iload_n 1, 1) := by decide +kernel
theorem d10_2 : decode prog_24_method_19_code 2 = .ok (.invokevirtual 86, 3) := by decide +kernel
theorem d10_5 : decode prog_24_method_19_code 5 = .ok (.getfield 67, 3) := by decide +kernel
theorem d10_8 : decode prog_24_method_19_code 8 = .ok (.iload_n 1, 1) := by decide +kernel
theorem d10_9 : decode prog_24_method_19_code 9 = .ok (.sipush 1023, 3) := by decide +kernel
theorem d10_12 : decode prog_24_method_19_code 12 = .ok (.iand, 1) := by decide +kernel
theorem d10_13 : decode prog_24_method_19_code 13 = .ok (.iconst 2, 1) := by decide +kernel
theorem d10_14 : decode prog_24_method_19_code 14 = .ok (.bastore, 1) := by decide +kernel
theorem d10_15 : decode prog_24_method_19_code 15 = .ok (.return_, 1) := by decide +kernel
theorem efML0 (m : MethodId) (o : Addr) : entryFrame m #[(.ref o), (.int (0 : Int32))] 2 = mkF m 0 #[rv o, iv (0 : Int32)] [] := by first | (simp [entryFrame, mkF, argsToLocals, Value.category]; done) | rfl
def QML0 (Z : State) (o : Addr) (cs : Addr) (kc : ClassId) (ch : Addr) (ar5 : Addr) (kz5 : ClassId) (s0 : Int32) (s1 : Int32) (s2 : Int32) (h0 : Heap) (n0 : Nat) (v : Option Value) (h : Heap) (L : List Loc) : Prop := v = none ∧ Fr n0 L ∧ Keep h0 h [ar5] ∧ Arv Z h ar5 kz5 .byte (1024 : Int32) [(.int (2 : Int32)), (.int s1), (.int s2)] (.int (0 : Int32))
set_option maxRecDepth 65536 in
set_option maxHeartbeats 40000000 in
theorem rmML0 (l : Launch) (Z : State) (a0 : Array Value) (hw : ∀ d ∈ tables_1, d.before a0 Z = true) (ws : List Jvm.Cond) (o : Addr) (cs : Addr) (kc : ClassId) (ch : Addr) (ar5 : Addr) (kz5 : ClassId) (s0 : Int32) (s1 : Int32) (s2 : Int32) (h0 : Heap) (n0 : Nat) (Z0 : n0 ≤ h0.size) (E_o : Exa Z h0 o oz0) (F_chunks_o : Fld Z h0 o oz0 "chunks" oz2 (.ref cs)) (F_firstChunk_o : Fld Z h0 o oz0 "firstChunk" "I" (.int (0 : Int32))) (V_cs : Arv Z h0 cs kc (.object oz1) (1 : Int32) [(.ref ch)] .null) (E_ch : Exa Z h0 ch oz1) (F_states_ch : Fld Z h0 ch oz1 "states" "[B" (.ref ar5)) (V_ar5 : Arv Z h0 ar5 kz5 .byte (1024 : Int32) [(.int s0), (.int s1), (.int s2)] (.int (0 : Int32))) (g_ar5 : n0 ≤ ar5) :
    MetFree l (⟨oz0, "markLeased", "(I)V"⟩ : MethodName) (head1 (Jvm.Cond.code (⟨oz0, "markLeased", "(I)V"⟩ : MethodName) prog_24_method_19_code 2 none :: ws) ({ frames := 1, cells := 0, slots := 0, locals := 13 } : Room)) (fun a U => a = #[(.ref o), (.int (0 : Int32))] ∧ Z.Warmed39 U.vm ∧ U.heap = h0) (fun _ _ _ _ _ => True) (fun _ U oc U' => ∃ v L, oc = .returned v ∧ QML0 Z o cs kc ch ar5 kz5 s0 s1 s2 h0 n0 v U'.heap L ∧ FrameEnd U oc U' L ({ frames := 1, cells := 0, slots := 0, locals := 13 } : Room).cells ({ frames := 1, cells := 0, slots := 0, locals := 13 } : Room).slots) := by
  refine MetFree.of_bodySF (plainFor_of_name own_pn0) hisR ?_
  intro p e s m args below meth c s₁ Bd hml0 hP hK
  obtain ⟨rfl, hZ, hh⟩ := hP
  have hx := Bd.exec
  have hby := Bd.bytes
  have hml : c.maxLocals = 2 := hml0
  have hown : s.vm.findClass oz0 = some m.cls := findClass_of_methodNamed Bd.named
  have hnm := (name_of_methodNamed Bd.named Bd.method).1
  have X0 : Stand p l e ({ frames := 1, cells := 0, slots := 0, locals := 13 } : Room) s m #[(.ref o), (.int (0 : Int32))] below meth c s₁ [] 0 0 := Stand.of_body Bd
  have e0 : s₁.heap = h0 := by rw [← hh, Bd.state]; rfl
  have N0 := Fr.nil n0
  have pre0 : ∀ t, Steps p.tables e below (s₁.setTop (mkF m 0 #[rv o, iv (0 : Int32)] [])) t → Steps p.tables e below (s₁.setTop (entryFrame m #[(.ref o), (.int (0 : Int32))] 2)) t := fun t k => castTop (efML0 m o) k
  obtain ⟨cq1, q1, q1'⟩ := E_o.cell
  obtain ⟨_, _, ⟨T1, Lw1, kw1, nw1⟩, -, X1, ⟨Lc1, hQ1, l1, y1, z1⟩, st1⟩ := X0.privateBack hx (y := (⟨oz0, "chunk", oz4⟩ : MethodName)) hown (mvT hZ (own_w hw 89 rfl)) (mvT hZ (own_w hw 90 rfl)) (own_selp hZ (own_w hw 1 rfl) (own_w hw 91 rfl) (own_w hw 90 rfl) (by decide)) (Cond.privateMethod_at (mvP hZ (own_w hw 91 rfl) (args := #[]))) (mvT hZ (own_w hw 92 rfl)) (by decide) (backOf (W := 0) (rmCH0 l Z a0 hw [] o cs kc ch h0 n0 Z0 E_o F_chunks_o F_firstChunk_o V_cs) hZ (own_w hw 92 rfl) (own_w hw 2 rfl) (by decide) (by decide)) (g := (mkF m 2 #[rv o, iv (0 : Int32)] [(.int (0 : Int32)), (.ref o)])) rfl (by rw [hml]; rfl) (Steps.refl _) (a := o) (by rw [e0]; exact q1) q1' (argsL := [(.int (0 : Int32))]) (rest := []) (lenOf own_pd2 rfl) rfl (by show 2 * 0 + _ ≤ _; exact Nat.le_of_eq rfl) (hb hby d10_2) (fun _ _ => ⟨rfl, e0, (by decide : 0 + 0 ≤ _), (by decide : 0 + 0 ≤ _)⟩)
  dsimp only [Pt.U, Pt.locs, Pt.cells, Pt.slots] at X1 l1 y1 z1 st1 hQ1
  subst l1 y1 z1
  obtain ⟨rfl, Nq1, eh1⟩ := hQ1
  have N1 := Fr.app N0 Nq1
  obtain ⟨cl3, Ar3, qk3, Sz3, Ng3, Hs3, Gt3⟩ := id V_ar5
  have hin3 : ¬ ((0 : Int32) < 0 ∨ cl3.slots.size ≤ ((0 : Int32)).toNatClampNeg) := inb_of Sz3 ⟨by decide, by decide⟩
  obtain ⟨T4, h4, X4, e4, W4, st4⟩ := stB X1 hx hZ eh1 Ar3 (j := (0 : Int32)) hin3 (g := (mkF m 14 #[rv o, iv (0 : Int32)] [(.int (2 : Int32)), (.int (0 : Int32)), (.ref ar5)])) rfl rfl (hb hby d10_14)
  have Va4 : Arv Z h4 ar5 kz5 .byte (1024 : Int32) [(.int (2 : Int32)), (.int s1), (.int s2)] (.int (0 : Int32)) := Arv.set Ar3 qk3 Sz3 Ng3 Hs3 Gt3 (fits_nar_byte _) W4 0 rfl (Nat.le_of_ble_eq_true rfl)
  have N4 := Fr.snoc X4 N1 g_ar5
  have pre5 : ∀ tz, oS p e below T4 m 15 #[rv o, iv (0 : Int32)] [] tz → oS p e below s₁ m 0 #[rv o, iv (0 : Int32)] [] tz := fun tz kt => by
    show oS p e below s₁ m 0 #[rv o, iv (0 : Int32)] [] _
    refine XS.aloadN X0.here hx rfl (hb hby d10_0) rfl rfl ?_
    refine XS.iloadN X0.here hx rfl (hb hby d10_1) rfl ?_
    show oS p e below s₁ m 2 #[rv o, iv (0 : Int32)] [(.int (0 : Int32)), (.ref o)] _
    refine st1.trans ?_
    refine own_getR X1 hx hZ hown (own_w hw 67 rfl) eh1 F_states_ch (g := (mkF m 5 #[rv o, iv (0 : Int32)] [(.ref ch)])) rfl rfl (hb hby d10_5) _ ?_
    refine XS.iloadN X1.here hx rfl (hb hby d10_8) rfl ?_
    refine XS.sipush X1.here hx rfl (hb hby d10_9) ?_
    show oS p e below T1 m 12 #[rv o, iv (0 : Int32)] [(.int (1023 : Int32)), (.int (0 : Int32)), (.ref ar5)] _
    refine XS.iand X1.here hx rfl (hb hby d10_12) rfl ?_
    show oS p e below T1 m 13 #[rv o, iv (0 : Int32)] [(.int (0 : Int32)), (.ref ar5)] _
    refine XS.iconst X1.here hx rfl (hb hby d10_13) ?_
    show oS p e below T1 m 14 #[rv o, iv (0 : Int32)] [(.int (2 : Int32)), (.int (0 : Int32)), (.ref ar5)] _
    refine st4 _ ?_
    exact kt
  have KP6 : Keep h0 h4 [ar5] := ((Keep.refl h0 [ar5]).wr W4 (Or.inl (List.mem_of_getElem? (i := 0) rfl)))
  obtain ⟨fs, hr, hrun, hended, hW, hsame⟩ := X4.leave (v := none) (fun _ => rfl)
  refine ⟨_, _, pre0 _ (pre5 _ ?_), hrun, hended, _, _, rfl, ?_, ⟨_, rfl⟩, hW, hsame.mono (by decide) (by decide)⟩
  · show oS p e below T4 m 15 #[rv o, iv (0 : Int32)] [] _
    exact X4.returnOut hx Bd.returns (hb hby d10_15) hr
  · show QML0 Z o cs kc ch ar5 kz5 s0 s1 s2 h0 n0 _ T4.heap _
    rw [e4]
    exact ⟨rfl, N4, KP6, Va4⟩
theorem d12_0 : decode prog_24_method_18_code 0 = .ok (.aload_n 0, 1) := by decide +kernel
theorem d12_1 : decode prog_24_method_18_code 1 = .ok (.iload_n 1, 1) := by decide +kernel
theorem d12_2 : decode prog_24_method_18_code 2 = .ok (.invokevirtual 86, 3) := by decide +kernel
theorem d12_5 : decode prog_24_method_18_code 5 = .ok (.getfield 67, 3) := by decide +kernel
theorem d12_8 : decode prog_24_method_18_code 8 = .ok (.iload_n 1, 1) := by decide +kernel
theorem d12_9 : decode prog_24_method_18_code 9 = .ok (.sipush 1023, 3) := by decide +kernel
theorem d12_12 : decode prog_24_method_18_code 12 = .ok (.iand, 1) := by decide +kernel
theorem d12_13 : decode prog_24_method_18_code 13 = .ok (.baload, 1) := by decide +kernel
theorem d12_14 : decode prog_24_method_18_code 14 = .ok (.iconst 2, 1) := by decide +kernel
theorem d12_15 : decode prog_24_method_18_code 15 = .ok (.if_icmp .ne 7, 3) := by decide +kernel
theorem d12_18 : decode prog_24_method_18_code 18 = .ok (.iconst 1, 1) := by decide +kernel
theorem d12_19 : decode prog_24_method_18_code 19 = .ok (.goto 4, 3) := by decide +kernel
theorem d12_22 : decode prog_24_method_18_code 22 = .ok (.iconst 0, 1) := by decide +kernel
theorem d12_23 : decode prog_24_method_18_code 23 = .ok (.ireturn, 1) := by decide +kernel
theorem efLE0 (m : MethodId) (o : Addr) : entryFrame m #[(.ref o), (.int (0 : Int32))] 2 = mkF m 0 #[rv o, iv (0 : Int32)] [] := by first | (simp [entryFrame, mkF, argsToLocals, Value.category]; done) | rfl
def QLE0 (Z : State) (o : Addr) (cs : Addr) (kc : ClassId) (ch : Addr) (ar5 : Addr) (kz5 : ClassId) (s0 : Int32) (s1 : Int32) (s2 : Int32) (h0 : Heap) (n0 : Nat) (v : Option Value) (h : Heap) (L : List Loc) : Prop := v = some (.int (if s0 = (2 : Int32) then (1 : Int32) else (0 : Int32))) ∧ Fr n0 L ∧ h = h0
set_option maxRecDepth 65536 in
set_option maxHeartbeats 40000000 in
theorem rmLE0 (l : Launch) (Z : State) (a0 : Array Value) (hw : ∀ d ∈ tables_1, d.before a0 Z = true) (ws : List Jvm.Cond) (o : Addr) (cs : Addr) (kc : ClassId) (ch : Addr) (ar5 : Addr) (kz5 : ClassId) (s0 : Int32) (s1 : Int32) (s2 : Int32) (h0 : Heap) (n0 : Nat) (Z0 : n0 ≤ h0.size) (E_o : Exa Z h0 o oz0) (F_chunks_o : Fld Z h0 o oz0 "chunks" oz2 (.ref cs)) (F_firstChunk_o : Fld Z h0 o oz0 "firstChunk" "I" (.int (0 : Int32))) (V_cs : Arv Z h0 cs kc (.object oz1) (1 : Int32) [(.ref ch)] .null) (E_ch : Exa Z h0 ch oz1) (F_states_ch : Fld Z h0 ch oz1 "states" "[B" (.ref ar5)) (V_ar5 : Arv Z h0 ar5 kz5 .byte (1024 : Int32) [(.int s0), (.int s1), (.int s2)] (.int (0 : Int32))) :
    MetFree l (⟨oz0, "leased", "(I)Z"⟩ : MethodName) (head1 (Jvm.Cond.code (⟨oz0, "leased", "(I)Z"⟩ : MethodName) prog_24_method_18_code 2 (some .boolean) :: ws) ({ frames := 1, cells := 0, slots := 0, locals := 13 } : Room)) (fun a U => a = #[(.ref o), (.int (0 : Int32))] ∧ Z.Warmed39 U.vm ∧ U.heap = h0) (fun _ _ _ _ _ => True) (fun _ U oc U' => ∃ v L, oc = .returned v ∧ QLE0 Z o cs kc ch ar5 kz5 s0 s1 s2 h0 n0 v U'.heap L ∧ FrameEnd U oc U' L ({ frames := 1, cells := 0, slots := 0, locals := 13 } : Room).cells ({ frames := 1, cells := 0, slots := 0, locals := 13 } : Room).slots) := by
  refine MetFree.of_bodySF (plainFor_of_name own_pn0) hisR ?_
  intro p e s m args below meth c s₁ Bd hml0 hP hK
  obtain ⟨rfl, hZ, hh⟩ := hP
  have hx := Bd.exec
  have hby := Bd.bytes
  have hml : c.maxLocals = 2 := hml0
  have hown : s.vm.findClass oz0 = some m.cls := findClass_of_methodNamed Bd.named
  have hnm := (name_of_methodNamed Bd.named Bd.method).1
  have X0 : Stand p l e ({ frames := 1, cells := 0, slots := 0, locals := 13 } : Room) s m #[(.ref o), (.int (0 : Int32))] below meth c s₁ [] 0 0 := Stand.of_body Bd
  have e0 : s₁.heap = h0 := by rw [← hh, Bd.state]; rfl
  have N0 := Fr.nil n0
  have pre0 : ∀ t, Steps p.tables e below (s₁.setTop (mkF m 0 #[rv o, iv (0 : Int32)] [])) t → Steps p.tables e below (s₁.setTop (entryFrame m #[(.ref o), (.int (0 : Int32))] 2)) t := fun t k => castTop (efLE0 m o) k
  obtain ⟨cq1, q1, q1'⟩ := E_o.cell
  obtain ⟨_, _, ⟨T1, Lw1, kw1, nw1⟩, -, X1, ⟨Lc1, hQ1, l1, y1, z1⟩, st1⟩ := X0.privateBack hx (y := (⟨oz0, "chunk", oz4⟩ : MethodName)) hown (mvT hZ (own_w hw 89 rfl)) (mvT hZ (own_w hw 90 rfl)) (own_selp hZ (own_w hw 1 rfl) (own_w hw 91 rfl) (own_w hw 90 rfl) (by decide)) (Cond.privateMethod_at (mvP hZ (own_w hw 91 rfl) (args := #[]))) (mvT hZ (own_w hw 92 rfl)) (by decide) (backOf (W := 0) (rmCH0 l Z a0 hw [] o cs kc ch h0 n0 Z0 E_o F_chunks_o F_firstChunk_o V_cs) hZ (own_w hw 92 rfl) (own_w hw 2 rfl) (by decide) (by decide)) (g := (mkF m 2 #[rv o, iv (0 : Int32)] [(.int (0 : Int32)), (.ref o)])) rfl (by rw [hml]; rfl) (Steps.refl _) (a := o) (by rw [e0]; exact q1) q1' (argsL := [(.int (0 : Int32))]) (rest := []) (lenOf own_pd2 rfl) rfl (by show 2 * 0 + _ ≤ _; exact Nat.le_of_eq rfl) (hb hby d12_2) (fun _ _ => ⟨rfl, e0, (by decide : 0 + 0 ≤ _), (by decide : 0 + 0 ≤ _)⟩)
  dsimp only [Pt.U, Pt.locs, Pt.cells, Pt.slots] at X1 l1 y1 z1 st1 hQ1
  subst l1 y1 z1
  obtain ⟨rfl, Nq1, eh1⟩ := hQ1
  have N1 := Fr.app N0 Nq1
  obtain ⟨cl3, Ar3, qk3, Sz3, Ng3, Hs3, Gt3⟩ := id V_ar5
  have hin3 : ¬ ((0 : Int32) < 0 ∨ cl3.slots.size ≤ ((0 : Int32)).toNatClampNeg) := inb_of Sz3 ⟨by decide, by decide⟩
  have hat3 : cl3.slots[((0 : Int32)).toNatClampNeg]? = some (.int s0) := Hs3.at hin3 rfl
  have pre4 : ∀ tz, oS p e below T1 m 15 #[rv o, iv (0 : Int32)] [(.int (2 : Int32)), (.int s0)] tz → oS p e below s₁ m 0 #[rv o, iv (0 : Int32)] [] tz := fun tz kt => by
    show oS p e below s₁ m 0 #[rv o, iv (0 : Int32)] [] _
    refine XS.aloadN X0.here hx rfl (hb hby d12_0) rfl rfl ?_
    refine XS.iloadN X0.here hx rfl (hb hby d12_1) rfl ?_
    show oS p e below s₁ m 2 #[rv o, iv (0 : Int32)] [(.int (0 : Int32)), (.ref o)] _
    refine st1.trans ?_
    refine own_getR X1 hx hZ hown (own_w hw 67 rfl) eh1 F_states_ch (g := (mkF m 5 #[rv o, iv (0 : Int32)] [(.ref ch)])) rfl rfl (hb hby d12_5) _ ?_
    refine XS.iloadN X1.here hx rfl (hb hby d12_8) rfl ?_
    refine XS.sipush X1.here hx rfl (hb hby d12_9) ?_
    show oS p e below T1 m 12 #[rv o, iv (0 : Int32)] [(.int (1023 : Int32)), (.int (0 : Int32)), (.ref ar5)] _
    refine XS.iand X1.here hx rfl (hb hby d12_12) rfl ?_
    show oS p e below T1 m 13 #[rv o, iv (0 : Int32)] [(.int (0 : Int32)), (.ref ar5)] _
    refine X1.baloadBytes hx (j := (0 : Int32)) (v := (.int s0)) (by rw [eh1]; exact Ar3.1) (State.isArrayOf_alike hZ.alike Ar3.2.1) Ar3.2.2 hin3 hat3 (g := (mkF m 13 #[rv o, iv (0 : Int32)] [(.int (0 : Int32)), (.ref ar5)])) rfl rfl (hb hby d12_13) _ ?_
    refine XS.iconst X1.here hx rfl (hb hby d12_14) ?_
    exact kt
  by_cases hc15 : s0 = (2 : Int32)
  · have pre5 : ∀ tz, oS p e below T1 m 23 #[rv o, iv (0 : Int32)] [(.int (1 : Int32))] tz → oS p e below T1 m 15 #[rv o, iv (0 : Int32)] [(.int (2 : Int32)), (.int s0)] tz := fun tz kt => by
      show oS p e below T1 m 15 #[rv o, iv (0 : Int32)] [(.int (2 : Int32)), (.int s0)] _
      refine XS.icmpNo X1.here hx rfl (hb hby d12_15) rfl (teq hc15).2 ?_
      refine XS.iconst X1.here hx rfl (hb hby d12_18) ?_
      refine XS.goto X1.here hx rfl (pc0 := 19) (pc' := 23) rfl (hb hby d12_19) (by decide) (by decide) ?_
      exact kt
    obtain ⟨fs, hr, hrun, hended, hW, hsame⟩ := X1.leave (v := some (.int (1 : Int32))) (fun h => by rw [Bd.returns] at h; cases h)
    refine ⟨_, _, pre0 _ (pre4 _ (pre5 _ ?_)), hrun, hended, _, _, rfl, ?_, ⟨_, rfl⟩, hW, hsame.mono (by decide) (by decide)⟩
    · show oS p e below T1 m 23 #[rv o, iv (0 : Int32)] [(.int (1 : Int32))] _
      exact retN X1 hx (t := .boolean) Bd.returns (by simp) (hb hby d12_23) hr
    · show QLE0 Z o cs kc ch ar5 kz5 s0 s1 s2 h0 n0 _ T1.heap _
      rw [eh1]
      exact ⟨(by first | rfl | simp only [if_pos hc15]), N1, rfl⟩
  · have pre6 : ∀ tz, oS p e below T1 m 23 #[rv o, iv (0 : Int32)] [(.int (0 : Int32))] tz → oS p e below T1 m 15 #[rv o, iv (0 : Int32)] [(.int (2 : Int32)), (.int s0)] tz := fun tz kt => by
      show oS p e below T1 m 15 #[rv o, iv (0 : Int32)] [(.int (2 : Int32)), (.int s0)] _
      refine XS.icmpYes X1.here hx rfl (pc0 := 15) (pc' := 22) rfl (hb hby d12_15) rfl (feq hc15).2 (by decide) (by decide) ?_
      refine XS.iconst X1.here hx rfl (hb hby d12_22) ?_
      exact kt
    obtain ⟨fs, hr, hrun, hended, hW, hsame⟩ := X1.leave (v := some (.int (0 : Int32))) (fun h => by rw [Bd.returns] at h; cases h)
    refine ⟨_, _, pre0 _ (pre4 _ (pre6 _ ?_)), hrun, hended, _, _, rfl, ?_, ⟨_, rfl⟩, hW, hsame.mono (by decide) (by decide)⟩
    · show oS p e below T1 m 23 #[rv o, iv (0 : Int32)] [(.int (0 : Int32))] _
      exact retN X1 hx (t := .boolean) Bd.returns (by simp) (hb hby d12_23) hr
    · show QLE0 Z o cs kc ch ar5 kz5 s0 s1 s2 h0 n0 _ T1.heap _
      rw [eh1]
      exact ⟨(by first | rfl | simp only [if_neg hc15]), N1, rfl⟩
theorem own_pd6 : parseMethodDescriptor "(II)I" = some ⟨[.int, .int], some .int⟩ := by decide +kernel
theorem d13_0 : decode prog_24_method_20_code 0 = .ok (.aload_n 0, 1) := by decide +kernel
theorem d13_1 : decode prog_24_method_20_code 1 = .ok (.iload_n 1, 1) := by decide +kernel
theorem d13_2 : decode prog_24_method_20_code 2 = .ok (.invokevirtual 86, 3) := by decide +kernel
theorem d13_5 : decode prog_24_method_20_code 5 = .ok (.getfield 67, 3) := by decide +kernel
theorem d13_8 : decode prog_24_method_20_code 8 = .ok (.iload_n 1, 1) := by decide +kernel
theorem d13_9 : decode prog_24_method_20_code 9 = .ok (.sipush 1023, 3) := by decide +kernel
theorem d13_12 : decode prog_24_method_20_code 12 = .ok (.iand, 1) := by decide +kernel
theorem d13_13 : decode prog_24_method_20_code 13 = .ok (.iconst 1, 1) := by decide +kernel
theorem d13_14 : decode prog_24_method_20_code 14 = .ok (.bastore, 1) := by decide +kernel
theorem d13_15 : decode prog_24_method_20_code 15 = .ok (.aload_n 0, 1) := by decide +kernel
theorem d13_16 : decode prog_24_method_20_code 16 = .ok (.aload_n 0, 1) := by decide +kernel
theorem d13_17 : decode prog_24_method_20_code 17 = .ok (.getfield 115, 3) := by decide +kernel
theorem d13_20 : decode prog_24_method_20_code 20 = .ok (.iload_n 1, 1) := by decide +kernel
theorem d13_21 : decode prog_24_method_20_code 21 = .ok (.invokestatic 120, 3) := by decide +kernel
theorem d13_24 : decode prog_24_method_20_code 24 = .ok (.putfield 115, 3) := by decide +kernel
theorem d13_27 : decode prog_24_method_20_code 27 = .ok (.return_, 1) := by decide +kernel
theorem efMA0 (m : MethodId) (o : Addr) : entryFrame m #[(.ref o), (.int (0 : Int32))] 2 = mkF m 0 #[rv o, iv (0 : Int32)] [] := by first | (simp [entryFrame, mkF, argsToLocals, Value.category]; done) | rfl
def QMA0 (Z : State) (o : Addr) (cs : Addr) (kc : ClassId) (ch : Addr) (ar5 : Addr) (kz5 : ClassId) (s0 : Int32) (s1 : Int32) (s2 : Int32) (u : Int32) (h0 : Heap) (n0 : Nat) (v : Option Value) (h : Heap) (L : List Loc) : Prop := v = none ∧ Fr n0 L ∧ Keep h0 h [ar5, o] ∧ Arv Z h ar5 kz5 .byte (1024 : Int32) [(.int (1 : Int32)), (.int s1), (.int s2)] (.int (0 : Int32)) ∧ Fld Z h o oz0 "chunks" oz2 (.ref cs) ∧ Fld Z h o oz0 "firstChunk" "I" (.int (0 : Int32))
set_option maxRecDepth 65536 in
set_option maxHeartbeats 40000000 in
theorem rmMA0 (l : Launch) (Z : State) (a0 : Array Value) (hw : ∀ d ∈ tables_1, d.before a0 Z = true) (ws : List Jvm.Cond) (o : Addr) (cs : Addr) (kc : ClassId) (ch : Addr) (ar5 : Addr) (kz5 : ClassId) (s0 : Int32) (s1 : Int32) (s2 : Int32) (u : Int32) (h0 : Heap) (n0 : Nat) (Z0 : n0 ≤ h0.size) (E_o : Exa Z h0 o oz0) (F_chunks_o : Fld Z h0 o oz0 "chunks" oz2 (.ref cs)) (F_firstChunk_o : Fld Z h0 o oz0 "firstChunk" "I" (.int (0 : Int32))) (V_cs : Arv Z h0 cs kc (.object oz1) (1 : Int32) [(.ref ch)] .null) (E_ch : Exa Z h0 ch oz1) (F_states_ch : Fld Z h0 ch oz1 "states" "[B" (.ref ar5)) (V_ar5 : Arv Z h0 ar5 kz5 .byte (1024 : Int32) [(.int s0), (.int s1), (.int s2)] (.int (0 : Int32))) (g_ar5 : n0 ≤ ar5) (g_o : n0 ≤ o) (F_availableFrom_o : Fld Z h0 o oz0 "availableFrom" "I" (.int u)) :
    MetFree l (⟨oz0, "markAvailable", "(I)V"⟩ : MethodName) (head1 (Jvm.Cond.code (⟨oz0, "markAvailable", "(I)V"⟩ : MethodName) prog_24_method_20_code 2 none :: ws) ({ frames := 1, cells := 0, slots := 0, locals := 14 } : Room)) (fun a U => a = #[(.ref o), (.int (0 : Int32))] ∧ Z.Warmed39 U.vm ∧ U.heap = h0) (fun _ _ _ _ _ => True) (fun _ U oc U' => ∃ v L, oc = .returned v ∧ QMA0 Z o cs kc ch ar5 kz5 s0 s1 s2 u h0 n0 v U'.heap L ∧ FrameEnd U oc U' L ({ frames := 1, cells := 0, slots := 0, locals := 14 } : Room).cells ({ frames := 1, cells := 0, slots := 0, locals := 14 } : Room).slots) := by
  refine MetFree.of_bodySF (plainFor_of_name own_pn0) hisR ?_
  intro p e s m args below meth c s₁ Bd hml0 hP hK
  obtain ⟨rfl, hZ, hh⟩ := hP
  have hx := Bd.exec
  have hby := Bd.bytes
  have hml : c.maxLocals = 2 := hml0
  have hown : s.vm.findClass oz0 = some m.cls := findClass_of_methodNamed Bd.named
  have hnm := (name_of_methodNamed Bd.named Bd.method).1
  have X0 : Stand p l e ({ frames := 1, cells := 0, slots := 0, locals := 14 } : Room) s m #[(.ref o), (.int (0 : Int32))] below meth c s₁ [] 0 0 := Stand.of_body Bd
  have e0 : s₁.heap = h0 := by rw [← hh, Bd.state]; rfl
  have N0 := Fr.nil n0
  have pre0 : ∀ t, Steps p.tables e below (s₁.setTop (mkF m 0 #[rv o, iv (0 : Int32)] [])) t → Steps p.tables e below (s₁.setTop (entryFrame m #[(.ref o), (.int (0 : Int32))] 2)) t := fun t k => castTop (efMA0 m o) k
  obtain ⟨cq1, q1, q1'⟩ := E_o.cell
  obtain ⟨_, _, ⟨T1, Lw1, kw1, nw1⟩, -, X1, ⟨Lc1, hQ1, l1, y1, z1⟩, st1⟩ := X0.privateBack hx (y := (⟨oz0, "chunk", oz4⟩ : MethodName)) hown (mvT hZ (own_w hw 89 rfl)) (mvT hZ (own_w hw 90 rfl)) (own_selp hZ (own_w hw 1 rfl) (own_w hw 91 rfl) (own_w hw 90 rfl) (by decide)) (Cond.privateMethod_at (mvP hZ (own_w hw 91 rfl) (args := #[]))) (mvT hZ (own_w hw 92 rfl)) (by decide) (backOf (W := 0) (rmCH0 l Z a0 hw [] o cs kc ch h0 n0 Z0 E_o F_chunks_o F_firstChunk_o V_cs) hZ (own_w hw 92 rfl) (own_w hw 2 rfl) (by decide) (by decide)) (g := (mkF m 2 #[rv o, iv (0 : Int32)] [(.int (0 : Int32)), (.ref o)])) rfl (by rw [hml]; rfl) (Steps.refl _) (a := o) (by rw [e0]; exact q1) q1' (argsL := [(.int (0 : Int32))]) (rest := []) (lenOf own_pd2 rfl) rfl (by show 2 * 0 + _ ≤ _; exact Nat.le_of_eq rfl) (hb hby d13_2) (fun _ _ => ⟨rfl, e0, (by decide : 0 + 0 ≤ _), (by decide : 0 + 0 ≤ _)⟩)
  dsimp only [Pt.U, Pt.locs, Pt.cells, Pt.slots] at X1 l1 y1 z1 st1 hQ1
  subst l1 y1 z1
  obtain ⟨rfl, Nq1, eh1⟩ := hQ1
  have N1 := Fr.app N0 Nq1
  obtain ⟨cl3, Ar3, qk3, Sz3, Ng3, Hs3, Gt3⟩ := id V_ar5
  have hin3 : ¬ ((0 : Int32) < 0 ∨ cl3.slots.size ≤ ((0 : Int32)).toNatClampNeg) := inb_of Sz3 ⟨by decide, by decide⟩
  obtain ⟨T4, h4, X4, e4, W4, st4⟩ := stB X1 hx hZ eh1 Ar3 (j := (0 : Int32)) hin3 (g := (mkF m 14 #[rv o, iv (0 : Int32)] [(.int (1 : Int32)), (.int (0 : Int32)), (.ref ar5)])) rfl rfl (hb hby d13_14)
  have Va4 : Arv Z h4 ar5 kz5 .byte (1024 : Int32) [(.int (1 : Int32)), (.int s1), (.int s2)] (.int (0 : Int32)) := Arv.set Ar3 qk3 Sz3 Ng3 Hs3 Gt3 (fits_nar_byte _) W4 0 rfl (Nat.le_of_ble_eq_true rfl)
  have N4 := Fr.snoc X4 N1 g_ar5
  obtain ⟨_, Arn5, -⟩ := id Va4
  have ne5 : o ≠ ar5 := ne_arr (E_o.wr W4) (own_w hw 1 rfl) Arn5
  have Fc6 : Fld Z h4 o oz0 "availableFrom" "I" (.int u) := (F_availableFrom_o.other W4 (Or.inl ne5))
  obtain ⟨T7, X7, e7, st7⟩ := getF X4 hx hZ hown (host := "") (Or.inl (own_w hw 104 rfl)) Via.refl e4 Fc6 (g := (mkF m 17 #[rv o, iv (0 : Int32)] [(.ref o), (.ref o)])) rfl rfl (hb hby d13_17)
  have Zc9 : n0 ≤ h4.size := (Nat.le_trans Z0 (Keep.of_wr W4).1)
  obtain ⟨_, _, ⟨T8, Lw8, kw8, nw8⟩, -, X8, ⟨Lc8, hQ8, l8, y8, z8⟩, st8⟩ := Jvm.LawKit.callS X7 hx (y := (⟨"java/lang/Math", "min", "(II)I"⟩ : MethodName)) hown (mvT hZ (own_w hw 106 rfl)) (mvT hZ (own_w hw 107 rfl)) (mvT hZ (own_w hw 108 rfl)) (mvT hZ (own_w hw 109 rfl)) (by decide) (backOf (W := 1) (rm14 l Z a0 hw [] u (0 : Int32) h4 n0 Zc9 ) hZ (own_w hw 109 rfl) (own_w hw 108 rfl) (by decide) (by decide)) (g := (mkF m 21 #[rv o, iv (0 : Int32)] [(.int (0 : Int32)), (.int u), (.ref o)])) rfl (by rw [hml]; rfl) (argsL := [(.int u), (.int (0 : Int32))]) (rest := [(.ref o)]) (lenOf own_pd6 rfl) rfl (by show 2 * 0 + _ ≤ _; exact Nat.le_of_eq rfl) (hb hby d13_21) (fun _ _ => ⟨rfl, e7, (by decide : 0 + 0 ≤ _), (by decide : 0 + 0 ≤ _)⟩)
  dsimp only [Pt.U, Pt.locs, Pt.cells, Pt.slots] at X8 l8 y8 z8 st8 hQ8
  subst l8 y8 z8
  obtain ⟨rfl, Nq8, eh8⟩ := hQ8
  have N8 := Fr.app N4 Nq8
  have Ec10 : Exa Z h4 o oz0 := (E_o.wr W4)
  obtain ⟨T11, h11, X11, e11, W11, st11⟩ := putF X8 hx hZ hown (host := "") (Or.inl (own_w hw 104 rfl)) Via.refl eh8 Fc6 Ec10 (Or.inl (own_w hw 105 rfl)) (own_w hw 1 rfl) (ty := .int) (by decide) rfl rfl (g := (mkF m 24 #[rv o, iv (0 : Int32)] [(.int (if (0 : Int32) < u then (0 : Int32) else u)), (.ref o)])) rfl rfl (hb hby d13_24)
  have Fw11 : Fld Z h11 o oz0 "availableFrom" "I" (.int (if (0 : Int32) < u then (0 : Int32) else u)) := Fc6.same W11
  have N11 := Fr.snoc X11 N8 g_o
  have pre12 : ∀ tz, oS p e below T11 m 27 #[rv o, iv (0 : Int32)] [] tz → oS p e below s₁ m 0 #[rv o, iv (0 : Int32)] [] tz := fun tz kt => by
    show oS p e below s₁ m 0 #[rv o, iv (0 : Int32)] [] _
    refine XS.aloadN X0.here hx rfl (hb hby d13_0) rfl rfl ?_
    refine XS.iloadN X0.here hx rfl (hb hby d13_1) rfl ?_
    show oS p e below s₁ m 2 #[rv o, iv (0 : Int32)] [(.int (0 : Int32)), (.ref o)] _
    refine st1.trans ?_
    refine own_getR X1 hx hZ hown (own_w hw 67 rfl) eh1 F_states_ch (g := (mkF m 5 #[rv o, iv (0 : Int32)] [(.ref ch)])) rfl rfl (hb hby d13_5) _ ?_
    refine XS.iloadN X1.here hx rfl (hb hby d13_8) rfl ?_
    refine XS.sipush X1.here hx rfl (hb hby d13_9) ?_
    show oS p e below T1 m 12 #[rv o, iv (0 : Int32)] [(.int (1023 : Int32)), (.int (0 : Int32)), (.ref ar5)] _
    refine XS.iand X1.here hx rfl (hb hby d13_12) rfl ?_
    show oS p e below T1 m 13 #[rv o, iv (0 : Int32)] [(.int (0 : Int32)), (.ref ar5)] _
    refine XS.iconst X1.here hx rfl (hb hby d13_13) ?_
    show oS p e below T1 m 14 #[rv o, iv (0 : Int32)] [(.int (1 : Int32)), (.int (0 : Int32)), (.ref ar5)] _
    refine st4 _ ?_
    refine XS.aloadN X4.here hx rfl (hb hby d13_15) rfl rfl ?_
    refine XS.aloadN X4.here hx rfl (hb hby d13_16) rfl rfl ?_
    show oS p e below T4 m 17 #[rv o, iv (0 : Int32)] [(.ref o), (.ref o)] _
    refine st7 _ ?_
    refine XS.iloadN X7.here hx rfl (hb hby d13_20) rfl ?_
    show oS p e below T7 m 21 #[rv o, iv (0 : Int32)] [(.int (0 : Int32)), (.int u), (.ref o)] _
    refine st8 _ ?_
    show oS p e below T8 m 24 #[rv o, iv (0 : Int32)] [(.int (if (0 : Int32) < u then (0 : Int32) else u)), (.ref o)] _
    refine st11 _ ?_
    exact kt
  have KP13 : Keep h0 h11 [ar5, o] := (((Keep.refl h0 [ar5, o]).wr W4 (Or.inl (List.mem_of_getElem? (i := 0) rfl))).wr W11 (Or.inl (List.mem_of_getElem? (i := 1) rfl)))
  have Vc14 : Arv Z h11 ar5 kz5 .byte (1024 : Int32) [(.int (1 : Int32)), (.int s1), (.int s2)] (.int (0 : Int32)) := (Va4.other W11 (Ne.symm ne5))
  have Fc15 : Fld Z h11 o oz0 "chunks" oz2 (.ref cs) := ((F_chunks_o.other W4 (Or.inl ne5)).other W11 (Or.inr (slot_ne (Or.inl (own_w hw 12 rfl)) (Or.inl (own_w hw 105 rfl)) (by decide) (t := (.array (.object oz1))) (t' := .int) (by decide) (by decide))))
  have Fc16 : Fld Z h11 o oz0 "firstChunk" "I" (.int (0 : Int32)) := ((F_firstChunk_o.other W4 (Or.inl ne5)).other W11 (Or.inr (slot_ne (Or.inl (own_w hw 31 rfl)) (Or.inl (own_w hw 105 rfl)) (by decide) (t := .int) (t' := .int) (by decide) (by decide))))
  obtain ⟨fs, hr, hrun, hended, hW, hsame⟩ := X11.leave (v := none) (fun _ => rfl)
  refine ⟨_, _, pre0 _ (pre12 _ ?_), hrun, hended, _, _, rfl, ?_, ⟨_, rfl⟩, hW, hsame.mono (by decide) (by decide)⟩
  · show oS p e below T11 m 27 #[rv o, iv (0 : Int32)] [] _
    exact X11.returnOut hx Bd.returns (hb hby d13_27) hr
  · show QMA0 Z o cs kc ch ar5 kz5 s0 s1 s2 u h0 n0 _ T11.heap _
    rw [e11]
    exact ⟨rfl, N11, KP13, Vc14, Fc15, Fc16⟩
theorem efML1 (m : MethodId) (o : Addr) : entryFrame m #[(.ref o), (.int (1 : Int32))] 2 = mkF m 0 #[rv o, iv (1 : Int32)] [] := by first | (simp [entryFrame, mkF, argsToLocals, Value.category]; done) | rfl
def QML1 (Z : State) (o : Addr) (cs : Addr) (kc : ClassId) (ch : Addr) (ar5 : Addr) (kz5 : ClassId) (s0 : Int32) (s1 : Int32) (s2 : Int32) (h0 : Heap) (n0 : Nat) (v : Option Value) (h : Heap) (L : List Loc) : Prop := v = none ∧ Fr n0 L ∧ Keep h0 h [ar5] ∧ Arv Z h ar5 kz5 .byte (1024 : Int32) [(.int s0), (.int (2 : Int32)), (.int s2)] (.int (0 : Int32))
set_option maxRecDepth 65536 in
set_option maxHeartbeats 40000000 in
theorem rmML1 (l : Launch) (Z : State) (a0 : Array Value) (hw : ∀ d ∈ tables_1, d.before a0 Z = true) (ws : List Jvm.Cond) (o : Addr) (cs : Addr) (kc : ClassId) (ch : Addr) (ar5 : Addr) (kz5 : ClassId) (s0 : Int32) (s1 : Int32) (s2 : Int32) (h0 : Heap) (n0 : Nat) (Z0 : n0 ≤ h0.size) (E_o : Exa Z h0 o oz0) (F_chunks_o : Fld Z h0 o oz0 "chunks" oz2 (.ref cs)) (F_firstChunk_o : Fld Z h0 o oz0 "firstChunk" "I" (.int (0 : Int32))) (V_cs : Arv Z h0 cs kc (.object oz1) (1 : Int32) [(.ref ch)] .null) (E_ch : Exa Z h0 ch oz1) (F_states_ch : Fld Z h0 ch oz1 "states" "[B" (.ref ar5)) (V_ar5 : Arv Z h0 ar5 kz5 .byte (1024 : Int32) [(.int s0), (.int s1), (.int s2)] (.int (0 : Int32))) (g_ar5 : n0 ≤ ar5) :
    MetFree l (⟨oz0, "markLeased", "(I)V"⟩ : MethodName) (head1 (Jvm.Cond.code (⟨oz0, "markLeased", "(I)V"⟩ : MethodName) prog_24_method_19_code 2 none :: ws) ({ frames := 1, cells := 0, slots := 0, locals := 13 } : Room)) (fun a U => a = #[(.ref o), (.int (1 : Int32))] ∧ Z.Warmed39 U.vm ∧ U.heap = h0) (fun _ _ _ _ _ => True) (fun _ U oc U' => ∃ v L, oc = .returned v ∧ QML1 Z o cs kc ch ar5 kz5 s0 s1 s2 h0 n0 v U'.heap L ∧ FrameEnd U oc U' L ({ frames := 1, cells := 0, slots := 0, locals := 13 } : Room).cells ({ frames := 1, cells := 0, slots := 0, locals := 13 } : Room).slots) := by
  refine MetFree.of_bodySF (plainFor_of_name own_pn0) hisR ?_
  intro p e s m args below meth c s₁ Bd hml0 hP hK
  obtain ⟨rfl, hZ, hh⟩ := hP
  have hx := Bd.exec
  have hby := Bd.bytes
  have hml : c.maxLocals = 2 := hml0
  have hown : s.vm.findClass oz0 = some m.cls := findClass_of_methodNamed Bd.named
  have hnm := (name_of_methodNamed Bd.named Bd.method).1
  have X0 : Stand p l e ({ frames := 1, cells := 0, slots := 0, locals := 13 } : Room) s m #[(.ref o), (.int (1 : Int32))] below meth c s₁ [] 0 0 := Stand.of_body Bd
  have e0 : s₁.heap = h0 := by rw [← hh, Bd.state]; rfl
  have N0 := Fr.nil n0
  have pre0 : ∀ t, Steps p.tables e below (s₁.setTop (mkF m 0 #[rv o, iv (1 : Int32)] [])) t → Steps p.tables e below (s₁.setTop (entryFrame m #[(.ref o), (.int (1 : Int32))] 2)) t := fun t k => castTop (efML1 m o) k
  obtain ⟨cq1, q1, q1'⟩ := E_o.cell
  obtain ⟨_, _, ⟨T1, Lw1, kw1, nw1⟩, -, X1, ⟨Lc1, hQ1, l1, y1, z1⟩, st1⟩ := X0.privateBack hx (y := (⟨oz0, "chunk", oz4⟩ : MethodName)) hown (mvT hZ (own_w hw 89 rfl)) (mvT hZ (own_w hw 90 rfl)) (own_selp hZ (own_w hw 1 rfl) (own_w hw 91 rfl) (own_w hw 90 rfl) (by decide)) (Cond.privateMethod_at (mvP hZ (own_w hw 91 rfl) (args := #[]))) (mvT hZ (own_w hw 92 rfl)) (by decide) (backOf (W := 0) (rmCH1 l Z a0 hw [] o cs kc ch h0 n0 Z0 E_o F_chunks_o F_firstChunk_o V_cs) hZ (own_w hw 92 rfl) (own_w hw 2 rfl) (by decide) (by decide)) (g := (mkF m 2 #[rv o, iv (1 : Int32)] [(.int (1 : Int32)), (.ref o)])) rfl (by rw [hml]; rfl) (Steps.refl _) (a := o) (by rw [e0]; exact q1) q1' (argsL := [(.int (1 : Int32))]) (rest := []) (lenOf own_pd2 rfl) rfl (by show 2 * 0 + _ ≤ _; exact Nat.le_of_eq rfl) (hb hby d10_2) (fun _ _ => ⟨rfl, e0, (by decide : 0 + 0 ≤ _), (by decide : 0 + 0 ≤ _)⟩)
  dsimp only [Pt.U, Pt.locs, Pt.cells, Pt.slots] at X1 l1 y1 z1 st1 hQ1
  subst l1 y1 z1
  obtain ⟨rfl, Nq1, eh1⟩ := hQ1
  have N1 := Fr.app N0 Nq1
  obtain ⟨cl3, Ar3, qk3, Sz3, Ng3, Hs3, Gt3⟩ := id V_ar5
  have hin3 : ¬ ((1 : Int32) < 0 ∨ cl3.slots.size ≤ ((1 : Int32)).toNatClampNeg) := inb_of Sz3 ⟨by decide, by decide⟩
  obtain ⟨T4, h4, X4, e4, W4, st4⟩ := stB X1 hx hZ eh1 Ar3 (j := (1 : Int32)) hin3 (g := (mkF m 14 #[rv o, iv (1 : Int32)] [(.int (2 : Int32)), (.int (1 : Int32)), (.ref ar5)])) rfl rfl (hb hby d10_14)
  have Va4 : Arv Z h4 ar5 kz5 .byte (1024 : Int32) [(.int s0), (.int (2 : Int32)), (.int s2)] (.int (0 : Int32)) := Arv.set Ar3 qk3 Sz3 Ng3 Hs3 Gt3 (fits_nar_byte _) W4 1 rfl (Nat.le_of_ble_eq_true rfl)
  have N4 := Fr.snoc X4 N1 g_ar5
  have pre5 : ∀ tz, oS p e below T4 m 15 #[rv o, iv (1 : Int32)] [] tz → oS p e below s₁ m 0 #[rv o, iv (1 : Int32)] [] tz := fun tz kt => by
    show oS p e below s₁ m 0 #[rv o, iv (1 : Int32)] [] _
    refine XS.aloadN X0.here hx rfl (hb hby d10_0) rfl rfl ?_
    refine XS.iloadN X0.here hx rfl (hb hby d10_1) rfl ?_
    show oS p e below s₁ m 2 #[rv o, iv (1 : Int32)] [(.int (1 : Int32)), (.ref o)] _
    refine st1.trans ?_
    refine own_getR X1 hx hZ hown (own_w hw 67 rfl) eh1 F_states_ch (g := (mkF m 5 #[rv o, iv (1 : Int32)] [(.ref ch)])) rfl rfl (hb hby d10_5) _ ?_
    refine XS.iloadN X1.here hx rfl (hb hby d10_8) rfl ?_
    refine XS.sipush X1.here hx rfl (hb hby d10_9) ?_
    show oS p e below T1 m 12 #[rv o, iv (1 : Int32)] [(.int (1023 : Int32)), (.int (1 : Int32)), (.ref ar5)] _
    refine XS.iand X1.here hx rfl (hb hby d10_12) rfl ?_
    show oS p e below T1 m 13 #[rv o, iv (1 : Int32)] [(.int (1 : Int32)), (.ref ar5)] _
    refine XS.iconst X1.here hx rfl (hb hby d10_13) ?_
    show oS p e below T1 m 14 #[rv o, iv (1 : Int32)] [(.int (2 : Int32)), (.int (1 : Int32)), (.ref ar5)] _
    refine st4 _ ?_
    exact kt
  have KP6 : Keep h0 h4 [ar5] := ((Keep.refl h0 [ar5]).wr W4 (Or.inl (List.mem_of_getElem? (i := 0) rfl)))
  obtain ⟨fs, hr, hrun, hended, hW, hsame⟩ := X4.leave (v := none) (fun _ => rfl)
  refine ⟨_, _, pre0 _ (pre5 _ ?_), hrun, hended, _, _, rfl, ?_, ⟨_, rfl⟩, hW, hsame.mono (by decide) (by decide)⟩
  · show oS p e below T4 m 15 #[rv o, iv (1 : Int32)] [] _
    exact X4.returnOut hx Bd.returns (hb hby d10_15) hr
  · show QML1 Z o cs kc ch ar5 kz5 s0 s1 s2 h0 n0 _ T4.heap _
    rw [e4]
    exact ⟨rfl, N4, KP6, Va4⟩
theorem efLE1 (m : MethodId) (o : Addr) : entryFrame m #[(.ref o), (.int (1 : Int32))] 2 = mkF m 0 #[rv o, iv (1 : Int32)] [] := by first | (simp [entryFrame, mkF, argsToLocals, Value.category]; done) | rfl
def QLE1 (Z : State) (o : Addr) (cs : Addr) (kc : ClassId) (ch : Addr) (ar5 : Addr) (kz5 : ClassId) (s0 : Int32) (s1 : Int32) (s2 : Int32) (h0 : Heap) (n0 : Nat) (v : Option Value) (h : Heap) (L : List Loc) : Prop := v = some (.int (if s1 = (2 : Int32) then (1 : Int32) else (0 : Int32))) ∧ Fr n0 L ∧ h = h0
set_option maxRecDepth 65536 in
set_option maxHeartbeats 40000000 in
theorem rmLE1 (l : Launch) (Z : State) (a0 : Array Value) (hw : ∀ d ∈ tables_1, d.before a0 Z = true) (ws : List Jvm.Cond) (o : Addr) (cs : Addr) (kc : ClassId) (ch : Addr) (ar5 : Addr) (kz5 : ClassId) (s0 : Int32) (s1 : Int32) (s2 : Int32) (h0 : Heap) (n0 : Nat) (Z0 : n0 ≤ h0.size) (E_o : Exa Z h0 o oz0) (F_chunks_o : Fld Z h0 o oz0 "chunks" oz2 (.ref cs)) (F_firstChunk_o : Fld Z h0 o oz0 "firstChunk" "I" (.int (0 : Int32))) (V_cs : Arv Z h0 cs kc (.object oz1) (1 : Int32) [(.ref ch)] .null) (E_ch : Exa Z h0 ch oz1) (F_states_ch : Fld Z h0 ch oz1 "states" "[B" (.ref ar5)) (V_ar5 : Arv Z h0 ar5 kz5 .byte (1024 : Int32) [(.int s0), (.int s1), (.int s2)] (.int (0 : Int32))) :
    MetFree l (⟨oz0, "leased", "(I)Z"⟩ : MethodName) (head1 (Jvm.Cond.code (⟨oz0, "leased", "(I)Z"⟩ : MethodName) prog_24_method_18_code 2 (some .boolean) :: ws) ({ frames := 1, cells := 0, slots := 0, locals := 13 } : Room)) (fun a U => a = #[(.ref o), (.int (1 : Int32))] ∧ Z.Warmed39 U.vm ∧ U.heap = h0) (fun _ _ _ _ _ => True) (fun _ U oc U' => ∃ v L, oc = .returned v ∧ QLE1 Z o cs kc ch ar5 kz5 s0 s1 s2 h0 n0 v U'.heap L ∧ FrameEnd U oc U' L ({ frames := 1, cells := 0, slots := 0, locals := 13 } : Room).cells ({ frames := 1, cells := 0, slots := 0, locals := 13 } : Room).slots) := by
  refine MetFree.of_bodySF (plainFor_of_name own_pn0) hisR ?_
  intro p e s m args below meth c s₁ Bd hml0 hP hK
  obtain ⟨rfl, hZ, hh⟩ := hP
  have hx := Bd.exec
  have hby := Bd.bytes
  have hml : c.maxLocals = 2 := hml0
  have hown : s.vm.findClass oz0 = some m.cls := findClass_of_methodNamed Bd.named
  have hnm := (name_of_methodNamed Bd.named Bd.method).1
  have X0 : Stand p l e ({ frames := 1, cells := 0, slots := 0, locals := 13 } : Room) s m #[(.ref o), (.int (1 : Int32))] below meth c s₁ [] 0 0 := Stand.of_body Bd
  have e0 : s₁.heap = h0 := by rw [← hh, Bd.state]; rfl
  have N0 := Fr.nil n0
  have pre0 : ∀ t, Steps p.tables e below (s₁.setTop (mkF m 0 #[rv o, iv (1 : Int32)] [])) t → Steps p.tables e below (s₁.setTop (entryFrame m #[(.ref o), (.int (1 : Int32))] 2)) t := fun t k => castTop (efLE1 m o) k
  obtain ⟨cq1, q1, q1'⟩ := E_o.cell
  obtain ⟨_, _, ⟨T1, Lw1, kw1, nw1⟩, -, X1, ⟨Lc1, hQ1, l1, y1, z1⟩, st1⟩ := X0.privateBack hx (y := (⟨oz0, "chunk", oz4⟩ : MethodName)) hown (mvT hZ (own_w hw 89 rfl)) (mvT hZ (own_w hw 90 rfl)) (own_selp hZ (own_w hw 1 rfl) (own_w hw 91 rfl) (own_w hw 90 rfl) (by decide)) (Cond.privateMethod_at (mvP hZ (own_w hw 91 rfl) (args := #[]))) (mvT hZ (own_w hw 92 rfl)) (by decide) (backOf (W := 0) (rmCH1 l Z a0 hw [] o cs kc ch h0 n0 Z0 E_o F_chunks_o F_firstChunk_o V_cs) hZ (own_w hw 92 rfl) (own_w hw 2 rfl) (by decide) (by decide)) (g := (mkF m 2 #[rv o, iv (1 : Int32)] [(.int (1 : Int32)), (.ref o)])) rfl (by rw [hml]; rfl) (Steps.refl _) (a := o) (by rw [e0]; exact q1) q1' (argsL := [(.int (1 : Int32))]) (rest := []) (lenOf own_pd2 rfl) rfl (by show 2 * 0 + _ ≤ _; exact Nat.le_of_eq rfl) (hb hby d12_2) (fun _ _ => ⟨rfl, e0, (by decide : 0 + 0 ≤ _), (by decide : 0 + 0 ≤ _)⟩)
  dsimp only [Pt.U, Pt.locs, Pt.cells, Pt.slots] at X1 l1 y1 z1 st1 hQ1
  subst l1 y1 z1
  obtain ⟨rfl, Nq1, eh1⟩ := hQ1
  have N1 := Fr.app N0 Nq1
  obtain ⟨cl3, Ar3, qk3, Sz3, Ng3, Hs3, Gt3⟩ := id V_ar5
  have hin3 : ¬ ((1 : Int32) < 0 ∨ cl3.slots.size ≤ ((1 : Int32)).toNatClampNeg) := inb_of Sz3 ⟨by decide, by decide⟩
  have hat3 : cl3.slots[((1 : Int32)).toNatClampNeg]? = some (.int s1) := Hs3.at hin3 rfl
  have pre4 : ∀ tz, oS p e below T1 m 15 #[rv o, iv (1 : Int32)] [(.int (2 : Int32)), (.int s1)] tz → oS p e below s₁ m 0 #[rv o, iv (1 : Int32)] [] tz := fun tz kt => by
    show oS p e below s₁ m 0 #[rv o, iv (1 : Int32)] [] _
    refine XS.aloadN X0.here hx rfl (hb hby d12_0) rfl rfl ?_
    refine XS.iloadN X0.here hx rfl (hb hby d12_1) rfl ?_
    show oS p e below s₁ m 2 #[rv o, iv (1 : Int32)] [(.int (1 : Int32)), (.ref o)] _
    refine st1.trans ?_
    refine own_getR X1 hx hZ hown (own_w hw 67 rfl) eh1 F_states_ch (g := (mkF m 5 #[rv o, iv (1 : Int32)] [(.ref ch)])) rfl rfl (hb hby d12_5) _ ?_
    refine XS.iloadN X1.here hx rfl (hb hby d12_8) rfl ?_
    refine XS.sipush X1.here hx rfl (hb hby d12_9) ?_
    show oS p e below T1 m 12 #[rv o, iv (1 : Int32)] [(.int (1023 : Int32)), (.int (1 : Int32)), (.ref ar5)] _
    refine XS.iand X1.here hx rfl (hb hby d12_12) rfl ?_
    show oS p e below T1 m 13 #[rv o, iv (1 : Int32)] [(.int (1 : Int32)), (.ref ar5)] _
    refine X1.baloadBytes hx (j := (1 : Int32)) (v := (.int s1)) (by rw [eh1]; exact Ar3.1) (State.isArrayOf_alike hZ.alike Ar3.2.1) Ar3.2.2 hin3 hat3 (g := (mkF m 13 #[rv o, iv (1 : Int32)] [(.int (1 : Int32)), (.ref ar5)])) rfl rfl (hb hby d12_13) _ ?_
    refine XS.iconst X1.here hx rfl (hb hby d12_14) ?_
    exact kt
  by_cases hc15 : s1 = (2 : Int32)
  · have pre5 : ∀ tz, oS p e below T1 m 23 #[rv o, iv (1 : Int32)] [(.int (1 : Int32))] tz → oS p e below T1 m 15 #[rv o, iv (1 : Int32)] [(.int (2 : Int32)), (.int s1)] tz := fun tz kt => by
      show oS p e below T1 m 15 #[rv o, iv (1 : Int32)] [(.int (2 : Int32)), (.int s1)] _
      refine XS.icmpNo X1.here hx rfl (hb hby d12_15) rfl (teq hc15).2 ?_
      refine XS.iconst X1.here hx rfl (hb hby d12_18) ?_
      refine XS.goto X1.here hx rfl (pc0 := 19) (pc' := 23) rfl (hb hby d12_19) (by decide) (by decide) ?_
      exact kt
    obtain ⟨fs, hr, hrun, hended, hW, hsame⟩ := X1.leave (v := some (.int (1 : Int32))) (fun h => by rw [Bd.returns] at h; cases h)
    refine ⟨_, _, pre0 _ (pre4 _ (pre5 _ ?_)), hrun, hended, _, _, rfl, ?_, ⟨_, rfl⟩, hW, hsame.mono (by decide) (by decide)⟩
    · show oS p e below T1 m 23 #[rv o, iv (1 : Int32)] [(.int (1 : Int32))] _
      exact retN X1 hx (t := .boolean) Bd.returns (by simp) (hb hby d12_23) hr
    · show QLE1 Z o cs kc ch ar5 kz5 s0 s1 s2 h0 n0 _ T1.heap _
      rw [eh1]
      exact ⟨(by first | rfl | simp only [if_pos hc15]), N1, rfl⟩
  · have pre6 : ∀ tz, oS p e below T1 m 23 #[rv o, iv (1 : Int32)] [(.int (0 : Int32))] tz → oS p e below T1 m 15 #[rv o, iv (1 : Int32)] [(.int (2 : Int32)), (.int s1)] tz := fun tz kt => by
      show oS p e below T1 m 15 #[rv o, iv (1 : Int32)] [(.int (2 : Int32)), (.int s1)] _
      refine XS.icmpYes X1.here hx rfl (pc0 := 15) (pc' := 22) rfl (hb hby d12_15) rfl (feq hc15).2 (by decide) (by decide) ?_
      refine XS.iconst X1.here hx rfl (hb hby d12_22) ?_
      exact kt
    obtain ⟨fs, hr, hrun, hended, hW, hsame⟩ := X1.leave (v := some (.int (0 : Int32))) (fun h => by rw [Bd.returns] at h; cases h)
    refine ⟨_, _, pre0 _ (pre4 _ (pre6 _ ?_)), hrun, hended, _, _, rfl, ?_, ⟨_, rfl⟩, hW, hsame.mono (by decide) (by decide)⟩
    · show oS p e below T1 m 23 #[rv o, iv (1 : Int32)] [(.int (0 : Int32))] _
      exact retN X1 hx (t := .boolean) Bd.returns (by simp) (hb hby d12_23) hr
    · show QLE1 Z o cs kc ch ar5 kz5 s0 s1 s2 h0 n0 _ T1.heap _
      rw [eh1]
      exact ⟨(by first | rfl | simp only [if_neg hc15]), N1, rfl⟩
theorem efMA1 (m : MethodId) (o : Addr) : entryFrame m #[(.ref o), (.int (1 : Int32))] 2 = mkF m 0 #[rv o, iv (1 : Int32)] [] := by first | (simp [entryFrame, mkF, argsToLocals, Value.category]; done) | rfl
def QMA1 (Z : State) (o : Addr) (cs : Addr) (kc : ClassId) (ch : Addr) (ar5 : Addr) (kz5 : ClassId) (s0 : Int32) (s1 : Int32) (s2 : Int32) (u : Int32) (h0 : Heap) (n0 : Nat) (v : Option Value) (h : Heap) (L : List Loc) : Prop := v = none ∧ Fr n0 L ∧ Keep h0 h [ar5, o] ∧ Arv Z h ar5 kz5 .byte (1024 : Int32) [(.int s0), (.int (1 : Int32)), (.int s2)] (.int (0 : Int32)) ∧ Fld Z h o oz0 "chunks" oz2 (.ref cs) ∧ Fld Z h o oz0 "firstChunk" "I" (.int (0 : Int32))
set_option maxRecDepth 65536 in
set_option maxHeartbeats 40000000 in
theorem rmMA1 (l : Launch) (Z : State) (a0 : Array Value) (hw : ∀ d ∈ tables_1, d.before a0 Z = true) (ws : List Jvm.Cond) (o : Addr) (cs : Addr) (kc : ClassId) (ch : Addr) (ar5 : Addr) (kz5 : ClassId) (s0 : Int32) (s1 : Int32) (s2 : Int32) (u : Int32) (h0 : Heap) (n0 : Nat) (Z0 : n0 ≤ h0.size) (E_o : Exa Z h0 o oz0) (F_chunks_o : Fld Z h0 o oz0 "chunks" oz2 (.ref cs)) (F_firstChunk_o : Fld Z h0 o oz0 "firstChunk" "I" (.int (0 : Int32))) (V_cs : Arv Z h0 cs kc (.object oz1) (1 : Int32) [(.ref ch)] .null) (E_ch : Exa Z h0 ch oz1) (F_states_ch : Fld Z h0 ch oz1 "states" "[B" (.ref ar5)) (V_ar5 : Arv Z h0 ar5 kz5 .byte (1024 : Int32) [(.int s0), (.int s1), (.int s2)] (.int (0 : Int32))) (g_ar5 : n0 ≤ ar5) (g_o : n0 ≤ o) (F_availableFrom_o : Fld Z h0 o oz0 "availableFrom" "I" (.int u)) :
    MetFree l (⟨oz0, "markAvailable", "(I)V"⟩ : MethodName) (head1 (Jvm.Cond.code (⟨oz0, "markAvailable", "(I)V"⟩ : MethodName) prog_24_method_20_code 2 none :: ws) ({ frames := 1, cells := 0, slots := 0, locals := 14 } : Room)) (fun a U => a = #[(.ref o), (.int (1 : Int32))] ∧ Z.Warmed39 U.vm ∧ U.heap = h0) (fun _ _ _ _ _ => True) (fun _ U oc U' => ∃ v L, oc = .returned v ∧ QMA1 Z o cs kc ch ar5 kz5 s0 s1 s2 u h0 n0 v U'.heap L ∧ FrameEnd U oc U' L ({ frames := 1, cells := 0, slots := 0, locals := 14 } : Room).cells ({ frames := 1, cells := 0, slots := 0, locals := 14 } : Room).slots) := by
  refine MetFree.of_bodySF (plainFor_of_name own_pn0) hisR ?_
  intro p e s m args below meth c s₁ Bd hml0 hP hK
  obtain ⟨rfl, hZ, hh⟩ := hP
  have hx := Bd.exec
  have hby := Bd.bytes
  have hml : c.maxLocals = 2 := hml0
  have hown : s.vm.findClass oz0 = some m.cls := findClass_of_methodNamed Bd.named
  have hnm := (name_of_methodNamed Bd.named Bd.method).1
  have X0 : Stand p l e ({ frames := 1, cells := 0, slots := 0, locals := 14 } : Room) s m #[(.ref o), (.int (1 : Int32))] below meth c s₁ [] 0 0 := Stand.of_body Bd
  have e0 : s₁.heap = h0 := by rw [← hh, Bd.state]; rfl
  have N0 := Fr.nil n0
  have pre0 : ∀ t, Steps p.tables e below (s₁.setTop (mkF m 0 #[rv o, iv (1 : Int32)] [])) t → Steps p.tables e below (s₁.setTop (entryFrame m #[(.ref o), (.int (1 : Int32))] 2)) t := fun t k => castTop (efMA1 m o) k
  obtain ⟨cq1, q1, q1'⟩ := E_o.cell
  obtain ⟨_, _, ⟨T1, Lw1, kw1, nw1⟩, -, X1, ⟨Lc1, hQ1, l1, y1, z1⟩, st1⟩ := X0.privateBack hx (y := (⟨oz0, "chunk", oz4⟩ : MethodName)) hown (mvT hZ (own_w hw 89 rfl)) (mvT hZ (own_w hw 90 rfl)) (own_selp hZ (own_w hw 1 rfl) (own_w hw 91 rfl) (own_w hw 90 rfl) (by decide)) (Cond.privateMethod_at (mvP hZ (own_w hw 91 rfl) (args := #[]))) (mvT hZ (own_w hw 92 rfl)) (by decide) (backOf (W := 0) (rmCH1 l Z a0 hw [] o cs kc ch h0 n0 Z0 E_o F_chunks_o F_firstChunk_o V_cs) hZ (own_w hw 92 rfl) (own_w hw 2 rfl) (by decide) (by decide)) (g := (mkF m 2 #[rv o, iv (1 : Int32)] [(.int (1 : Int32)), (.ref o)])) rfl (by rw [hml]; rfl) (Steps.refl _) (a := o) (by rw [e0]; exact q1) q1' (argsL := [(.int (1 : Int32))]) (rest := []) (lenOf own_pd2 rfl) rfl (by show 2 * 0 + _ ≤ _; exact Nat.le_of_eq rfl) (hb hby d13_2) (fun _ _ => ⟨rfl, e0, (by decide : 0 + 0 ≤ _), (by decide : 0 + 0 ≤ _)⟩)
  dsimp only [Pt.U, Pt.locs, Pt.cells, Pt.slots] at X1 l1 y1 z1 st1 hQ1
  subst l1 y1 z1
  obtain ⟨rfl, Nq1, eh1⟩ := hQ1
  have N1 := Fr.app N0 Nq1
  obtain ⟨cl3, Ar3, qk3, Sz3, Ng3, Hs3, Gt3⟩ := id V_ar5
  have hin3 : ¬ ((1 : Int32) < 0 ∨ cl3.slots.size ≤ ((1 : Int32)).toNatClampNeg) := inb_of Sz3 ⟨by decide, by decide⟩
  obtain ⟨T4, h4, X4, e4, W4, st4⟩ := stB X1 hx hZ eh1 Ar3 (j := (1 : Int32)) hin3 (g := (mkF m 14 #[rv o, iv (1 : Int32)] [(.int (1 : Int32)), (.int (1 : Int32)), (.ref ar5)])) rfl rfl (hb hby d13_14)
  have Va4 : Arv Z h4 ar5 kz5 .byte (1024 : Int32) [(.int s0), (.int (1 : Int32)), (.int s2)] (.int (0 : Int32)) := Arv.set Ar3 qk3 Sz3 Ng3 Hs3 Gt3 (fits_nar_byte _) W4 1 rfl (Nat.le_of_ble_eq_true rfl)
  have N4 := Fr.snoc X4 N1 g_ar5
  obtain ⟨_, Arn5, -⟩ := id Va4
  have ne5 : o ≠ ar5 := ne_arr (E_o.wr W4) (own_w hw 1 rfl) Arn5
  have Fc6 : Fld Z h4 o oz0 "availableFrom" "I" (.int u) := (F_availableFrom_o.other W4 (Or.inl ne5))
  obtain ⟨T7, X7, e7, st7⟩ := getF X4 hx hZ hown (host := "") (Or.inl (own_w hw 104 rfl)) Via.refl e4 Fc6 (g := (mkF m 17 #[rv o, iv (1 : Int32)] [(.ref o), (.ref o)])) rfl rfl (hb hby d13_17)
  have Zc9 : n0 ≤ h4.size := (Nat.le_trans Z0 (Keep.of_wr W4).1)
  obtain ⟨_, _, ⟨T8, Lw8, kw8, nw8⟩, -, X8, ⟨Lc8, hQ8, l8, y8, z8⟩, st8⟩ := Jvm.LawKit.callS X7 hx (y := (⟨"java/lang/Math", "min", "(II)I"⟩ : MethodName)) hown (mvT hZ (own_w hw 106 rfl)) (mvT hZ (own_w hw 107 rfl)) (mvT hZ (own_w hw 108 rfl)) (mvT hZ (own_w hw 109 rfl)) (by decide) (backOf (W := 1) (rm14 l Z a0 hw [] u (1 : Int32) h4 n0 Zc9 ) hZ (own_w hw 109 rfl) (own_w hw 108 rfl) (by decide) (by decide)) (g := (mkF m 21 #[rv o, iv (1 : Int32)] [(.int (1 : Int32)), (.int u), (.ref o)])) rfl (by rw [hml]; rfl) (argsL := [(.int u), (.int (1 : Int32))]) (rest := [(.ref o)]) (lenOf own_pd6 rfl) rfl (by show 2 * 0 + _ ≤ _; exact Nat.le_of_eq rfl) (hb hby d13_21) (fun _ _ => ⟨rfl, e7, (by decide : 0 + 0 ≤ _), (by decide : 0 + 0 ≤ _)⟩)
  dsimp only [Pt.U, Pt.locs, Pt.cells, Pt.slots] at X8 l8 y8 z8 st8 hQ8
  subst l8 y8 z8
  obtain ⟨rfl, Nq8, eh8⟩ := hQ8
  have N8 := Fr.app N4 Nq8
  have Ec10 : Exa Z h4 o oz0 := (E_o.wr W4)
  obtain ⟨T11, h11, X11, e11, W11, st11⟩ := putF X8 hx hZ hown (host := "") (Or.inl (own_w hw 104 rfl)) Via.refl eh8 Fc6 Ec10 (Or.inl (own_w hw 105 rfl)) (own_w hw 1 rfl) (ty := .int) (by decide) rfl rfl (g := (mkF m 24 #[rv o, iv (1 : Int32)] [(.int (if (1 : Int32) < u then (1 : Int32) else u)), (.ref o)])) rfl rfl (hb hby d13_24)
  have Fw11 : Fld Z h11 o oz0 "availableFrom" "I" (.int (if (1 : Int32) < u then (1 : Int32) else u)) := Fc6.same W11
  have N11 := Fr.snoc X11 N8 g_o
  have pre12 : ∀ tz, oS p e below T11 m 27 #[rv o, iv (1 : Int32)] [] tz → oS p e below s₁ m 0 #[rv o, iv (1 : Int32)] [] tz := fun tz kt => by
    show oS p e below s₁ m 0 #[rv o, iv (1 : Int32)] [] _
    refine XS.aloadN X0.here hx rfl (hb hby d13_0) rfl rfl ?_
    refine XS.iloadN X0.here hx rfl (hb hby d13_1) rfl ?_
    show oS p e below s₁ m 2 #[rv o, iv (1 : Int32)] [(.int (1 : Int32)), (.ref o)] _
    refine st1.trans ?_
    refine own_getR X1 hx hZ hown (own_w hw 67 rfl) eh1 F_states_ch (g := (mkF m 5 #[rv o, iv (1 : Int32)] [(.ref ch)])) rfl rfl (hb hby d13_5) _ ?_
    refine XS.iloadN X1.here hx rfl (hb hby d13_8) rfl ?_
    refine XS.sipush X1.here hx rfl (hb hby d13_9) ?_
    show oS p e below T1 m 12 #[rv o, iv (1 : Int32)] [(.int (1023 : Int32)), (.int (1 : Int32)), (.ref ar5)] _
    refine XS.iand X1.here hx rfl (hb hby d13_12) rfl ?_
    show oS p e below T1 m 13 #[rv o, iv (1 : Int32)] [(.int (1 : Int32)), (.ref ar5)] _
    refine XS.iconst X1.here hx rfl (hb hby d13_13) ?_
    show oS p e below T1 m 14 #[rv o, iv (1 : Int32)] [(.int (1 : Int32)), (.int (1 : Int32)), (.ref ar5)] _
    refine st4 _ ?_
    refine XS.aloadN X4.here hx rfl (hb hby d13_15) rfl rfl ?_
    refine XS.aloadN X4.here hx rfl (hb hby d13_16) rfl rfl ?_
    show oS p e below T4 m 17 #[rv o, iv (1 : Int32)] [(.ref o), (.ref o)] _
    refine st7 _ ?_
    refine XS.iloadN X7.here hx rfl (hb hby d13_20) rfl ?_
    show oS p e below T7 m 21 #[rv o, iv (1 : Int32)] [(.int (1 : Int32)), (.int u), (.ref o)] _
    refine st8 _ ?_
    show oS p e below T8 m 24 #[rv o, iv (1 : Int32)] [(.int (if (1 : Int32) < u then (1 : Int32) else u)), (.ref o)] _
    refine st11 _ ?_
    exact kt
  have KP13 : Keep h0 h11 [ar5, o] := (((Keep.refl h0 [ar5, o]).wr W4 (Or.inl (List.mem_of_getElem? (i := 0) rfl))).wr W11 (Or.inl (List.mem_of_getElem? (i := 1) rfl)))
  have Vc14 : Arv Z h11 ar5 kz5 .byte (1024 : Int32) [(.int s0), (.int (1 : Int32)), (.int s2)] (.int (0 : Int32)) := (Va4.other W11 (Ne.symm ne5))
  have Fc15 : Fld Z h11 o oz0 "chunks" oz2 (.ref cs) := ((F_chunks_o.other W4 (Or.inl ne5)).other W11 (Or.inr (slot_ne (Or.inl (own_w hw 12 rfl)) (Or.inl (own_w hw 105 rfl)) (by decide) (t := (.array (.object oz1))) (t' := .int) (by decide) (by decide))))
  have Fc16 : Fld Z h11 o oz0 "firstChunk" "I" (.int (0 : Int32)) := ((F_firstChunk_o.other W4 (Or.inl ne5)).other W11 (Or.inr (slot_ne (Or.inl (own_w hw 31 rfl)) (Or.inl (own_w hw 105 rfl)) (by decide) (t := .int) (t' := .int) (by decide) (by decide))))
  obtain ⟨fs, hr, hrun, hended, hW, hsame⟩ := X11.leave (v := none) (fun _ => rfl)
  refine ⟨_, _, pre0 _ (pre12 _ ?_), hrun, hended, _, _, rfl, ?_, ⟨_, rfl⟩, hW, hsame.mono (by decide) (by decide)⟩
  · show oS p e below T11 m 27 #[rv o, iv (1 : Int32)] [] _
    exact X11.returnOut hx Bd.returns (hb hby d13_27) hr
  · show QMA1 Z o cs kc ch ar5 kz5 s0 s1 s2 u h0 n0 _ T11.heap _
    rw [e11]
    exact ⟨rfl, N11, KP13, Vc14, Fc15, Fc16⟩
theorem efML2 (m : MethodId) (o : Addr) : entryFrame m #[(.ref o), (.int (2 : Int32))] 2 = mkF m 0 #[rv o, iv (2 : Int32)] [] := by first | (simp [entryFrame, mkF, argsToLocals, Value.category]; done) | rfl
def QML2 (Z : State) (o : Addr) (cs : Addr) (kc : ClassId) (ch : Addr) (ar5 : Addr) (kz5 : ClassId) (s0 : Int32) (s1 : Int32) (s2 : Int32) (h0 : Heap) (n0 : Nat) (v : Option Value) (h : Heap) (L : List Loc) : Prop := v = none ∧ Fr n0 L ∧ Keep h0 h [ar5] ∧ Arv Z h ar5 kz5 .byte (1024 : Int32) [(.int s0), (.int s1), (.int (2 : Int32))] (.int (0 : Int32))
set_option maxRecDepth 65536 in
set_option maxHeartbeats 40000000 in
theorem rmML2 (l : Launch) (Z : State) (a0 : Array Value) (hw : ∀ d ∈ tables_1, d.before a0 Z = true) (ws : List Jvm.Cond) (o : Addr) (cs : Addr) (kc : ClassId) (ch : Addr) (ar5 : Addr) (kz5 : ClassId) (s0 : Int32) (s1 : Int32) (s2 : Int32) (h0 : Heap) (n0 : Nat) (Z0 : n0 ≤ h0.size) (E_o : Exa Z h0 o oz0) (F_chunks_o : Fld Z h0 o oz0 "chunks" oz2 (.ref cs)) (F_firstChunk_o : Fld Z h0 o oz0 "firstChunk" "I" (.int (0 : Int32))) (V_cs : Arv Z h0 cs kc (.object oz1) (1 : Int32) [(.ref ch)] .null) (E_ch : Exa Z h0 ch oz1) (F_states_ch : Fld Z h0 ch oz1 "states" "[B" (.ref ar5)) (V_ar5 : Arv Z h0 ar5 kz5 .byte (1024 : Int32) [(.int s0), (.int s1), (.int s2)] (.int (0 : Int32))) (g_ar5 : n0 ≤ ar5) :
    MetFree l (⟨oz0, "markLeased", "(I)V"⟩ : MethodName) (head1 (Jvm.Cond.code (⟨oz0, "markLeased", "(I)V"⟩ : MethodName) prog_24_method_19_code 2 none :: ws) ({ frames := 1, cells := 0, slots := 0, locals := 13 } : Room)) (fun a U => a = #[(.ref o), (.int (2 : Int32))] ∧ Z.Warmed39 U.vm ∧ U.heap = h0) (fun _ _ _ _ _ => True) (fun _ U oc U' => ∃ v L, oc = .returned v ∧ QML2 Z o cs kc ch ar5 kz5 s0 s1 s2 h0 n0 v U'.heap L ∧ FrameEnd U oc U' L ({ frames := 1, cells := 0, slots := 0, locals := 13 } : Room).cells ({ frames := 1, cells := 0, slots := 0, locals := 13 } : Room).slots) := by
  refine MetFree.of_bodySF (plainFor_of_name own_pn0) hisR ?_
  intro p e s m args below meth c s₁ Bd hml0 hP hK
  obtain ⟨rfl, hZ, hh⟩ := hP
  have hx := Bd.exec
  have hby := Bd.bytes
  have hml : c.maxLocals = 2 := hml0
  have hown : s.vm.findClass oz0 = some m.cls := findClass_of_methodNamed Bd.named
  have hnm := (name_of_methodNamed Bd.named Bd.method).1
  have X0 : Stand p l e ({ frames := 1, cells := 0, slots := 0, locals := 13 } : Room) s m #[(.ref o), (.int (2 : Int32))] below meth c s₁ [] 0 0 := Stand.of_body Bd
  have e0 : s₁.heap = h0 := by rw [← hh, Bd.state]; rfl
  have N0 := Fr.nil n0
  have pre0 : ∀ t, Steps p.tables e below (s₁.setTop (mkF m 0 #[rv o, iv (2 : Int32)] [])) t → Steps p.tables e below (s₁.setTop (entryFrame m #[(.ref o), (.int (2 : Int32))] 2)) t := fun t k => castTop (efML2 m o) k
  obtain ⟨cq1, q1, q1'⟩ := E_o.cell
  obtain ⟨_, _, ⟨T1, Lw1, kw1, nw1⟩, -, X1, ⟨Lc1, hQ1, l1, y1, z1⟩, st1⟩ := X0.privateBack hx (y := (⟨oz0, "chunk", oz4⟩ : MethodName)) hown (mvT hZ (own_w hw 89 rfl)) (mvT hZ (own_w hw 90 rfl)) (own_selp hZ (own_w hw 1 rfl) (own_w hw 91 rfl) (own_w hw 90 rfl) (by decide)) (Cond.privateMethod_at (mvP hZ (own_w hw 91 rfl) (args := #[]))) (mvT hZ (own_w hw 92 rfl)) (by decide) (backOf (W := 0) (rmCH2 l Z a0 hw [] o cs kc ch h0 n0 Z0 E_o F_chunks_o F_firstChunk_o V_cs) hZ (own_w hw 92 rfl) (own_w hw 2 rfl) (by decide) (by decide)) (g := (mkF m 2 #[rv o, iv (2 : Int32)] [(.int (2 : Int32)), (.ref o)])) rfl (by rw [hml]; rfl) (Steps.refl _) (a := o) (by rw [e0]; exact q1) q1' (argsL := [(.int (2 : Int32))]) (rest := []) (lenOf own_pd2 rfl) rfl (by show 2 * 0 + _ ≤ _; exact Nat.le_of_eq rfl) (hb hby d10_2) (fun _ _ => ⟨rfl, e0, (by decide : 0 + 0 ≤ _), (by decide : 0 + 0 ≤ _)⟩)
  dsimp only [Pt.U, Pt.locs, Pt.cells, Pt.slots] at X1 l1 y1 z1 st1 hQ1
  subst l1 y1 z1
  obtain ⟨rfl, Nq1, eh1⟩ := hQ1
  have N1 := Fr.app N0 Nq1
  obtain ⟨cl3, Ar3, qk3, Sz3, Ng3, Hs3, Gt3⟩ := id V_ar5
  have hin3 : ¬ ((2 : Int32) < 0 ∨ cl3.slots.size ≤ ((2 : Int32)).toNatClampNeg) := inb_of Sz3 ⟨by decide, by decide⟩
  obtain ⟨T4, h4, X4, e4, W4, st4⟩ := stB X1 hx hZ eh1 Ar3 (j := (2 : Int32)) hin3 (g := (mkF m 14 #[rv o, iv (2 : Int32)] [(.int (2 : Int32)), (.int (2 : Int32)), (.ref ar5)])) rfl rfl (hb hby d10_14)
  have Va4 : Arv Z h4 ar5 kz5 .byte (1024 : Int32) [(.int s0), (.int s1), (.int (2 : Int32))] (.int (0 : Int32)) := Arv.set Ar3 qk3 Sz3 Ng3 Hs3 Gt3 (fits_nar_byte _) W4 2 rfl (Nat.le_of_ble_eq_true rfl)
  have N4 := Fr.snoc X4 N1 g_ar5
  have pre5 : ∀ tz, oS p e below T4 m 15 #[rv o, iv (2 : Int32)] [] tz → oS p e below s₁ m 0 #[rv o, iv (2 : Int32)] [] tz := fun tz kt => by
    show oS p e below s₁ m 0 #[rv o, iv (2 : Int32)] [] _
    refine XS.aloadN X0.here hx rfl (hb hby d10_0) rfl rfl ?_
    refine XS.iloadN X0.here hx rfl (hb hby d10_1) rfl ?_
    show oS p e below s₁ m 2 #[rv o, iv (2 : Int32)] [(.int (2 : Int32)), (.ref o)] _
    refine st1.trans ?_
    refine own_getR X1 hx hZ hown (own_w hw 67 rfl) eh1 F_states_ch (g := (mkF m 5 #[rv o, iv (2 : Int32)] [(.ref ch)])) rfl rfl (hb hby d10_5) _ ?_
    refine XS.iloadN X1.here hx rfl (hb hby d10_8) rfl ?_
    refine XS.sipush X1.here hx rfl (hb hby d10_9) ?_
    show oS p e below T1 m 12 #[rv o, iv (2 : Int32)] [(.int (1023 : Int32)), (.int (2 : Int32)), (.ref ar5)] _
    refine XS.iand X1.here hx rfl (hb hby d10_12) rfl ?_
    show oS p e below T1 m 13 #[rv o, iv (2 : Int32)] [(.int (2 : Int32)), (.ref ar5)] _
    refine XS.iconst X1.here hx rfl (hb hby d10_13) ?_
    show oS p e below T1 m 14 #[rv o, iv (2 : Int32)] [(.int (2 : Int32)), (.int (2 : Int32)), (.ref ar5)] _
    refine st4 _ ?_
    exact kt
  have KP6 : Keep h0 h4 [ar5] := ((Keep.refl h0 [ar5]).wr W4 (Or.inl (List.mem_of_getElem? (i := 0) rfl)))
  obtain ⟨fs, hr, hrun, hended, hW, hsame⟩ := X4.leave (v := none) (fun _ => rfl)
  refine ⟨_, _, pre0 _ (pre5 _ ?_), hrun, hended, _, _, rfl, ?_, ⟨_, rfl⟩, hW, hsame.mono (by decide) (by decide)⟩
  · show oS p e below T4 m 15 #[rv o, iv (2 : Int32)] [] _
    exact X4.returnOut hx Bd.returns (hb hby d10_15) hr
  · show QML2 Z o cs kc ch ar5 kz5 s0 s1 s2 h0 n0 _ T4.heap _
    rw [e4]
    exact ⟨rfl, N4, KP6, Va4⟩
theorem efLE2 (m : MethodId) (o : Addr) : entryFrame m #[(.ref o), (.int (2 : Int32))] 2 = mkF m 0 #[rv o, iv (2 : Int32)] [] := by first | (simp [entryFrame, mkF, argsToLocals, Value.category]; done) | rfl
def QLE2 (Z : State) (o : Addr) (cs : Addr) (kc : ClassId) (ch : Addr) (ar5 : Addr) (kz5 : ClassId) (s0 : Int32) (s1 : Int32) (s2 : Int32) (h0 : Heap) (n0 : Nat) (v : Option Value) (h : Heap) (L : List Loc) : Prop := v = some (.int (if s2 = (2 : Int32) then (1 : Int32) else (0 : Int32))) ∧ Fr n0 L ∧ h = h0
set_option maxRecDepth 65536 in
set_option maxHeartbeats 40000000 in
theorem rmLE2 (l : Launch) (Z : State) (a0 : Array Value) (hw : ∀ d ∈ tables_1, d.before a0 Z = true) (ws : List Jvm.Cond) (o : Addr) (cs : Addr) (kc : ClassId) (ch : Addr) (ar5 : Addr) (kz5 : ClassId) (s0 : Int32) (s1 : Int32) (s2 : Int32) (h0 : Heap) (n0 : Nat) (Z0 : n0 ≤ h0.size) (E_o : Exa Z h0 o oz0) (F_chunks_o : Fld Z h0 o oz0 "chunks" oz2 (.ref cs)) (F_firstChunk_o : Fld Z h0 o oz0 "firstChunk" "I" (.int (0 : Int32))) (V_cs : Arv Z h0 cs kc (.object oz1) (1 : Int32) [(.ref ch)] .null) (E_ch : Exa Z h0 ch oz1) (F_states_ch : Fld Z h0 ch oz1 "states" "[B" (.ref ar5)) (V_ar5 : Arv Z h0 ar5 kz5 .byte (1024 : Int32) [(.int s0), (.int s1), (.int s2)] (.int (0 : Int32))) :
    MetFree l (⟨oz0, "leased", "(I)Z"⟩ : MethodName) (head1 (Jvm.Cond.code (⟨oz0, "leased", "(I)Z"⟩ : MethodName) prog_24_method_18_code 2 (some .boolean) :: ws) ({ frames := 1, cells := 0, slots := 0, locals := 13 } : Room)) (fun a U => a = #[(.ref o), (.int (2 : Int32))] ∧ Z.Warmed39 U.vm ∧ U.heap = h0) (fun _ _ _ _ _ => True) (fun _ U oc U' => ∃ v L, oc = .returned v ∧ QLE2 Z o cs kc ch ar5 kz5 s0 s1 s2 h0 n0 v U'.heap L ∧ FrameEnd U oc U' L ({ frames := 1, cells := 0, slots := 0, locals := 13 } : Room).cells ({ frames := 1, cells := 0, slots := 0, locals := 13 } : Room).slots) := by
  refine MetFree.of_bodySF (plainFor_of_name own_pn0) hisR ?_
  intro p e s m args below meth c s₁ Bd hml0 hP hK
  obtain ⟨rfl, hZ, hh⟩ := hP
  have hx := Bd.exec
  have hby := Bd.bytes
  have hml : c.maxLocals = 2 := hml0
  have hown : s.vm.findClass oz0 = some m.cls := findClass_of_methodNamed Bd.named
  have hnm := (name_of_methodNamed Bd.named Bd.method).1
  have X0 : Stand p l e ({ frames := 1, cells := 0, slots := 0, locals := 13 } : Room) s m #[(.ref o), (.int (2 : Int32))] below meth c s₁ [] 0 0 := Stand.of_body Bd
  have e0 : s₁.heap = h0 := by rw [← hh, Bd.state]; rfl
  have N0 := Fr.nil n0
  have pre0 : ∀ t, Steps p.tables e below (s₁.setTop (mkF m 0 #[rv o, iv (2 : Int32)] [])) t → Steps p.tables e below (s₁.setTop (entryFrame m #[(.ref o), (.int (2 : Int32))] 2)) t := fun t k => castTop (efLE2 m o) k
  obtain ⟨cq1, q1, q1'⟩ := E_o.cell
  obtain ⟨_, _, ⟨T1, Lw1, kw1, nw1⟩, -, X1, ⟨Lc1, hQ1, l1, y1, z1⟩, st1⟩ := X0.privateBack hx (y := (⟨oz0, "chunk", oz4⟩ : MethodName)) hown (mvT hZ (own_w hw 89 rfl)) (mvT hZ (own_w hw 90 rfl)) (own_selp hZ (own_w hw 1 rfl) (own_w hw 91 rfl) (own_w hw 90 rfl) (by decide)) (Cond.privateMethod_at (mvP hZ (own_w hw 91 rfl) (args := #[]))) (mvT hZ (own_w hw 92 rfl)) (by decide) (backOf (W := 0) (rmCH2 l Z a0 hw [] o cs kc ch h0 n0 Z0 E_o F_chunks_o F_firstChunk_o V_cs) hZ (own_w hw 92 rfl) (own_w hw 2 rfl) (by decide) (by decide)) (g := (mkF m 2 #[rv o, iv (2 : Int32)] [(.int (2 : Int32)), (.ref o)])) rfl (by rw [hml]; rfl) (Steps.refl _) (a := o) (by rw [e0]; exact q1) q1' (argsL := [(.int (2 : Int32))]) (rest := []) (lenOf own_pd2 rfl) rfl (by show 2 * 0 + _ ≤ _; exact Nat.le_of_eq rfl) (hb hby d12_2) (fun _ _ => ⟨rfl, e0, (by decide : 0 + 0 ≤ _), (by decide : 0 + 0 ≤ _)⟩)
  dsimp only [Pt.U, Pt.locs, Pt.cells, Pt.slots] at X1 l1 y1 z1 st1 hQ1
  subst l1 y1 z1
  obtain ⟨rfl, Nq1, eh1⟩ := hQ1
  have N1 := Fr.app N0 Nq1
  obtain ⟨cl3, Ar3, qk3, Sz3, Ng3, Hs3, Gt3⟩ := id V_ar5
  have hin3 : ¬ ((2 : Int32) < 0 ∨ cl3.slots.size ≤ ((2 : Int32)).toNatClampNeg) := inb_of Sz3 ⟨by decide, by decide⟩
  have hat3 : cl3.slots[((2 : Int32)).toNatClampNeg]? = some (.int s2) := Hs3.at hin3 rfl
  have pre4 : ∀ tz, oS p e below T1 m 15 #[rv o, iv (2 : Int32)] [(.int (2 : Int32)), (.int s2)] tz → oS p e below s₁ m 0 #[rv o, iv (2 : Int32)] [] tz := fun tz kt => by
    show oS p e below s₁ m 0 #[rv o, iv (2 : Int32)] [] _
    refine XS.aloadN X0.here hx rfl (hb hby d12_0) rfl rfl ?_
    refine XS.iloadN X0.here hx rfl (hb hby d12_1) rfl ?_
    show oS p e below s₁ m 2 #[rv o, iv (2 : Int32)] [(.int (2 : Int32)), (.ref o)] _
    refine st1.trans ?_
    refine own_getR X1 hx hZ hown (own_w hw 67 rfl) eh1 F_states_ch (g := (mkF m 5 #[rv o, iv (2 : Int32)] [(.ref ch)])) rfl rfl (hb hby d12_5) _ ?_
    refine XS.iloadN X1.here hx rfl (hb hby d12_8) rfl ?_
    refine XS.sipush X1.here hx rfl (hb hby d12_9) ?_
    show oS p e below T1 m 12 #[rv o, iv (2 : Int32)] [(.int (1023 : Int32)), (.int (2 : Int32)), (.ref ar5)] _
    refine XS.iand X1.here hx rfl (hb hby d12_12) rfl ?_
    show oS p e below T1 m 13 #[rv o, iv (2 : Int32)] [(.int (2 : Int32)), (.ref ar5)] _
    refine X1.baloadBytes hx (j := (2 : Int32)) (v := (.int s2)) (by rw [eh1]; exact Ar3.1) (State.isArrayOf_alike hZ.alike Ar3.2.1) Ar3.2.2 hin3 hat3 (g := (mkF m 13 #[rv o, iv (2 : Int32)] [(.int (2 : Int32)), (.ref ar5)])) rfl rfl (hb hby d12_13) _ ?_
    refine XS.iconst X1.here hx rfl (hb hby d12_14) ?_
    exact kt
  by_cases hc15 : s2 = (2 : Int32)
  · have pre5 : ∀ tz, oS p e below T1 m 23 #[rv o, iv (2 : Int32)] [(.int (1 : Int32))] tz → oS p e below T1 m 15 #[rv o, iv (2 : Int32)] [(.int (2 : Int32)), (.int s2)] tz := fun tz kt => by
      show oS p e below T1 m 15 #[rv o, iv (2 : Int32)] [(.int (2 : Int32)), (.int s2)] _
      refine XS.icmpNo X1.here hx rfl (hb hby d12_15) rfl (teq hc15).2 ?_
      refine XS.iconst X1.here hx rfl (hb hby d12_18) ?_
      refine XS.goto X1.here hx rfl (pc0 := 19) (pc' := 23) rfl (hb hby d12_19) (by decide) (by decide) ?_
      exact kt
    obtain ⟨fs, hr, hrun, hended, hW, hsame⟩ := X1.leave (v := some (.int (1 : Int32))) (fun h => by rw [Bd.returns] at h; cases h)
    refine ⟨_, _, pre0 _ (pre4 _ (pre5 _ ?_)), hrun, hended, _, _, rfl, ?_, ⟨_, rfl⟩, hW, hsame.mono (by decide) (by decide)⟩
    · show oS p e below T1 m 23 #[rv o, iv (2 : Int32)] [(.int (1 : Int32))] _
      exact retN X1 hx (t := .boolean) Bd.returns (by simp) (hb hby d12_23) hr
    · show QLE2 Z o cs kc ch ar5 kz5 s0 s1 s2 h0 n0 _ T1.heap _
      rw [eh1]
      exact ⟨(by first | rfl | simp only [if_pos hc15]), N1, rfl⟩
  · have pre6 : ∀ tz, oS p e below T1 m 23 #[rv o, iv (2 : Int32)] [(.int (0 : Int32))] tz → oS p e below T1 m 15 #[rv o, iv (2 : Int32)] [(.int (2 : Int32)), (.int s2)] tz := fun tz kt => by
      show oS p e below T1 m 15 #[rv o, iv (2 : Int32)] [(.int (2 : Int32)), (.int s2)] _
      refine XS.icmpYes X1.here hx rfl (pc0 := 15) (pc' := 22) rfl (hb hby d12_15) rfl (feq hc15).2 (by decide) (by decide) ?_
      refine XS.iconst X1.here hx rfl (hb hby d12_22) ?_
      exact kt
    obtain ⟨fs, hr, hrun, hended, hW, hsame⟩ := X1.leave (v := some (.int (0 : Int32))) (fun h => by rw [Bd.returns] at h; cases h)
    refine ⟨_, _, pre0 _ (pre4 _ (pre6 _ ?_)), hrun, hended, _, _, rfl, ?_, ⟨_, rfl⟩, hW, hsame.mono (by decide) (by decide)⟩
    · show oS p e below T1 m 23 #[rv o, iv (2 : Int32)] [(.int (0 : Int32))] _
      exact retN X1 hx (t := .boolean) Bd.returns (by simp) (hb hby d12_23) hr
    · show QLE2 Z o cs kc ch ar5 kz5 s0 s1 s2 h0 n0 _ T1.heap _
      rw [eh1]
      exact ⟨(by first | rfl | simp only [if_neg hc15]), N1, rfl⟩
theorem efMA2 (m : MethodId) (o : Addr) : entryFrame m #[(.ref o), (.int (2 : Int32))] 2 = mkF m 0 #[rv o, iv (2 : Int32)] [] := by first | (simp [entryFrame, mkF, argsToLocals, Value.category]; done) | rfl
def QMA2 (Z : State) (o : Addr) (cs : Addr) (kc : ClassId) (ch : Addr) (ar5 : Addr) (kz5 : ClassId) (s0 : Int32) (s1 : Int32) (s2 : Int32) (u : Int32) (h0 : Heap) (n0 : Nat) (v : Option Value) (h : Heap) (L : List Loc) : Prop := v = none ∧ Fr n0 L ∧ Keep h0 h [ar5, o] ∧ Arv Z h ar5 kz5 .byte (1024 : Int32) [(.int s0), (.int s1), (.int (1 : Int32))] (.int (0 : Int32)) ∧ Fld Z h o oz0 "chunks" oz2 (.ref cs) ∧ Fld Z h o oz0 "firstChunk" "I" (.int (0 : Int32))
set_option maxRecDepth 65536 in
set_option maxHeartbeats 40000000 in
theorem rmMA2 (l : Launch) (Z : State) (a0 : Array Value) (hw : ∀ d ∈ tables_1, d.before a0 Z = true) (ws : List Jvm.Cond) (o : Addr) (cs : Addr) (kc : ClassId) (ch : Addr) (ar5 : Addr) (kz5 : ClassId) (s0 : Int32) (s1 : Int32) (s2 : Int32) (u : Int32) (h0 : Heap) (n0 : Nat) (Z0 : n0 ≤ h0.size) (E_o : Exa Z h0 o oz0) (F_chunks_o : Fld Z h0 o oz0 "chunks" oz2 (.ref cs)) (F_firstChunk_o : Fld Z h0 o oz0 "firstChunk" "I" (.int (0 : Int32))) (V_cs : Arv Z h0 cs kc (.object oz1) (1 : Int32) [(.ref ch)] .null) (E_ch : Exa Z h0 ch oz1) (F_states_ch : Fld Z h0 ch oz1 "states" "[B" (.ref ar5)) (V_ar5 : Arv Z h0 ar5 kz5 .byte (1024 : Int32) [(.int s0), (.int s1), (.int s2)] (.int (0 : Int32))) (g_ar5 : n0 ≤ ar5) (g_o : n0 ≤ o) (F_availableFrom_o : Fld Z h0 o oz0 "availableFrom" "I" (.int u)) :
    MetFree l (⟨oz0, "markAvailable", "(I)V"⟩ : MethodName) (head1 (Jvm.Cond.code (⟨oz0, "markAvailable", "(I)V"⟩ : MethodName) prog_24_method_20_code 2 none :: ws) ({ frames := 1, cells := 0, slots := 0, locals := 14 } : Room)) (fun a U => a = #[(.ref o), (.int (2 : Int32))] ∧ Z.Warmed39 U.vm ∧ U.heap = h0) (fun _ _ _ _ _ => True) (fun _ U oc U' => ∃ v L, oc = .returned v ∧ QMA2 Z o cs kc ch ar5 kz5 s0 s1 s2 u h0 n0 v U'.heap L ∧ FrameEnd U oc U' L ({ frames := 1, cells := 0, slots := 0, locals := 14 } : Room).cells ({ frames := 1, cells := 0, slots := 0, locals := 14 } : Room).slots) := by
  refine MetFree.of_bodySF (plainFor_of_name own_pn0) hisR ?_
  intro p e s m args below meth c s₁ Bd hml0 hP hK
  obtain ⟨rfl, hZ, hh⟩ := hP
  have hx := Bd.exec
  have hby := Bd.bytes
  have hml : c.maxLocals = 2 := hml0
  have hown : s.vm.findClass oz0 = some m.cls := findClass_of_methodNamed Bd.named
  have hnm := (name_of_methodNamed Bd.named Bd.method).1
  have X0 : Stand p l e ({ frames := 1, cells := 0, slots := 0, locals := 14 } : Room) s m #[(.ref o), (.int (2 : Int32))] below meth c s₁ [] 0 0 := Stand.of_body Bd
  have e0 : s₁.heap = h0 := by rw [← hh, Bd.state]; rfl
  have N0 := Fr.nil n0
  have pre0 : ∀ t, Steps p.tables e below (s₁.setTop (mkF m 0 #[rv o, iv (2 : Int32)] [])) t → Steps p.tables e below (s₁.setTop (entryFrame m #[(.ref o), (.int (2 : Int32))] 2)) t := fun t k => castTop (efMA2 m o) k
  obtain ⟨cq1, q1, q1'⟩ := E_o.cell
  obtain ⟨_, _, ⟨T1, Lw1, kw1, nw1⟩, -, X1, ⟨Lc1, hQ1, l1, y1, z1⟩, st1⟩ := X0.privateBack hx (y := (⟨oz0, "chunk", oz4⟩ : MethodName)) hown (mvT hZ (own_w hw 89 rfl)) (mvT hZ (own_w hw 90 rfl)) (own_selp hZ (own_w hw 1 rfl) (own_w hw 91 rfl) (own_w hw 90 rfl) (by decide)) (Cond.privateMethod_at (mvP hZ (own_w hw 91 rfl) (args := #[]))) (mvT hZ (own_w hw 92 rfl)) (by decide) (backOf (W := 0) (rmCH2 l Z a0 hw [] o cs kc ch h0 n0 Z0 E_o F_chunks_o F_firstChunk_o V_cs) hZ (own_w hw 92 rfl) (own_w hw 2 rfl) (by decide) (by decide)) (g := (mkF m 2 #[rv o, iv (2 : Int32)] [(.int (2 : Int32)), (.ref o)])) rfl (by rw [hml]; rfl) (Steps.refl _) (a := o) (by rw [e0]; exact q1) q1' (argsL := [(.int (2 : Int32))]) (rest := []) (lenOf own_pd2 rfl) rfl (by show 2 * 0 + _ ≤ _; exact Nat.le_of_eq rfl) (hb hby d13_2) (fun _ _ => ⟨rfl, e0, (by decide : 0 + 0 ≤ _), (by decide : 0 + 0 ≤ _)⟩)
  dsimp only [Pt.U, Pt.locs, Pt.cells, Pt.slots] at X1 l1 y1 z1 st1 hQ1
  subst l1 y1 z1
  obtain ⟨rfl, Nq1, eh1⟩ := hQ1
  have N1 := Fr.app N0 Nq1
  obtain ⟨cl3, Ar3, qk3, Sz3, Ng3, Hs3, Gt3⟩ := id V_ar5
  have hin3 : ¬ ((2 : Int32) < 0 ∨ cl3.slots.size ≤ ((2 : Int32)).toNatClampNeg) := inb_of Sz3 ⟨by decide, by decide⟩
  obtain ⟨T4, h4, X4, e4, W4, st4⟩ := stB X1 hx hZ eh1 Ar3 (j := (2 : Int32)) hin3 (g := (mkF m 14 #[rv o, iv (2 : Int32)] [(.int (1 : Int32)), (.int (2 : Int32)), (.ref ar5)])) rfl rfl (hb hby d13_14)
  have Va4 : Arv Z h4 ar5 kz5 .byte (1024 : Int32) [(.int s0), (.int s1), (.int (1 : Int32))] (.int (0 : Int32)) := Arv.set Ar3 qk3 Sz3 Ng3 Hs3 Gt3 (fits_nar_byte _) W4 2 rfl (Nat.le_of_ble_eq_true rfl)
  have N4 := Fr.snoc X4 N1 g_ar5
  obtain ⟨_, Arn5, -⟩ := id Va4
  have ne5 : o ≠ ar5 := ne_arr (E_o.wr W4) (own_w hw 1 rfl) Arn5
  have Fc6 : Fld Z h4 o oz0 "availableFrom" "I" (.int u) := (F_availableFrom_o.other W4 (Or.inl ne5))
  obtain ⟨T7, X7, e7, st7⟩ := getF X4 hx hZ hown (host := "") (Or.inl (own_w hw 104 rfl)) Via.refl e4 Fc6 (g := (mkF m 17 #[rv o, iv (2 : Int32)] [(.ref o), (.ref o)])) rfl rfl (hb hby d13_17)
  have Zc9 : n0 ≤ h4.size := (Nat.le_trans Z0 (Keep.of_wr W4).1)
  obtain ⟨_, _, ⟨T8, Lw8, kw8, nw8⟩, -, X8, ⟨Lc8, hQ8, l8, y8, z8⟩, st8⟩ := Jvm.LawKit.callS X7 hx (y := (⟨"java/lang/Math", "min", "(II)I"⟩ : MethodName)) hown (mvT hZ (own_w hw 106 rfl)) (mvT hZ (own_w hw 107 rfl)) (mvT hZ (own_w hw 108 rfl)) (mvT hZ (own_w hw 109 rfl)) (by decide) (backOf (W := 1) (rm14 l Z a0 hw [] u (2 : Int32) h4 n0 Zc9 ) hZ (own_w hw 109 rfl) (own_w hw 108 rfl) (by decide) (by decide)) (g := (mkF m 21 #[rv o, iv (2 : Int32)] [(.int (2 : Int32)), (.int u), (.ref o)])) rfl (by rw [hml]; rfl) (argsL := [(.int u), (.int (2 : Int32))]) (rest := [(.ref o)]) (lenOf own_pd6 rfl) rfl (by show 2 * 0 + _ ≤ _; exact Nat.le_of_eq rfl) (hb hby d13_21) (fun _ _ => ⟨rfl, e7, (by decide : 0 + 0 ≤ _), (by decide : 0 + 0 ≤ _)⟩)
  dsimp only [Pt.U, Pt.locs, Pt.cells, Pt.slots] at X8 l8 y8 z8 st8 hQ8
  subst l8 y8 z8
  obtain ⟨rfl, Nq8, eh8⟩ := hQ8
  have N8 := Fr.app N4 Nq8
  have Ec10 : Exa Z h4 o oz0 := (E_o.wr W4)
  obtain ⟨T11, h11, X11, e11, W11, st11⟩ := putF X8 hx hZ hown (host := "") (Or.inl (own_w hw 104 rfl)) Via.refl eh8 Fc6 Ec10 (Or.inl (own_w hw 105 rfl)) (own_w hw 1 rfl) (ty := .int) (by decide) rfl rfl (g := (mkF m 24 #[rv o, iv (2 : Int32)] [(.int (if (2 : Int32) < u then (2 : Int32) else u)), (.ref o)])) rfl rfl (hb hby d13_24)
  have Fw11 : Fld Z h11 o oz0 "availableFrom" "I" (.int (if (2 : Int32) < u then (2 : Int32) else u)) := Fc6.same W11
  have N11 := Fr.snoc X11 N8 g_o
  have pre12 : ∀ tz, oS p e below T11 m 27 #[rv o, iv (2 : Int32)] [] tz → oS p e below s₁ m 0 #[rv o, iv (2 : Int32)] [] tz := fun tz kt => by
    show oS p e below s₁ m 0 #[rv o, iv (2 : Int32)] [] _
    refine XS.aloadN X0.here hx rfl (hb hby d13_0) rfl rfl ?_
    refine XS.iloadN X0.here hx rfl (hb hby d13_1) rfl ?_
    show oS p e below s₁ m 2 #[rv o, iv (2 : Int32)] [(.int (2 : Int32)), (.ref o)] _
    refine st1.trans ?_
    refine own_getR X1 hx hZ hown (own_w hw 67 rfl) eh1 F_states_ch (g := (mkF m 5 #[rv o, iv (2 : Int32)] [(.ref ch)])) rfl rfl (hb hby d13_5) _ ?_
    refine XS.iloadN X1.here hx rfl (hb hby d13_8) rfl ?_
    refine XS.sipush X1.here hx rfl (hb hby d13_9) ?_
    show oS p e below T1 m 12 #[rv o, iv (2 : Int32)] [(.int (1023 : Int32)), (.int (2 : Int32)), (.ref ar5)] _
    refine XS.iand X1.here hx rfl (hb hby d13_12) rfl ?_
    show oS p e below T1 m 13 #[rv o, iv (2 : Int32)] [(.int (2 : Int32)), (.ref ar5)] _
    refine XS.iconst X1.here hx rfl (hb hby d13_13) ?_
    show oS p e below T1 m 14 #[rv o, iv (2 : Int32)] [(.int (1 : Int32)), (.int (2 : Int32)), (.ref ar5)] _
    refine st4 _ ?_
    refine XS.aloadN X4.here hx rfl (hb hby d13_15) rfl rfl ?_
    refine XS.aloadN X4.here hx rfl (hb hby d13_16) rfl rfl ?_
    show oS p e below T4 m 17 #[rv o, iv (2 : Int32)] [(.ref o), (.ref o)] _
    refine st7 _ ?_
    refine XS.iloadN X7.here hx rfl (hb hby d13_20) rfl ?_
    show oS p e below T7 m 21 #[rv o, iv (2 : Int32)] [(.int (2 : Int32)), (.int u), (.ref o)] _
    refine st8 _ ?_
    show oS p e below T8 m 24 #[rv o, iv (2 : Int32)] [(.int (if (2 : Int32) < u then (2 : Int32) else u)), (.ref o)] _
    refine st11 _ ?_
    exact kt
  have KP13 : Keep h0 h11 [ar5, o] := (((Keep.refl h0 [ar5, o]).wr W4 (Or.inl (List.mem_of_getElem? (i := 0) rfl))).wr W11 (Or.inl (List.mem_of_getElem? (i := 1) rfl)))
  have Vc14 : Arv Z h11 ar5 kz5 .byte (1024 : Int32) [(.int s0), (.int s1), (.int (1 : Int32))] (.int (0 : Int32)) := (Va4.other W11 (Ne.symm ne5))
  have Fc15 : Fld Z h11 o oz0 "chunks" oz2 (.ref cs) := ((F_chunks_o.other W4 (Or.inl ne5)).other W11 (Or.inr (slot_ne (Or.inl (own_w hw 12 rfl)) (Or.inl (own_w hw 105 rfl)) (by decide) (t := (.array (.object oz1))) (t' := .int) (by decide) (by decide))))
  have Fc16 : Fld Z h11 o oz0 "firstChunk" "I" (.int (0 : Int32)) := ((F_firstChunk_o.other W4 (Or.inl ne5)).other W11 (Or.inr (slot_ne (Or.inl (own_w hw 31 rfl)) (Or.inl (own_w hw 105 rfl)) (by decide) (t := .int) (t' := .int) (by decide) (by decide))))
  obtain ⟨fs, hr, hrun, hended, hW, hsame⟩ := X11.leave (v := none) (fun _ => rfl)
  refine ⟨_, _, pre0 _ (pre12 _ ?_), hrun, hended, _, _, rfl, ?_, ⟨_, rfl⟩, hW, hsame.mono (by decide) (by decide)⟩
  · show oS p e below T11 m 27 #[rv o, iv (2 : Int32)] [] _
    exact X11.returnOut hx Bd.returns (hb hby d13_27) hr
  · show QMA2 Z o cs kc ch ar5 kz5 s0 s1 s2 u h0 n0 _ T11.heap _
    rw [e11]
    exact ⟨rfl, N11, KP13, Vc14, Fc15, Fc16⟩
theorem own_last (a b c u y s0 s1 s2 t0 t1 t2 l0 l1 l2 : Int32) (ha : a = 0 ∨ a = 1) (hb : b = 0 ∨ b = 1) (hc : c = 0 ∨ c = 1) (hy : y = 0 ∨ y = 1 ∨ y = 2)
    (h0 : s0 = (if a = (0 : Int32) then (1 : Int32) else (2 : Int32))) (h1 : s1 = (if b = (0 : Int32) then (1 : Int32) else (2 : Int32))) (h2 : s2 = (if c = (0 : Int32) then (1 : Int32) else (2 : Int32)))
    (k0 : l0 = (if u = (0 : Int32) then a else (if y = (0 : Int32) then (0 : Int32) else a))) (k1 : l1 = (if u = (0 : Int32) then b else (if y = (0 : Int32) then b else (if y = (1 : Int32) then (0 : Int32) else b)))) (k2 : l2 = (if u = (0 : Int32) then c else (if y = (0 : Int32) then c else (if y = (1 : Int32) then c else (0 : Int32)))))
    (m0 : t0 = (if u = (0 : Int32) then s0 else (if y = (0 : Int32) then (1 : Int32) else s0))) (m1 : t1 = (if u = (0 : Int32) then s1 else (if y = (0 : Int32) then s1 else (if y = (1 : Int32) then (1 : Int32) else s1)))) (m2 : t2 = (if u = (0 : Int32) then s2 else (if y = (0 : Int32) then s2 else (if y = (1 : Int32) then s2 else (1 : Int32))))) :
    (if t0 = (2 : Int32) then (1 : Int32) else (0 : Int32)) = l0 ∧ (if t1 = (2 : Int32) then (1 : Int32) else (0 : Int32)) = l1 ∧ (if t2 = (2 : Int32) then (1 : Int32) else (0 : Int32)) = l2 := by
  subst h0 h1 h2 k0 k1 k2 m0 m1 m2
  by_cases hu : u = 0
  · simp only [if_pos hu]
    rcases ha with rfl | rfl <;> rcases hb with rfl | rfl <;> rcases hc with rfl | rfl <;> decide
  · simp only [if_neg hu]
    rcases ha with rfl | rfl <;> rcases hb with rfl | rfl <;> rcases hc with rfl | rfl <;> rcases hy with rfl | rfl | rfl <;> decide
theorem own_01 {c : Prop} [Decidable c] {v : Int32} (hv : v = (if c then (0 : Int32) else (1 : Int32))) : v = 0 ∨ v = 1 := by
  subst hv
  by_cases q : c
  · rw [if_pos q]; exact Or.inl rfl
  · rw [if_neg q]; exact Or.inr rfl
theorem own_pd7 : parseMethodDescriptor "(JJJJII)V" = some ⟨[.long, .long, .long, .long, .int, .int], none⟩ := by decide +kernel
theorem own_pd8 : parseMethodDescriptor "(I)V" = some ⟨[.int], none⟩ := by decide +kernel
theorem own_pd9 : parseMethodDescriptor "(I)Z" = some ⟨[.int], some .boolean⟩ := by decide +kernel
theorem own_pn2 : plainName "com/example/sidetrack/sidetrack/core/MessageTableLeasedPinLaw" = true := by first | (simp [plainName, overriddenIn]; done) | decide +kernel
theorem ef0 (m : MethodId) (x1 : Int64) (x2 : Int64) (x3 : Int64) (x4 : Int32) : entryFrame m #[(.long x1), (.long x2), (.long x3), (.int x4)] maxLocals = mkF m 0 #[lv x1, .second, lv x2, .second, lv x3, .second, iv x4, .unset, .unset, .unset, .unset, .unset, .unset, .unset, .unset, .unset] [] := by first | (simp [entryFrame, mkF, argsToLocals, Value.category, maxLocals]; done) | rfl
def Q0 (Z : State) (x1 : Int64) (x2 : Int64) (x3 : Int64) (x4 : Int32) (h0 : Heap) (n0 : Nat) (v : Option Value) (h : Heap) (L : List Loc) : Prop := v = some (.int (1 : Int32)) ∧ Fr n0 L
set_option maxRecDepth 65536 in
set_option maxHeartbeats 40000000 in
theorem rm0 (l : Launch) (Z : State) (a0 : Array Value) (hw : ∀ d ∈ tables_1, d.before a0 Z = true) (ws : List Jvm.Cond) (x1 : Int64) (x2 : Int64) (x3 : Int64) (x4 : Int32) (h0 : Heap) (n0 : Nat) (Z0 : n0 ≤ h0.size) :
    MetFree l x (head1 (Jvm.Cond.code x code maxLocals ret :: ws) room_1) (fun a U => a = #[(.long x1), (.long x2), (.long x3), (.int x4)] ∧ Z.Warmed39 U.vm ∧ U.heap = h0) (fun _ _ _ _ _ => True) (fun _ U oc U' => ∃ v L, oc = .returned v ∧ Q0 Z x1 x2 x3 x4 h0 n0 v U'.heap L ∧ FrameEnd U oc U' L room_1.cells room_1.slots) := by
  refine MetFree.of_bodySF (plainFor_of_name own_pn2) hisR ?_
  intro p e s m args below meth c s₁ Bd hml0 hP hK
  obtain ⟨rfl, hZ, hh⟩ := hP
  have hx := Bd.exec
  have hby := Bd.bytes
  have hml : c.maxLocals = 16 := hml0
  have hown : s.vm.findClass "com/example/sidetrack/sidetrack/core/MessageTableLeasedPinLaw" = some m.cls := findClass_of_methodNamed Bd.named
  have hnm := (name_of_methodNamed Bd.named Bd.method).1
  have X0 : Stand p l e room_1 s m #[(.long x1), (.long x2), (.long x3), (.int x4)] below meth c s₁ [] 0 0 := Stand.of_body Bd
  have e0 : s₁.heap = h0 := by rw [← hh, Bd.state]; rfl
  have N0 := Fr.nil n0
  have pre0 : ∀ t, Steps p.tables e below (s₁.setTop (mkF m 0 #[lv x1, .second, lv x2, .second, lv x3, .second, iv x4, .unset, .unset, .unset, .unset, .unset, .unset, .unset, .unset, .unset] [])) t → Steps p.tables e below (s₁.setTop (entryFrame m #[(.long x1), (.long x2), (.long x3), (.int x4)] maxLocals)) t := fun t k => castTop (ef0 m x1 x2 x3 x4) k
  obtain ⟨T1, h1, X1, e1, E1, A1, D1, -, st1⟩ := newO X0 hx hZ hown (own_w hw 0 rfl) (own_w hw 1 rfl) (own_w hw 2 rfl) e0 (g := (mkF m 0 #[lv x1, .second, lv x2, .second, lv x3, .second, iv x4, .unset, .unset, .unset, .unset, .unset, .unset, .unset, .unset, .unset] [])) rfl (hb hby at_0) (by decide) (by decide)
  obtain ⟨b1, g1⟩ : ∃ z, z = h0.size := ⟨_, rfl⟩
  rw [← g1] at A1 D1 st1
  have g_b1 : n0 ≤ b1 := Nat.le_trans Z0 (Nat.le_of_eq g1.symm)
  have F_chunks_b1 : Fld Z h1 b1 oz0 "chunks" oz2 .null := D1 (Or.inl (own_w hw 12 rfl)) (ty := (.array (.object oz1))) (by decide)
  have F_index_b1 : Fld Z h1 b1 oz0 "index" "[I" .null := D1 (Or.inl (own_w hw 15 rfl)) (ty := (.array .int)) (by decide)
  have F_indexBits_b1 : Fld Z h1 b1 oz0 "indexBits" "I" (.int (0 : Int32)) := D1 (Or.inl (own_w hw 17 rfl)) (ty := .int) (by decide)
  have F_tail_b1 : Fld Z h1 b1 oz0 "tail" "I" (.int (0 : Int32)) := D1 (Or.inl (own_w hw 24 rfl)) (ty := .int) (by decide)
  have F_firstChunk_b1 : Fld Z h1 b1 oz0 "firstChunk" "I" (.int (0 : Int32)) := D1 (Or.inl (own_w hw 31 rfl)) (ty := .int) (by decide)
  have F_heldChunks_b1 : Fld Z h1 b1 oz0 "heldChunks" "I" (.int (0 : Int32)) := D1 (Or.inl (own_w hw 54 rfl)) (ty := .int) (by decide)
  have F_size_b1 : Fld Z h1 b1 oz0 "size" "I" (.int (0 : Int32)) := D1 (Or.inl (own_w hw 71 rfl)) (ty := .int) (by decide)
  have F_availableFrom_b1 : Fld Z h1 b1 oz0 "availableFrom" "I" (.int (0 : Int32)) := D1 (Or.inl (own_w hw 105 rfl)) (ty := .int) (by decide)
  have F_head_b1 : Fld Z h1 b1 oz0 "head" "I" (.int (0 : Int32)) := D1 (Or.inl (own_w hw 111 rfl)) (ty := .int) (by decide)
  have Zc3 : n0 ≤ h1.size := (Nat.le_trans Z0 E1.1)
  obtain ⟨_, _, ⟨T2, Lw2, kw2, nw2⟩, -, X2, ⟨Lc2, hQ2, l2, y2, z2⟩, st2⟩ := X1.specialBack hx (y := (⟨oz0, "<init>", "()V"⟩ : MethodName)) rfl hown (mvT hZ (own_w hw 3 rfl)) (mvT hZ (own_w hw 4 rfl)) (mvT hZ (own_w hw 5 rfl)) (by decide) (backOf (W := 1) (rm1 l Z a0 hw [] b1 .null .null (.int (0 : Int32)) h1 n0 Zc3 A1 g_b1 F_tail_b1 F_size_b1 F_head_b1 F_firstChunk_b1 F_heldChunks_b1 F_availableFrom_b1 F_chunks_b1 F_index_b1 F_indexBits_b1) hZ (own_w hw 5 rfl) (own_w hw 2 rfl) (by decide) (by decide)) (g := (mkF m 4 #[lv x1, .second, lv x2, .second, lv x3, .second, iv x4, .unset, .unset, .unset, .unset, .unset, .unset, .unset, .unset, .unset] [(.ref b1), (.ref b1)])) rfl (by rw [hml]; rfl) (Steps.refl _) (a := b1) (argsL := []) (rest := [(.ref b1)]) (lenOf own_pd0 rfl) rfl (by show 2 * 0 + _ ≤ _; exact Nat.le_of_eq rfl) (hb hby at_4) (fun _ _ => ⟨rfl, e1, (by decide : 1 + 2 ≤ _), (by decide : 9 + 17 ≤ _)⟩)
  dsimp only [Pt.U, Pt.locs, Pt.cells, Pt.slots] at X2 l2 y2 z2 st2 hQ2
  subst l2 y2 z2
  obtain ⟨cs2, ix2, kc2, rfl, Nq2, K2, pf2_0, pf2_1, pf2_2, pf2_3, pf2_4, pf2_5, pf2_6, pf2_7, pf2_8, pf2_9, pf2_10, pf2_11, pf2_12, pf2_13, pf2_14, pf2_15, pf2_16⟩ := hQ2
  have N2 := Fr.app N0 Nq2
  have ne_b1_cs2 : b1 ≠ cs2 := Nat.ne_of_lt (Nat.lt_of_lt_of_le A1.lt pf2_0)
  have ne_b1_ix2 : b1 ≠ ix2 := Nat.ne_of_lt (Nat.lt_of_lt_of_le A1.lt pf2_1)
  have Ec5 : Exa Z T2.heap b1 oz0 := (A1.keep K2)
  have Zc6 : n0 ≤ T2.heap.size := (Nat.le_trans Zc3 K2.1)
  obtain ⟨cq4, kq4, q4a, q4b, q4c⟩ := isOf hZ rfl Ec5
  obtain ⟨_, _, ⟨T4, Lw4, kw4, nw4⟩, -, X4, ⟨Lc4, hQ4, l4, y4, z4⟩, st4⟩ := X2.virtualBack hx (y := (⟨oz0, "add", "(JJJJII)V"⟩ : MethodName)) (z := (⟨oz0, "add", "(JJJJII)V"⟩ : MethodName)) hown (mvT hZ (own_w hw 18 rfl)) (mvT hZ (own_w hw 19 rfl)) (notFace_of_selects (args := #[]) (mvT hZ (own_w hw 21 rfl))) (mvT hZ (own_w hw 21 rfl)) (mvT hZ (own_w hw 20 rfl)) (by decide) (backOf (W := 0) (rmADD0 l Z a0 hw [] b1 x1 x1 (0 : Int64) (0 : Int32) (0 : Int32) cs2 kc2 ix2 T2.heap n0 Zc6 Ec5 g_b1 pf2_3 pf2_4 pf2_15 pf2_5 pf2_6 pf2_7 pf2_8 pf2_9 pf2_11 pf2_12 pf2_10 pf2_13 pf2_14 pf2_16 pf2_2) hZ (own_w hw 22 rfl) (own_w hw 2 rfl) (by decide) (by decide)) q4a q4c (g := (mkF m 17 #[lv x1, .second, lv x2, .second, lv x3, .second, iv x4, rv b1, .unset, .unset, .unset, .unset, .unset, .unset, .unset, .unset] [(.int (0 : Int32)), (.int (0 : Int32)), (.long (0 : Int64)), (.long x1), (.long x1), (.long x1), (.ref b1)])) rfl (by rw [hml]; rfl) (Steps.refl _) (argsL := [(.long x1), (.long x1), (.long x1), (.long (0 : Int64)), (.int (0 : Int32)), (.int (0 : Int32))]) (rest := []) (lenOf own_pd7 rfl) rfl (by show 2 * 0 + _ ≤ _; exact Nat.le_of_eq rfl) (hb hby at_17) (fun _ _ => ⟨rfl, rfl, (by decide : 3 + 7 ≤ _), (by decide : 26 + 6152 ≤ _)⟩)
  dsimp only [Pt.U, Pt.locs, Pt.cells, Pt.slots] at X4 l4 y4 z4 st4 hQ4
  subst l4 y4 z4
  obtain ⟨ch4, ar04, ar14, ar24, ar34, ar44, ar54, kz04, kz14, kz24, kz34, kz44, kz54, rfl, Nq4, K4, pf4_0, pf4_1, pf4_2, pf4_3, pf4_4, pf4_5, pf4_6, pf4_7, pf4_8, pf4_9, pf4_10, pf4_11, pf4_12, pf4_13, pf4_14, pf4_15, pf4_16, pf4_17, pf4_18, pf4_19, pf4_20, pf4_21, pf4_22, pf4_23, pf4_24, pf4_25, pf4_26, pf4_27, pf4_28, pf4_29, pf4_30, pf4_31, pf4_32, pf4_33, pf4_34, pf4_35, pf4_36, pf4_37, pf4_38, pf4_39, pf4_40, pf4_41, pf4_42, pf4_43, pf4_44, pf4_45, pf4_46, pf4_47, pf4_48, pf4_49, pf4_50, pf4_51, pf4_52, pf4_53, pf4_54⟩ := hQ4
  have N4 := Fr.app N2 Nq4
  have ne_b1_ch4 : b1 ≠ ch4 := Nat.ne_of_lt (Nat.lt_of_lt_of_le Ec5.lt pf4_0)
  have ne_cs2_ch4 : cs2 ≠ ch4 := Nat.ne_of_lt (Nat.lt_of_lt_of_le pf2_14.lt pf4_0)
  have ne_ix2_ch4 : ix2 ≠ ch4 := Nat.ne_of_lt (Nat.lt_of_lt_of_le pf2_16.lt pf4_0)
  have ne_b1_ar04 : b1 ≠ ar04 := Nat.ne_of_lt (Nat.lt_of_lt_of_le Ec5.lt pf4_3)
  have ne_cs2_ar04 : cs2 ≠ ar04 := Nat.ne_of_lt (Nat.lt_of_lt_of_le pf2_14.lt pf4_3)
  have ne_ix2_ar04 : ix2 ≠ ar04 := Nat.ne_of_lt (Nat.lt_of_lt_of_le pf2_16.lt pf4_3)
  have ne_b1_ar14 : b1 ≠ ar14 := Nat.ne_of_lt (Nat.lt_of_lt_of_le Ec5.lt pf4_4)
  have ne_cs2_ar14 : cs2 ≠ ar14 := Nat.ne_of_lt (Nat.lt_of_lt_of_le pf2_14.lt pf4_4)
  have ne_ix2_ar14 : ix2 ≠ ar14 := Nat.ne_of_lt (Nat.lt_of_lt_of_le pf2_16.lt pf4_4)
  have ne_b1_ar24 : b1 ≠ ar24 := Nat.ne_of_lt (Nat.lt_of_lt_of_le Ec5.lt pf4_5)
  have ne_cs2_ar24 : cs2 ≠ ar24 := Nat.ne_of_lt (Nat.lt_of_lt_of_le pf2_14.lt pf4_5)
  have ne_ix2_ar24 : ix2 ≠ ar24 := Nat.ne_of_lt (Nat.lt_of_lt_of_le pf2_16.lt pf4_5)
  have ne_b1_ar34 : b1 ≠ ar34 := Nat.ne_of_lt (Nat.lt_of_lt_of_le Ec5.lt pf4_6)
  have ne_cs2_ar34 : cs2 ≠ ar34 := Nat.ne_of_lt (Nat.lt_of_lt_of_le pf2_14.lt pf4_6)
  have ne_ix2_ar34 : ix2 ≠ ar34 := Nat.ne_of_lt (Nat.lt_of_lt_of_le pf2_16.lt pf4_6)
  have ne_b1_ar44 : b1 ≠ ar44 := Nat.ne_of_lt (Nat.lt_of_lt_of_le Ec5.lt pf4_7)
  have ne_cs2_ar44 : cs2 ≠ ar44 := Nat.ne_of_lt (Nat.lt_of_lt_of_le pf2_14.lt pf4_7)
  have ne_ix2_ar44 : ix2 ≠ ar44 := Nat.ne_of_lt (Nat.lt_of_lt_of_le pf2_16.lt pf4_7)
  have ne_b1_ar54 : b1 ≠ ar54 := Nat.ne_of_lt (Nat.lt_of_lt_of_le Ec5.lt pf4_8)
  have ne_cs2_ar54 : cs2 ≠ ar54 := Nat.ne_of_lt (Nat.lt_of_lt_of_le pf2_14.lt pf4_8)
  have ne_ix2_ar54 : ix2 ≠ ar54 := Nat.ne_of_lt (Nat.lt_of_lt_of_le pf2_16.lt pf4_8)
  have Ec8 : Exa Z T4.heap b1 oz0 := (Ec5.keep K4)
  have Zc9 : n0 ≤ T4.heap.size := (Nat.le_trans Zc6 K4.1)
  obtain ⟨cq7, kq7, q7a, q7b, q7c⟩ := isOf hZ rfl Ec8
  obtain ⟨_, _, ⟨T7, Lw7, kw7, nw7⟩, -, X7, ⟨Lc7, hQ7, l7, y7, z7⟩, st7⟩ := X4.virtualBack hx (y := (⟨oz0, "add", "(JJJJII)V"⟩ : MethodName)) (z := (⟨oz0, "add", "(JJJJII)V"⟩ : MethodName)) hown (mvT hZ (own_w hw 18 rfl)) (mvT hZ (own_w hw 19 rfl)) (notFace_of_selects (args := #[]) (mvT hZ (own_w hw 21 rfl))) (mvT hZ (own_w hw 21 rfl)) (mvT hZ (own_w hw 20 rfl)) (by decide) (backOf (W := 0) (rmADD1 l Z a0 hw [] b1 x2 x2 (0 : Int64) (0 : Int32) (0 : Int32) cs2 kc2 ix2 ch4 ar04 ar14 ar24 ar34 ar44 ar54 kz04 kz14 kz24 kz34 kz44 kz54 x1 x1 (0 : Int64) (0 : Int32) (0 : Int32) T4.heap n0 Zc9 Ec8 g_b1 pf2_3 pf2_4 pf2_15 pf4_30 pf4_31 pf4_32 pf4_33 pf4_34 pf4_35 pf4_36 pf4_37 pf4_38 pf4_39 pf4_40 pf4_2 pf4_1 pf4_9 pf4_10 pf4_11 pf4_12 pf4_13 pf4_14 pf2_2 ne_cs2_ar04 ne_cs2_ar14 ne_cs2_ar24 ne_cs2_ar34 ne_cs2_ar44 ne_cs2_ar54 ne_ix2_ar04 ne_ix2_ar14 ne_ix2_ar24 ne_ix2_ar34 ne_ix2_ar44 ne_ix2_ar54 pf4_15 pf4_16 pf4_17 pf4_18 pf4_19 pf4_20 pf4_21 pf4_22 pf4_23 pf4_24 pf4_25 pf4_26 pf4_27 pf4_28 pf4_29 pf4_41 pf4_42 pf4_43 pf4_44 pf4_45 pf4_46 pf4_47 pf4_48 pf4_49 pf4_50 pf4_51 pf4_52 pf4_53 pf4_54) hZ (own_w hw 22 rfl) (own_w hw 2 rfl) (by decide) (by decide)) q7a q7c (g := (mkF m 28 #[lv x1, .second, lv x2, .second, lv x3, .second, iv x4, rv b1, .unset, .unset, .unset, .unset, .unset, .unset, .unset, .unset] [(.int (0 : Int32)), (.int (0 : Int32)), (.long (0 : Int64)), (.long x2), (.long x2), (.long x2), (.ref b1)])) rfl (by rw [hml]; rfl) (Steps.refl _) (argsL := [(.long x2), (.long x2), (.long x2), (.long (0 : Int64)), (.int (0 : Int32)), (.int (0 : Int32))]) (rest := []) (lenOf own_pd7 rfl) rfl (by show 2 * 0 + _ ≤ _; exact Nat.le_of_eq rfl) (hb hby at_28) (fun _ _ => ⟨rfl, rfl, (by decide : 10 + 0 ≤ _), (by decide : 6178 + 0 ≤ _)⟩)
  dsimp only [Pt.U, Pt.locs, Pt.cells, Pt.slots] at X7 l7 y7 z7 st7 hQ7
  subst l7 y7 z7
  obtain ⟨rfl, Nq7, K7, pf7_0, pf7_1, pf7_2, pf7_3, pf7_4, pf7_5, pf7_6, pf7_7, pf7_8, pf7_9, pf7_10, pf7_11, pf7_12, pf7_13, pf7_14, pf7_15, pf7_16, pf7_17, pf7_18, pf7_19, pf7_20, pf7_21, pf7_22, pf7_23⟩ := hQ7
  have N7 := Fr.app N4 Nq7
  have Ec11 : Exa Z T7.heap b1 oz0 := (Ec8.keep K7)
  have Vc12 : Arv Z T7.heap cs2 kc2 (.object oz1) (1 : Int32) [(.ref ch4)] .null := (pf4_39.keep K7 (ninS (Ne.symm ne_b1_cs2) (ninS ne_cs2_ch4 (ninS pf2_2 (ninS ne_cs2_ar04 (ninS ne_cs2_ar14 (ninS ne_cs2_ar24 (ninS ne_cs2_ar34 (ninS ne_cs2_ar44 (ninS ne_cs2_ar54 nin0))))))))))
  have Ec13 : Exa Z T7.heap ch4 oz1 := (pf4_2.keep K7)
  have Zc14 : n0 ≤ T7.heap.size := (Nat.le_trans Zc9 K7.1)
  obtain ⟨cq10, kq10, q10a, q10b, q10c⟩ := isOf hZ rfl Ec11
  obtain ⟨_, _, ⟨T10, Lw10, kw10, nw10⟩, -, X10, ⟨Lc10, hQ10, l10, y10, z10⟩, st10⟩ := X7.virtualBack hx (y := (⟨oz0, "add", "(JJJJII)V"⟩ : MethodName)) (z := (⟨oz0, "add", "(JJJJII)V"⟩ : MethodName)) hown (mvT hZ (own_w hw 18 rfl)) (mvT hZ (own_w hw 19 rfl)) (notFace_of_selects (args := #[]) (mvT hZ (own_w hw 21 rfl))) (mvT hZ (own_w hw 21 rfl)) (mvT hZ (own_w hw 20 rfl)) (by decide) (backOf (W := 0) (rmADD2 l Z a0 hw [] b1 x3 x3 (0 : Int64) (0 : Int32) (0 : Int32) cs2 kc2 ix2 ch4 ar04 ar14 ar24 ar34 ar44 ar54 kz04 kz14 kz24 kz34 kz44 kz54 x1 x2 x1 x2 (0 : Int64) (0 : Int64) (0 : Int32) (0 : Int32) (0 : Int32) (0 : Int32) T7.heap n0 Zc14 Ec11 g_b1 pf2_3 pf2_4 pf2_15 pf7_0 pf7_1 pf7_2 pf7_3 pf7_4 pf7_5 pf7_6 pf7_7 pf7_8 Vc12 pf7_9 Ec13 pf4_1 pf4_9 pf4_10 pf4_11 pf4_12 pf4_13 pf4_14 pf2_2 ne_cs2_ar04 ne_cs2_ar14 ne_cs2_ar24 ne_cs2_ar34 ne_cs2_ar44 ne_cs2_ar54 ne_ix2_ar04 ne_ix2_ar14 ne_ix2_ar24 ne_ix2_ar34 ne_ix2_ar44 ne_ix2_ar54 pf4_15 pf4_16 pf4_17 pf4_18 pf4_19 pf4_20 pf4_21 pf4_22 pf4_23 pf4_24 pf4_25 pf4_26 pf4_27 pf4_28 pf4_29 pf7_10 pf7_11 pf7_12 pf7_13 pf7_14 pf7_15 pf7_16 pf7_17 pf7_18 pf7_19 pf7_20 pf7_21 pf7_22 pf7_23) hZ (own_w hw 22 rfl) (own_w hw 2 rfl) (by decide) (by decide)) q10a q10c (g := (mkF m 42 #[lv x1, .second, lv x2, .second, lv x3, .second, iv x4, rv b1, .unset, .unset, .unset, .unset, .unset, .unset, .unset, .unset] [(.int (0 : Int32)), (.int (0 : Int32)), (.long (0 : Int64)), (.long x3), (.long x3), (.long x3), (.ref b1)])) rfl (by rw [hml]; rfl) (Steps.refl _) (argsL := [(.long x3), (.long x3), (.long x3), (.long (0 : Int64)), (.int (0 : Int32)), (.int (0 : Int32))]) (rest := []) (lenOf own_pd7 rfl) rfl (by show 2 * 0 + _ ≤ _; exact Nat.le_of_eq rfl) (hb hby at_42) (fun _ _ => ⟨rfl, rfl, (by decide : 10 + 0 ≤ _), (by decide : 6178 + 0 ≤ _)⟩)
  dsimp only [Pt.U, Pt.locs, Pt.cells, Pt.slots] at X10 l10 y10 z10 st10 hQ10
  subst l10 y10 z10
  obtain ⟨rfl, Nq10, K10, pf10_0, pf10_1, pf10_2, pf10_3, pf10_4, pf10_5, pf10_6, pf10_7, pf10_8, pf10_9, pf10_10, pf10_11, pf10_12, pf10_13, pf10_14, pf10_15, pf10_16, pf10_17, pf10_18, pf10_19, pf10_20, pf10_21, pf10_22, pf10_23⟩ := hQ10
  have N10 := Fr.app N7 Nq10
  have pre15 : ∀ tz, oS p e below T10 m 49 #[lv x1, .second, lv x2, .second, lv x3, .second, iv x4, rv b1, .unset, .unset, .unset, .unset, .unset, .unset, .unset, .unset] [(.int (x4 &&& (1 : Int32)))] tz → oS p e below s₁ m 0 #[lv x1, .second, lv x2, .second, lv x3, .second, iv x4, .unset, .unset, .unset, .unset, .unset, .unset, .unset, .unset, .unset] [] tz := fun tz kt => by
    show oS p e below s₁ m 0 #[lv x1, .second, lv x2, .second, lv x3, .second, iv x4, .unset, .unset, .unset, .unset, .unset, .unset, .unset, .unset, .unset] [] _
    refine st1 _ ?_
    refine XS.dup X1.here hx rfl (hb hby at_3) rfl rfl ?_
    show oS p e below T1 m 4 #[lv x1, .second, lv x2, .second, lv x3, .second, iv x4, .unset, .unset, .unset, .unset, .unset, .unset, .unset, .unset, .unset] [(.ref b1), (.ref b1)] _
    refine st2.trans ?_
    refine XS.astore X2.here hx rfl (hb hby at_7) rfl rfl (l' := #[lv x1, .second, lv x2, .second, lv x3, .second, iv x4, rv b1, .unset, .unset, .unset, .unset, .unset, .unset, .unset, .unset]) rfl ?_
    refine XS.aload X2.here hx rfl (hb hby at_9) rfl rfl ?_
    refine XS.lloadN X2.here hx rfl (hb hby at_11) rfl ?_
    show oS p e below T2 m 12 #[lv x1, .second, lv x2, .second, lv x3, .second, iv x4, rv b1, .unset, .unset, .unset, .unset, .unset, .unset, .unset, .unset] [(.long x1), (.ref b1)] _
    refine XS.lloadN X2.here hx rfl (hb hby at_12) rfl ?_
    refine XS.lloadN X2.here hx rfl (hb hby at_13) rfl ?_
    refine XS.lconst X2.here hx rfl (hb hby at_14) ?_
    refine XS.iconst X2.here hx rfl (hb hby at_15) ?_
    show oS p e below T2 m 16 #[lv x1, .second, lv x2, .second, lv x3, .second, iv x4, rv b1, .unset, .unset, .unset, .unset, .unset, .unset, .unset, .unset] [(.int (0 : Int32)), (.long (0 : Int64)), (.long x1), (.long x1), (.long x1), (.ref b1)] _
    refine XS.iconst X2.here hx rfl (hb hby at_16) ?_
    show oS p e below T2 m 17 #[lv x1, .second, lv x2, .second, lv x3, .second, iv x4, rv b1, .unset, .unset, .unset, .unset, .unset, .unset, .unset, .unset] [(.int (0 : Int32)), (.int (0 : Int32)), (.long (0 : Int64)), (.long x1), (.long x1), (.long x1), (.ref b1)] _
    refine st4.trans ?_
    refine XS.aload X4.here hx rfl (hb hby at_20) rfl rfl ?_
    refine XS.lloadN X4.here hx rfl (hb hby at_22) rfl ?_
    refine XS.lloadN X4.here hx rfl (hb hby at_23) rfl ?_
    show oS p e below T4 m 24 #[lv x1, .second, lv x2, .second, lv x3, .second, iv x4, rv b1, .unset, .unset, .unset, .unset, .unset, .unset, .unset, .unset] [(.long x2), (.long x2), (.ref b1)] _
    refine XS.lloadN X4.here hx rfl (hb hby at_24) rfl ?_
    refine XS.lconst X4.here hx rfl (hb hby at_25) ?_
    refine XS.iconst X4.here hx rfl (hb hby at_26) ?_
    refine XS.iconst X4.here hx rfl (hb hby at_27) ?_
    show oS p e below T4 m 28 #[lv x1, .second, lv x2, .second, lv x3, .second, iv x4, rv b1, .unset, .unset, .unset, .unset, .unset, .unset, .unset, .unset] [(.int (0 : Int32)), (.int (0 : Int32)), (.long (0 : Int64)), (.long x2), (.long x2), (.long x2), (.ref b1)] _
    refine st7.trans ?_
    refine XS.aload X7.here hx rfl (hb hby at_31) rfl rfl ?_
    refine XS.lload X7.here hx rfl (hb hby at_33) rfl ?_
    refine XS.lload X7.here hx rfl (hb hby at_35) rfl ?_
    show oS p e below T7 m 37 #[lv x1, .second, lv x2, .second, lv x3, .second, iv x4, rv b1, .unset, .unset, .unset, .unset, .unset, .unset, .unset, .unset] [(.long x3), (.long x3), (.ref b1)] _
    refine XS.lload X7.here hx rfl (hb hby at_37) rfl ?_
    refine XS.lconst X7.here hx rfl (hb hby at_39) ?_
    refine XS.iconst X7.here hx rfl (hb hby at_40) ?_
    refine XS.iconst X7.here hx rfl (hb hby at_41) ?_
    show oS p e below T7 m 42 #[lv x1, .second, lv x2, .second, lv x3, .second, iv x4, rv b1, .unset, .unset, .unset, .unset, .unset, .unset, .unset, .unset] [(.int (0 : Int32)), (.int (0 : Int32)), (.long (0 : Int64)), (.long x3), (.long x3), (.long x3), (.ref b1)] _
    refine st10.trans ?_
    refine XS.iload X10.here hx rfl (hb hby at_45) rfl ?_
    refine XS.iconst X10.here hx rfl (hb hby at_47) ?_
    refine XS.iand X10.here hx rfl (hb hby at_48) rfl ?_
    exact kt
  obtain ⟨v57, T18, Lj18, jv18, N18, X18, e18, st18⟩ := own_join (α := Int32) X10 N10 rfl (mkF m 49 #[lv x1, .second, lv x2, .second, lv x3, .second, iv x4, rv b1, .unset, .unset, .unset, .unset, .unset, .unset, .unset, .unset] [(.int (x4 &&& (1 : Int32)))]) (fun v => (mkF m 57 #[lv x1, .second, lv x2, .second, lv x3, .second, iv x4, rv b1, .unset, .unset, .unset, .unset, .unset, .unset, .unset, .unset] [(.int v)])) (fun v => v = (if (x4 &&& (1 : Int32)) = (0 : Int32) then (0 : Int32) else (1 : Int32))) (by
      by_cases hc49 : (x4 &&& (1 : Int32)) = (0 : Int32)
      · have pre16 : ∀ tz, oS p e below T10 m 57 #[lv x1, .second, lv x2, .second, lv x3, .second, iv x4, rv b1, .unset, .unset, .unset, .unset, .unset, .unset, .unset, .unset] [(.int (0 : Int32))] tz → oS p e below T10 m 49 #[lv x1, .second, lv x2, .second, lv x3, .second, iv x4, rv b1, .unset, .unset, .unset, .unset, .unset, .unset, .unset, .unset] [(.int (x4 &&& (1 : Int32)))] tz := fun tz kt => by
          show oS p e below T10 m 49 #[lv x1, .second, lv x2, .second, lv x3, .second, iv x4, rv b1, .unset, .unset, .unset, .unset, .unset, .unset, .unset, .unset] [(.int (x4 &&& (1 : Int32)))] _
          refine XS.ifYes X10.here hx rfl (pc0 := 49) (pc' := 56) rfl (hb hby at_49) rfl ((if0 _ _).trans (teq hc49).1) (by decide) (by decide) ?_
          refine XS.iconst X10.here hx rfl (hb hby at_56) ?_
          exact kt
        exact ⟨(0 : Int32), T10, _, (by rw [if_pos hc49]), N10, X10, rfl, fun tz kt => (pre16 _ kt)⟩
      · have pre17 : ∀ tz, oS p e below T10 m 57 #[lv x1, .second, lv x2, .second, lv x3, .second, iv x4, rv b1, .unset, .unset, .unset, .unset, .unset, .unset, .unset, .unset] [(.int (1 : Int32))] tz → oS p e below T10 m 49 #[lv x1, .second, lv x2, .second, lv x3, .second, iv x4, rv b1, .unset, .unset, .unset, .unset, .unset, .unset, .unset, .unset] [(.int (x4 &&& (1 : Int32)))] tz := fun tz kt => by
          show oS p e below T10 m 49 #[lv x1, .second, lv x2, .second, lv x3, .second, iv x4, rv b1, .unset, .unset, .unset, .unset, .unset, .unset, .unset, .unset] [(.int (x4 &&& (1 : Int32)))] _
          refine XS.ifNo X10.here hx rfl (hb hby at_49) rfl ((if0 _ _).trans (feq hc49).1) ?_
          refine XS.iconst X10.here hx rfl (hb hby at_52) ?_
          refine XS.goto X10.here hx rfl (pc0 := 53) (pc' := 57) rfl (hb hby at_53) (by decide) (by decide) ?_
          exact kt
        exact ⟨(1 : Int32), T10, _, (by rw [if_neg hc49]), N10, X10, rfl, fun tz kt => (pre17 _ kt)⟩)
  have hv57 : v57 = (if (x4 &&& (1 : Int32)) = (0 : Int32) then (0 : Int32) else (1 : Int32)) := jv18
  have pre19 : ∀ tz, oS p e below T18 m 63 #[lv x1, .second, lv x2, .second, lv x3, .second, iv x4, rv b1, iv v57, .unset, .unset, .unset, .unset, .unset, .unset, .unset] [(.int (x4 &&& (2 : Int32)))] tz → oS p e below T10 m 49 #[lv x1, .second, lv x2, .second, lv x3, .second, iv x4, rv b1, .unset, .unset, .unset, .unset, .unset, .unset, .unset, .unset] [(.int (x4 &&& (1 : Int32)))] tz := fun tz kt => by
    show oS p e below T10 m 49 #[lv x1, .second, lv x2, .second, lv x3, .second, iv x4, rv b1, .unset, .unset, .unset, .unset, .unset, .unset, .unset, .unset] [(.int (x4 &&& (1 : Int32)))] _
    refine st18 _ ?_
    refine XS.istore X18.here hx rfl (hb hby at_57) rfl (l' := #[lv x1, .second, lv x2, .second, lv x3, .second, iv x4, rv b1, iv v57, .unset, .unset, .unset, .unset, .unset, .unset, .unset]) rfl ?_
    refine XS.iload X18.here hx rfl (hb hby at_59) rfl ?_
    refine XS.iconst X18.here hx rfl (hb hby at_61) ?_
    show oS p e below T18 m 62 #[lv x1, .second, lv x2, .second, lv x3, .second, iv x4, rv b1, iv v57, .unset, .unset, .unset, .unset, .unset, .unset, .unset] [(.int (2 : Int32)), (.int x4)] _
    refine XS.iand X18.here hx rfl (hb hby at_62) rfl ?_
    exact kt
  obtain ⟨v71, T22, Lj22, jv22, N22, X22, e22, st22⟩ := own_join (α := Int32) X18 N18 e18 (mkF m 63 #[lv x1, .second, lv x2, .second, lv x3, .second, iv x4, rv b1, iv v57, .unset, .unset, .unset, .unset, .unset, .unset, .unset] [(.int (x4 &&& (2 : Int32)))]) (fun v => (mkF m 71 #[lv x1, .second, lv x2, .second, lv x3, .second, iv x4, rv b1, iv v57, .unset, .unset, .unset, .unset, .unset, .unset, .unset] [(.int v)])) (fun v => v = (if (x4 &&& (2 : Int32)) = (0 : Int32) then (0 : Int32) else (1 : Int32))) (by
      by_cases hc63 : (x4 &&& (2 : Int32)) = (0 : Int32)
      · have pre20 : ∀ tz, oS p e below T18 m 71 #[lv x1, .second, lv x2, .second, lv x3, .second, iv x4, rv b1, iv v57, .unset, .unset, .unset, .unset, .unset, .unset, .unset] [(.int (0 : Int32))] tz → oS p e below T18 m 63 #[lv x1, .second, lv x2, .second, lv x3, .second, iv x4, rv b1, iv v57, .unset, .unset, .unset, .unset, .unset, .unset, .unset] [(.int (x4 &&& (2 : Int32)))] tz := fun tz kt => by
          show oS p e below T18 m 63 #[lv x1, .second, lv x2, .second, lv x3, .second, iv x4, rv b1, iv v57, .unset, .unset, .unset, .unset, .unset, .unset, .unset] [(.int (x4 &&& (2 : Int32)))] _
          refine XS.ifYes X18.here hx rfl (pc0 := 63) (pc' := 70) rfl (hb hby at_63) rfl ((if0 _ _).trans (teq hc63).1) (by decide) (by decide) ?_
          refine XS.iconst X18.here hx rfl (hb hby at_70) ?_
          exact kt
        exact ⟨(0 : Int32), T18, _, (by rw [if_pos hc63]), N18, X18, e18, fun tz kt => (pre20 _ kt)⟩
      · have pre21 : ∀ tz, oS p e below T18 m 71 #[lv x1, .second, lv x2, .second, lv x3, .second, iv x4, rv b1, iv v57, .unset, .unset, .unset, .unset, .unset, .unset, .unset] [(.int (1 : Int32))] tz → oS p e below T18 m 63 #[lv x1, .second, lv x2, .second, lv x3, .second, iv x4, rv b1, iv v57, .unset, .unset, .unset, .unset, .unset, .unset, .unset] [(.int (x4 &&& (2 : Int32)))] tz := fun tz kt => by
          show oS p e below T18 m 63 #[lv x1, .second, lv x2, .second, lv x3, .second, iv x4, rv b1, iv v57, .unset, .unset, .unset, .unset, .unset, .unset, .unset] [(.int (x4 &&& (2 : Int32)))] _
          refine XS.ifNo X18.here hx rfl (hb hby at_63) rfl ((if0 _ _).trans (feq hc63).1) ?_
          refine XS.iconst X18.here hx rfl (hb hby at_66) ?_
          refine XS.goto X18.here hx rfl (pc0 := 67) (pc' := 71) rfl (hb hby at_67) (by decide) (by decide) ?_
          exact kt
        exact ⟨(1 : Int32), T18, _, (by rw [if_neg hc63]), N18, X18, e18, fun tz kt => (pre21 _ kt)⟩)
  have hv71 : v71 = (if (x4 &&& (2 : Int32)) = (0 : Int32) then (0 : Int32) else (1 : Int32)) := jv22
  have pre23 : ∀ tz, oS p e below T22 m 77 #[lv x1, .second, lv x2, .second, lv x3, .second, iv x4, rv b1, iv v57, iv v71, .unset, .unset, .unset, .unset, .unset, .unset] [(.int (x4 &&& (4 : Int32)))] tz → oS p e below T18 m 63 #[lv x1, .second, lv x2, .second, lv x3, .second, iv x4, rv b1, iv v57, .unset, .unset, .unset, .unset, .unset, .unset, .unset] [(.int (x4 &&& (2 : Int32)))] tz := fun tz kt => by
    show oS p e below T18 m 63 #[lv x1, .second, lv x2, .second, lv x3, .second, iv x4, rv b1, iv v57, .unset, .unset, .unset, .unset, .unset, .unset, .unset] [(.int (x4 &&& (2 : Int32)))] _
    refine st22 _ ?_
    refine XS.istore X22.here hx rfl (hb hby at_71) rfl (l' := #[lv x1, .second, lv x2, .second, lv x3, .second, iv x4, rv b1, iv v57, iv v71, .unset, .unset, .unset, .unset, .unset, .unset]) rfl ?_
    refine XS.iload X22.here hx rfl (hb hby at_73) rfl ?_
    refine XS.iconst X22.here hx rfl (hb hby at_75) ?_
    show oS p e below T22 m 76 #[lv x1, .second, lv x2, .second, lv x3, .second, iv x4, rv b1, iv v57, iv v71, .unset, .unset, .unset, .unset, .unset, .unset] [(.int (4 : Int32)), (.int x4)] _
    refine XS.iand X22.here hx rfl (hb hby at_76) rfl ?_
    exact kt
  obtain ⟨v85, T26, Lj26, jv26, N26, X26, e26, st26⟩ := own_join (α := Int32) X22 N22 e22 (mkF m 77 #[lv x1, .second, lv x2, .second, lv x3, .second, iv x4, rv b1, iv v57, iv v71, .unset, .unset, .unset, .unset, .unset, .unset] [(.int (x4 &&& (4 : Int32)))]) (fun v => (mkF m 85 #[lv x1, .second, lv x2, .second, lv x3, .second, iv x4, rv b1, iv v57, iv v71, .unset, .unset, .unset, .unset, .unset, .unset] [(.int v)])) (fun v => v = (if (x4 &&& (4 : Int32)) = (0 : Int32) then (0 : Int32) else (1 : Int32))) (by
      by_cases hc77 : (x4 &&& (4 : Int32)) = (0 : Int32)
      · have pre24 : ∀ tz, oS p e below T22 m 85 #[lv x1, .second, lv x2, .second, lv x3, .second, iv x4, rv b1, iv v57, iv v71, .unset, .unset, .unset, .unset, .unset, .unset] [(.int (0 : Int32))] tz → oS p e below T22 m 77 #[lv x1, .second, lv x2, .second, lv x3, .second, iv x4, rv b1, iv v57, iv v71, .unset, .unset, .unset, .unset, .unset, .unset] [(.int (x4 &&& (4 : Int32)))] tz := fun tz kt => by
          show oS p e below T22 m 77 #[lv x1, .second, lv x2, .second, lv x3, .second, iv x4, rv b1, iv v57, iv v71, .unset, .unset, .unset, .unset, .unset, .unset] [(.int (x4 &&& (4 : Int32)))] _
          refine XS.ifYes X22.here hx rfl (pc0 := 77) (pc' := 84) rfl (hb hby at_77) rfl ((if0 _ _).trans (teq hc77).1) (by decide) (by decide) ?_
          refine XS.iconst X22.here hx rfl (hb hby at_84) ?_
          exact kt
        exact ⟨(0 : Int32), T22, _, (by rw [if_pos hc77]), N22, X22, e22, fun tz kt => (pre24 _ kt)⟩
      · have pre25 : ∀ tz, oS p e below T22 m 85 #[lv x1, .second, lv x2, .second, lv x3, .second, iv x4, rv b1, iv v57, iv v71, .unset, .unset, .unset, .unset, .unset, .unset] [(.int (1 : Int32))] tz → oS p e below T22 m 77 #[lv x1, .second, lv x2, .second, lv x3, .second, iv x4, rv b1, iv v57, iv v71, .unset, .unset, .unset, .unset, .unset, .unset] [(.int (x4 &&& (4 : Int32)))] tz := fun tz kt => by
          show oS p e below T22 m 77 #[lv x1, .second, lv x2, .second, lv x3, .second, iv x4, rv b1, iv v57, iv v71, .unset, .unset, .unset, .unset, .unset, .unset] [(.int (x4 &&& (4 : Int32)))] _
          refine XS.ifNo X22.here hx rfl (hb hby at_77) rfl ((if0 _ _).trans (feq hc77).1) ?_
          refine XS.iconst X22.here hx rfl (hb hby at_80) ?_
          refine XS.goto X22.here hx rfl (pc0 := 81) (pc' := 85) rfl (hb hby at_81) (by decide) (by decide) ?_
          exact kt
        exact ⟨(1 : Int32), T22, _, (by rw [if_neg hc77]), N22, X22, e22, fun tz kt => (pre25 _ kt)⟩)
  have hv85 : v85 = (if (x4 &&& (4 : Int32)) = (0 : Int32) then (0 : Int32) else (1 : Int32)) := jv26
  have pre27 : ∀ tz, oS p e below T26 m 89 #[lv x1, .second, lv x2, .second, lv x3, .second, iv x4, rv b1, iv v57, iv v71, iv v85, .unset, .unset, .unset, .unset, .unset] [(.int v57)] tz → oS p e below T22 m 77 #[lv x1, .second, lv x2, .second, lv x3, .second, iv x4, rv b1, iv v57, iv v71, .unset, .unset, .unset, .unset, .unset, .unset] [(.int (x4 &&& (4 : Int32)))] tz := fun tz kt => by
    show oS p e below T22 m 77 #[lv x1, .second, lv x2, .second, lv x3, .second, iv x4, rv b1, iv v57, iv v71, .unset, .unset, .unset, .unset, .unset, .unset] [(.int (x4 &&& (4 : Int32)))] _
    refine st26 _ ?_
    refine XS.istore X26.here hx rfl (hb hby at_85) rfl (l' := #[lv x1, .second, lv x2, .second, lv x3, .second, iv x4, rv b1, iv v57, iv v71, iv v85, .unset, .unset, .unset, .unset, .unset]) rfl ?_
    refine XS.iload X26.here hx rfl (hb hby at_87) rfl ?_
    exact kt
  obtain ⟨v98, T35, h35, Lj35, jv35, N35, X35, e35, st35⟩ := own_joinH (α := Int32) X26 N26 e26 (mkF m 89 #[lv x1, .second, lv x2, .second, lv x3, .second, iv x4, rv b1, iv v57, iv v71, iv v85, .unset, .unset, .unset, .unset, .unset] [(.int v57)]) (fun v => (mkF m 98 #[lv x1, .second, lv x2, .second, lv x3, .second, iv x4, rv b1, iv v57, iv v71, iv v85, .unset, .unset, .unset, .unset, .unset] [])) (fun v h => v = (if v57 = (0 : Int32) then (1 : Int32) else (2 : Int32)) ∧ Keep T10.heap h [ar54] ∧ Arv Z h ar54 kz54 .byte (1024 : Int32) [(.int v), (.int (1 : Int32)), (.int (1 : Int32))] (.int (0 : Int32))) (by
      by_cases hc89 : v57 = (0 : Int32)
      · have pre28 : ∀ tz, oS p e below T26 m 98 #[lv x1, .second, lv x2, .second, lv x3, .second, iv x4, rv b1, iv v57, iv v71, iv v85, .unset, .unset, .unset, .unset, .unset] [] tz → oS p e below T26 m 89 #[lv x1, .second, lv x2, .second, lv x3, .second, iv x4, rv b1, iv v57, iv v71, iv v85, .unset, .unset, .unset, .unset, .unset] [(.int v57)] tz := fun tz kt => by
          show oS p e below T26 m 89 #[lv x1, .second, lv x2, .second, lv x3, .second, iv x4, rv b1, iv v57, iv v71, iv v85, .unset, .unset, .unset, .unset, .unset] [(.int v57)] _
          refine XS.ifYes X26.here hx rfl (pc0 := 89) (pc' := 98) rfl (hb hby at_89) rfl ((if0 _ _).trans (teq hc89).1) (by decide) (by decide) ?_
          exact kt
        exact ⟨(1 : Int32), T26, T10.heap, _, ⟨(by first | rfl | simp only [if_pos hc89] | (simp only [if_pos hc89]; decide)), (Keep.refl T10.heap [ar54]), pf10_23⟩, N26, X26, e26, fun tz kt => (pre28 _ kt)⟩
      · have Ec30 : Exa Z T10.heap b1 oz0 := (Ec11.keep K10)
        have Vc31 : Arv Z T10.heap cs2 kc2 (.object oz1) (1 : Int32) [(.ref ch4)] .null := (Vc12.keep K10 (ninS (Ne.symm ne_b1_cs2) (ninS ne_cs2_ch4 (ninS pf2_2 (ninS ne_cs2_ar04 (ninS ne_cs2_ar14 (ninS ne_cs2_ar24 (ninS ne_cs2_ar34 (ninS ne_cs2_ar44 (ninS ne_cs2_ar54 nin0))))))))))
        have Ec32 : Exa Z T10.heap ch4 oz1 := (Ec13.keep K10)
        have Zc33 : n0 ≤ T10.heap.size := (Nat.le_trans Zc14 K10.1)
        obtain ⟨cq29, kq29, q29a, q29b, q29c⟩ := isOf hZ e26 Ec30
        obtain ⟨_, _, ⟨T29, Lw29, kw29, nw29⟩, -, X29, ⟨Lc29, hQ29, l29, y29, z29⟩, st29⟩ := X26.virtualBack hx (y := (⟨oz0, "markLeased", "(I)V"⟩ : MethodName)) (z := (⟨oz0, "markLeased", "(I)V"⟩ : MethodName)) hown (mvT hZ (own_w hw 84 rfl)) (mvT hZ (own_w hw 85 rfl)) (notFace_of_selects (args := #[]) (mvT hZ (own_w hw 87 rfl))) (mvT hZ (own_w hw 87 rfl)) (mvT hZ (own_w hw 86 rfl)) (by decide) (backOf (W := 0) (rmML0 l Z a0 hw [] b1 cs2 kc2 ch4 ar54 kz54 (1 : Int32) (1 : Int32) (1 : Int32) T10.heap n0 Zc33 Ec30 pf10_0 pf10_5 Vc31 Ec32 pf10_17 pf10_23 pf4_14) hZ (own_w hw 88 rfl) (own_w hw 2 rfl) (by decide) (by decide)) q29a q29c (g := (mkF m 95 #[lv x1, .second, lv x2, .second, lv x3, .second, iv x4, rv b1, iv v57, iv v71, iv v85, .unset, .unset, .unset, .unset, .unset] [(.int (0 : Int32)), (.ref b1)])) rfl (by rw [hml]; rfl) (Steps.refl _) (argsL := [(.int (0 : Int32))]) (rest := []) (lenOf own_pd8 rfl) rfl (by show 2 * 0 + _ ≤ _; exact Nat.le_of_eq rfl) (hb hby at_95) (fun _ _ => ⟨rfl, e26, (by decide : 10 + 0 ≤ _), (by decide : 6178 + 0 ≤ _)⟩)
        dsimp only [Pt.U, Pt.locs, Pt.cells, Pt.slots] at X29 l29 y29 z29 st29 hQ29
        subst l29 y29 z29
        obtain ⟨rfl, Nq29, K29, pf29_0⟩ := hQ29
        have N29 := Fr.app N26 Nq29
        have pre34 : ∀ tz, oS p e below T29 m 98 #[lv x1, .second, lv x2, .second, lv x3, .second, iv x4, rv b1, iv v57, iv v71, iv v85, .unset, .unset, .unset, .unset, .unset] [] tz → oS p e below T26 m 89 #[lv x1, .second, lv x2, .second, lv x3, .second, iv x4, rv b1, iv v57, iv v71, iv v85, .unset, .unset, .unset, .unset, .unset] [(.int v57)] tz := fun tz kt => by
          show oS p e below T26 m 89 #[lv x1, .second, lv x2, .second, lv x3, .second, iv x4, rv b1, iv v57, iv v71, iv v85, .unset, .unset, .unset, .unset, .unset] [(.int v57)] _
          refine XS.ifNo X26.here hx rfl (hb hby at_89) rfl ((if0 _ _).trans (feq hc89).1) ?_
          refine XS.aload X26.here hx rfl (hb hby at_92) rfl rfl ?_
          refine XS.iconst X26.here hx rfl (hb hby at_94) ?_
          show oS p e below T26 m 95 #[lv x1, .second, lv x2, .second, lv x3, .second, iv x4, rv b1, iv v57, iv v71, iv v85, .unset, .unset, .unset, .unset, .unset] [(.int (0 : Int32)), (.ref b1)] _
          refine st29.trans ?_
          exact kt
        exact ⟨(2 : Int32), T29, T29.heap, _, ⟨(by first | rfl | simp only [if_neg hc89] | (simp only [if_neg hc89]; decide)), ((Keep.refl T10.heap [ar54]).trans K29 (allS (Or.inl (List.mem_of_getElem? (i := 0) rfl)) all0)), pf29_0⟩, N29, X29, rfl, fun tz kt => (pre34 _ kt)⟩)
  obtain ⟨jq35_0, K35, jf35_0⟩ := jv35
  have hv98 : v98 = (if v57 = (0 : Int32) then (1 : Int32) else (2 : Int32)) := jq35_0
  have jg35_0 : Arv Z h35 ar54 kz54 .byte (1024 : Int32) [(.int v98), (.int (1 : Int32)), (.int (1 : Int32))] (.int (0 : Int32)) := jf35_0
  have pre36 : ∀ tz, oS p e below T35 m 100 #[lv x1, .second, lv x2, .second, lv x3, .second, iv x4, rv b1, iv v57, iv v71, iv v85, .unset, .unset, .unset, .unset, .unset] [(.int v71)] tz → oS p e below T26 m 89 #[lv x1, .second, lv x2, .second, lv x3, .second, iv x4, rv b1, iv v57, iv v71, iv v85, .unset, .unset, .unset, .unset, .unset] [(.int v57)] tz := fun tz kt => by
    show oS p e below T26 m 89 #[lv x1, .second, lv x2, .second, lv x3, .second, iv x4, rv b1, iv v57, iv v71, iv v85, .unset, .unset, .unset, .unset, .unset] [(.int v57)] _
    refine st35 _ ?_
    refine XS.iload X35.here hx rfl (hb hby at_98) rfl ?_
    exact kt
  obtain ⟨v109, T48, h48, Lj48, jv48, N48, X48, e48, st48⟩ := own_joinH (α := Int32) X35 N35 e35 (mkF m 100 #[lv x1, .second, lv x2, .second, lv x3, .second, iv x4, rv b1, iv v57, iv v71, iv v85, .unset, .unset, .unset, .unset, .unset] [(.int v71)]) (fun v => (mkF m 109 #[lv x1, .second, lv x2, .second, lv x3, .second, iv x4, rv b1, iv v57, iv v71, iv v85, .unset, .unset, .unset, .unset, .unset] [])) (fun v h => v = (if v71 = (0 : Int32) then (1 : Int32) else (2 : Int32)) ∧ Keep h35 h [ar54] ∧ Arv Z h ar54 kz54 .byte (1024 : Int32) [(.int v98), (.int v), (.int (1 : Int32))] (.int (0 : Int32))) (by
      by_cases hc100 : v71 = (0 : Int32)
      · have pre37 : ∀ tz, oS p e below T35 m 109 #[lv x1, .second, lv x2, .second, lv x3, .second, iv x4, rv b1, iv v57, iv v71, iv v85, .unset, .unset, .unset, .unset, .unset] [] tz → oS p e below T35 m 100 #[lv x1, .second, lv x2, .second, lv x3, .second, iv x4, rv b1, iv v57, iv v71, iv v85, .unset, .unset, .unset, .unset, .unset] [(.int v71)] tz := fun tz kt => by
          show oS p e below T35 m 100 #[lv x1, .second, lv x2, .second, lv x3, .second, iv x4, rv b1, iv v57, iv v71, iv v85, .unset, .unset, .unset, .unset, .unset] [(.int v71)] _
          refine XS.ifYes X35.here hx rfl (pc0 := 100) (pc' := 109) rfl (hb hby at_100) rfl ((if0 _ _).trans (teq hc100).1) (by decide) (by decide) ?_
          exact kt
        exact ⟨(1 : Int32), T35, h35, _, ⟨(by first | rfl | simp only [if_pos hc100] | (simp only [if_pos hc100]; decide)), (Keep.refl h35 [ar54]), jg35_0⟩, N35, X35, e35, fun tz kt => (pre37 _ kt)⟩
      · have Ec39 : Exa Z h35 b1 oz0 := ((Ec11.keep K10).keep K35)
        have Fc40 : Fld Z h35 b1 oz0 "chunks" oz2 (.ref cs2) := (pf10_0.keep K35 (ninS ne_b1_ar54 nin0))
        have Fc41 : Fld Z h35 b1 oz0 "firstChunk" "I" (.int (0 : Int32)) := (pf10_5.keep K35 (ninS ne_b1_ar54 nin0))
        have Vc42 : Arv Z h35 cs2 kc2 (.object oz1) (1 : Int32) [(.ref ch4)] .null := ((Vc12.keep K10 (ninS (Ne.symm ne_b1_cs2) (ninS ne_cs2_ch4 (ninS pf2_2 (ninS ne_cs2_ar04 (ninS ne_cs2_ar14 (ninS ne_cs2_ar24 (ninS ne_cs2_ar34 (ninS ne_cs2_ar44 (ninS ne_cs2_ar54 nin0)))))))))).keep K35 (ninS ne_cs2_ar54 nin0))
        have Ec43 : Exa Z h35 ch4 oz1 := ((Ec13.keep K10).keep K35)
        obtain ⟨_, Arn44, -⟩ := id jg35_0
        have ne44 : ch4 ≠ ar54 := ne_arr Ec43 (own_w hw 32 rfl) Arn44
        have Fc45 : Fld Z h35 ch4 oz1 "states" "[B" (.ref ar54) := (pf10_17.keep K35 (ninS ne44 nin0))
        have Zc46 : n0 ≤ h35.size := (Nat.le_trans (Nat.le_trans Zc14 K10.1) K35.1)
        obtain ⟨cq38, kq38, q38a, q38b, q38c⟩ := isOf hZ e35 Ec39
        obtain ⟨_, _, ⟨T38, Lw38, kw38, nw38⟩, -, X38, ⟨Lc38, hQ38, l38, y38, z38⟩, st38⟩ := X35.virtualBack hx (y := (⟨oz0, "markLeased", "(I)V"⟩ : MethodName)) (z := (⟨oz0, "markLeased", "(I)V"⟩ : MethodName)) hown (mvT hZ (own_w hw 84 rfl)) (mvT hZ (own_w hw 85 rfl)) (notFace_of_selects (args := #[]) (mvT hZ (own_w hw 87 rfl))) (mvT hZ (own_w hw 87 rfl)) (mvT hZ (own_w hw 86 rfl)) (by decide) (backOf (W := 0) (rmML1 l Z a0 hw [] b1 cs2 kc2 ch4 ar54 kz54 v98 (1 : Int32) (1 : Int32) h35 n0 Zc46 Ec39 Fc40 Fc41 Vc42 Ec43 Fc45 jg35_0 pf4_14) hZ (own_w hw 88 rfl) (own_w hw 2 rfl) (by decide) (by decide)) q38a q38c (g := (mkF m 106 #[lv x1, .second, lv x2, .second, lv x3, .second, iv x4, rv b1, iv v57, iv v71, iv v85, .unset, .unset, .unset, .unset, .unset] [(.int (1 : Int32)), (.ref b1)])) rfl (by rw [hml]; rfl) (Steps.refl _) (argsL := [(.int (1 : Int32))]) (rest := []) (lenOf own_pd8 rfl) rfl (by show 2 * 0 + _ ≤ _; exact Nat.le_of_eq rfl) (hb hby at_106) (fun _ _ => ⟨rfl, e35, (by decide : 10 + 0 ≤ _), (by decide : 6178 + 0 ≤ _)⟩)
        dsimp only [Pt.U, Pt.locs, Pt.cells, Pt.slots] at X38 l38 y38 z38 st38 hQ38
        subst l38 y38 z38
        obtain ⟨rfl, Nq38, K38, pf38_0⟩ := hQ38
        have N38 := Fr.app N35 Nq38
        have pre47 : ∀ tz, oS p e below T38 m 109 #[lv x1, .second, lv x2, .second, lv x3, .second, iv x4, rv b1, iv v57, iv v71, iv v85, .unset, .unset, .unset, .unset, .unset] [] tz → oS p e below T35 m 100 #[lv x1, .second, lv x2, .second, lv x3, .second, iv x4, rv b1, iv v57, iv v71, iv v85, .unset, .unset, .unset, .unset, .unset] [(.int v71)] tz := fun tz kt => by
          show oS p e below T35 m 100 #[lv x1, .second, lv x2, .second, lv x3, .second, iv x4, rv b1, iv v57, iv v71, iv v85, .unset, .unset, .unset, .unset, .unset] [(.int v71)] _
          refine XS.ifNo X35.here hx rfl (hb hby at_100) rfl ((if0 _ _).trans (feq hc100).1) ?_
          refine XS.aload X35.here hx rfl (hb hby at_103) rfl rfl ?_
          refine XS.iconst X35.here hx rfl (hb hby at_105) ?_
          show oS p e below T35 m 106 #[lv x1, .second, lv x2, .second, lv x3, .second, iv x4, rv b1, iv v57, iv v71, iv v85, .unset, .unset, .unset, .unset, .unset] [(.int (1 : Int32)), (.ref b1)] _
          refine st38.trans ?_
          exact kt
        exact ⟨(2 : Int32), T38, T38.heap, _, ⟨(by first | rfl | simp only [if_neg hc100] | (simp only [if_neg hc100]; decide)), ((Keep.refl h35 [ar54]).trans K38 (allS (Or.inl (List.mem_of_getElem? (i := 0) rfl)) all0)), pf38_0⟩, N38, X38, rfl, fun tz kt => (pre47 _ kt)⟩)
  obtain ⟨jq48_0, K48, jf48_0⟩ := jv48
  have hv109 : v109 = (if v71 = (0 : Int32) then (1 : Int32) else (2 : Int32)) := jq48_0
  have jg48_0 : Arv Z h48 ar54 kz54 .byte (1024 : Int32) [(.int v98), (.int v109), (.int (1 : Int32))] (.int (0 : Int32)) := jf48_0
  have pre49 : ∀ tz, oS p e below T48 m 111 #[lv x1, .second, lv x2, .second, lv x3, .second, iv x4, rv b1, iv v57, iv v71, iv v85, .unset, .unset, .unset, .unset, .unset] [(.int v85)] tz → oS p e below T35 m 100 #[lv x1, .second, lv x2, .second, lv x3, .second, iv x4, rv b1, iv v57, iv v71, iv v85, .unset, .unset, .unset, .unset, .unset] [(.int v71)] tz := fun tz kt => by
    show oS p e below T35 m 100 #[lv x1, .second, lv x2, .second, lv x3, .second, iv x4, rv b1, iv v57, iv v71, iv v85, .unset, .unset, .unset, .unset, .unset] [(.int v71)] _
    refine st48 _ ?_
    refine XS.iload X48.here hx rfl (hb hby at_109) rfl ?_
    exact kt
  obtain ⟨v120, T61, h61, Lj61, jv61, N61, X61, e61, st61⟩ := own_joinH (α := Int32) X48 N48 e48 (mkF m 111 #[lv x1, .second, lv x2, .second, lv x3, .second, iv x4, rv b1, iv v57, iv v71, iv v85, .unset, .unset, .unset, .unset, .unset] [(.int v85)]) (fun v => (mkF m 120 #[lv x1, .second, lv x2, .second, lv x3, .second, iv x4, rv b1, iv v57, iv v71, iv v85, .unset, .unset, .unset, .unset, .unset] [])) (fun v h => v = (if v85 = (0 : Int32) then (1 : Int32) else (2 : Int32)) ∧ Keep h48 h [ar54] ∧ Arv Z h ar54 kz54 .byte (1024 : Int32) [(.int v98), (.int v109), (.int v)] (.int (0 : Int32))) (by
      by_cases hc111 : v85 = (0 : Int32)
      · have pre50 : ∀ tz, oS p e below T48 m 120 #[lv x1, .second, lv x2, .second, lv x3, .second, iv x4, rv b1, iv v57, iv v71, iv v85, .unset, .unset, .unset, .unset, .unset] [] tz → oS p e below T48 m 111 #[lv x1, .second, lv x2, .second, lv x3, .second, iv x4, rv b1, iv v57, iv v71, iv v85, .unset, .unset, .unset, .unset, .unset] [(.int v85)] tz := fun tz kt => by
          show oS p e below T48 m 111 #[lv x1, .second, lv x2, .second, lv x3, .second, iv x4, rv b1, iv v57, iv v71, iv v85, .unset, .unset, .unset, .unset, .unset] [(.int v85)] _
          refine XS.ifYes X48.here hx rfl (pc0 := 111) (pc' := 120) rfl (hb hby at_111) rfl ((if0 _ _).trans (teq hc111).1) (by decide) (by decide) ?_
          exact kt
        exact ⟨(1 : Int32), T48, h48, _, ⟨(by first | rfl | simp only [if_pos hc111] | (simp only [if_pos hc111]; decide)), (Keep.refl h48 [ar54]), jg48_0⟩, N48, X48, e48, fun tz kt => (pre50 _ kt)⟩
      · have Ec52 : Exa Z h48 b1 oz0 := (((Ec11.keep K10).keep K35).keep K48)
        have Fc53 : Fld Z h48 b1 oz0 "chunks" oz2 (.ref cs2) := ((pf10_0.keep K35 (ninS ne_b1_ar54 nin0)).keep K48 (ninS ne_b1_ar54 nin0))
        have Fc54 : Fld Z h48 b1 oz0 "firstChunk" "I" (.int (0 : Int32)) := ((pf10_5.keep K35 (ninS ne_b1_ar54 nin0)).keep K48 (ninS ne_b1_ar54 nin0))
        have Vc55 : Arv Z h48 cs2 kc2 (.object oz1) (1 : Int32) [(.ref ch4)] .null := (((Vc12.keep K10 (ninS (Ne.symm ne_b1_cs2) (ninS ne_cs2_ch4 (ninS pf2_2 (ninS ne_cs2_ar04 (ninS ne_cs2_ar14 (ninS ne_cs2_ar24 (ninS ne_cs2_ar34 (ninS ne_cs2_ar44 (ninS ne_cs2_ar54 nin0)))))))))).keep K35 (ninS ne_cs2_ar54 nin0)).keep K48 (ninS ne_cs2_ar54 nin0))
        have Ec56 : Exa Z h48 ch4 oz1 := (((Ec13.keep K10).keep K35).keep K48)
        obtain ⟨_, Arn57, -⟩ := id jg48_0
        have ne57 : ch4 ≠ ar54 := ne_arr Ec56 (own_w hw 32 rfl) Arn57
        have Fc58 : Fld Z h48 ch4 oz1 "states" "[B" (.ref ar54) := ((pf10_17.keep K35 (ninS ne57 nin0)).keep K48 (ninS ne57 nin0))
        have Zc59 : n0 ≤ h48.size := (Nat.le_trans (Nat.le_trans (Nat.le_trans Zc14 K10.1) K35.1) K48.1)
        obtain ⟨cq51, kq51, q51a, q51b, q51c⟩ := isOf hZ e48 Ec52
        obtain ⟨_, _, ⟨T51, Lw51, kw51, nw51⟩, -, X51, ⟨Lc51, hQ51, l51, y51, z51⟩, st51⟩ := X48.virtualBack hx (y := (⟨oz0, "markLeased", "(I)V"⟩ : MethodName)) (z := (⟨oz0, "markLeased", "(I)V"⟩ : MethodName)) hown (mvT hZ (own_w hw 84 rfl)) (mvT hZ (own_w hw 85 rfl)) (notFace_of_selects (args := #[]) (mvT hZ (own_w hw 87 rfl))) (mvT hZ (own_w hw 87 rfl)) (mvT hZ (own_w hw 86 rfl)) (by decide) (backOf (W := 0) (rmML2 l Z a0 hw [] b1 cs2 kc2 ch4 ar54 kz54 v98 v109 (1 : Int32) h48 n0 Zc59 Ec52 Fc53 Fc54 Vc55 Ec56 Fc58 jg48_0 pf4_14) hZ (own_w hw 88 rfl) (own_w hw 2 rfl) (by decide) (by decide)) q51a q51c (g := (mkF m 117 #[lv x1, .second, lv x2, .second, lv x3, .second, iv x4, rv b1, iv v57, iv v71, iv v85, .unset, .unset, .unset, .unset, .unset] [(.int (2 : Int32)), (.ref b1)])) rfl (by rw [hml]; rfl) (Steps.refl _) (argsL := [(.int (2 : Int32))]) (rest := []) (lenOf own_pd8 rfl) rfl (by show 2 * 0 + _ ≤ _; exact Nat.le_of_eq rfl) (hb hby at_117) (fun _ _ => ⟨rfl, e48, (by decide : 10 + 0 ≤ _), (by decide : 6178 + 0 ≤ _)⟩)
        dsimp only [Pt.U, Pt.locs, Pt.cells, Pt.slots] at X51 l51 y51 z51 st51 hQ51
        subst l51 y51 z51
        obtain ⟨rfl, Nq51, K51, pf51_0⟩ := hQ51
        have N51 := Fr.app N48 Nq51
        have pre60 : ∀ tz, oS p e below T51 m 120 #[lv x1, .second, lv x2, .second, lv x3, .second, iv x4, rv b1, iv v57, iv v71, iv v85, .unset, .unset, .unset, .unset, .unset] [] tz → oS p e below T48 m 111 #[lv x1, .second, lv x2, .second, lv x3, .second, iv x4, rv b1, iv v57, iv v71, iv v85, .unset, .unset, .unset, .unset, .unset] [(.int v85)] tz := fun tz kt => by
          show oS p e below T48 m 111 #[lv x1, .second, lv x2, .second, lv x3, .second, iv x4, rv b1, iv v57, iv v71, iv v85, .unset, .unset, .unset, .unset, .unset] [(.int v85)] _
          refine XS.ifNo X48.here hx rfl (hb hby at_111) rfl ((if0 _ _).trans (feq hc111).1) ?_
          refine XS.aload X48.here hx rfl (hb hby at_114) rfl rfl ?_
          refine XS.iconst X48.here hx rfl (hb hby at_116) ?_
          show oS p e below T48 m 117 #[lv x1, .second, lv x2, .second, lv x3, .second, iv x4, rv b1, iv v57, iv v71, iv v85, .unset, .unset, .unset, .unset, .unset] [(.int (2 : Int32)), (.ref b1)] _
          refine st51.trans ?_
          exact kt
        exact ⟨(2 : Int32), T51, T51.heap, _, ⟨(by first | rfl | simp only [if_neg hc111] | (simp only [if_neg hc111]; decide)), ((Keep.refl h48 [ar54]).trans K51 (allS (Or.inl (List.mem_of_getElem? (i := 0) rfl)) all0)), pf51_0⟩, N51, X51, rfl, fun tz kt => (pre60 _ kt)⟩)
  obtain ⟨jq61_0, K61, jf61_0⟩ := jv61
  have hv120 : v120 = (if v85 = (0 : Int32) then (1 : Int32) else (2 : Int32)) := jq61_0
  have jg61_0 : Arv Z h61 ar54 kz54 .byte (1024 : Int32) [(.int v98), (.int v109), (.int v120)] (.int (0 : Int32)) := jf61_0
  have pre62 : ∀ tz, oS p e below T61 m 125 #[lv x1, .second, lv x2, .second, lv x3, .second, iv x4, rv b1, iv v57, iv v71, iv v85, .unset, .unset, .unset, .unset, .unset] [(.int (x4 &&& (8 : Int32)))] tz → oS p e below T48 m 111 #[lv x1, .second, lv x2, .second, lv x3, .second, iv x4, rv b1, iv v57, iv v71, iv v85, .unset, .unset, .unset, .unset, .unset] [(.int v85)] tz := fun tz kt => by
    show oS p e below T48 m 111 #[lv x1, .second, lv x2, .second, lv x3, .second, iv x4, rv b1, iv v57, iv v71, iv v85, .unset, .unset, .unset, .unset, .unset] [(.int v85)] _
    refine st61 _ ?_
    refine XS.iload X61.here hx rfl (hb hby at_120) rfl ?_
    refine XS.bipush X61.here hx rfl (hb hby at_122) ?_
    refine XS.iand X61.here hx rfl (hb hby at_124) rfl ?_
    exact kt
  obtain ⟨v133, T65, Lj65, jv65, N65, X65, e65, st65⟩ := own_join (α := Int32) X61 N61 e61 (mkF m 125 #[lv x1, .second, lv x2, .second, lv x3, .second, iv x4, rv b1, iv v57, iv v71, iv v85, .unset, .unset, .unset, .unset, .unset] [(.int (x4 &&& (8 : Int32)))]) (fun v => (mkF m 133 #[lv x1, .second, lv x2, .second, lv x3, .second, iv x4, rv b1, iv v57, iv v71, iv v85, .unset, .unset, .unset, .unset, .unset] [(.int v)])) (fun v => v = (if (x4 &&& (8 : Int32)) = (0 : Int32) then (0 : Int32) else (1 : Int32))) (by
      by_cases hc125 : (x4 &&& (8 : Int32)) = (0 : Int32)
      · have pre63 : ∀ tz, oS p e below T61 m 133 #[lv x1, .second, lv x2, .second, lv x3, .second, iv x4, rv b1, iv v57, iv v71, iv v85, .unset, .unset, .unset, .unset, .unset] [(.int (0 : Int32))] tz → oS p e below T61 m 125 #[lv x1, .second, lv x2, .second, lv x3, .second, iv x4, rv b1, iv v57, iv v71, iv v85, .unset, .unset, .unset, .unset, .unset] [(.int (x4 &&& (8 : Int32)))] tz := fun tz kt => by
          show oS p e below T61 m 125 #[lv x1, .second, lv x2, .second, lv x3, .second, iv x4, rv b1, iv v57, iv v71, iv v85, .unset, .unset, .unset, .unset, .unset] [(.int (x4 &&& (8 : Int32)))] _
          refine XS.ifYes X61.here hx rfl (pc0 := 125) (pc' := 132) rfl (hb hby at_125) rfl ((if0 _ _).trans (teq hc125).1) (by decide) (by decide) ?_
          refine XS.iconst X61.here hx rfl (hb hby at_132) ?_
          exact kt
        exact ⟨(0 : Int32), T61, _, (by rw [if_pos hc125]), N61, X61, e61, fun tz kt => (pre63 _ kt)⟩
      · have pre64 : ∀ tz, oS p e below T61 m 133 #[lv x1, .second, lv x2, .second, lv x3, .second, iv x4, rv b1, iv v57, iv v71, iv v85, .unset, .unset, .unset, .unset, .unset] [(.int (1 : Int32))] tz → oS p e below T61 m 125 #[lv x1, .second, lv x2, .second, lv x3, .second, iv x4, rv b1, iv v57, iv v71, iv v85, .unset, .unset, .unset, .unset, .unset] [(.int (x4 &&& (8 : Int32)))] tz := fun tz kt => by
          show oS p e below T61 m 125 #[lv x1, .second, lv x2, .second, lv x3, .second, iv x4, rv b1, iv v57, iv v71, iv v85, .unset, .unset, .unset, .unset, .unset] [(.int (x4 &&& (8 : Int32)))] _
          refine XS.ifNo X61.here hx rfl (hb hby at_125) rfl ((if0 _ _).trans (feq hc125).1) ?_
          refine XS.iconst X61.here hx rfl (hb hby at_128) ?_
          refine XS.goto X61.here hx rfl (pc0 := 129) (pc' := 133) rfl (hb hby at_129) (by decide) (by decide) ?_
          exact kt
        exact ⟨(1 : Int32), T61, _, (by rw [if_neg hc125]), N61, X61, e61, fun tz kt => (pre64 _ kt)⟩)
  have hv133 : v133 = (if (x4 &&& (8 : Int32)) = (0 : Int32) then (0 : Int32) else (1 : Int32)) := jv65
  obtain ⟨y144, hy144⟩ : ∃ z, z = ((((x4.toUInt32 >>> ((4 : Int32) &&& 31).toUInt32).toInt32) &&& (2147483647 : Int32)) % (3 : Int32)) := ⟨_, rfl⟩
  have pre66 : ∀ tz, oS p e below T65 m 148 #[lv x1, .second, lv x2, .second, lv x3, .second, iv x4, rv b1, iv v57, iv v71, iv v85, iv v133, iv y144, .unset, .unset, .unset] [(.int v133)] tz → oS p e below T61 m 125 #[lv x1, .second, lv x2, .second, lv x3, .second, iv x4, rv b1, iv v57, iv v71, iv v85, .unset, .unset, .unset, .unset, .unset] [(.int (x4 &&& (8 : Int32)))] tz := fun tz kt => by
    show oS p e below T61 m 125 #[lv x1, .second, lv x2, .second, lv x3, .second, iv x4, rv b1, iv v57, iv v71, iv v85, .unset, .unset, .unset, .unset, .unset] [(.int (x4 &&& (8 : Int32)))] _
    refine st65 _ ?_
    refine XS.istore X65.here hx rfl (hb hby at_133) rfl (l' := #[lv x1, .second, lv x2, .second, lv x3, .second, iv x4, rv b1, iv v57, iv v71, iv v85, iv v133, .unset, .unset, .unset, .unset]) rfl ?_
    refine XS.iload X65.here hx rfl (hb hby at_135) rfl ?_
    refine XS.iconst X65.here hx rfl (hb hby at_137) ?_
    show oS p e below T65 m 138 #[lv x1, .second, lv x2, .second, lv x3, .second, iv x4, rv b1, iv v57, iv v71, iv v85, iv v133, .unset, .unset, .unset, .unset] [(.int (4 : Int32)), (.int x4)] _
    refine XS.iushr X65.here hx rfl (hb hby at_138) rfl ?_
    refine X65.ldcInt hx hown (mvT hZ (own_w hw 93 rfl)) (g := (mkF m 139 #[lv x1, .second, lv x2, .second, lv x3, .second, iv x4, rv b1, iv v57, iv v71, iv v85, iv v133, .unset, .unset, .unset, .unset] [(.int ((x4.toUInt32 >>> ((4 : Int32) &&& 31).toUInt32).toInt32))])) rfl (hb hby at_139) _ ?_
    refine XS.iand X65.here hx rfl (hb hby at_141) rfl ?_
    refine XS.iconst X65.here hx rfl (hb hby at_142) ?_
    show oS p e below T65 m 143 #[lv x1, .second, lv x2, .second, lv x3, .second, iv x4, rv b1, iv v57, iv v71, iv v85, iv v133, .unset, .unset, .unset, .unset] [(.int (3 : Int32)), (.int (((x4.toUInt32 >>> ((4 : Int32) &&& 31).toUInt32).toInt32) &&& (2147483647 : Int32)))] _
    refine iremM X65 hx rfl (hb hby at_143) rfl (by decide) ?_
    refine XS.istore X65.here hx rfl (hb hby at_144) rfl (l' := #[lv x1, .second, lv x2, .second, lv x3, .second, iv x4, rv b1, iv v57, iv v71, iv v85, iv v133, iv y144, .unset, .unset, .unset]) (by rw [hy144]; rfl) ?_
    refine XS.iload X65.here hx rfl (hb hby at_146) rfl ?_
    exact kt
  have Fc67 : Fld Z h61 b1 oz0 "chunks" oz2 (.ref cs2) := (((pf10_0.keep K35 (ninS ne_b1_ar54 nin0)).keep K48 (ninS ne_b1_ar54 nin0)).keep K61 (ninS ne_b1_ar54 nin0))
  have Fc68 : Fld Z h61 b1 oz0 "firstChunk" "I" (.int (0 : Int32)) := (((pf10_5.keep K35 (ninS ne_b1_ar54 nin0)).keep K48 (ninS ne_b1_ar54 nin0)).keep K61 (ninS ne_b1_ar54 nin0))
  obtain ⟨⟨v184a, v184b, v184c, v184d, v184e, v184f, v184g⟩, T101, h101, Lj101, jv101, N101, X101, e101, st101⟩ := own_joinH (α := Int32 × Int32 × Int32 × Int32 × Int32 × Int32 × Int32) X65 N65 e65 (mkF m 148 #[lv x1, .second, lv x2, .second, lv x3, .second, iv x4, rv b1, iv v57, iv v71, iv v85, iv v133, iv y144, .unset, .unset, .unset] [(.int v133)]) (fun v => (mkF m 184 #[lv x1, .second, lv x2, .second, lv x3, .second, iv x4, rv b1, iv v.1, iv v.2.1, iv v.2.2.1, iv v133, iv v.2.2.2.1, .unset, .unset, .unset] [])) (fun v h => v.1 = (if v133 = (0 : Int32) then v57 else (if y144 = (0 : Int32) then (0 : Int32) else v57)) ∧ v.2.1 = (if v133 = (0 : Int32) then v71 else (if y144 = (0 : Int32) then v71 else (if y144 = (1 : Int32) then (0 : Int32) else v71))) ∧ v.2.2.1 = (if v133 = (0 : Int32) then v85 else (if y144 = (0 : Int32) then v85 else (if y144 = (1 : Int32) then v85 else (0 : Int32)))) ∧ v.2.2.2.1 = (if v133 = (0 : Int32) then y144 else (if y144 = (0 : Int32) then (0 : Int32) else (if y144 = (1 : Int32) then (1 : Int32) else (2 : Int32)))) ∧ v.2.2.2.2.1 = (if v133 = (0 : Int32) then v98 else (if y144 = (0 : Int32) then (1 : Int32) else v98)) ∧ v.2.2.2.2.2.1 = (if v133 = (0 : Int32) then v109 else (if y144 = (0 : Int32) then v109 else (if y144 = (1 : Int32) then (1 : Int32) else v109))) ∧ v.2.2.2.2.2.2 = (if v133 = (0 : Int32) then v120 else (if y144 = (0 : Int32) then v120 else (if y144 = (1 : Int32) then v120 else (1 : Int32)))) ∧ Keep h61 h [ar54, b1] ∧ Arv Z h ar54 kz54 .byte (1024 : Int32) [(.int v.2.2.2.2.1), (.int v.2.2.2.2.2.1), (.int v.2.2.2.2.2.2)] (.int (0 : Int32)) ∧ Fld Z h b1 oz0 "chunks" oz2 (.ref cs2) ∧ Fld Z h b1 oz0 "firstChunk" "I" (.int (0 : Int32))) (by
      by_cases hc148 : v133 = (0 : Int32)
      · have pre69 : ∀ tz, oS p e below T65 m 184 #[lv x1, .second, lv x2, .second, lv x3, .second, iv x4, rv b1, iv v57, iv v71, iv v85, iv v133, iv y144, .unset, .unset, .unset] [] tz → oS p e below T65 m 148 #[lv x1, .second, lv x2, .second, lv x3, .second, iv x4, rv b1, iv v57, iv v71, iv v85, iv v133, iv y144, .unset, .unset, .unset] [(.int v133)] tz := fun tz kt => by
          show oS p e below T65 m 148 #[lv x1, .second, lv x2, .second, lv x3, .second, iv x4, rv b1, iv v57, iv v71, iv v85, iv v133, iv y144, .unset, .unset, .unset] [(.int v133)] _
          refine XS.ifYes X65.here hx rfl (pc0 := 148) (pc' := 184) rfl (hb hby at_148) rfl ((if0 _ _).trans (teq hc148).1) (by decide) (by decide) ?_
          exact kt
        exact ⟨(v57, v71, v85, y144, v98, v109, v120), T65, h61, _, ⟨(by first | rfl | simp only [if_pos hc148] | (simp only [if_pos hc148]; decide)), (by first | rfl | simp only [if_pos hc148] | (simp only [if_pos hc148]; decide)), (by first | rfl | simp only [if_pos hc148] | (simp only [if_pos hc148]; decide)), (by first | rfl | simp only [if_pos hc148] | (simp only [if_pos hc148]; decide)), (by first | rfl | simp only [if_pos hc148] | (simp only [if_pos hc148]; decide)), (by first | rfl | simp only [if_pos hc148] | (simp only [if_pos hc148]; decide)), (by first | rfl | simp only [if_pos hc148] | (simp only [if_pos hc148]; decide)), (Keep.refl h61 [ar54, b1]), jg61_0, Fc67, Fc68⟩, N65, X65, e65, fun tz kt => (pre69 _ kt)⟩
      · have pre70 : ∀ tz, oS p e below T65 m 151 #[lv x1, .second, lv x2, .second, lv x3, .second, iv x4, rv b1, iv v57, iv v71, iv v85, iv v133, iv y144, .unset, .unset, .unset] [] tz → oS p e below T65 m 148 #[lv x1, .second, lv x2, .second, lv x3, .second, iv x4, rv b1, iv v57, iv v71, iv v85, iv v133, iv y144, .unset, .unset, .unset] [(.int v133)] tz := fun tz kt => by
          show oS p e below T65 m 148 #[lv x1, .second, lv x2, .second, lv x3, .second, iv x4, rv b1, iv v57, iv v71, iv v85, iv v133, iv y144, .unset, .unset, .unset] [(.int v133)] _
          refine XS.ifNo X65.here hx rfl (hb hby at_148) rfl ((if0 _ _).trans (feq hc148).1) ?_
          exact kt
        rcases own_n3 _ y144 hy144 with hn | hn | hn
        · have hz : y144 = (0 : Int32) := hn
          have pre71 : ∀ tz, oS p e below T65 m 151 #[lv x1, .second, lv x2, .second, lv x3, .second, iv x4, rv b1, iv v57, iv v71, iv v85, iv v133, iv (0 : Int32), .unset, .unset, .unset] [] tz → oS p e below T65 m 151 #[lv x1, .second, lv x2, .second, lv x3, .second, iv x4, rv b1, iv v57, iv v71, iv v85, iv v133, iv y144, .unset, .unset, .unset] [] tz := fun tz kt => by
            rw [hz]
            exact kt
          have Ec73 : Exa Z h61 b1 oz0 := ((((Ec11.keep K10).keep K35).keep K48).keep K61)
          have Vc74 : Arv Z h61 cs2 kc2 (.object oz1) (1 : Int32) [(.ref ch4)] .null := ((((Vc12.keep K10 (ninS (Ne.symm ne_b1_cs2) (ninS ne_cs2_ch4 (ninS pf2_2 (ninS ne_cs2_ar04 (ninS ne_cs2_ar14 (ninS ne_cs2_ar24 (ninS ne_cs2_ar34 (ninS ne_cs2_ar44 (ninS ne_cs2_ar54 nin0)))))))))).keep K35 (ninS ne_cs2_ar54 nin0)).keep K48 (ninS ne_cs2_ar54 nin0)).keep K61 (ninS ne_cs2_ar54 nin0))
          have Ec75 : Exa Z h61 ch4 oz1 := ((((Ec13.keep K10).keep K35).keep K48).keep K61)
          obtain ⟨_, Arn76, -⟩ := id jg61_0
          have ne76 : ch4 ≠ ar54 := ne_arr Ec75 (own_w hw 32 rfl) Arn76
          have Fc77 : Fld Z h61 ch4 oz1 "states" "[B" (.ref ar54) := (((pf10_17.keep K35 (ninS ne76 nin0)).keep K48 (ninS ne76 nin0)).keep K61 (ninS ne76 nin0))
          have Fc78 : Fld Z h61 b1 oz0 "availableFrom" "I" (.int (0 : Int32)) := (((pf10_8.keep K35 (ninS ne_b1_ar54 nin0)).keep K48 (ninS ne_b1_ar54 nin0)).keep K61 (ninS ne_b1_ar54 nin0))
          have Zc79 : n0 ≤ h61.size := (Nat.le_trans (Nat.le_trans (Nat.le_trans (Nat.le_trans Zc14 K10.1) K35.1) K48.1) K61.1)
          obtain ⟨cq72, kq72, q72a, q72b, q72c⟩ := isOf hZ e65 Ec73
          obtain ⟨_, _, ⟨T72, Lw72, kw72, nw72⟩, -, X72, ⟨Lc72, hQ72, l72, y72, z72⟩, st72⟩ := X65.virtualBack hx (y := (⟨oz0, "markAvailable", "(I)V"⟩ : MethodName)) (z := (⟨oz0, "markAvailable", "(I)V"⟩ : MethodName)) hown (mvT hZ (own_w hw 99 rfl)) (mvT hZ (own_w hw 100 rfl)) (notFace_of_selects (args := #[]) (mvT hZ (own_w hw 102 rfl))) (mvT hZ (own_w hw 102 rfl)) (mvT hZ (own_w hw 101 rfl)) (by decide) (backOf (W := 0) (rmMA0 l Z a0 hw [] b1 cs2 kc2 ch4 ar54 kz54 v98 v109 v120 (0 : Int32) h61 n0 Zc79 Ec73 Fc67 Fc68 Vc74 Ec75 Fc77 jg61_0 pf4_14 g_b1 Fc78) hZ (own_w hw 103 rfl) (own_w hw 2 rfl) (by decide) (by decide)) q72a q72c (g := (mkF m 155 #[lv x1, .second, lv x2, .second, lv x3, .second, iv x4, rv b1, iv v57, iv v71, iv v85, iv v133, iv (0 : Int32), .unset, .unset, .unset] [(.int (0 : Int32)), (.ref b1)])) rfl (by rw [hml]; rfl) (Steps.refl _) (argsL := [(.int (0 : Int32))]) (rest := []) (lenOf own_pd8 rfl) rfl (by show 2 * 0 + _ ≤ _; exact Nat.le_of_eq rfl) (hb hby at_155) (fun _ _ => ⟨rfl, e65, (by decide : 10 + 0 ≤ _), (by decide : 6178 + 0 ≤ _)⟩)
          dsimp only [Pt.U, Pt.locs, Pt.cells, Pt.slots] at X72 l72 y72 z72 st72 hQ72
          subst l72 y72 z72
          obtain ⟨rfl, Nq72, K72, pf72_0, pf72_1, pf72_2⟩ := hQ72
          have N72 := Fr.app N65 Nq72
          have pre80 : ∀ tz, oS p e below T72 m 184 #[lv x1, .second, lv x2, .second, lv x3, .second, iv x4, rv b1, iv (0 : Int32), iv v71, iv v85, iv v133, iv (0 : Int32), .unset, .unset, .unset] [] tz → oS p e below T65 m 151 #[lv x1, .second, lv x2, .second, lv x3, .second, iv x4, rv b1, iv v57, iv v71, iv v85, iv v133, iv (0 : Int32), .unset, .unset, .unset] [] tz := fun tz kt => by
            show oS p e below T65 m 151 #[lv x1, .second, lv x2, .second, lv x3, .second, iv x4, rv b1, iv v57, iv v71, iv v85, iv v133, iv (0 : Int32), .unset, .unset, .unset] [] _
            refine XS.aload X65.here hx rfl (hb hby at_151) rfl rfl ?_
            refine XS.iload X65.here hx rfl (hb hby at_153) rfl ?_
            show oS p e below T65 m 155 #[lv x1, .second, lv x2, .second, lv x3, .second, iv x4, rv b1, iv v57, iv v71, iv v85, iv v133, iv (0 : Int32), .unset, .unset, .unset] [(.int (0 : Int32)), (.ref b1)] _
            refine st72.trans ?_
            refine XS.iload X72.here hx rfl (hb hby at_158) rfl ?_
            refine XS.ifNo X72.here hx rfl (hb hby at_160) rfl ((if0 _ _).trans (teq (by decide : ((0 : Int32) = (0 : Int32)))).2) ?_
            refine XS.iconst X72.here hx rfl (hb hby at_163) ?_
            show oS p e below T72 m 164 #[lv x1, .second, lv x2, .second, lv x3, .second, iv x4, rv b1, iv v57, iv v71, iv v85, iv v133, iv (0 : Int32), .unset, .unset, .unset] [(.int (0 : Int32))] _
            refine XS.istore X72.here hx rfl (hb hby at_164) rfl (l' := #[lv x1, .second, lv x2, .second, lv x3, .second, iv x4, rv b1, iv (0 : Int32), iv v71, iv v85, iv v133, iv (0 : Int32), .unset, .unset, .unset]) rfl ?_
            refine XS.goto X72.here hx rfl (pc0 := 166) (pc' := 184) rfl (hb hby at_166) (by decide) (by decide) ?_
            exact kt
          exact ⟨((0 : Int32), v71, v85, (0 : Int32), (1 : Int32), v109, v120), T72, T72.heap, _, ⟨(by first | rfl | simp only [if_neg hc148, if_pos hz] | (simp only [if_neg hc148, if_pos hz]; decide)), (by first | rfl | simp only [if_neg hc148, if_pos hz] | (simp only [if_neg hc148, if_pos hz]; decide)), (by first | rfl | simp only [if_neg hc148, if_pos hz] | (simp only [if_neg hc148, if_pos hz]; decide)), (by first | rfl | simp only [if_neg hc148, if_pos hz] | (simp only [if_neg hc148, if_pos hz]; decide)), (by first | rfl | simp only [if_neg hc148, if_pos hz] | (simp only [if_neg hc148, if_pos hz]; decide)), (by first | rfl | simp only [if_neg hc148, if_pos hz] | (simp only [if_neg hc148, if_pos hz]; decide)), (by first | rfl | simp only [if_neg hc148, if_pos hz] | (simp only [if_neg hc148, if_pos hz]; decide)), ((Keep.refl h61 [ar54, b1]).trans K72 (allS (Or.inl (List.mem_of_getElem? (i := 0) rfl)) (allS (Or.inl (List.mem_of_getElem? (i := 1) rfl)) all0))), pf72_0, pf72_1, pf72_2⟩, N72, X72, rfl, fun tz kt => (pre70 _ (pre71 _ (pre80 _ kt)))⟩
        · have hz : y144 = (1 : Int32) := hn
          have pre81 : ∀ tz, oS p e below T65 m 151 #[lv x1, .second, lv x2, .second, lv x3, .second, iv x4, rv b1, iv v57, iv v71, iv v85, iv v133, iv (1 : Int32), .unset, .unset, .unset] [] tz → oS p e below T65 m 151 #[lv x1, .second, lv x2, .second, lv x3, .second, iv x4, rv b1, iv v57, iv v71, iv v85, iv v133, iv y144, .unset, .unset, .unset] [] tz := fun tz kt => by
            rw [hz]
            exact kt
          have Ec83 : Exa Z h61 b1 oz0 := ((((Ec11.keep K10).keep K35).keep K48).keep K61)
          have Vc84 : Arv Z h61 cs2 kc2 (.object oz1) (1 : Int32) [(.ref ch4)] .null := ((((Vc12.keep K10 (ninS (Ne.symm ne_b1_cs2) (ninS ne_cs2_ch4 (ninS pf2_2 (ninS ne_cs2_ar04 (ninS ne_cs2_ar14 (ninS ne_cs2_ar24 (ninS ne_cs2_ar34 (ninS ne_cs2_ar44 (ninS ne_cs2_ar54 nin0)))))))))).keep K35 (ninS ne_cs2_ar54 nin0)).keep K48 (ninS ne_cs2_ar54 nin0)).keep K61 (ninS ne_cs2_ar54 nin0))
          have Ec85 : Exa Z h61 ch4 oz1 := ((((Ec13.keep K10).keep K35).keep K48).keep K61)
          obtain ⟨_, Arn86, -⟩ := id jg61_0
          have ne86 : ch4 ≠ ar54 := ne_arr Ec85 (own_w hw 32 rfl) Arn86
          have Fc87 : Fld Z h61 ch4 oz1 "states" "[B" (.ref ar54) := (((pf10_17.keep K35 (ninS ne86 nin0)).keep K48 (ninS ne86 nin0)).keep K61 (ninS ne86 nin0))
          have Fc88 : Fld Z h61 b1 oz0 "availableFrom" "I" (.int (0 : Int32)) := (((pf10_8.keep K35 (ninS ne_b1_ar54 nin0)).keep K48 (ninS ne_b1_ar54 nin0)).keep K61 (ninS ne_b1_ar54 nin0))
          have Zc89 : n0 ≤ h61.size := (Nat.le_trans (Nat.le_trans (Nat.le_trans (Nat.le_trans Zc14 K10.1) K35.1) K48.1) K61.1)
          obtain ⟨cq82, kq82, q82a, q82b, q82c⟩ := isOf hZ e65 Ec83
          obtain ⟨_, _, ⟨T82, Lw82, kw82, nw82⟩, -, X82, ⟨Lc82, hQ82, l82, y82, z82⟩, st82⟩ := X65.virtualBack hx (y := (⟨oz0, "markAvailable", "(I)V"⟩ : MethodName)) (z := (⟨oz0, "markAvailable", "(I)V"⟩ : MethodName)) hown (mvT hZ (own_w hw 99 rfl)) (mvT hZ (own_w hw 100 rfl)) (notFace_of_selects (args := #[]) (mvT hZ (own_w hw 102 rfl))) (mvT hZ (own_w hw 102 rfl)) (mvT hZ (own_w hw 101 rfl)) (by decide) (backOf (W := 0) (rmMA1 l Z a0 hw [] b1 cs2 kc2 ch4 ar54 kz54 v98 v109 v120 (0 : Int32) h61 n0 Zc89 Ec83 Fc67 Fc68 Vc84 Ec85 Fc87 jg61_0 pf4_14 g_b1 Fc88) hZ (own_w hw 103 rfl) (own_w hw 2 rfl) (by decide) (by decide)) q82a q82c (g := (mkF m 155 #[lv x1, .second, lv x2, .second, lv x3, .second, iv x4, rv b1, iv v57, iv v71, iv v85, iv v133, iv (1 : Int32), .unset, .unset, .unset] [(.int (1 : Int32)), (.ref b1)])) rfl (by rw [hml]; rfl) (Steps.refl _) (argsL := [(.int (1 : Int32))]) (rest := []) (lenOf own_pd8 rfl) rfl (by show 2 * 0 + _ ≤ _; exact Nat.le_of_eq rfl) (hb hby at_155) (fun _ _ => ⟨rfl, e65, (by decide : 10 + 0 ≤ _), (by decide : 6178 + 0 ≤ _)⟩)
          dsimp only [Pt.U, Pt.locs, Pt.cells, Pt.slots] at X82 l82 y82 z82 st82 hQ82
          subst l82 y82 z82
          obtain ⟨rfl, Nq82, K82, pf82_0, pf82_1, pf82_2⟩ := hQ82
          have N82 := Fr.app N65 Nq82
          have pre90 : ∀ tz, oS p e below T82 m 184 #[lv x1, .second, lv x2, .second, lv x3, .second, iv x4, rv b1, iv v57, iv (0 : Int32), iv v85, iv v133, iv (1 : Int32), .unset, .unset, .unset] [] tz → oS p e below T65 m 151 #[lv x1, .second, lv x2, .second, lv x3, .second, iv x4, rv b1, iv v57, iv v71, iv v85, iv v133, iv (1 : Int32), .unset, .unset, .unset] [] tz := fun tz kt => by
            show oS p e below T65 m 151 #[lv x1, .second, lv x2, .second, lv x3, .second, iv x4, rv b1, iv v57, iv v71, iv v85, iv v133, iv (1 : Int32), .unset, .unset, .unset] [] _
            refine XS.aload X65.here hx rfl (hb hby at_151) rfl rfl ?_
            refine XS.iload X65.here hx rfl (hb hby at_153) rfl ?_
            show oS p e below T65 m 155 #[lv x1, .second, lv x2, .second, lv x3, .second, iv x4, rv b1, iv v57, iv v71, iv v85, iv v133, iv (1 : Int32), .unset, .unset, .unset] [(.int (1 : Int32)), (.ref b1)] _
            refine st82.trans ?_
            refine XS.iload X82.here hx rfl (hb hby at_158) rfl ?_
            refine XS.ifYes X82.here hx rfl (pc0 := 160) (pc' := 169) rfl (hb hby at_160) rfl ((if0 _ _).trans (feq (by decide : ¬ ((1 : Int32) = (0 : Int32)))).2) (by decide) (by decide) ?_
            refine XS.iload X82.here hx rfl (hb hby at_169) rfl ?_
            show oS p e below T82 m 171 #[lv x1, .second, lv x2, .second, lv x3, .second, iv x4, rv b1, iv v57, iv v71, iv v85, iv v133, iv (1 : Int32), .unset, .unset, .unset] [(.int (1 : Int32))] _
            refine XS.iconst X82.here hx rfl (hb hby at_171) ?_
            refine XS.icmpNo X82.here hx rfl (hb hby at_172) rfl (teq (by decide : ((1 : Int32) = (1 : Int32)))).2 ?_
            refine XS.iconst X82.here hx rfl (hb hby at_175) ?_
            refine XS.istore X82.here hx rfl (hb hby at_176) rfl (l' := #[lv x1, .second, lv x2, .second, lv x3, .second, iv x4, rv b1, iv v57, iv (0 : Int32), iv v85, iv v133, iv (1 : Int32), .unset, .unset, .unset]) rfl ?_
            show oS p e below T82 m 178 #[lv x1, .second, lv x2, .second, lv x3, .second, iv x4, rv b1, iv v57, iv (0 : Int32), iv v85, iv v133, iv (1 : Int32), .unset, .unset, .unset] [] _
            refine XS.goto X82.here hx rfl (pc0 := 178) (pc' := 184) rfl (hb hby at_178) (by decide) (by decide) ?_
            exact kt
          exact ⟨(v57, (0 : Int32), v85, (1 : Int32), v98, (1 : Int32), v120), T82, T82.heap, _, ⟨(by first | rfl | simp only [if_neg hc148, if_neg (show ¬ y144 = (0 : Int32) from fun q => absurd (hz.symm.trans q) (by decide)), if_pos hz] | (simp only [if_neg hc148, if_neg (show ¬ y144 = (0 : Int32) from fun q => absurd (hz.symm.trans q) (by decide)), if_pos hz]; decide)), (by first | rfl | simp only [if_neg hc148, if_neg (show ¬ y144 = (0 : Int32) from fun q => absurd (hz.symm.trans q) (by decide)), if_pos hz] | (simp only [if_neg hc148, if_neg (show ¬ y144 = (0 : Int32) from fun q => absurd (hz.symm.trans q) (by decide)), if_pos hz]; decide)), (by first | rfl | simp only [if_neg hc148, if_neg (show ¬ y144 = (0 : Int32) from fun q => absurd (hz.symm.trans q) (by decide)), if_pos hz] | (simp only [if_neg hc148, if_neg (show ¬ y144 = (0 : Int32) from fun q => absurd (hz.symm.trans q) (by decide)), if_pos hz]; decide)), (by first | rfl | simp only [if_neg hc148, if_neg (show ¬ y144 = (0 : Int32) from fun q => absurd (hz.symm.trans q) (by decide)), if_pos hz] | (simp only [if_neg hc148, if_neg (show ¬ y144 = (0 : Int32) from fun q => absurd (hz.symm.trans q) (by decide)), if_pos hz]; decide)), (by first | rfl | simp only [if_neg hc148, if_neg (show ¬ y144 = (0 : Int32) from fun q => absurd (hz.symm.trans q) (by decide)), if_pos hz] | (simp only [if_neg hc148, if_neg (show ¬ y144 = (0 : Int32) from fun q => absurd (hz.symm.trans q) (by decide)), if_pos hz]; decide)), (by first | rfl | simp only [if_neg hc148, if_neg (show ¬ y144 = (0 : Int32) from fun q => absurd (hz.symm.trans q) (by decide)), if_pos hz] | (simp only [if_neg hc148, if_neg (show ¬ y144 = (0 : Int32) from fun q => absurd (hz.symm.trans q) (by decide)), if_pos hz]; decide)), (by first | rfl | simp only [if_neg hc148, if_neg (show ¬ y144 = (0 : Int32) from fun q => absurd (hz.symm.trans q) (by decide)), if_pos hz] | (simp only [if_neg hc148, if_neg (show ¬ y144 = (0 : Int32) from fun q => absurd (hz.symm.trans q) (by decide)), if_pos hz]; decide)), ((Keep.refl h61 [ar54, b1]).trans K82 (allS (Or.inl (List.mem_of_getElem? (i := 0) rfl)) (allS (Or.inl (List.mem_of_getElem? (i := 1) rfl)) all0))), pf82_0, pf82_1, pf82_2⟩, N82, X82, rfl, fun tz kt => (pre70 _ (pre81 _ (pre90 _ kt)))⟩
        · have hz : y144 = (2 : Int32) := hn
          have pre91 : ∀ tz, oS p e below T65 m 151 #[lv x1, .second, lv x2, .second, lv x3, .second, iv x4, rv b1, iv v57, iv v71, iv v85, iv v133, iv (2 : Int32), .unset, .unset, .unset] [] tz → oS p e below T65 m 151 #[lv x1, .second, lv x2, .second, lv x3, .second, iv x4, rv b1, iv v57, iv v71, iv v85, iv v133, iv y144, .unset, .unset, .unset] [] tz := fun tz kt => by
            rw [hz]
            exact kt
          have Ec93 : Exa Z h61 b1 oz0 := ((((Ec11.keep K10).keep K35).keep K48).keep K61)
          have Vc94 : Arv Z h61 cs2 kc2 (.object oz1) (1 : Int32) [(.ref ch4)] .null := ((((Vc12.keep K10 (ninS (Ne.symm ne_b1_cs2) (ninS ne_cs2_ch4 (ninS pf2_2 (ninS ne_cs2_ar04 (ninS ne_cs2_ar14 (ninS ne_cs2_ar24 (ninS ne_cs2_ar34 (ninS ne_cs2_ar44 (ninS ne_cs2_ar54 nin0)))))))))).keep K35 (ninS ne_cs2_ar54 nin0)).keep K48 (ninS ne_cs2_ar54 nin0)).keep K61 (ninS ne_cs2_ar54 nin0))
          have Ec95 : Exa Z h61 ch4 oz1 := ((((Ec13.keep K10).keep K35).keep K48).keep K61)
          obtain ⟨_, Arn96, -⟩ := id jg61_0
          have ne96 : ch4 ≠ ar54 := ne_arr Ec95 (own_w hw 32 rfl) Arn96
          have Fc97 : Fld Z h61 ch4 oz1 "states" "[B" (.ref ar54) := (((pf10_17.keep K35 (ninS ne96 nin0)).keep K48 (ninS ne96 nin0)).keep K61 (ninS ne96 nin0))
          have Fc98 : Fld Z h61 b1 oz0 "availableFrom" "I" (.int (0 : Int32)) := (((pf10_8.keep K35 (ninS ne_b1_ar54 nin0)).keep K48 (ninS ne_b1_ar54 nin0)).keep K61 (ninS ne_b1_ar54 nin0))
          have Zc99 : n0 ≤ h61.size := (Nat.le_trans (Nat.le_trans (Nat.le_trans (Nat.le_trans Zc14 K10.1) K35.1) K48.1) K61.1)
          obtain ⟨cq92, kq92, q92a, q92b, q92c⟩ := isOf hZ e65 Ec93
          obtain ⟨_, _, ⟨T92, Lw92, kw92, nw92⟩, -, X92, ⟨Lc92, hQ92, l92, y92, z92⟩, st92⟩ := X65.virtualBack hx (y := (⟨oz0, "markAvailable", "(I)V"⟩ : MethodName)) (z := (⟨oz0, "markAvailable", "(I)V"⟩ : MethodName)) hown (mvT hZ (own_w hw 99 rfl)) (mvT hZ (own_w hw 100 rfl)) (notFace_of_selects (args := #[]) (mvT hZ (own_w hw 102 rfl))) (mvT hZ (own_w hw 102 rfl)) (mvT hZ (own_w hw 101 rfl)) (by decide) (backOf (W := 0) (rmMA2 l Z a0 hw [] b1 cs2 kc2 ch4 ar54 kz54 v98 v109 v120 (0 : Int32) h61 n0 Zc99 Ec93 Fc67 Fc68 Vc94 Ec95 Fc97 jg61_0 pf4_14 g_b1 Fc98) hZ (own_w hw 103 rfl) (own_w hw 2 rfl) (by decide) (by decide)) q92a q92c (g := (mkF m 155 #[lv x1, .second, lv x2, .second, lv x3, .second, iv x4, rv b1, iv v57, iv v71, iv v85, iv v133, iv (2 : Int32), .unset, .unset, .unset] [(.int (2 : Int32)), (.ref b1)])) rfl (by rw [hml]; rfl) (Steps.refl _) (argsL := [(.int (2 : Int32))]) (rest := []) (lenOf own_pd8 rfl) rfl (by show 2 * 0 + _ ≤ _; exact Nat.le_of_eq rfl) (hb hby at_155) (fun _ _ => ⟨rfl, e65, (by decide : 10 + 0 ≤ _), (by decide : 6178 + 0 ≤ _)⟩)
          dsimp only [Pt.U, Pt.locs, Pt.cells, Pt.slots] at X92 l92 y92 z92 st92 hQ92
          subst l92 y92 z92
          obtain ⟨rfl, Nq92, K92, pf92_0, pf92_1, pf92_2⟩ := hQ92
          have N92 := Fr.app N65 Nq92
          have pre100 : ∀ tz, oS p e below T92 m 184 #[lv x1, .second, lv x2, .second, lv x3, .second, iv x4, rv b1, iv v57, iv v71, iv (0 : Int32), iv v133, iv (2 : Int32), .unset, .unset, .unset] [] tz → oS p e below T65 m 151 #[lv x1, .second, lv x2, .second, lv x3, .second, iv x4, rv b1, iv v57, iv v71, iv v85, iv v133, iv (2 : Int32), .unset, .unset, .unset] [] tz := fun tz kt => by
            show oS p e below T65 m 151 #[lv x1, .second, lv x2, .second, lv x3, .second, iv x4, rv b1, iv v57, iv v71, iv v85, iv v133, iv (2 : Int32), .unset, .unset, .unset] [] _
            refine XS.aload X65.here hx rfl (hb hby at_151) rfl rfl ?_
            refine XS.iload X65.here hx rfl (hb hby at_153) rfl ?_
            show oS p e below T65 m 155 #[lv x1, .second, lv x2, .second, lv x3, .second, iv x4, rv b1, iv v57, iv v71, iv v85, iv v133, iv (2 : Int32), .unset, .unset, .unset] [(.int (2 : Int32)), (.ref b1)] _
            refine st92.trans ?_
            refine XS.iload X92.here hx rfl (hb hby at_158) rfl ?_
            refine XS.ifYes X92.here hx rfl (pc0 := 160) (pc' := 169) rfl (hb hby at_160) rfl ((if0 _ _).trans (feq (by decide : ¬ ((2 : Int32) = (0 : Int32)))).2) (by decide) (by decide) ?_
            refine XS.iload X92.here hx rfl (hb hby at_169) rfl ?_
            show oS p e below T92 m 171 #[lv x1, .second, lv x2, .second, lv x3, .second, iv x4, rv b1, iv v57, iv v71, iv v85, iv v133, iv (2 : Int32), .unset, .unset, .unset] [(.int (2 : Int32))] _
            refine XS.iconst X92.here hx rfl (hb hby at_171) ?_
            refine XS.icmpYes X92.here hx rfl (pc0 := 172) (pc' := 181) rfl (hb hby at_172) rfl (feq (by decide : ¬ ((2 : Int32) = (1 : Int32)))).2 (by decide) (by decide) ?_
            refine XS.iconst X92.here hx rfl (hb hby at_181) ?_
            refine XS.istore X92.here hx rfl (hb hby at_182) rfl (l' := #[lv x1, .second, lv x2, .second, lv x3, .second, iv x4, rv b1, iv v57, iv v71, iv (0 : Int32), iv v133, iv (2 : Int32), .unset, .unset, .unset]) rfl ?_
            exact kt
          exact ⟨(v57, v71, (0 : Int32), (2 : Int32), v98, v109, (1 : Int32)), T92, T92.heap, _, ⟨(by first | rfl | simp only [if_neg hc148, if_neg (show ¬ y144 = (0 : Int32) from fun q => absurd (hz.symm.trans q) (by decide)), if_neg (show ¬ y144 = (1 : Int32) from fun q => absurd (hz.symm.trans q) (by decide))] | (simp only [if_neg hc148, if_neg (show ¬ y144 = (0 : Int32) from fun q => absurd (hz.symm.trans q) (by decide)), if_neg (show ¬ y144 = (1 : Int32) from fun q => absurd (hz.symm.trans q) (by decide))]; decide)), (by first | rfl | simp only [if_neg hc148, if_neg (show ¬ y144 = (0 : Int32) from fun q => absurd (hz.symm.trans q) (by decide)), if_neg (show ¬ y144 = (1 : Int32) from fun q => absurd (hz.symm.trans q) (by decide))] | (simp only [if_neg hc148, if_neg (show ¬ y144 = (0 : Int32) from fun q => absurd (hz.symm.trans q) (by decide)), if_neg (show ¬ y144 = (1 : Int32) from fun q => absurd (hz.symm.trans q) (by decide))]; decide)), (by first | rfl | simp only [if_neg hc148, if_neg (show ¬ y144 = (0 : Int32) from fun q => absurd (hz.symm.trans q) (by decide)), if_neg (show ¬ y144 = (1 : Int32) from fun q => absurd (hz.symm.trans q) (by decide))] | (simp only [if_neg hc148, if_neg (show ¬ y144 = (0 : Int32) from fun q => absurd (hz.symm.trans q) (by decide)), if_neg (show ¬ y144 = (1 : Int32) from fun q => absurd (hz.symm.trans q) (by decide))]; decide)), (by first | rfl | simp only [if_neg hc148, if_neg (show ¬ y144 = (0 : Int32) from fun q => absurd (hz.symm.trans q) (by decide)), if_neg (show ¬ y144 = (1 : Int32) from fun q => absurd (hz.symm.trans q) (by decide))] | (simp only [if_neg hc148, if_neg (show ¬ y144 = (0 : Int32) from fun q => absurd (hz.symm.trans q) (by decide)), if_neg (show ¬ y144 = (1 : Int32) from fun q => absurd (hz.symm.trans q) (by decide))]; decide)), (by first | rfl | simp only [if_neg hc148, if_neg (show ¬ y144 = (0 : Int32) from fun q => absurd (hz.symm.trans q) (by decide)), if_neg (show ¬ y144 = (1 : Int32) from fun q => absurd (hz.symm.trans q) (by decide))] | (simp only [if_neg hc148, if_neg (show ¬ y144 = (0 : Int32) from fun q => absurd (hz.symm.trans q) (by decide)), if_neg (show ¬ y144 = (1 : Int32) from fun q => absurd (hz.symm.trans q) (by decide))]; decide)), (by first | rfl | simp only [if_neg hc148, if_neg (show ¬ y144 = (0 : Int32) from fun q => absurd (hz.symm.trans q) (by decide)), if_neg (show ¬ y144 = (1 : Int32) from fun q => absurd (hz.symm.trans q) (by decide))] | (simp only [if_neg hc148, if_neg (show ¬ y144 = (0 : Int32) from fun q => absurd (hz.symm.trans q) (by decide)), if_neg (show ¬ y144 = (1 : Int32) from fun q => absurd (hz.symm.trans q) (by decide))]; decide)), (by first | rfl | simp only [if_neg hc148, if_neg (show ¬ y144 = (0 : Int32) from fun q => absurd (hz.symm.trans q) (by decide)), if_neg (show ¬ y144 = (1 : Int32) from fun q => absurd (hz.symm.trans q) (by decide))] | (simp only [if_neg hc148, if_neg (show ¬ y144 = (0 : Int32) from fun q => absurd (hz.symm.trans q) (by decide)), if_neg (show ¬ y144 = (1 : Int32) from fun q => absurd (hz.symm.trans q) (by decide))]; decide)), ((Keep.refl h61 [ar54, b1]).trans K92 (allS (Or.inl (List.mem_of_getElem? (i := 0) rfl)) (allS (Or.inl (List.mem_of_getElem? (i := 1) rfl)) all0))), pf92_0, pf92_1, pf92_2⟩, N92, X92, rfl, fun tz kt => (pre70 _ (pre91 _ (pre100 _ kt)))⟩)
  obtain ⟨jq101_0, jq101_1, jq101_2, jq101_3, jq101_4, jq101_5, jq101_6, K101, jf101_0, jf101_1, jf101_2⟩ := jv101
  have hv184a : v184a = (if v133 = (0 : Int32) then v57 else (if y144 = (0 : Int32) then (0 : Int32) else v57)) := jq101_0
  have hv184b : v184b = (if v133 = (0 : Int32) then v71 else (if y144 = (0 : Int32) then v71 else (if y144 = (1 : Int32) then (0 : Int32) else v71))) := jq101_1
  have hv184c : v184c = (if v133 = (0 : Int32) then v85 else (if y144 = (0 : Int32) then v85 else (if y144 = (1 : Int32) then v85 else (0 : Int32)))) := jq101_2
  have hv184d : v184d = (if v133 = (0 : Int32) then y144 else (if y144 = (0 : Int32) then (0 : Int32) else (if y144 = (1 : Int32) then (1 : Int32) else (2 : Int32)))) := jq101_3
  have hv184e : v184e = (if v133 = (0 : Int32) then v98 else (if y144 = (0 : Int32) then (1 : Int32) else v98)) := jq101_4
  have hv184f : v184f = (if v133 = (0 : Int32) then v109 else (if y144 = (0 : Int32) then v109 else (if y144 = (1 : Int32) then (1 : Int32) else v109))) := jq101_5
  have hv184g : v184g = (if v133 = (0 : Int32) then v120 else (if y144 = (0 : Int32) then v120 else (if y144 = (1 : Int32) then v120 else (1 : Int32)))) := jq101_6
  have jg101_0 : Arv Z h101 ar54 kz54 .byte (1024 : Int32) [(.int v184e), (.int v184f), (.int v184g)] (.int (0 : Int32)) := jf101_0
  have jg101_1 : Fld Z h101 b1 oz0 "chunks" oz2 (.ref cs2) := jf101_1
  have jg101_2 : Fld Z h101 b1 oz0 "firstChunk" "I" (.int (0 : Int32)) := jf101_2
  have Ec103 : Exa Z h101 b1 oz0 := (((((Ec11.keep K10).keep K35).keep K48).keep K61).keep K101)
  have Vc104 : Arv Z h101 cs2 kc2 (.object oz1) (1 : Int32) [(.ref ch4)] .null := (((((Vc12.keep K10 (ninS (Ne.symm ne_b1_cs2) (ninS ne_cs2_ch4 (ninS pf2_2 (ninS ne_cs2_ar04 (ninS ne_cs2_ar14 (ninS ne_cs2_ar24 (ninS ne_cs2_ar34 (ninS ne_cs2_ar44 (ninS ne_cs2_ar54 nin0)))))))))).keep K35 (ninS ne_cs2_ar54 nin0)).keep K48 (ninS ne_cs2_ar54 nin0)).keep K61 (ninS ne_cs2_ar54 nin0)).keep K101 (ninS ne_cs2_ar54 (ninS (Ne.symm ne_b1_cs2) nin0)))
  have Ec105 : Exa Z h101 ch4 oz1 := (((((Ec13.keep K10).keep K35).keep K48).keep K61).keep K101)
  obtain ⟨_, Arn106, -⟩ := id jg101_0
  have ne106 : ch4 ≠ ar54 := ne_arr Ec105 (own_w hw 32 rfl) Arn106
  have Fc107 : Fld Z h101 ch4 oz1 "states" "[B" (.ref ar54) := ((((pf10_17.keep K35 (ninS ne106 nin0)).keep K48 (ninS ne106 nin0)).keep K61 (ninS ne106 nin0)).keep K101 (ninS ne106 (ninS (Ne.symm ne_b1_ch4) nin0)))
  have Zc108 : n0 ≤ h101.size := (Nat.le_trans (Nat.le_trans (Nat.le_trans (Nat.le_trans (Nat.le_trans Zc14 K10.1) K35.1) K48.1) K61.1) K101.1)
  obtain ⟨cq102, kq102, q102a, q102b, q102c⟩ := isOf hZ e101 Ec103
  obtain ⟨_, _, ⟨T102, Lw102, kw102, nw102⟩, -, X102, ⟨Lc102, hQ102, l102, y102, z102⟩, st102⟩ := X101.virtualBack hx (y := (⟨oz0, "leased", "(I)Z"⟩ : MethodName)) (z := (⟨oz0, "leased", "(I)Z"⟩ : MethodName)) hown (mvT hZ (own_w hw 94 rfl)) (mvT hZ (own_w hw 95 rfl)) (notFace_of_selects (args := #[]) (mvT hZ (own_w hw 97 rfl))) (mvT hZ (own_w hw 97 rfl)) (mvT hZ (own_w hw 96 rfl)) (by decide) (backOf (W := 0) (rmLE0 l Z a0 hw [] b1 cs2 kc2 ch4 ar54 kz54 v184e v184f v184g h101 n0 Zc108 Ec103 jg101_1 jg101_2 Vc104 Ec105 Fc107 jg101_0) hZ (own_w hw 98 rfl) (own_w hw 2 rfl) (by decide) (by decide)) q102a q102c (g := (mkF m 187 #[lv x1, .second, lv x2, .second, lv x3, .second, iv x4, rv b1, iv v184a, iv v184b, iv v184c, iv v133, iv v184d, .unset, .unset, .unset] [(.int (0 : Int32)), (.ref b1)])) rfl (by rw [hml]; rfl) (Steps.refl _) (argsL := [(.int (0 : Int32))]) (rest := []) (lenOf own_pd9 rfl) rfl (by show 2 * 0 + _ ≤ _; exact Nat.le_of_eq rfl) (hb hby at_187) (fun _ _ => ⟨rfl, e101, (by decide : 10 + 0 ≤ _), (by decide : 6178 + 0 ≤ _)⟩)
  dsimp only [Pt.U, Pt.locs, Pt.cells, Pt.slots] at X102 l102 y102 z102 st102 hQ102
  subst l102 y102 z102
  obtain ⟨rfl, Nq102, eh102⟩ := hQ102
  have N102 := Fr.app N101 Nq102
  obtain ⟨y190, hy190⟩ : ∃ z, z = (if v184e = (2 : Int32) then (1 : Int32) else (0 : Int32)) := ⟨_, rfl⟩
  obtain ⟨cq109, kq109, q109a, q109b, q109c⟩ := isOf hZ eh102 Ec103
  obtain ⟨_, _, ⟨T109, Lw109, kw109, nw109⟩, -, X109, ⟨Lc109, hQ109, l109, y109, z109⟩, st109⟩ := X102.virtualBack hx (y := (⟨oz0, "leased", "(I)Z"⟩ : MethodName)) (z := (⟨oz0, "leased", "(I)Z"⟩ : MethodName)) hown (mvT hZ (own_w hw 94 rfl)) (mvT hZ (own_w hw 95 rfl)) (notFace_of_selects (args := #[]) (mvT hZ (own_w hw 97 rfl))) (mvT hZ (own_w hw 97 rfl)) (mvT hZ (own_w hw 96 rfl)) (by decide) (backOf (W := 0) (rmLE1 l Z a0 hw [] b1 cs2 kc2 ch4 ar54 kz54 v184e v184f v184g h101 n0 Zc108 Ec103 jg101_1 jg101_2 Vc104 Ec105 Fc107 jg101_0) hZ (own_w hw 98 rfl) (own_w hw 2 rfl) (by decide) (by decide)) q109a q109c (g := (mkF m 195 #[lv x1, .second, lv x2, .second, lv x3, .second, iv x4, rv b1, iv v184a, iv v184b, iv v184c, iv v133, iv v184d, iv y190, .unset, .unset] [(.int (1 : Int32)), (.ref b1)])) rfl (by rw [hml]; rfl) (Steps.refl _) (argsL := [(.int (1 : Int32))]) (rest := []) (lenOf own_pd9 rfl) rfl (by show 2 * 0 + _ ≤ _; exact Nat.le_of_eq rfl) (hb hby at_195) (fun _ _ => ⟨rfl, eh102, (by decide : 10 + 0 ≤ _), (by decide : 6178 + 0 ≤ _)⟩)
  dsimp only [Pt.U, Pt.locs, Pt.cells, Pt.slots] at X109 l109 y109 z109 st109 hQ109
  subst l109 y109 z109
  obtain ⟨rfl, Nq109, eh109⟩ := hQ109
  have N109 := Fr.app N102 Nq109
  obtain ⟨y198, hy198⟩ : ∃ z, z = (if v184f = (2 : Int32) then (1 : Int32) else (0 : Int32)) := ⟨_, rfl⟩
  obtain ⟨cq110, kq110, q110a, q110b, q110c⟩ := isOf hZ eh109 Ec103
  obtain ⟨_, _, ⟨T110, Lw110, kw110, nw110⟩, -, X110, ⟨Lc110, hQ110, l110, y110, z110⟩, st110⟩ := X109.virtualBack hx (y := (⟨oz0, "leased", "(I)Z"⟩ : MethodName)) (z := (⟨oz0, "leased", "(I)Z"⟩ : MethodName)) hown (mvT hZ (own_w hw 94 rfl)) (mvT hZ (own_w hw 95 rfl)) (notFace_of_selects (args := #[]) (mvT hZ (own_w hw 97 rfl))) (mvT hZ (own_w hw 97 rfl)) (mvT hZ (own_w hw 96 rfl)) (by decide) (backOf (W := 0) (rmLE2 l Z a0 hw [] b1 cs2 kc2 ch4 ar54 kz54 v184e v184f v184g h101 n0 Zc108 Ec103 jg101_1 jg101_2 Vc104 Ec105 Fc107 jg101_0) hZ (own_w hw 98 rfl) (own_w hw 2 rfl) (by decide) (by decide)) q110a q110c (g := (mkF m 203 #[lv x1, .second, lv x2, .second, lv x3, .second, iv x4, rv b1, iv v184a, iv v184b, iv v184c, iv v133, iv v184d, iv y190, iv y198, .unset] [(.int (2 : Int32)), (.ref b1)])) rfl (by rw [hml]; rfl) (Steps.refl _) (argsL := [(.int (2 : Int32))]) (rest := []) (lenOf own_pd9 rfl) rfl (by show 2 * 0 + _ ≤ _; exact Nat.le_of_eq rfl) (hb hby at_203) (fun _ _ => ⟨rfl, eh109, (by decide : 10 + 0 ≤ _), (by decide : 6178 + 0 ≤ _)⟩)
  dsimp only [Pt.U, Pt.locs, Pt.cells, Pt.slots] at X110 l110 y110 z110 st110 hQ110
  subst l110 y110 z110
  obtain ⟨rfl, Nq110, eh110⟩ := hQ110
  have N110 := Fr.app N109 Nq110
  obtain ⟨y206, hy206⟩ : ∃ z, z = (if v184g = (2 : Int32) then (1 : Int32) else (0 : Int32)) := ⟨_, rfl⟩
  have hc212 : y190 = v184a := Classical.byContradiction fun hc212 => by
    exact hc212 (hy190.trans (own_last v57 v71 v85 v133 y144 v98 v109 v120 v184e v184f v184g v184a v184b v184c (own_01 hv57) (own_01 hv71) (own_01 hv85) (own_n3 _ _ hy144) hv98 hv109 hv120 hv184a hv184b hv184c hv184e hv184f hv184g).1)
  have hc219 : y198 = v184b := Classical.byContradiction fun hc219 => by
    exact hc219 (hy198.trans (own_last v57 v71 v85 v133 y144 v98 v109 v120 v184e v184f v184g v184a v184b v184c (own_01 hv57) (own_01 hv71) (own_01 hv85) (own_n3 _ _ hy144) hv98 hv109 hv120 hv184a hv184b hv184c hv184e hv184f hv184g).2.1)
  have hc226 : y206 = v184c := Classical.byContradiction fun hc226 => by
    exact hc226 (hy206.trans (own_last v57 v71 v85 v133 y144 v98 v109 v120 v184e v184f v184g v184a v184b v184c (own_01 hv57) (own_01 hv71) (own_01 hv85) (own_n3 _ _ hy144) hv98 hv109 hv120 hv184a hv184b hv184c hv184e hv184f hv184g).2.2)
  have pre111 : ∀ tz, oS p e below T110 m 234 #[lv x1, .second, lv x2, .second, lv x3, .second, iv x4, rv b1, iv v184a, iv v184b, iv v184c, iv v133, iv v184d, iv y190, iv y198, iv y206] [(.int (1 : Int32))] tz → oS p e below T65 m 148 #[lv x1, .second, lv x2, .second, lv x3, .second, iv x4, rv b1, iv v57, iv v71, iv v85, iv v133, iv y144, .unset, .unset, .unset] [(.int v133)] tz := fun tz kt => by
    show oS p e below T65 m 148 #[lv x1, .second, lv x2, .second, lv x3, .second, iv x4, rv b1, iv v57, iv v71, iv v85, iv v133, iv y144, .unset, .unset, .unset] [(.int v133)] _
    refine st101 _ ?_
    refine XS.aload X101.here hx rfl (hb hby at_184) rfl rfl ?_
    refine XS.iconst X101.here hx rfl (hb hby at_186) ?_
    show oS p e below T101 m 187 #[lv x1, .second, lv x2, .second, lv x3, .second, iv x4, rv b1, iv v184a, iv v184b, iv v184c, iv v133, iv v184d, .unset, .unset, .unset] [(.int (0 : Int32)), (.ref b1)] _
    refine st102.trans ?_
    refine XS.istore X102.here hx rfl (hb hby at_190) rfl (l' := #[lv x1, .second, lv x2, .second, lv x3, .second, iv x4, rv b1, iv v184a, iv v184b, iv v184c, iv v133, iv v184d, iv y190, .unset, .unset]) (by rw [hy190]; rfl) ?_
    refine XS.aload X102.here hx rfl (hb hby at_192) rfl rfl ?_
    refine XS.iconst X102.here hx rfl (hb hby at_194) ?_
    show oS p e below T102 m 195 #[lv x1, .second, lv x2, .second, lv x3, .second, iv x4, rv b1, iv v184a, iv v184b, iv v184c, iv v133, iv v184d, iv y190, .unset, .unset] [(.int (1 : Int32)), (.ref b1)] _
    refine st109.trans ?_
    refine XS.istore X109.here hx rfl (hb hby at_198) rfl (l' := #[lv x1, .second, lv x2, .second, lv x3, .second, iv x4, rv b1, iv v184a, iv v184b, iv v184c, iv v133, iv v184d, iv y190, iv y198, .unset]) (by rw [hy198]; rfl) ?_
    refine XS.aload X109.here hx rfl (hb hby at_200) rfl rfl ?_
    refine XS.iconst X109.here hx rfl (hb hby at_202) ?_
    show oS p e below T109 m 203 #[lv x1, .second, lv x2, .second, lv x3, .second, iv x4, rv b1, iv v184a, iv v184b, iv v184c, iv v133, iv v184d, iv y190, iv y198, .unset] [(.int (2 : Int32)), (.ref b1)] _
    refine st110.trans ?_
    refine XS.istore X110.here hx rfl (hb hby at_206) rfl (l' := #[lv x1, .second, lv x2, .second, lv x3, .second, iv x4, rv b1, iv v184a, iv v184b, iv v184c, iv v133, iv v184d, iv y190, iv y198, iv y206]) (by rw [hy206]; rfl) ?_
    refine XS.iload X110.here hx rfl (hb hby at_208) rfl ?_
    refine XS.iload X110.here hx rfl (hb hby at_210) rfl ?_
    show oS p e below T110 m 212 #[lv x1, .second, lv x2, .second, lv x3, .second, iv x4, rv b1, iv v184a, iv v184b, iv v184c, iv v133, iv v184d, iv y190, iv y198, iv y206] [(.int v184a), (.int y190)] _
    refine XS.icmpNo X110.here hx rfl (hb hby at_212) rfl (teq hc212).2 ?_
    refine XS.iload X110.here hx rfl (hb hby at_215) rfl ?_
    refine XS.iload X110.here hx rfl (hb hby at_217) rfl ?_
    refine XS.icmpNo X110.here hx rfl (hb hby at_219) rfl (teq hc219).2 ?_
    show oS p e below T110 m 222 #[lv x1, .second, lv x2, .second, lv x3, .second, iv x4, rv b1, iv v184a, iv v184b, iv v184c, iv v133, iv v184d, iv y190, iv y198, iv y206] [] _
    refine XS.iload X110.here hx rfl (hb hby at_222) rfl ?_
    refine XS.iload X110.here hx rfl (hb hby at_224) rfl ?_
    refine XS.icmpNo X110.here hx rfl (hb hby at_226) rfl (teq hc226).2 ?_
    refine XS.iconst X110.here hx rfl (hb hby at_229) ?_
    show oS p e below T110 m 230 #[lv x1, .second, lv x2, .second, lv x3, .second, iv x4, rv b1, iv v184a, iv v184b, iv v184c, iv v133, iv v184d, iv y190, iv y198, iv y206] [(.int (1 : Int32))] _
    refine XS.goto X110.here hx rfl (pc0 := 230) (pc' := 234) rfl (hb hby at_230) (by decide) (by decide) ?_
    exact kt
  obtain ⟨fs, hr, hrun, hended, hW, hsame⟩ := X110.leave (v := some (.int (1 : Int32))) (fun h => by rw [Bd.returns] at h; cases h)
  refine ⟨_, _, pre0 _ (pre15 _ (pre19 _ (pre23 _ (pre27 _ (pre36 _ (pre49 _ (pre62 _ (pre66 _ (pre111 _ ?_))))))))), hrun, hended, _, _, rfl, ?_, ⟨_, rfl⟩, hW, hsame.mono (by decide) (by decide)⟩
  · show oS p e below T110 m 234 #[lv x1, .second, lv x2, .second, lv x3, .second, iv x4, rv b1, iv v184a, iv v184b, iv v184c, iv v133, iv v184d, iv y190, iv y198, iv y206] [(.int (1 : Int32))] _
    exact retN X110 hx (t := .boolean) Bd.returns (by simp) (hb hby at_234) hr
  · show Q0 Z x1 x2 x3 x4 h0 n0 _ T110.heap _
    rw [eh110]
    exact ⟨rfl, N110⟩
set_option maxRecDepth 65536 in
set_option maxHeartbeats 40000000 in
theorem comes_1 {Post : Tables → Env → Array Value → State → Outcome → State → Prop} (hpost : ∀ tb e args s v u, (limb_1_1.after args s (.returned v) u = true ∧ limb_1_2.after args s (.returned v) u = true ∧ True) → FrameEnd s (.returned v) u (Jvm.fieldLocs frame_1_writes args s ++ Jvm.arrayLocs frame_1_arrays args s ++ Jvm.staticLocs frame_1_statics s) 32 12480 → Post tb e args s (.returned v) u) :
    ArmFor flags0 classFile x code maxLocals ret World_1 tables_1 room_1 Calls_1 rest_1 Pre_1 Post := by
  intro l hfl _ _ p e ha hc hk s m args below hf hA hF happ hP
  obtain ⟨hcalls, hrest, hpre⟩ := hP
  obtain ⟨-, -, -, hnamed, -, -, -, hat⟩ := (Spec.applies_iff hf).mp happ
  obtain ⟨hg, hn⟩ := and_e (Cond.before_iff.mp (show (Jvm.Cond.and given_1 narrow_1).before args s = true from hpre))
  obtain ⟨gc, gr0⟩ := and_e hg
  obtain ⟨ga0, gr1⟩ := and_e gr0
  obtain ⟨ga1, gr2⟩ := and_e gr1
  obtain ⟨ga2, gr3⟩ := and_e gr2
  have ga3 := gr3
  obtain ⟨w0, w1, w2, w3, rfl⟩ : ∃ w0 w1 w2 w3 : Value, args = #[w0, w1, w2, w3] := by
    have hs : args.size = 4 := by simpa [Cond.value, given_1] using gc
    obtain ⟨L⟩ := args
    match L, hs with
    | [w0, w1, w2, w3], _ => exact ⟨w0, w1, w2, w3, rfl⟩
  have hw := fun d (hd : d ∈ tables_1) => atoms_spec (ws := Jvm.Cond.code x code maxLocals ret :: tables_1) hat d (List.mem_cons_of_mem _ hd)
  obtain ⟨i0, ei0⟩ := isL_v ga0
  obtain rfl : w0 = (.long i0) := Option.some.inj ei0
  obtain ⟨i1, ei1⟩ := isL_v ga1
  obtain rfl : w1 = (.long i1) := Option.some.inj ei1
  obtain ⟨i2, ei2⟩ := isL_v ga2
  obtain rfl : w2 = (.long i2) := Option.some.inj ei2
  obtain ⟨i3, ei3⟩ := is_v ga3
  obtain rfl : w3 = (.int i3) := Option.some.inj ei3
  obtain ⟨n, o, h1, h2, h3, _, L, rfl, ⟨rfl, N⟩, hq⟩ := rm0 l s _ hw tables_1 i0 i1 i2 i3 s.heap s.heap.size (Nat.le_refl _)  p e ha hc hk s m _ below hf ((Spec.applies_iff_loose hf).mp happ).1 ⟨rfl, State.Warmed39.refl s, rfl⟩ trivial
  refine ⟨n, _, h1, h2, h3, hpost _ _ _ _ _ _ ⟨Cond.after_iff.mpr rfl, Cond.after_iff.mpr (eq_i res_at (Term.int_eval (1)) rfl), trivial⟩ ⟨hq.1, hq.2.1, (hq.2.2.sift fun y hy => Or.inr (N y hy)).mono (by decide) (by decide)⟩⟩
theorem main_1_1 : Claimed_1_1 := comes_1 fun _ _ _ _ _ _ h hF => ⟨h.1, hF⟩
theorem main_1_2 : Claimed_1_2 := comes_1 fun _ _ _ _ _ _ h hF => ⟨h.2.1, hF⟩
end Jvm.Pilot.@@N@@
namespace Jvm.Pilot.@@N@@
open Jvm Jvm.ClassFile Sem Op Lib Jvm.Free Jvm.Stand Jvm.Pilot.@@N@@.Jvm.D
/-! MADE BY PROGRAM (witnessworld.py) out of the Statement's table words and the real class files: 14 classes; the members and pool entries that the words name. The judged class is class 1, her method 1. -/
namespace start1
open Jvm.ClassFile
def u (s : String) : CpInfo := .utf8 (stringToUtf16 s)
/-- a pool by its gaps: so many unusable entries, then the entry; so many at the end -/
def gap : Nat → List CpInfo → List CpInfo
  | 0, r => r
  | n + 1, r => .unusable :: gap n r
def poolList (es : List (Nat × CpInfo)) (last : Nat) : List CpInfo := es.foldr (fun e r => gap e.1 (e.2 :: r)) (gap last [])
def pool (es : List (Nat × CpInfo)) (last : Nat) : Array CpInfo := ⟨poolList es last⟩
def fileOf (pool : Array CpInfo) (this : Nat) (attrs : Array Attribute := #[]) (ms : Array MethodInfo := #[]) (fl : Nat := 33) (sup : Nat := 0) (ifs : Array Nat := #[]) (fds : Array FieldInfo := #[]) : ClassFile where
  minorVersion := 0
  majorVersion := 65
  constantPool := pool
  accessFlags := fl
  thisClass := this
  superClass := sup
  interfaces := ifs
  fields := fds
  methods := ms
  attributes := attrs
def plain (name : String) (sup : Option ClassId) : Class where
  name := name
  kind := .ordinary
  loader := none
  accessFlags := 33
  super := sup
  interfaces := #[]
  cf := none
  fields := #[]
  methods := #[]
  instanceTypes := #[]
  staticTypes := #[]
  resolved := #[]
  callSites := []
  init := .initialized
  statics := none
  mirror := none

def pool0 : Array CpInfo := pool [(5, u "<init>"), (0, u "()V"), (1, .class_ 10), (1, u "java/lang/Object")] 113

def k0c0 : Code := { maxStack := 0, maxLocals := 1, code := object_method_1_code, exceptionTable := #[], attributes := #[] }
def k0m0 : Method := { name := "<init>", desc := "()V", sig := { parameters := [], returnType := none }, accessFlags := 1, code := some k0c0 }
/-- java/lang/Object -/
def k0 : Class := { plain "java/lang/Object" none with
  accessFlags := 33
  interfaces := #[]
  cf := some (fileOf pool0 8 #[] #[{ accessFlags := 1, nameIndex := 5, descriptorIndex := 6, attributes := #[] }] 33 0 #[] #[])
  fields := #[]
  methods := #[k0m0]
  instanceTypes := #[]
  staticTypes := #[]
  resolved := Array.replicate 124 none
  statics := none }

def pool1 : Array CpInfo := pool [(2, .class_ 4), (0, .nameAndType 5 6), (0, u "java/lang/Object"), (0, u "<init>"), (0, u "()V"), (0, .class_ 8), (0, u "com/example/sidetrack/sidetrack/core/MessageTable"), (0, .methodref 7 3), (0, .methodref 7 11), (0, .nameAndType 12 13), (0, u "add"), (0, u "(JJJJII)V"), (0, .methodref 7 15), (0, .nameAndType 16 17), (0, u "markLeased"), (0, u "(I)V"), (0, .integer 2147483647), (0, .methodref 7 20), (0, .nameAndType 21 17), (0, u "markAvailable"), (0, .methodref 7 23), (0, .nameAndType 24 25), (0, u "leased"), (0, u "(I)Z"), (0, .class_ 27), (0, u "com/example/sidetrack/sidetrack/core/MessageTableLeasedPinLaw"), (2, u "law"), (0, u "(JJJI)Z")] 3

def k1m0 : Method := { name := "<init>", desc := "()V", sig := { parameters := [], returnType := none }, accessFlags := 1, code := none }
def k1c1 : Code := { maxStack := 11, maxLocals := 16, code := code, exceptionTable := #[], attributes := #[] }
def k1m1 : Method := { name := "law", desc := "(JJJI)Z", sig := { parameters := [.long, .long, .long, .int], returnType := some .boolean }, accessFlags := 9, code := some k1c1 }
/-- com/example/sidetrack/sidetrack/core/MessageTableLeasedPinLaw -/
def k1 : Class := { plain "com/example/sidetrack/sidetrack/core/MessageTableLeasedPinLaw" (some 0) with
  accessFlags := 49
  interfaces := #[]
  cf := some (fileOf pool1 26 #[] #[{ accessFlags := 1, nameIndex := 5, descriptorIndex := 6, attributes := #[] }, { accessFlags := 9, nameIndex := 30, descriptorIndex := 31, attributes := #[] }] 49 2 #[] #[])
  fields := #[]
  methods := #[k1m0, k1m1]
  instanceTypes := #[]
  staticTypes := #[]
  resolved := Array.replicate 35 none
  statics := none }

def pool2 : Array CpInfo := pool [(1, .class_ 2), (0, u "com/example/sidetrack/sidetrack/core/MessageTable"), (2, .methodref 6 7), (0, .class_ 8), (0, .nameAndType 9 10), (0, u "java/lang/Object"), (0, u "<init>"), (0, u "()V"), (0, .class_ 12), (0, u "com/example/sidetrack/sidetrack/core/MessageTable$Chunk"), (0, .fieldref 1 14), (0, .nameAndType 15 16), (0, u "chunks"), (0, u "[Lcom/example/sidetrack/sidetrack/core/MessageTable$Chunk;"), (0, .fieldref 1 18), (0, .nameAndType 19 20), (0, u "index"), (0, u "[I"), (0, .fieldref 1 22), (0, .nameAndType 23 24), (0, u "indexBits"), (0, u "I"), (0, .fieldref 1 26), (0, .nameAndType 27 24), (0, u "size"), (0, .methodref 1 29), (0, .nameAndType 30 31), (0, u "slot"), (0, u "(J)I"), (4, .fieldref 1 37), (0, .nameAndType 38 24), (0, u "tail"), (0, .integer 2147482623), (3, .methodref 1 44), (0, .nameAndType 45 46), (0, u "chunkForAdd"), (0, u "(I)Lcom/example/sidetrack/sidetrack/core/MessageTable$Chunk;"), (0, .fieldref 11 48), (0, .nameAndType 49 50), (0, u "ids"), (0, u "[J"), (0, .fieldref 11 52), (0, .nameAndType 53 50), (0, u "arrivals"), (0, .methodref 11 55), (0, .nameAndType 56 57), (0, u "address"), (0, u "(IJ)V"), (0, .fieldref 11 59), (0, .nameAndType 60 50), (0, u "arrivedAts"), (0, .fieldref 11 62), (0, .nameAndType 63 20), (0, u "deliveryCounts"), (0, .fieldref 11 65), (0, .nameAndType 66 20), (0, u "causes"), (0, .fieldref 11 68), (0, .nameAndType 69 70), (0, u "states"), (0, u "[B"), (0, .fieldref 11 72), (0, .nameAndType 73 24), (0, u "rows"), (0, .methodref 1 75), (0, .nameAndType 76 77), (0, u "maxLoad"), (0, u "(I)I"), (3, u "(I)V"), (0, .methodref 1 83), (0, .nameAndType 84 85), (0, u "insert"), (0, u "(JI)V"), (0, .methodref 1 87), (0, .nameAndType 88 46), (0, u "chunk"), (7, .fieldref 1 97), (0, .nameAndType 98 24), (0, u "heldChunks"), (9, .fieldref 1 109), (0, .nameAndType 110 24), (0, u "head"), (4, .fieldref 1 116), (0, .nameAndType 117 24), (0, u "availableFrom"), (2, .methodref 121 122), (0, .class_ 123), (0, .nameAndType 124 125), (0, u "java/lang/Math"), (0, u "min"), (0, u "(II)I"), (3, .fieldref 1 130), (0, .nameAndType 131 24), (0, u "firstChunk"), (6, .methodref 11 7), (4, .long 11400714819323198485), (10, u "NONE"), (2, u "CHUNK_BITS"), (1, u "CHUNK_ROWS"), (1, u "CHUNK_MASK"), (1, u "MAX_POSITIONS"), (0, u "EMPTY"), (0, u "B"), (1, u "AVAILABLE"), (1, u "LEASED"), (1, u "MIN_INDEX_BITS"), (1, u "HASH_MULTIPLIER"), (0, u "J"), (4, u "add"), (0, u "(JJJJII)V"), (10, u "leased"), (0, u "(I)Z"), (0, u "markLeased"), (0, u "markAvailable")] 6

def k2c0 : Code := { maxStack := 2, maxLocals := 1, code := prog_24_method_1_code, exceptionTable := #[], attributes := #[] }
def k2m0 : Method := { name := "<init>", desc := "()V", sig := { parameters := [], returnType := none }, accessFlags := 0, code := some k2c0 }
def k2c1 : Code := { maxStack := 4, maxLocals := 14, code := prog_24_method_4_code, exceptionTable := #[], attributes := #[] }
def k2m1 : Method := { name := "add", desc := "(JJJJII)V", sig := { parameters := [.long, .long, .long, .long, .int, .int], returnType := none }, accessFlags := 0, code := some k2c1 }
def k2c2 : Code := { maxStack := 3, maxLocals := 2, code := prog_24_method_18_code, exceptionTable := #[], attributes := #[] }
def k2m2 : Method := { name := "leased", desc := "(I)Z", sig := { parameters := [.int], returnType := some .boolean }, accessFlags := 0, code := some k2c2 }
def k2c3 : Code := { maxStack := 3, maxLocals := 2, code := prog_24_method_19_code, exceptionTable := #[], attributes := #[] }
def k2m3 : Method := { name := "markLeased", desc := "(I)V", sig := { parameters := [.int], returnType := none }, accessFlags := 0, code := some k2c3 }
def k2c4 : Code := { maxStack := 3, maxLocals := 2, code := prog_24_method_20_code, exceptionTable := #[], attributes := #[] }
def k2m4 : Method := { name := "markAvailable", desc := "(I)V", sig := { parameters := [.int], returnType := none }, accessFlags := 0, code := some k2c4 }
def k2c5 : Code := { maxStack := 3, maxLocals := 2, code := prog_24_method_22_code, exceptionTable := #[], attributes := #[] }
def k2m5 : Method := { name := "chunk", desc := "(I)Lcom/example/sidetrack/sidetrack/core/MessageTable$Chunk;", sig := { parameters := [.int], returnType := some (.object "com/example/sidetrack/sidetrack/core/MessageTable$Chunk") }, accessFlags := 2, code := some k2c5 }
def k2c6 : Code := { maxStack := 6, maxLocals := 5, code := prog_24_method_23_code, exceptionTable := #[], attributes := #[] }
def k2m6 : Method := { name := "chunkForAdd", desc := "(I)Lcom/example/sidetrack/sidetrack/core/MessageTable$Chunk;", sig := { parameters := [.int], returnType := some (.object "com/example/sidetrack/sidetrack/core/MessageTable$Chunk") }, accessFlags := 2, code := some k2c6 }
def k2c7 : Code := { maxStack := 4, maxLocals := 3, code := prog_24_method_27_code, exceptionTable := #[], attributes := #[] }
def k2m7 : Method := { name := "slot", desc := "(J)I", sig := { parameters := [.long], returnType := some .int }, accessFlags := 2, code := some k2c7 }
def k2c8 : Code := { maxStack := 4, maxLocals := 6, code := prog_24_method_28_code, exceptionTable := #[], attributes := #[] }
def k2m8 : Method := { name := "insert", desc := "(JI)V", sig := { parameters := [.long, .int], returnType := none }, accessFlags := 2, code := some k2c8 }
def k2c9 : Code := { maxStack := 2, maxLocals := 1, code := prog_24_method_31_code, exceptionTable := #[], attributes := #[] }
def k2m9 : Method := { name := "maxLoad", desc := "(I)I", sig := { parameters := [.int], returnType := some .int }, accessFlags := 10, code := some k2c9 }
/-- com/example/sidetrack/sidetrack/core/MessageTable -/
def k2 : Class := { plain "com/example/sidetrack/sidetrack/core/MessageTable" (some 0) with
  accessFlags := 48
  interfaces := #[]
  cf := some (fileOf pool2 1 #[.nestMembers #[11]] #[{ accessFlags := 0, nameIndex := 9, descriptorIndex := 10, attributes := #[] }, { accessFlags := 0, nameIndex := 179, descriptorIndex := 180, attributes := #[] }, { accessFlags := 0, nameIndex := 191, descriptorIndex := 192, attributes := #[] }, { accessFlags := 0, nameIndex := 193, descriptorIndex := 81, attributes := #[] }, { accessFlags := 0, nameIndex := 194, descriptorIndex := 81, attributes := #[] }, { accessFlags := 2, nameIndex := 88, descriptorIndex := 46, attributes := #[] }, { accessFlags := 2, nameIndex := 45, descriptorIndex := 46, attributes := #[] }, { accessFlags := 2, nameIndex := 30, descriptorIndex := 31, attributes := #[] }, { accessFlags := 2, nameIndex := 84, descriptorIndex := 85, attributes := #[] }, { accessFlags := 10, nameIndex := 76, descriptorIndex := 77, attributes := #[] }] 48 6 #[] #[{ accessFlags := 24, nameIndex := 154, descriptorIndex := 24, attributes := #[] }, { accessFlags := 26, nameIndex := 157, descriptorIndex := 24, attributes := #[] }, { accessFlags := 26, nameIndex := 159, descriptorIndex := 24, attributes := #[] }, { accessFlags := 26, nameIndex := 161, descriptorIndex := 24, attributes := #[] }, { accessFlags := 26, nameIndex := 163, descriptorIndex := 24, attributes := #[] }, { accessFlags := 26, nameIndex := 164, descriptorIndex := 165, attributes := #[] }, { accessFlags := 26, nameIndex := 167, descriptorIndex := 165, attributes := #[] }, { accessFlags := 26, nameIndex := 169, descriptorIndex := 165, attributes := #[] }, { accessFlags := 26, nameIndex := 171, descriptorIndex := 24, attributes := #[] }, { accessFlags := 26, nameIndex := 173, descriptorIndex := 174, attributes := #[] }, { accessFlags := 2, nameIndex := 15, descriptorIndex := 16, attributes := #[] }, { accessFlags := 2, nameIndex := 131, descriptorIndex := 24, attributes := #[] }, { accessFlags := 2, nameIndex := 98, descriptorIndex := 24, attributes := #[] }, { accessFlags := 2, nameIndex := 110, descriptorIndex := 24, attributes := #[] }, { accessFlags := 2, nameIndex := 38, descriptorIndex := 24, attributes := #[] }, { accessFlags := 2, nameIndex := 27, descriptorIndex := 24, attributes := #[] }, { accessFlags := 2, nameIndex := 117, descriptorIndex := 24, attributes := #[] }, { accessFlags := 2, nameIndex := 19, descriptorIndex := 20, attributes := #[] }, { accessFlags := 2, nameIndex := 23, descriptorIndex := 24, attributes := #[] }])
  fields := #[{ name := "NONE", type := .int, accessFlags := 24, slot := 0, constantValue := 0 }, { name := "CHUNK_BITS", type := .int, accessFlags := 26, slot := 1, constantValue := 0 }, { name := "CHUNK_ROWS", type := .int, accessFlags := 26, slot := 2, constantValue := 0 }, { name := "CHUNK_MASK", type := .int, accessFlags := 26, slot := 3, constantValue := 0 }, { name := "MAX_POSITIONS", type := .int, accessFlags := 26, slot := 4, constantValue := 0 }, { name := "EMPTY", type := .byte, accessFlags := 26, slot := 5, constantValue := 0 }, { name := "AVAILABLE", type := .byte, accessFlags := 26, slot := 6, constantValue := 0 }, { name := "LEASED", type := .byte, accessFlags := 26, slot := 7, constantValue := 0 }, { name := "MIN_INDEX_BITS", type := .int, accessFlags := 26, slot := 8, constantValue := 0 }, { name := "HASH_MULTIPLIER", type := .long, accessFlags := 26, slot := 9, constantValue := 0 }, { name := "chunks", type := (.array (.object "com/example/sidetrack/sidetrack/core/MessageTable$Chunk")), accessFlags := 2, slot := 0, constantValue := 0 }, { name := "firstChunk", type := .int, accessFlags := 2, slot := 1, constantValue := 0 }, { name := "heldChunks", type := .int, accessFlags := 2, slot := 2, constantValue := 0 }, { name := "head", type := .int, accessFlags := 2, slot := 3, constantValue := 0 }, { name := "tail", type := .int, accessFlags := 2, slot := 4, constantValue := 0 }, { name := "size", type := .int, accessFlags := 2, slot := 5, constantValue := 0 }, { name := "availableFrom", type := .int, accessFlags := 2, slot := 6, constantValue := 0 }, { name := "index", type := (.array .int), accessFlags := 2, slot := 7, constantValue := 0 }, { name := "indexBits", type := .int, accessFlags := 2, slot := 8, constantValue := 0 }]
  methods := #[k2m0, k2m1, k2m2, k2m3, k2m4, k2m5, k2m6, k2m7, k2m8, k2m9]
  instanceTypes := #[(.array (.object "com/example/sidetrack/sidetrack/core/MessageTable$Chunk")), .int, .int, .int, .int, .int, .int, (.array .int), .int]
  staticTypes := #[.int, .int, .int, .int, .int, .byte, .byte, .byte, .int, .long]
  resolved := ⟨List.replicate 11 none ++ [some (.cls 3)] ++ List.replicate 35 none ++ [some (.field 3 0)] ++ List.replicate 3 none ++ [some (.field 3 1)] ++ List.replicate 6 none ++ [some (.field 3 3)] ++ List.replicate 2 none ++ [some (.field 3 4)] ++ List.replicate 2 none ++ [some (.field 3 5)] ++ List.replicate 2 none ++ [some (.field 3 6)] ++ List.replicate 3 none ++ [some (.field 3 7)] ++ List.replicate 66 none ++ [some (.method ⟨3, 0⟩)] ++ List.replicate 62 none⟩
  statics := none }

def pool3 : Array CpInfo := pool [(1, .class_ 2), (0, u "com/example/sidetrack/sidetrack/core/MessageTable"), (0, .methodref 4 5), (0, .class_ 6), (0, .nameAndType 7 8), (0, u "java/lang/Object"), (0, u "<init>"), (0, u "()V"), (0, .fieldref 10 11), (0, .class_ 12), (0, .nameAndType 13 14), (0, u "com/example/sidetrack/sidetrack/core/MessageTable$Chunk"), (0, u "ids"), (0, u "[J"), (0, .fieldref 10 16), (0, .nameAndType 17 14), (0, u "arrivals"), (0, .fieldref 10 19), (0, .nameAndType 20 14), (0, u "arrivedAts"), (0, .fieldref 10 22), (0, .nameAndType 23 24), (0, u "deliveryCounts"), (0, u "[I"), (0, .fieldref 10 26), (0, .nameAndType 27 24), (0, u "causes"), (0, .fieldref 10 29), (0, .nameAndType 30 31), (0, u "states"), (0, u "[B"), (0, .fieldref 10 33), (0, .nameAndType 34 14), (0, u "addresses"), (6, u "rows"), (0, u "I"), (2, u "address"), (2, u "(IJ)V")] 5

def k3c0 : Code := { maxStack := 2, maxLocals := 1, code := prog_25_method_1_code, exceptionTable := #[], attributes := #[] }
def k3m0 : Method := { name := "<init>", desc := "()V", sig := { parameters := [], returnType := none }, accessFlags := 2, code := some k3c0 }
def k3c1 : Code := { maxStack := 4, maxLocals := 4, code := prog_25_method_3_code, exceptionTable := #[], attributes := #[] }
def k3m1 : Method := { name := "address", desc := "(IJ)V", sig := { parameters := [.int, .long], returnType := none }, accessFlags := 0, code := some k3c1 }
/-- com/example/sidetrack/sidetrack/core/MessageTable$Chunk -/
def k3 : Class := { plain "com/example/sidetrack/sidetrack/core/MessageTable$Chunk" (some 0) with
  accessFlags := 48
  interfaces := #[]
  cf := some (fileOf pool3 10 #[.nestHost 1] #[{ accessFlags := 2, nameIndex := 7, descriptorIndex := 8, attributes := #[] }, { accessFlags := 0, nameIndex := 45, descriptorIndex := 48, attributes := #[] }] 48 4 #[] #[{ accessFlags := 18, nameIndex := 13, descriptorIndex := 14, attributes := #[] }, { accessFlags := 18, nameIndex := 17, descriptorIndex := 14, attributes := #[] }, { accessFlags := 2, nameIndex := 34, descriptorIndex := 14, attributes := #[] }, { accessFlags := 18, nameIndex := 20, descriptorIndex := 14, attributes := #[] }, { accessFlags := 18, nameIndex := 23, descriptorIndex := 24, attributes := #[] }, { accessFlags := 18, nameIndex := 27, descriptorIndex := 24, attributes := #[] }, { accessFlags := 18, nameIndex := 30, descriptorIndex := 31, attributes := #[] }, { accessFlags := 2, nameIndex := 41, descriptorIndex := 42, attributes := #[] }])
  fields := #[{ name := "ids", type := (.array .long), accessFlags := 18, slot := 0, constantValue := 0 }, { name := "arrivals", type := (.array .long), accessFlags := 18, slot := 1, constantValue := 0 }, { name := "addresses", type := (.array .long), accessFlags := 2, slot := 2, constantValue := 0 }, { name := "arrivedAts", type := (.array .long), accessFlags := 18, slot := 3, constantValue := 0 }, { name := "deliveryCounts", type := (.array .int), accessFlags := 18, slot := 4, constantValue := 0 }, { name := "causes", type := (.array .int), accessFlags := 18, slot := 5, constantValue := 0 }, { name := "states", type := (.array .byte), accessFlags := 18, slot := 6, constantValue := 0 }, { name := "rows", type := .int, accessFlags := 2, slot := 7, constantValue := 0 }]
  methods := #[k3m0, k3m1]
  instanceTypes := #[(.array .long), (.array .long), (.array .long), (.array .long), (.array .int), (.array .int), (.array .byte), .int]
  staticTypes := #[]
  resolved := Array.replicate 54 none
  statics := none }

def pool4 : Array CpInfo := pool [(1, .class_ 2), (0, u "java/lang/Math"), (1, .class_ 6), (1, u "java/lang/Object"), (0, u "<init>"), (0, u "()V"), (89, .class_ 100), (1, u "java/lang/Math$RandomNumberGeneratorHolder"), (71, u "negativeZeroFloatBits"), (0, u "J"), (2, u "negativeZeroDoubleBits"), (24, u "min"), (43, u "$assertionsDisabled"), (0, u "Z"), (88, u "(II)I"), (2, u "twoToTheDoubleScaleDown"), (0, u "D"), (4, u "twoToTheDoubleScaleUp"), (9, u "E"), (3, u "PI"), (2, u "TAU"), (2, u "DEGREES_TO_RADIANS"), (0, u "RADIANS_TO_DEGREES")] 94

def k4m0 : Method := { name := "<init>", desc := "()V", sig := { parameters := [], returnType := none }, accessFlags := 2, code := none }
def k4c1 : Code := { maxStack := 2, maxLocals := 2, code := jdk_29_method_69_code, exceptionTable := #[], attributes := #[] }
def k4m1 : Method := { name := "min", desc := "(II)I", sig := { parameters := [.int, .int], returnType := some .int }, accessFlags := 9, code := some k4c1 }
/-- java/lang/Math -/
def k4 : Class := { plain "java/lang/Math" (some 0) with
  accessFlags := 49
  interfaces := #[]
  cf := some (fileOf pool4 1 #[.nestMembers #[98]] #[{ accessFlags := 2, nameIndex := 7, descriptorIndex := 8, attributes := #[] }, { accessFlags := 9, nameIndex := 201, descriptorIndex := 335, attributes := #[] }] 49 4 #[] #[{ accessFlags := 25, nameIndex := 354, descriptorIndex := 339, attributes := #[] }, { accessFlags := 25, nameIndex := 358, descriptorIndex := 339, attributes := #[] }, { accessFlags := 25, nameIndex := 361, descriptorIndex := 339, attributes := #[] }, { accessFlags := 26, nameIndex := 364, descriptorIndex := 339, attributes := #[] }, { accessFlags := 26, nameIndex := 365, descriptorIndex := 339, attributes := #[] }, { accessFlags := 26, nameIndex := 172, descriptorIndex := 173, attributes := #[] }, { accessFlags := 26, nameIndex := 176, descriptorIndex := 173, attributes := #[] }, { accessFlags := 8, nameIndex := 344, descriptorIndex := 339, attributes := #[] }, { accessFlags := 8, nameIndex := 338, descriptorIndex := 339, attributes := #[] }, { accessFlags := 4120, nameIndex := 245, descriptorIndex := 246, attributes := #[] }])
  fields := #[{ name := "E", type := .double, accessFlags := 25, slot := 0, constantValue := 0 }, { name := "PI", type := .double, accessFlags := 25, slot := 1, constantValue := 0 }, { name := "TAU", type := .double, accessFlags := 25, slot := 2, constantValue := 0 }, { name := "DEGREES_TO_RADIANS", type := .double, accessFlags := 26, slot := 3, constantValue := 0 }, { name := "RADIANS_TO_DEGREES", type := .double, accessFlags := 26, slot := 4, constantValue := 0 }, { name := "negativeZeroFloatBits", type := .long, accessFlags := 26, slot := 5, constantValue := 0 }, { name := "negativeZeroDoubleBits", type := .long, accessFlags := 26, slot := 6, constantValue := 0 }, { name := "twoToTheDoubleScaleUp", type := .double, accessFlags := 8, slot := 7, constantValue := 0 }, { name := "twoToTheDoubleScaleDown", type := .double, accessFlags := 8, slot := 8, constantValue := 0 }, { name := "$assertionsDisabled", type := .boolean, accessFlags := 4120, slot := 9, constantValue := 0 }]
  methods := #[k4m0, k4m1]
  instanceTypes := #[]
  staticTypes := #[.double, .double, .double, .double, .double, .long, .long, .double, .double, .boolean]
  resolved := Array.replicate 460 none
  statics := none }

def pool5 : Array CpInfo := pool [(1, u "java/lang/Cloneable"), (0, .class_ 1), (0, u "java/lang/Object"), (0, .class_ 3)] 3

/-- java/lang/Cloneable -/
def k5 : Class := { plain "java/lang/Cloneable" (some 0) with
  accessFlags := 1537
  interfaces := #[]
  cf := some (fileOf pool5 2 #[] #[] 1537 4 #[] #[])
  fields := #[]
  methods := #[]
  instanceTypes := #[]
  staticTypes := #[]
  resolved := Array.replicate 8 none
  statics := none }

def pool6 : Array CpInfo := pool [(1, u "java/io/Serializable"), (0, .class_ 1), (0, u "java/lang/Object"), (0, .class_ 3)] 3

/-- java/io/Serializable -/
def k6 : Class := { plain "java/io/Serializable" (some 0) with
  accessFlags := 1537
  interfaces := #[]
  cf := some (fileOf pool6 2 #[] #[] 1537 4 #[] #[])
  fields := #[]
  methods := #[]
  instanceTypes := #[]
  staticTypes := #[]
  resolved := Array.replicate 8 none
  statics := none }

/-- the primitive byte -/
def k7 : Class := { plain "byte" none with kind := .primitive 'B', accessFlags := 0x411 }
/-- [B -/
def k8 : Class := { plain "[B" (some 0) with kind := .array 7 .byte, interfaces := #[5, 6], accessFlags := 1041 }

/-- the primitive int -/
def k9 : Class := { plain "int" none with kind := .primitive 'I', accessFlags := 0x411 }
/-- [I -/
def k10 : Class := { plain "[I" (some 0) with kind := .array 9 .int, interfaces := #[5, 6], accessFlags := 1041 }

/-- the primitive long -/
def k11 : Class := { plain "long" none with kind := .primitive 'J', accessFlags := 0x411 }
/-- [J -/
def k12 : Class := { plain "[J" (some 0) with kind := .array 11 .long, interfaces := #[5, 6], accessFlags := 1041 }

/-- [Lcom/example/sidetrack/sidetrack/core/MessageTable$Chunk; -/
def k13 : Class := { plain "[Lcom/example/sidetrack/sidetrack/core/MessageTable$Chunk;" (some 0) with kind := .array 3 (.object "com/example/sidetrack/sidetrack/core/MessageTable$Chunk"), interfaces := #[5, 6], accessFlags := 1041 }

def heap : Heap := #[]
def classes : Array Class := #[k0, k1, k2, k3, k4, k5, k6, k7, k8, k9, k10, k11, k12, k13]
def interned : List (Array UInt16 × Addr) := []
def slotsUsed : Nat := 0
def theMethod : MethodId := ⟨1, 1⟩
def args0 : Array Value := #[.long 5, .long 6, .long 7, .int 8]
def aboutOver (below : List Frame) : State where
  vm := { classes := classes, interned := interned.toArray }
  heap := heap
  slotsUsed := slotsUsed
  threads := #[{ frames := .invoking theMethod args0 :: below }]
def below0 : List Frame := [.native { method := ⟨0, 0⟩, args := #[] }]
def about1 : State := aboutOver below0
def p0 : Program := .bare "" "" ""
def e0 : Env := launch0.env 0 0 0
theorem w_frames : about1.frames = Frame.invoking theMethod args0 :: below0 := rfl
set_option maxRecDepth 65536 in
theorem w_args : argsFit about1.vm theMethod args0 = true := by decide +kernel
set_option maxRecDepth 65536 in
theorem w_heap : heapFits about1 = true := by decide +kernel
set_option maxRecDepth 65536 in
theorem w_runnable : about1.curStatus? = some .runnable := by decide +kernel
set_option maxRecDepth 65536 in
theorem w_alone : about1.alone = true := by decide +kernel
set_option maxRecDepth 65536 in
theorem w_named : about1.methodNamed? x = some theMethod := by decide +kernel
set_option maxRecDepth 65536 in
theorem w_hears : about1.hears theMethod below0 = true := by decide +kernel
set_option maxRecDepth 65536 in
theorem w_ripe : about1.ripe theMethod args0 below0 = true := by decide +kernel
theorem w_running : about1.status = .running := rfl
set_option maxRecDepth 65536 in
theorem w_room : about1.hasRoom e0.platform room_1 = true :=
  launch0.hasRoom_least _ room_1 (by decide +kernel) (by decide +kernel) (by decide +kernel) (by decide +kernel) (by decide +kernel) (by decide +kernel)
theorem allAtoms_all (ts : List Jvm.Cond) (a : Array Jvm.Value) (st : Jvm.State) : (allAtoms ts).before a st = ts.all (fun c => c.before a st) := by
  induction ts with
  | nil => rfl
  | cons c t ih =>
    show (Jvm.Cond.and c (allAtoms t)).before a st = _
    rw [Jvm.Cond.before_and, ih, List.all_cons]
def words1 : List Jvm.Cond := Jvm.Cond.code x code maxLocals ret :: tables_1
/-- a 'code' word, met by the world's own term for the bytes: nothing is compared byte by byte -/
theorem code_word {y : MethodName} {bytes : ByteArray} {mx : Nat} {rt : Option FieldType} {a : Array Value} {s : State} {m : MethodId} {meth : Method} {c : Code} (h1 : s.methodNamed? y = some m) (h2 : s.vm.method? m = some meth) (h3 : meth.code = some c) (h4 : c.code = bytes)
    (h5 : (c.maxLocals == mx && c.exceptionTable.isEmpty && decide (c.maxStack ≤ mostOperands) && decide (meth.sig.returnType = rt) && !meth.locks && decide (parseMethodDescriptor y.desc = some meth.sig)) = true) : (Jvm.Cond.code y bytes mx rt).before a s = true := by
  simp only [Bool.and_eq_true, beq_iff_eq, Bool.not_eq_true', decide_eq_true_eq] at h5
  obtain ⟨⟨⟨⟨⟨g1, g2⟩, g3⟩, g4⟩, g5⟩, g6⟩ := h5
  simp [Cond.before, Cond.holds, Cond.value, h1, h2, h3, h4, g1, g2, g3, g4, g5, g6]
def isCode : Jvm.Cond → Bool
  | .code _ _ _ _ => true
  | _ => false
theorem all_split {L : List Jvm.Cond} {P : Jvm.Cond → Bool} (h1 : L.all (fun c => isCode c || P c) = true) (h2 : ∀ c ∈ L.filter isCode, P c = true) : L.all P = true := by
  refine List.all_eq_true.mpr fun c hc => ?_
  have h := List.all_eq_true.mp h1 c hc
  rcases Bool.eq_false_or_eq_true (isCode c) with hi | hi
  · exact h2 c (List.mem_filter.mpr ⟨hc, hi⟩)
  · simpa [hi] using h
set_option maxRecDepth 65536 in
theorem w_c0 : (Jvm.Cond.code x code maxLocals ret).before args0 about1 = true := code_word (m := ⟨1, 1⟩) (meth := k1m1) (c := k1c1) (by decide +kernel) rfl rfl rfl (by decide +kernel)
set_option maxRecDepth 65536 in
theorem w_c1 : (Jvm.Cond.code ({ cls := "com/example/sidetrack/sidetrack/core/MessageTable", name := "<init>", desc := "()V" } : Jvm.MethodName) prog_24_method_1_code (1 : Nat) (Option.none : Option Jvm.ClassFile.FieldType)).before args0 about1 = true := code_word (m := ⟨2, 0⟩) (meth := k2m0) (c := k2c0) (by decide +kernel) rfl rfl rfl (by decide +kernel)
set_option maxRecDepth 65536 in
theorem w_c2 : (Jvm.Cond.code ({ cls := "java/lang/Object", name := "<init>", desc := "()V" } : Jvm.MethodName) object_method_1_code (1 : Nat) (Option.none : Option Jvm.ClassFile.FieldType)).before args0 about1 = true := code_word (m := ⟨0, 0⟩) (meth := k0m0) (c := k0c0) (by decide +kernel) rfl rfl rfl (by decide +kernel)
set_option maxRecDepth 65536 in
theorem w_c3 : (Jvm.Cond.code ({ cls := "com/example/sidetrack/sidetrack/core/MessageTable", name := "add", desc := "(JJJJII)V" } : Jvm.MethodName) prog_24_method_4_code (14 : Nat) (Option.none : Option Jvm.ClassFile.FieldType)).before args0 about1 = true := code_word (m := ⟨2, 1⟩) (meth := k2m1) (c := k2c1) (by decide +kernel) rfl rfl rfl (by decide +kernel)
set_option maxRecDepth 65536 in
theorem w_c4 : (Jvm.Cond.code ({ cls := "com/example/sidetrack/sidetrack/core/MessageTable", name := "chunkForAdd", desc := "(I)Lcom/example/sidetrack/sidetrack/core/MessageTable$Chunk;" } : Jvm.MethodName) prog_24_method_23_code (5 : Nat) (Option.some (Jvm.ClassFile.FieldType.object "com/example/sidetrack/sidetrack/core/MessageTable$Chunk"))).before args0 about1 = true := code_word (m := ⟨2, 6⟩) (meth := k2m6) (c := k2c6) (by decide +kernel) rfl rfl rfl (by decide +kernel)
set_option maxRecDepth 65536 in
theorem w_c5 : (Jvm.Cond.code ({ cls := "com/example/sidetrack/sidetrack/core/MessageTable$Chunk", name := "<init>", desc := "()V" } : Jvm.MethodName) prog_25_method_1_code (1 : Nat) (Option.none : Option Jvm.ClassFile.FieldType)).before args0 about1 = true := code_word (m := ⟨3, 0⟩) (meth := k3m0) (c := k3c0) (by decide +kernel) rfl rfl rfl (by decide +kernel)
set_option maxRecDepth 65536 in
theorem w_c6 : (Jvm.Cond.code ({ cls := "com/example/sidetrack/sidetrack/core/MessageTable$Chunk", name := "address", desc := "(IJ)V" } : Jvm.MethodName) prog_25_method_3_code (4 : Nat) (Option.none : Option Jvm.ClassFile.FieldType)).before args0 about1 = true := code_word (m := ⟨3, 1⟩) (meth := k3m1) (c := k3c1) (by decide +kernel) rfl rfl rfl (by decide +kernel)
set_option maxRecDepth 65536 in
theorem w_c7 : (Jvm.Cond.code ({ cls := "com/example/sidetrack/sidetrack/core/MessageTable", name := "maxLoad", desc := "(I)I" } : Jvm.MethodName) prog_24_method_31_code (1 : Nat) (Option.some Jvm.ClassFile.FieldType.int)).before args0 about1 = true := code_word (m := ⟨2, 9⟩) (meth := k2m9) (c := k2c9) (by decide +kernel) rfl rfl rfl (by decide +kernel)
set_option maxRecDepth 65536 in
theorem w_c8 : (Jvm.Cond.code ({ cls := "com/example/sidetrack/sidetrack/core/MessageTable", name := "insert", desc := "(JI)V" } : Jvm.MethodName) prog_24_method_28_code (6 : Nat) (Option.none : Option Jvm.ClassFile.FieldType)).before args0 about1 = true := code_word (m := ⟨2, 8⟩) (meth := k2m8) (c := k2c8) (by decide +kernel) rfl rfl rfl (by decide +kernel)
set_option maxRecDepth 65536 in
theorem w_c9 : (Jvm.Cond.code ({ cls := "com/example/sidetrack/sidetrack/core/MessageTable", name := "slot", desc := "(J)I" } : Jvm.MethodName) prog_24_method_27_code (3 : Nat) (Option.some Jvm.ClassFile.FieldType.int)).before args0 about1 = true := code_word (m := ⟨2, 7⟩) (meth := k2m7) (c := k2c7) (by decide +kernel) rfl rfl rfl (by decide +kernel)
set_option maxRecDepth 65536 in
theorem w_c10 : (Jvm.Cond.code ({ cls := "com/example/sidetrack/sidetrack/core/MessageTable", name := "markLeased", desc := "(I)V" } : Jvm.MethodName) prog_24_method_19_code (2 : Nat) (Option.none : Option Jvm.ClassFile.FieldType)).before args0 about1 = true := code_word (m := ⟨2, 3⟩) (meth := k2m3) (c := k2c3) (by decide +kernel) rfl rfl rfl (by decide +kernel)
set_option maxRecDepth 65536 in
theorem w_c11 : (Jvm.Cond.code ({ cls := "com/example/sidetrack/sidetrack/core/MessageTable", name := "chunk", desc := "(I)Lcom/example/sidetrack/sidetrack/core/MessageTable$Chunk;" } : Jvm.MethodName) prog_24_method_22_code (2 : Nat) (Option.some (Jvm.ClassFile.FieldType.object "com/example/sidetrack/sidetrack/core/MessageTable$Chunk"))).before args0 about1 = true := code_word (m := ⟨2, 5⟩) (meth := k2m5) (c := k2c5) (by decide +kernel) rfl rfl rfl (by decide +kernel)
set_option maxRecDepth 65536 in
theorem w_c12 : (Jvm.Cond.code ({ cls := "com/example/sidetrack/sidetrack/core/MessageTable", name := "leased", desc := "(I)Z" } : Jvm.MethodName) prog_24_method_18_code (2 : Nat) (Option.some Jvm.ClassFile.FieldType.boolean)).before args0 about1 = true := code_word (m := ⟨2, 2⟩) (meth := k2m2) (c := k2c2) (by decide +kernel) rfl rfl rfl (by decide +kernel)
set_option maxRecDepth 65536 in
theorem w_c13 : (Jvm.Cond.code ({ cls := "com/example/sidetrack/sidetrack/core/MessageTable", name := "markAvailable", desc := "(I)V" } : Jvm.MethodName) prog_24_method_20_code (2 : Nat) (Option.none : Option Jvm.ClassFile.FieldType)).before args0 about1 = true := code_word (m := ⟨2, 4⟩) (meth := k2m4) (c := k2c4) (by decide +kernel) rfl rfl rfl (by decide +kernel)
set_option maxRecDepth 65536 in
theorem w_c14 : (Jvm.Cond.code ({ cls := "java/lang/Math", name := "min", desc := "(II)I" } : Jvm.MethodName) jdk_29_method_69_code (2 : Nat) (Option.some Jvm.ClassFile.FieldType.int)).before args0 about1 = true := code_word (m := ⟨4, 1⟩) (meth := k4m1) (c := k4c1) (by decide +kernel) rfl rfl rfl (by decide +kernel)
def codes1 : List Jvm.Cond := [Jvm.Cond.code x code maxLocals ret, Jvm.Cond.code ({ cls := "com/example/sidetrack/sidetrack/core/MessageTable", name := "<init>", desc := "()V" } : Jvm.MethodName) prog_24_method_1_code (1 : Nat) (Option.none : Option Jvm.ClassFile.FieldType), Jvm.Cond.code ({ cls := "java/lang/Object", name := "<init>", desc := "()V" } : Jvm.MethodName) object_method_1_code (1 : Nat) (Option.none : Option Jvm.ClassFile.FieldType), Jvm.Cond.code ({ cls := "com/example/sidetrack/sidetrack/core/MessageTable", name := "add", desc := "(JJJJII)V" } : Jvm.MethodName) prog_24_method_4_code (14 : Nat) (Option.none : Option Jvm.ClassFile.FieldType), Jvm.Cond.code ({ cls := "com/example/sidetrack/sidetrack/core/MessageTable", name := "chunkForAdd", desc := "(I)Lcom/example/sidetrack/sidetrack/core/MessageTable$Chunk;" } : Jvm.MethodName) prog_24_method_23_code (5 : Nat) (Option.some (Jvm.ClassFile.FieldType.object "com/example/sidetrack/sidetrack/core/MessageTable$Chunk")), Jvm.Cond.code ({ cls := "com/example/sidetrack/sidetrack/core/MessageTable$Chunk", name := "<init>", desc := "()V" } : Jvm.MethodName) prog_25_method_1_code (1 : Nat) (Option.none : Option Jvm.ClassFile.FieldType), Jvm.Cond.code ({ cls := "com/example/sidetrack/sidetrack/core/MessageTable$Chunk", name := "address", desc := "(IJ)V" } : Jvm.MethodName) prog_25_method_3_code (4 : Nat) (Option.none : Option Jvm.ClassFile.FieldType), Jvm.Cond.code ({ cls := "com/example/sidetrack/sidetrack/core/MessageTable", name := "maxLoad", desc := "(I)I" } : Jvm.MethodName) prog_24_method_31_code (1 : Nat) (Option.some Jvm.ClassFile.FieldType.int), Jvm.Cond.code ({ cls := "com/example/sidetrack/sidetrack/core/MessageTable", name := "insert", desc := "(JI)V" } : Jvm.MethodName) prog_24_method_28_code (6 : Nat) (Option.none : Option Jvm.ClassFile.FieldType), Jvm.Cond.code ({ cls := "com/example/sidetrack/sidetrack/core/MessageTable", name := "slot", desc := "(J)I" } : Jvm.MethodName) prog_24_method_27_code (3 : Nat) (Option.some Jvm.ClassFile.FieldType.int), Jvm.Cond.code ({ cls := "com/example/sidetrack/sidetrack/core/MessageTable", name := "markLeased", desc := "(I)V" } : Jvm.MethodName) prog_24_method_19_code (2 : Nat) (Option.none : Option Jvm.ClassFile.FieldType), Jvm.Cond.code ({ cls := "com/example/sidetrack/sidetrack/core/MessageTable", name := "chunk", desc := "(I)Lcom/example/sidetrack/sidetrack/core/MessageTable$Chunk;" } : Jvm.MethodName) prog_24_method_22_code (2 : Nat) (Option.some (Jvm.ClassFile.FieldType.object "com/example/sidetrack/sidetrack/core/MessageTable$Chunk")), Jvm.Cond.code ({ cls := "com/example/sidetrack/sidetrack/core/MessageTable", name := "leased", desc := "(I)Z" } : Jvm.MethodName) prog_24_method_18_code (2 : Nat) (Option.some Jvm.ClassFile.FieldType.boolean), Jvm.Cond.code ({ cls := "com/example/sidetrack/sidetrack/core/MessageTable", name := "markAvailable", desc := "(I)V" } : Jvm.MethodName) prog_24_method_20_code (2 : Nat) (Option.none : Option Jvm.ClassFile.FieldType), Jvm.Cond.code ({ cls := "java/lang/Math", name := "min", desc := "(II)I" } : Jvm.MethodName) jdk_29_method_69_code (2 : Nat) (Option.some Jvm.ClassFile.FieldType.int)]
set_option maxRecDepth 65536 in
theorem codes_eq : words1.filter isCode = codes1 := rfl
theorem w_codes : ∀ c ∈ words1.filter isCode, c.before args0 about1 = true := by
  rw [codes_eq]
  intro c hc
  simp only [codes1, List.mem_cons, List.not_mem_nil, or_false] at hc
  rcases hc with rfl | rfl | rfl | rfl | rfl | rfl | rfl | rfl | rfl | rfl | rfl | rfl | rfl | rfl | rfl
  · exact w_c0
  · exact w_c1
  · exact w_c2
  · exact w_c3
  · exact w_c4
  · exact w_c5
  · exact w_c6
  · exact w_c7
  · exact w_c8
  · exact w_c9
  · exact w_c10
  · exact w_c11
  · exact w_c12
  · exact w_c13
  · exact w_c14
set_option maxRecDepth 65536 in
theorem w_t1 : (words1.take 24).all (fun c => isCode c || c.before args0 about1) = true := by decide +kernel
set_option maxRecDepth 65536 in
theorem w_t2 : ((words1.drop 24).take 24).all (fun c => isCode c || c.before args0 about1) = true := by decide +kernel
set_option maxRecDepth 65536 in
theorem w_t3 : (((words1.drop 24).drop 24).take 24).all (fun c => isCode c || c.before args0 about1) = true := by decide +kernel
set_option maxRecDepth 65536 in
theorem w_t4 : ((((words1.drop 24).drop 24).drop 24).take 24).all (fun c => isCode c || c.before args0 about1) = true := by decide +kernel
set_option maxRecDepth 65536 in
theorem w_t5 : ((((words1.drop 24).drop 24).drop 24).drop 24).all (fun c => isCode c || c.before args0 about1) = true := by decide +kernel
theorem w_tables : (allAtoms (Jvm.Cond.code x code maxLocals ret :: tables_1)).before args0 about1 = true := by
  rw [allAtoms_all]
  show words1.all (fun c => c.before args0 about1) = true
  refine all_split ?_ w_codes
  rw [← List.take_append_drop 24 words1, List.all_append, w_t1, ← List.take_append_drop 24 (words1.drop 24), List.all_append, w_t2, ← List.take_append_drop 24 ((words1.drop 24).drop 24), List.all_append, w_t3, ← List.take_append_drop 24 (((words1.drop 24).drop 24).drop 24), List.all_append, w_t4, w_t5]
  rfl
set_option maxRecDepth 65536 in
theorem w_case : (Jvm.Cond.and given_1 narrow_1).before args0 about1 = true := by decide +kernel
theorem w_applies : (headSpec (Jvm.Cond.code x code maxLocals ret :: tables_1) room_1).applies x e0.platform about1 = true :=
  (Spec.applies_iff w_frames).mpr ⟨w_running, w_runnable, w_alone, w_named, w_hears, w_ripe, w_room, w_tables⟩
theorem atStart : AtStart classFile x code maxLocals ret World_1 tables_1 room_1 Calls_1 rest_1 Pre_1 launch0 p0 e0 about1 theMethod args0 below0 :=
  ⟨lists_1, trivial, launch0.admits_env _ _ _, launch0.least_env, fairChoices_fair.cas, fairChoices_fair.clock, w_frames, w_args, w_heap, w_applies, trivial, trivial, w_case⟩
end start1
theorem witness_1 : WitnessClaimed_1 := ⟨start1.p0, start1.e0, start1.about1, start1.theMethod, start1.args0, start1.below0, start1.atStart⟩
end Jvm.Pilot.@@N@@
