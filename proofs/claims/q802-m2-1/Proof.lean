import JvmDerived
import JvmDerived.Pilot.@@N@@Statement
import JvmDerived.Pilot.@@N@@Code
set_option linter.unusedVariables false
set_option linter.unusedSimpArgs false
namespace Jvm.RoadKit
open Sem ClassFile Op Lib Jvm.Stand Jvm.Free Jvm.LawKit
section New
variable {p : Program} {l : Launch} {e : Env} {R : Room} {s : State} {m : MethodId} {args : Array Value} {below : List Frame} {meth : Method} {c : Code} {T : State} {locs : List Loc} {cells slots : Nat}
theorem retI (X : Stand p l e R s m args below meth c T locs cells slots) (hx : p.tables.exec = Jvm.exec) {pc : Nat} {Ls : Array Slot} {z : Int32} {rest : List Value} (hret : meth.sig.returnType = some .int) (hd : decode c.code pc = .ok (.ireturn, 1)) {fs : List Frame}
    (hl : ∀ (f : JFrame) (acts : List Action), f.method = m → f.locked = none → f.entered = [] → (doReturn e (T.setTop f) acts (some (.int z))).1 = T.setFrames fs) : Steps p.tables e below (T.setTop (mkF m pc Ls (.int z :: rest))) (T.setFrames fs) := by
  have hm' : T.vm.method? m = some meth := X.method'
  have hn : narrow .int (.int z) = .int z := rfl
  show Steps p.tables e below (T.setTop { method := m, pc := pc, locals := Ls, stack := _ :: rest, locked := none }) _
  jvm_step X.here [X.here.top, hx, hd, hm', hret, hn]
  first | (intro acts; rw [hl _ acts rfl rfl rfl]) | rw [hl _ _ rfl rfl rfl]
  exact Steps.refl _
theorem own_ldc {g : JFrame} {target : State} (X : Stand p l e R s m args below meth c T locs cells slots) (hx : p.tables.exec = Jvm.exec) {own : String} {index : Nat} {v : Int32} (hown : s.vm.findClass own = some m.cls) (w : (Cond.constant own index v).before args s = true) (hg : g.method = m) (hd : decode c.code g.pc = .ok (.ldc index, 2))
    (hr : Steps p.tables e below (T.setTop { g with pc := g.pc + 2, stack := .int v :: g.stack }) target) : Steps p.tables e below (T.setTop g) target := X.ldcInt hx hown w hg hd target hr
theorem own_ldc2 {g : JFrame} {target : State} (X : Stand p l e R s m args below meth c T locs cells slots) (hx : p.tables.exec = Jvm.exec) {own : String} {index : Nat} {v : Int64} (hown : s.vm.findClass own = some m.cls) (w : (Cond.constantLong own index v).before args s = true) (hg : g.method = m) (hd : decode c.code g.pc = .ok (.ldc2_w index, 3))
    (hr : Steps p.tables e below (T.setTop { g with pc := g.pc + 3, stack := .long v :: g.stack }) target) : Steps p.tables e below (T.setTop g) target := X.ldc2Long hx hown w hg hd target hr
theorem own_len {g : JFrame} {target : State} (X : Stand p l e R s m args below meth c T locs cells slots) (hx : p.tables.exec = Jvm.exec) {a : Addr} {cell : Cell} {ty : FieldType} {z : Int32} (hcell : T.heap[a]? = some cell) (harr : s.isArrayOf cell ty) (hz : cell.slots.size = z.toNatClampNeg) (hn : ¬ z < 0) (hg : g.method = m) {rest : List Value} (hs : g.stack = .ref a :: rest) (hd : decode c.code g.pc = .ok (.arraylength, 1))
    (hr : Steps p.tables e below (T.setTop { g with pc := g.pc + 1, stack := .int z :: rest }) target) : Steps p.tables e below (T.setTop g) target := X.arraylength hx hcell harr hg hs hd target (by rw [len_of hz hn]; exact hr)
theorem own_iaload {g : JFrame} {target : State} (X : Stand p l e R s m args below meth c T locs cells slots) (hx : p.tables.exec = Jvm.exec) {a : Addr} {cell : Cell} {j : Int32} {v : Value} (hcell : T.heap[a]? = some cell) (harr : s.isArrayOf cell .int) (hk : cell.vm ≠ .unknown) (hin : ¬ (j < 0 ∨ cell.slots.size ≤ j.toNatClampNeg)) (hv : cell.slots[j.toNatClampNeg]? = some v) (hg : g.method = m) {rest : List Value} (hs : g.stack = .int j :: .ref a :: rest) (hd : decode c.code g.pc = .ok (.iaload, 1))
    (hr : Steps p.tables e below (T.setTop { g with pc := g.pc + 1, stack := v :: rest }) target) : Steps p.tables e below (T.setTop g) target := X.iaload hx hcell harr hk hin hv hg hs hd target hr
theorem own_laload {g : JFrame} {target : State} (X : Stand p l e R s m args below meth c T locs cells slots) (hx : p.tables.exec = Jvm.exec) {a : Addr} {cell : Cell} {j : Int32} {v : Value} (hcell : T.heap[a]? = some cell) (harr : s.isArrayOf cell .long) (hk : cell.vm ≠ .unknown) (hin : ¬ (j < 0 ∨ cell.slots.size ≤ j.toNatClampNeg)) (hv : cell.slots[j.toNatClampNeg]? = some v) (hg : g.method = m) {rest : List Value} (hs : g.stack = .int j :: .ref a :: rest) (hd : decode c.code g.pc = .ok (.laload, 1))
    (hr : Steps p.tables e below (T.setTop { g with pc := g.pc + 1, stack := v :: rest }) target) : Steps p.tables e below (T.setTop g) target := X.laload hx hcell harr hk hin hv hg hs hd target hr
theorem own_baload {g : JFrame} {target : State} (X : Stand p l e R s m args below meth c T locs cells slots) (hx : p.tables.exec = Jvm.exec) {a : Addr} {cell : Cell} {j : Int32} {v : Value} (hcell : T.heap[a]? = some cell) (harr : s.isArrayOf cell .byte) (hk : cell.vm ≠ .unknown) (hin : ¬ (j < 0 ∨ cell.slots.size ≤ j.toNatClampNeg)) (hv : cell.slots[j.toNatClampNeg]? = some v) (hg : g.method = m) {rest : List Value} (hs : g.stack = .int j :: .ref a :: rest) (hd : decode c.code g.pc = .ok (.baload, 1))
    (hr : Steps p.tables e below (T.setTop { g with pc := g.pc + 1, stack := v :: rest }) target) : Steps p.tables e below (T.setTop g) target := X.baloadBytes hx hcell harr hk hin hv hg hs hd target hr
theorem own_lrem {g : JFrame} {target : State} (X : Stand p l e R s m args below meth c T locs cells slots) (hx : p.tables.exec = Jvm.exec) (hg : g.method = m) {x y : Int64} {rest : List Value} (hd : decode c.code g.pc = .ok (.lrem, 1)) (hs : g.stack = .long y :: .long x :: rest) (hy : y ≠ 0)
    (hr : Steps p.tables e below (T.setTop { g with pc := g.pc + 1, stack := .long (x % y) :: rest }) target) : Steps p.tables e below (T.setTop g) target :=
  XS.lrem X.here hx hg hd hs hy (by rw [lrem_mod]; exact hr)
theorem own_tltL {x y : Int64} (h : x < y) : ifCond.holds .lt (lcmpW x y) = true ∧ ifCond.holds .ge (lcmpW x y) = false ∧ ifCond.holds .gt (lcmpW y x) = true ∧ ifCond.holds .le (lcmpW y x) = false := by
  have h1 : lcmpW x y < 0 := by rw [lcW]; exact (lc_lt x y).mpr h
  have h2 : 0 < lcmpW y x := by rw [lcW]; exact (lc_gt y x).mpr h
  exact ⟨(if0 _ _).trans (tlt h1).1, (if0 _ _).trans (tlt h1).2.1, (if0 _ _).trans (tlt h2).2.2.1, (if0 _ _).trans (tlt h2).2.2.2⟩
theorem own_fltL {x y : Int64} (h : ¬ x < y) : ifCond.holds .lt (lcmpW x y) = false ∧ ifCond.holds .ge (lcmpW x y) = true ∧ ifCond.holds .gt (lcmpW y x) = false ∧ ifCond.holds .le (lcmpW y x) = true := by
  have h1 : ¬ lcmpW x y < 0 := by rw [lcW, lc_lt]; exact h
  have h2 : ¬ 0 < lcmpW y x := by rw [lcW, lc_gt]; exact h
  exact ⟨(if0 _ _).trans (flt h1).1, (if0 _ _).trans (flt h1).2.1, (if0 _ _).trans (flt h2).2.2.1, (if0 _ _).trans (flt h2).2.2.2⟩
theorem own_teqL {x y : Int64} (h : x = y) : ifCond.holds .eq (lcmpW x y) = true ∧ ifCond.holds .ne (lcmpW x y) = false := by
  have h1 : lcmpW x y = 0 := by rw [lcW, lc_eq]; exact h
  exact ⟨(if0 _ _).trans (teq h1).1, (if0 _ _).trans (teq h1).2⟩
theorem own_feqL {x y : Int64} (h : ¬ x = y) : ifCond.holds .eq (lcmpW x y) = false ∧ ifCond.holds .ne (lcmpW x y) = true := by
  have h1 : ¬ lcmpW x y = 0 := by rw [lcW, lc_eq]; exact h
  exact ⟨(if0 _ _).trans (feq h1).1, (if0 _ _).trans (feq h1).2⟩
end New
end Jvm.RoadKit
namespace Jvm.Pilot.@@N@@
open Jvm Jvm.ClassFile Sem Op Lib Jvm.Free Jvm.Stand Jvm.LawKit Jvm.RoadKit Bundle Jvm.Pilot.@@N@@.Jvm.D
/-- what is left to show from a place of the walk on -/
abbrev OGl (p : Program) (e : Env) (below : List Frame) (Q : Outcome → State → Prop) (T : State) (g : JFrame) : Prop :=
  ∃ s₂ o, Steps p.tables e below (T.setTop g) s₂ ∧ s₂.status = .running ∧ Ended s₂ below o ∧ Q o s₂
theorem OGl.go {p : Program} {e : Env} {below : List Frame} {Q : Outcome → State → Prop} {T T' : State} {g g' : JFrame} (h : ∀ t, Steps p.tables e below (T'.setTop g') t → Steps p.tables e below (T.setTop g) t) (k : OGl p e below Q T' g') : OGl p e below Q T g := by
  obtain ⟨s2, o, h1, h2⟩ := k
  exact ⟨s2, o, h _ h1, h2⟩
theorem OGl.start {p : Program} {e : Env} {below : List Frame} {Q : Outcome → State → Prop} {T : State} {g g' : JFrame} (q : g = g') (k : OGl p e below Q T g') : OGl p e below Q T g := q ▸ k
theorem own_selPriv {s : State} {args : Array Value} {y y' x' : MethodName} {C' : String} (hp : s.PrivateAt y) (hi : (Cond.instanceMethod y).before args s = true) (hs : (Cond.selects C' x' y').before args s = true) (hc : y'.cls = y.cls) (hy : y.cls ≠ "java/lang/invoke/MethodHandle" ∧ y.cls ≠ "java/lang/invoke/VarHandle" := by decide) : (Cond.selects y.cls y y).before args s = true := by
  obtain ⟨mk, meth, hn, hm, -, -⟩ := Cond.instanceMethod_spec hi
  obtain ⟨c2, r2, m2, -, -, q3, -, kP, hkP, hkPi⟩ := Cond.selects_spec hs
  have h1 := findClass_of_methodNamed hn
  have h2 := findClass_of_methodNamed q3
  rw [hc, h1] at h2
  have h3 : mk.cls = m2.cls := Option.some.inj h2
  have hf := State.methodFound?_of_named hn hy
  have hsel : selectMethod {} s.vm mk.cls mk = .method mk := selectMethod_private hm (hp mk meth hn hm)
  rw [← h3] at hkP
  simp [Cond.before, Cond.holds, Cond.value, h1, hf, hn, hsel, hkP, hkPi]
theorem own_weak {Z : State} {h : Heap} {a : Addr} {k : ClassId} {ty : FieldType} {z : Int32} {vs vs' : List Value} {d : Value} (F : Arv Z h a k ty z vs d) (q : ∀ i, i < z.toNatClampNeg → vs'.getD i d = vs.getD i d) : Arv Z h a k ty z vs' d := by
  obtain ⟨c, A, r1, r2, r3, H, G⟩ := F
  exact ⟨c, A, r1, r2, r3, fun i hi => by rw [q i (r2 ▸ hi)]; exact H i hi, fun i hi => by rw [q i (r2 ▸ hi)]; exact G i hi⟩
theorem own_cl {z j : Int32} {k i : Nat} (h : ¬ j < z) (hk : j.toInt = k) (hi : i < z.toNatClampNeg) : i < k := by
  rw [Int32.lt_iff_toInt_lt] at h
  have : z.toNatClampNeg = z.toInt.toNat := rfl
  omega
theorem own_irr {α : Type} [LT α] [Std.Irrefl (α := α) (· < ·)] (x : α) : ¬ x < x := Std.Irrefl.irrefl x
theorem d1_0 : decode prog_9_method_1_code 0 = .ok (.aload_n 0, 1) := by decide +kernel
theorem d1_1 : decode prog_9_method_1_code 1 = .ok (.invokespecial 1, 3) := by decide +kernel
theorem d1_4 : decode prog_9_method_1_code 4 = .ok (.aload_n 0, 1) := by decide +kernel
theorem d1_5 : decode prog_9_method_1_code 5 = .ok (.aload_n 1, 1) := by decide +kernel
theorem d1_6 : decode prog_9_method_1_code 6 = .ok (.putfield 7, 3) := by decide +kernel
theorem d1_9 : decode prog_9_method_1_code 9 = .ok (.aload_n 0, 1) := by decide +kernel
theorem d1_10 : decode prog_9_method_1_code 10 = .ok (.iload_n 2, 1) := by decide +kernel
theorem d1_11 : decode prog_9_method_1_code 11 = .ok (.putfield 13, 3) := by decide +kernel
theorem d1_14 : decode prog_9_method_1_code 14 = .ok (.aload_n 0, 1) := by decide +kernel
theorem d1_15 : decode prog_9_method_1_code 15 = .ok (.iload_n 3, 1) := by decide +kernel
theorem d1_16 : decode prog_9_method_1_code 16 = .ok (.putfield 17, 3) := by decide +kernel
theorem d1_19 : decode prog_9_method_1_code 19 = .ok (.aload_n 0, 1) := by decide +kernel
theorem d1_20 : decode prog_9_method_1_code 20 = .ok (.iload 4, 2) := by decide +kernel
theorem d1_22 : decode prog_9_method_1_code 22 = .ok (.bipush 8, 2) := by decide +kernel
theorem d1_24 : decode prog_9_method_1_code 24 = .ok (.idiv, 1) := by decide +kernel
theorem d1_25 : decode prog_9_method_1_code 25 = .ok (.putfield 20, 3) := by decide +kernel
theorem d1_28 : decode prog_9_method_1_code 28 = .ok (.return_, 1) := by decide +kernel
theorem ef_1 (m : MethodId) (x0 : Addr) (x1 : Addr) (x2 : Int32) (x3 : Int32) (x4 : Int32) : entryFrame m #[(.ref x0), (.ref x1), (.int x2), (.int x3), (.int x4)] 5 = mkF m 0 #[.val (.ref x0), .val (.ref x1), .val (.int x2), .val (.int x3), .val (.int x4)] [] := by first | (simp [entryFrame, mkF, argsToLocals, Value.category]; done) | rfl
theorem pn_0 : plainName "com/example/skipscan/skipscan/ByteSample" = true := by first | (simp [plainName, overriddenIn]; done) | decide +kernel
def Q1 (Z : State) (o0 : Addr) (o1 : Addr) (p2 : Int32) (p3 : Int32) (p4 : Int32) (h0 : Heap) (n0 : Nat) (v : Option Value) (h : Heap) (L : List Loc) : Prop := v = none ∧ Fr n0 L ∧ Keep h0 h [o0] ∧ Fld Z h o0 "com/example/skipscan/skipscan/ByteSample" "array" "[B" (.ref o1) ∧ Fld Z h o0 "com/example/skipscan/skipscan/ByteSample" "from" "I" (.int p2) ∧ Fld Z h o0 "com/example/skipscan/skipscan/ByteSample" "slice" "I" (.int (p4 / (8 : Int32))) ∧ Fld Z h o0 "com/example/skipscan/skipscan/ByteSample" "span" "I" (.int p3)
set_option maxRecDepth 65536 in
set_option maxHeartbeats 40000000 in
theorem rm1 (l : Launch) (Z : State) (a0 : Array Value) (hw : ∀ d ∈ tables_1, d.before a0 Z = true) (ws : List Jvm.Cond) (o0 : Addr) (o1 : Addr) (p2 : Int32) (p3 : Int32) (p4 : Int32) (h0 : Heap) (n0 : Nat) (Z0 : n0 ≤ h0.size) (E_o0 : Exa Z h0 o0 "com/example/skipscan/skipscan/ByteSample") (F1_o0 : Fld Z h0 o0 "com/example/skipscan/skipscan/ByteSample" "array" "[B" .null) (F2_o0 : Fld Z h0 o0 "com/example/skipscan/skipscan/ByteSample" "from" "I" (.int (0 : Int32))) (F3_o0 : Fld Z h0 o0 "com/example/skipscan/skipscan/ByteSample" "span" "I" (.int (0 : Int32))) (F4_o0 : Fld Z h0 o0 "com/example/skipscan/skipscan/ByteSample" "slice" "I" (.int (0 : Int32))) (g_o0 : n0 ≤ o0) :
    MetFree l (⟨"com/example/skipscan/skipscan/ByteSample", "<init>", "([BIII)V"⟩ : MethodName) (head1 (Jvm.Cond.code (⟨"com/example/skipscan/skipscan/ByteSample", "<init>", "([BIII)V"⟩ : MethodName) prog_9_method_1_code 5 none :: ws) ({ frames := 1, cells := 0, slots := 0, locals := 12 } : Room)) (fun a U => a = #[(.ref o0), (.ref o1), (.int p2), (.int p3), (.int p4)] ∧ Z.Warmed39 U.vm ∧ U.heap = h0) (fun _ _ _ _ _ => True) (fun _ U o U' => ∃ v L, o = .returned v ∧ Q1 Z o0 o1 p2 p3 p4 h0 n0 v U'.heap L ∧ FrameEnd U o U' L ({ frames := 1, cells := 0, slots := 0, locals := 12 } : Room).cells ({ frames := 1, cells := 0, slots := 0, locals := 12 } : Room).slots) := by
  refine MetFree.of_bodySF (plainFor_of_name pn_0) hisR ?_
  intro p e s m args below meth c s₁ Bd hml0 hP hK
  obtain ⟨rfl, hZ, hh⟩ := hP
  have hx := Bd.exec
  have hby := Bd.bytes
  have hml : c.maxLocals = 5 := hml0
  have hown : s.vm.findClass "com/example/skipscan/skipscan/ByteSample" = some m.cls := findClass_of_methodNamed Bd.named
  have hnm := (name_of_methodNamed Bd.named Bd.method).1
  have X0 : Stand p l e ({ frames := 1, cells := 0, slots := 0, locals := 12 } : Room) s m #[(.ref o0), (.ref o1), (.int p2), (.int p3), (.int p4)] below meth c s₁ [] 0 0 := Stand.of_body Bd
  have e0 : s₁.heap = h0 := by rw [← hh, Bd.state]; rfl
  have N0 := Fr.nil n0
  refine OGl.start (ef_1 m o0 o1 p2 p3 p4) ?_
  show OGl _ _ _ _ s₁ (mkF m 0 #[.val (.ref o0), .val (.ref o1), .val (.int p2), .val (.int p3), .val (.int p4)] [])
  refine OGl.go (fun t k => XS.aloadN X0.here hx rfl (hb hby d1_0) rfl rfl k) ?_
  show OGl _ _ _ _ s₁ (mkF m 1 #[.val (.ref o0), .val (.ref o1), .val (.int p2), .val (.int p3), .val (.int p4)] [(.ref o0)])
  obtain ⟨T8, X8, e8, st8⟩ := initO X0 hx hZ hown (hw _ (List.mem_of_getElem? (i := 9) rfl)) (hw _ (List.mem_of_getElem? (i := 10) rfl)) (hw _ (List.mem_of_getElem? (i := 11) rfl)) e0 (g := (mkF m 1 #[.val (.ref o0), .val (.ref o1), .val (.int p2), .val (.int p3), .val (.int p4)] [(.ref o0)])) rfl (by rw [hml]; rfl) rfl (hb hby d1_1) (by decide) (W := 0) (by show 2 * 0 + _ ≤ _; exact Nat.le_of_eq rfl) (by decide)
  refine OGl.go st8 ?_
  show OGl _ _ _ _ T8 (mkF m 4 #[.val (.ref o0), .val (.ref o1), .val (.int p2), .val (.int p3), .val (.int p4)] [])
  refine OGl.go (fun t k => XS.aloadN X8.here hx rfl (hb hby d1_4) rfl rfl (XS.aloadN X8.here hx rfl (hb hby d1_5) rfl rfl k)) ?_
  show OGl _ _ _ _ T8 (mkF m 6 #[.val (.ref o0), .val (.ref o1), .val (.int p2), .val (.int p3), .val (.int p4)] [(.ref o1), (.ref o0)])
  obtain ⟨T9, h9, X9, e9, W9, st9⟩ := putF X8 hx hZ hown (host := "") (Or.inl (hw _ (List.mem_of_getElem? (i := 12) rfl))) Via.refl e8 F1_o0 E_o0 (Or.inr ⟨(hw _ (List.mem_of_getElem? (i := 13) rfl)), rfl, hnm⟩) (hw _ (List.mem_of_getElem? (i := 3) rfl)) (ty := (.array .byte)) (by decide) rfl rfl (g := (mkF m 6 #[.val (.ref o0), .val (.ref o1), .val (.int p2), .val (.int p3), .val (.int p4)] [(.ref o1), (.ref o0)])) rfl rfl (hb hby d1_6)
  refine OGl.go st9 ?_
  have N9 := Fr.snoc X9 N0 g_o0
  have Fw9 := F1_o0.same W9
  have KK9 : Keep h0 h9 [o0] := (Keep.refl h0 [o0]).wr W9 (Or.inl (List.mem_of_getElem? (i := 0) rfl))
  show OGl _ _ _ _ T9 (mkF m 9 #[.val (.ref o0), .val (.ref o1), .val (.int p2), .val (.int p3), .val (.int p4)] [])
  refine OGl.go (fun t k => XS.aloadN X9.here hx rfl (hb hby d1_9) rfl rfl (XS.iloadN X9.here hx rfl (hb hby d1_10) rfl k)) ?_
  show OGl _ _ _ _ T9 (mkF m 11 #[.val (.ref o0), .val (.ref o1), .val (.int p2), .val (.int p3), .val (.int p4)] [(.int p2), (.ref o0)])
  have F10 := (F2_o0.other W9 (Or.inr (slot_ne (Or.inr (hw _ (List.mem_of_getElem? (i := 15) rfl))) (Or.inr (hw _ (List.mem_of_getElem? (i := 13) rfl))) (by decide) (t := .int) (t' := (.array .byte)) (by decide) (by decide))))
  have F11 := (E_o0.wr W9)
  obtain ⟨T12, h12, X12, e12, W12, st12⟩ := putF X9 hx hZ hown (host := "") (Or.inl (hw _ (List.mem_of_getElem? (i := 14) rfl))) Via.refl e9 F10 F11 (Or.inr ⟨(hw _ (List.mem_of_getElem? (i := 15) rfl)), rfl, hnm⟩) (hw _ (List.mem_of_getElem? (i := 3) rfl)) (ty := .int) (by decide) rfl rfl (g := (mkF m 11 #[.val (.ref o0), .val (.ref o1), .val (.int p2), .val (.int p3), .val (.int p4)] [(.int p2), (.ref o0)])) rfl rfl (hb hby d1_11)
  refine OGl.go st12 ?_
  have N12 := Fr.snoc X12 N9 g_o0
  have Fw12 := F10.same W12
  have KK12 : Keep h0 h12 [o0] := KK9.wr W12 (Or.inl (List.mem_of_getElem? (i := 0) rfl))
  show OGl _ _ _ _ T12 (mkF m 14 #[.val (.ref o0), .val (.ref o1), .val (.int p2), .val (.int p3), .val (.int p4)] [])
  refine OGl.go (fun t k => XS.aloadN X12.here hx rfl (hb hby d1_14) rfl rfl (XS.iloadN X12.here hx rfl (hb hby d1_15) rfl k)) ?_
  show OGl _ _ _ _ T12 (mkF m 16 #[.val (.ref o0), .val (.ref o1), .val (.int p2), .val (.int p3), .val (.int p4)] [(.int p3), (.ref o0)])
  have F13 := ((F3_o0.other W9 (Or.inr (slot_ne (Or.inr (hw _ (List.mem_of_getElem? (i := 17) rfl))) (Or.inr (hw _ (List.mem_of_getElem? (i := 13) rfl))) (by decide) (t := .int) (t' := (.array .byte)) (by decide) (by decide)))).other W12 (Or.inr (slot_ne (Or.inr (hw _ (List.mem_of_getElem? (i := 17) rfl))) (Or.inr (hw _ (List.mem_of_getElem? (i := 15) rfl))) (by decide) (t := .int) (t' := .int) (by decide) (by decide))))
  have F14 := (F11.wr W12)
  obtain ⟨T15, h15, X15, e15, W15, st15⟩ := putF X12 hx hZ hown (host := "") (Or.inl (hw _ (List.mem_of_getElem? (i := 16) rfl))) Via.refl e12 F13 F14 (Or.inr ⟨(hw _ (List.mem_of_getElem? (i := 17) rfl)), rfl, hnm⟩) (hw _ (List.mem_of_getElem? (i := 3) rfl)) (ty := .int) (by decide) rfl rfl (g := (mkF m 16 #[.val (.ref o0), .val (.ref o1), .val (.int p2), .val (.int p3), .val (.int p4)] [(.int p3), (.ref o0)])) rfl rfl (hb hby d1_16)
  refine OGl.go st15 ?_
  have N15 := Fr.snoc X15 N12 g_o0
  have Fw15 := F13.same W15
  have KK15 : Keep h0 h15 [o0] := KK12.wr W15 (Or.inl (List.mem_of_getElem? (i := 0) rfl))
  show OGl _ _ _ _ T15 (mkF m 19 #[.val (.ref o0), .val (.ref o1), .val (.int p2), .val (.int p3), .val (.int p4)] [])
  refine OGl.go (fun t k => XS.aloadN X15.here hx rfl (hb hby d1_19) rfl rfl (XS.iload X15.here hx rfl (hb hby d1_20) rfl (XS.bipush X15.here hx rfl (hb hby d1_22) (XS.idiv X15.here hx rfl (hb hby d1_24) rfl (by decide) k)))) ?_
  show OGl _ _ _ _ T15 (mkF m 25 #[.val (.ref o0), .val (.ref o1), .val (.int p2), .val (.int p3), .val (.int p4)] [(.int (p4 / (8 : Int32))), (.ref o0)])
  have F16 := (((F4_o0.other W9 (Or.inr (slot_ne (Or.inr (hw _ (List.mem_of_getElem? (i := 19) rfl))) (Or.inr (hw _ (List.mem_of_getElem? (i := 13) rfl))) (by decide) (t := .int) (t' := (.array .byte)) (by decide) (by decide)))).other W12 (Or.inr (slot_ne (Or.inr (hw _ (List.mem_of_getElem? (i := 19) rfl))) (Or.inr (hw _ (List.mem_of_getElem? (i := 15) rfl))) (by decide) (t := .int) (t' := .int) (by decide) (by decide)))).other W15 (Or.inr (slot_ne (Or.inr (hw _ (List.mem_of_getElem? (i := 19) rfl))) (Or.inr (hw _ (List.mem_of_getElem? (i := 17) rfl))) (by decide) (t := .int) (t' := .int) (by decide) (by decide))))
  have F17 := (F14.wr W15)
  obtain ⟨T18, h18, X18, e18, W18, st18⟩ := putF X15 hx hZ hown (host := "") (Or.inl (hw _ (List.mem_of_getElem? (i := 18) rfl))) Via.refl e15 F16 F17 (Or.inr ⟨(hw _ (List.mem_of_getElem? (i := 19) rfl)), rfl, hnm⟩) (hw _ (List.mem_of_getElem? (i := 3) rfl)) (ty := .int) (by decide) rfl rfl (g := (mkF m 25 #[.val (.ref o0), .val (.ref o1), .val (.int p2), .val (.int p3), .val (.int p4)] [(.int (p4 / (8 : Int32))), (.ref o0)])) rfl rfl (hb hby d1_25)
  refine OGl.go st18 ?_
  have N18 := Fr.snoc X18 N15 g_o0
  have Fw18 := F16.same W18
  have KK18 : Keep h0 h18 [o0] := KK15.wr W18 (Or.inl (List.mem_of_getElem? (i := 0) rfl))
  show OGl _ _ _ _ T18 (mkF m 28 #[.val (.ref o0), .val (.ref o1), .val (.int p2), .val (.int p3), .val (.int p4)] [])
  obtain ⟨fs, hr, hrun, hended, hW, hsame⟩ := X18.leave (v := none) (fun _ => rfl)
  refine ⟨_, _, X18.returnOut hx Bd.returns (hb hby d1_28) hr, hrun, hended, _, _, rfl, ?_, ⟨_, rfl⟩, hW, hsame.mono (by decide) (by decide)⟩
  show Q1 Z o0 o1 p2 p3 p4 h0 n0 _ T18.heap _
  rw [e18]
  have F19 := (((Fw9.other W12 (Or.inr (slot_ne (Or.inr (hw _ (List.mem_of_getElem? (i := 13) rfl))) (Or.inr (hw _ (List.mem_of_getElem? (i := 15) rfl))) (by decide) (t := (.array .byte)) (t' := .int) (by decide) (by decide)))).other W15 (Or.inr (slot_ne (Or.inr (hw _ (List.mem_of_getElem? (i := 13) rfl))) (Or.inr (hw _ (List.mem_of_getElem? (i := 17) rfl))) (by decide) (t := (.array .byte)) (t' := .int) (by decide) (by decide)))).other W18 (Or.inr (slot_ne (Or.inr (hw _ (List.mem_of_getElem? (i := 13) rfl))) (Or.inr (hw _ (List.mem_of_getElem? (i := 19) rfl))) (by decide) (t := (.array .byte)) (t' := .int) (by decide) (by decide))))
  have F20 := ((Fw12.other W15 (Or.inr (slot_ne (Or.inr (hw _ (List.mem_of_getElem? (i := 15) rfl))) (Or.inr (hw _ (List.mem_of_getElem? (i := 17) rfl))) (by decide) (t := .int) (t' := .int) (by decide) (by decide)))).other W18 (Or.inr (slot_ne (Or.inr (hw _ (List.mem_of_getElem? (i := 15) rfl))) (Or.inr (hw _ (List.mem_of_getElem? (i := 19) rfl))) (by decide) (t := .int) (t' := .int) (by decide) (by decide))))
  have F21 := (Fw15.other W18 (Or.inr (slot_ne (Or.inr (hw _ (List.mem_of_getElem? (i := 17) rfl))) (Or.inr (hw _ (List.mem_of_getElem? (i := 19) rfl))) (by decide) (t := .int) (t' := .int) (by decide) (by decide))))
  exact ⟨rfl, N18, KK18, F19, F20, Fw18, F21⟩
theorem pd_0 : parseMethodDescriptor "([BIII)V" = some ⟨[(.array .byte), .int, .int, .int], none⟩ := by decide +kernel
theorem d3_0 : decode prog_9_method_3_code 0 = .ok (.aload_n 0, 1) := by decide +kernel
theorem d3_1 : decode prog_9_method_3_code 1 = .ok (.getfield 20, 3) := by decide +kernel
theorem d3_4 : decode prog_9_method_3_code 4 = .ok (.ireturn, 1) := by decide +kernel
theorem ef_3 (m : MethodId) (x0 : Addr) : entryFrame m #[(.ref x0)] 1 = mkF m 0 #[.val (.ref x0)] [] := by first | (simp [entryFrame, mkF, argsToLocals, Value.category]; done) | rfl
def Q3 (Z : State) (o0 : Addr) (p1 : Int32) (h0 : Heap) (n0 : Nat) (v : Option Value) (h : Heap) (L : List Loc) : Prop := v = some (.int p1) ∧ Fr n0 L ∧ h = h0
set_option maxRecDepth 65536 in
set_option maxHeartbeats 40000000 in
theorem rm3 (l : Launch) (Z : State) (a0 : Array Value) (hw : ∀ d ∈ tables_1, d.before a0 Z = true) (ws : List Jvm.Cond) (o0 : Addr) (p1 : Int32) (h0 : Heap) (n0 : Nat) (Z0 : n0 ≤ h0.size) (F0_o0 : Fld Z h0 o0 "com/example/skipscan/skipscan/ByteSample" "slice" "I" (.int p1)) :
    MetFree l (⟨"com/example/skipscan/skipscan/ByteSample", "slice", "()I"⟩ : MethodName) (head1 (Jvm.Cond.code (⟨"com/example/skipscan/skipscan/ByteSample", "slice", "()I"⟩ : MethodName) prog_9_method_3_code 1 (some .int) :: ws) ({ frames := 0, cells := 0, slots := 0, locals := 0 } : Room)) (fun a U => a = #[(.ref o0)] ∧ Z.Warmed39 U.vm ∧ U.heap = h0) (fun _ _ _ _ _ => True) (fun _ U o U' => ∃ v L, o = .returned v ∧ Q3 Z o0 p1 h0 n0 v U'.heap L ∧ FrameEnd U o U' L ({ frames := 0, cells := 0, slots := 0, locals := 0 } : Room).cells ({ frames := 0, cells := 0, slots := 0, locals := 0 } : Room).slots) := by
  refine MetFree.of_bodySF (plainFor_of_name pn_0) hisR ?_
  intro p e s m args below meth c s₁ Bd hml0 hP hK
  obtain ⟨rfl, hZ, hh⟩ := hP
  have hx := Bd.exec
  have hby := Bd.bytes
  have hml : c.maxLocals = 1 := hml0
  have hown : s.vm.findClass "com/example/skipscan/skipscan/ByteSample" = some m.cls := findClass_of_methodNamed Bd.named
  have hnm := (name_of_methodNamed Bd.named Bd.method).1
  have X0 : Stand p l e ({ frames := 0, cells := 0, slots := 0, locals := 0 } : Room) s m #[(.ref o0)] below meth c s₁ [] 0 0 := Stand.of_body Bd
  have e0 : s₁.heap = h0 := by rw [← hh, Bd.state]; rfl
  have N0 := Fr.nil n0
  refine OGl.start (ef_3 m o0) ?_
  show OGl _ _ _ _ s₁ (mkF m 0 #[.val (.ref o0)] [])
  refine OGl.go (fun t k => XS.aloadN X0.here hx rfl (hb hby d3_0) rfl rfl k) ?_
  show OGl _ _ _ _ s₁ (mkF m 1 #[.val (.ref o0)] [(.ref o0)])
  obtain ⟨T28, X28, e28, st28⟩ := getF X0 hx hZ hown (host := "") (Or.inl (hw _ (List.mem_of_getElem? (i := 18) rfl))) Via.refl e0 F0_o0 (g := (mkF m 1 #[.val (.ref o0)] [(.ref o0)])) rfl rfl (hb hby d3_1)
  refine OGl.go st28 ?_
  show OGl _ _ _ _ T28 (mkF m 4 #[.val (.ref o0)] [(.int p1)])
  obtain ⟨fs, hr, hrun, hended, hW, hsame⟩ := X28.leave (v := some (.int p1)) (fun h => by rw [Bd.returns] at h; cases h)
  refine ⟨_, _, retI X28 hx Bd.returns (hb hby d3_4) hr, hrun, hended, _, _, rfl, ?_, ⟨_, rfl⟩, hW, hsame.mono (by decide) (by decide)⟩
  show Q3 Z o0 p1 h0 n0 _ T28.heap _
  rw [e28]
  exact ⟨rfl, N0, rfl⟩
theorem pd_1 : parseMethodDescriptor "()I" = some ⟨[], some .int⟩ := by decide +kernel
theorem d4_0 : decode prog_9_method_4_code 0 = .ok (.aload_n 0, 1) := by decide +kernel
theorem d4_1 : decode prog_9_method_4_code 1 = .ok (.getfield 13, 3) := by decide +kernel
theorem d4_4 : decode prog_9_method_4_code 4 = .ok (.aload_n 0, 1) := by decide +kernel
theorem d4_5 : decode prog_9_method_4_code 5 = .ok (.getfield 17, 3) := by decide +kernel
theorem d4_8 : decode prog_9_method_4_code 8 = .ok (.aload_n 0, 1) := by decide +kernel
theorem d4_9 : decode prog_9_method_4_code 9 = .ok (.getfield 20, 3) := by decide +kernel
theorem d4_12 : decode prog_9_method_4_code 12 = .ok (.isub, 1) := by decide +kernel
theorem d4_13 : decode prog_9_method_4_code 13 = .ok (.i2l, 1) := by decide +kernel
theorem d4_14 : decode prog_9_method_4_code 14 = .ok (.iload_n 1, 1) := by decide +kernel
theorem d4_15 : decode prog_9_method_4_code 15 = .ok (.i2l, 1) := by decide +kernel
theorem d4_16 : decode prog_9_method_4_code 16 = .ok (.lmul, 1) := by decide +kernel
theorem d4_17 : decode prog_9_method_4_code 17 = .ok (.ldc2_w 23, 3) := by decide +kernel
theorem d4_20 : decode prog_9_method_4_code 20 = .ok (.ldiv, 1) := by decide +kernel
theorem d4_21 : decode prog_9_method_4_code 21 = .ok (.l2i, 1) := by decide +kernel
theorem d4_22 : decode prog_9_method_4_code 22 = .ok (.iadd, 1) := by decide +kernel
theorem d4_23 : decode prog_9_method_4_code 23 = .ok (.ireturn, 1) := by decide +kernel
def e4_0 (p1 : Int32) (p2 : Int32) (p3 : Int32) (p4 : Int32) : Int32 := (p2 + (((((((p3 - p4)).toInt64) * ((p1).toInt64)) / (7 : Int64))).toInt32))
theorem ef_4 (m : MethodId) (x0 : Addr) (x1 : Int32) : entryFrame m #[(.ref x0), (.int x1)] 2 = mkF m 0 #[.val (.ref x0), .val (.int x1)] [] := by first | (simp [entryFrame, mkF, argsToLocals, Value.category]; done) | rfl
def Q4 (Z : State) (o0 : Addr) (p1 : Int32) (p2 : Int32) (p3 : Int32) (p4 : Int32) (h0 : Heap) (n0 : Nat) (v : Option Value) (h : Heap) (L : List Loc) : Prop := v = some (.int (e4_0 p1 p2 p3 p4)) ∧ Fr n0 L ∧ h = h0
set_option maxRecDepth 65536 in
set_option maxHeartbeats 40000000 in
theorem rm4 (l : Launch) (Z : State) (a0 : Array Value) (hw : ∀ d ∈ tables_1, d.before a0 Z = true) (ws : List Jvm.Cond) (o0 : Addr) (p1 : Int32) (p2 : Int32) (p3 : Int32) (p4 : Int32) (h0 : Heap) (n0 : Nat) (Z0 : n0 ≤ h0.size) (F0_o0 : Fld Z h0 o0 "com/example/skipscan/skipscan/ByteSample" "from" "I" (.int p2)) (F1_o0 : Fld Z h0 o0 "com/example/skipscan/skipscan/ByteSample" "span" "I" (.int p3)) (F2_o0 : Fld Z h0 o0 "com/example/skipscan/skipscan/ByteSample" "slice" "I" (.int p4)) :
    MetFree l (⟨"com/example/skipscan/skipscan/ByteSample", "start", "(I)I"⟩ : MethodName) (head1 (Jvm.Cond.code (⟨"com/example/skipscan/skipscan/ByteSample", "start", "(I)I"⟩ : MethodName) prog_9_method_4_code 2 (some .int) :: ws) ({ frames := 0, cells := 0, slots := 0, locals := 0 } : Room)) (fun a U => a = #[(.ref o0), (.int p1)] ∧ Z.Warmed39 U.vm ∧ U.heap = h0) (fun _ _ _ _ _ => True) (fun _ U o U' => ∃ v L, o = .returned v ∧ Q4 Z o0 p1 p2 p3 p4 h0 n0 v U'.heap L ∧ FrameEnd U o U' L ({ frames := 0, cells := 0, slots := 0, locals := 0 } : Room).cells ({ frames := 0, cells := 0, slots := 0, locals := 0 } : Room).slots) := by
  refine MetFree.of_bodySF (plainFor_of_name pn_0) hisR ?_
  intro p e s m args below meth c s₁ Bd hml0 hP hK
  obtain ⟨rfl, hZ, hh⟩ := hP
  have hx := Bd.exec
  have hby := Bd.bytes
  have hml : c.maxLocals = 2 := hml0
  have hown : s.vm.findClass "com/example/skipscan/skipscan/ByteSample" = some m.cls := findClass_of_methodNamed Bd.named
  have hnm := (name_of_methodNamed Bd.named Bd.method).1
  have X0 : Stand p l e ({ frames := 0, cells := 0, slots := 0, locals := 0 } : Room) s m #[(.ref o0), (.int p1)] below meth c s₁ [] 0 0 := Stand.of_body Bd
  have e0 : s₁.heap = h0 := by rw [← hh, Bd.state]; rfl
  have N0 := Fr.nil n0
  refine OGl.start (ef_4 m o0 p1) ?_
  show OGl _ _ _ _ s₁ (mkF m 0 #[.val (.ref o0), .val (.int p1)] [])
  refine OGl.go (fun t k => XS.aloadN X0.here hx rfl (hb hby d4_0) rfl rfl k) ?_
  show OGl _ _ _ _ s₁ (mkF m 1 #[.val (.ref o0), .val (.int p1)] [(.ref o0)])
  obtain ⟨T32, X32, e32, st32⟩ := getF X0 hx hZ hown (host := "") (Or.inl (hw _ (List.mem_of_getElem? (i := 14) rfl))) Via.refl e0 F0_o0 (g := (mkF m 1 #[.val (.ref o0), .val (.int p1)] [(.ref o0)])) rfl rfl (hb hby d4_1)
  refine OGl.go st32 ?_
  show OGl _ _ _ _ T32 (mkF m 4 #[.val (.ref o0), .val (.int p1)] [(.int p2)])
  refine OGl.go (fun t k => XS.aloadN X32.here hx rfl (hb hby d4_4) rfl rfl k) ?_
  show OGl _ _ _ _ T32 (mkF m 5 #[.val (.ref o0), .val (.int p1)] [(.ref o0), (.int p2)])
  obtain ⟨T33, X33, e33, st33⟩ := getF X32 hx hZ hown (host := "") (Or.inl (hw _ (List.mem_of_getElem? (i := 16) rfl))) Via.refl e32 F1_o0 (g := (mkF m 5 #[.val (.ref o0), .val (.int p1)] [(.ref o0), (.int p2)])) rfl rfl (hb hby d4_5)
  refine OGl.go st33 ?_
  show OGl _ _ _ _ T33 (mkF m 8 #[.val (.ref o0), .val (.int p1)] [(.int p3), (.int p2)])
  refine OGl.go (fun t k => XS.aloadN X33.here hx rfl (hb hby d4_8) rfl rfl k) ?_
  show OGl _ _ _ _ T33 (mkF m 9 #[.val (.ref o0), .val (.int p1)] [(.ref o0), (.int p3), (.int p2)])
  obtain ⟨T34, X34, e34, st34⟩ := getF X33 hx hZ hown (host := "") (Or.inl (hw _ (List.mem_of_getElem? (i := 18) rfl))) Via.refl e33 F2_o0 (g := (mkF m 9 #[.val (.ref o0), .val (.int p1)] [(.ref o0), (.int p3), (.int p2)])) rfl rfl (hb hby d4_9)
  refine OGl.go st34 ?_
  show OGl _ _ _ _ T34 (mkF m 12 #[.val (.ref o0), .val (.int p1)] [(.int p4), (.int p3), (.int p2)])
  refine OGl.go (fun t k => XS.isub X34.here hx rfl (hb hby d4_12) rfl (XS.i2l X34.here hx rfl (hb hby d4_13) rfl (XS.iloadN X34.here hx rfl (hb hby d4_14) rfl (XS.i2l X34.here hx rfl (hb hby d4_15) rfl (XS.lmul X34.here hx rfl (hb hby d4_16) rfl (own_ldc2 X34 hx hown (mvT hZ (hw _ (List.mem_of_getElem? (i := 30) rfl))) rfl (hb hby d4_17) (XS.ldiv X34.here hx rfl (hb hby d4_20) rfl (by decide) (XS.l2i X34.here hx rfl (hb hby d4_21) rfl k)))))))) ?_
  show OGl _ _ _ _ T34 (mkF m 22 #[.val (.ref o0), .val (.int p1)] [(.int (((((((p3 - p4)).toInt64) * ((p1).toInt64)) / (7 : Int64))).toInt32)), (.int p2)])
  refine OGl.go (fun t k => XS.iadd X34.here hx rfl (hb hby d4_22) rfl k) ?_
  show OGl _ _ _ _ T34 (mkF m 23 #[.val (.ref o0), .val (.int p1)] [(.int (e4_0 p1 p2 p3 p4))])
  obtain ⟨fs, hr, hrun, hended, hW, hsame⟩ := X34.leave (v := some (.int (e4_0 p1 p2 p3 p4))) (fun h => by rw [Bd.returns] at h; cases h)
  refine ⟨_, _, retI X34 hx Bd.returns (hb hby d4_23) hr, hrun, hended, _, _, rfl, ?_, ⟨_, rfl⟩, hW, hsame.mono (by decide) (by decide)⟩
  show Q4 Z o0 p1 p2 p3 p4 h0 n0 _ T34.heap _
  rw [e34]
  exact ⟨rfl, N0, rfl⟩
theorem pd_2 : parseMethodDescriptor "(I)I" = some ⟨[.int], some .int⟩ := by decide +kernel
def e0_0 (p1 : Int32) : Int64 := (((2147483647 : Int64) - (((p1 &&& (2147483647 : Int32))).toInt64)) + (1 : Int64))
theorem own_sp (p1 : Int32) : 0 ≤ (p1 &&& 2147483647).toInt ∧ (p1 &&& 2147483647).toInt < 2147483648 := by
  have h := c_mask p1 2147483647 31 (by decide) (by decide)
  omega
theorem own_room (p1 : Int32) : (e0_0 p1).toInt = 2147483648 - (p1 &&& 2147483647).toInt := by
  have h := own_sp p1
  unfold e0_0
  have a1 := c_i2l (p1 &&& 2147483647)
  have a2 := c_lsub 2147483647 (p1 &&& 2147483647).toInt64
  have a3 := c_ladd (2147483647 - (p1 &&& 2147483647).toInt64) 1
  have k1 : (2147483647 : Int64).toInt = 2147483647 := by decide
  have k2 : (1 : Int64).toInt = 1 := by decide
  have r1 := rng64 (2147483647 - (p1 &&& 2147483647).toInt64)
  have r2 := rng64 (2147483647 - (p1 &&& 2147483647).toInt64 + 1)
  omega
theorem own_sd1 (p1 : Int32) : (e0_0 p1) ≠ 0 := by
  intro e
  have h := own_room p1
  have h2 := own_sp p1
  rw [e] at h
  have k : (0 : Int64).toInt = 0 := by decide
  omega
theorem own_eig (p1 : Int32) : (((p1 &&& (2147483647 : Int32)) / (8 : Int32)) + (1 : Int32)).toInt = (p1 &&& 2147483647).toInt / 8 + 1 := by
  have h := own_sp p1
  have a1 := (c_idiv (p1 &&& 2147483647) 8 8 (by decide) (by decide)).1 h.1
  have a2 := c_iadd ((p1 &&& 2147483647) / 8) 1
  have k : (1 : Int32).toInt = 1 := by decide
  have r := rng32 ((p1 &&& 2147483647) / 8 + 1)
  omega
theorem own_sd2 (p1 : Int32) : (((p1 &&& (2147483647 : Int32)) / (8 : Int32)) + (1 : Int32)) ≠ 0 := by
  intro e
  have h := own_eig p1
  have h2 := own_sp p1
  rw [e] at h
  have k : (0 : Int32).toInt = 0 := by decide
  omega
def e0_1 (p1 : Int32) (p2 : Int32) : Int32 := ((p2 &&& (2147483647 : Int32)) % (((p1 &&& (2147483647 : Int32)) / (8 : Int32)) + (1 : Int32)))
def e0_2 (p0 : Int32) (p1 : Int32) (p2 : Int32) (p3 : Int32) : Int32 := (e4_0 (p3 &&& (7 : Int32)) ((((((p0).toInt64) &&& (2147483647 : Int64)) % (e0_0 p1))).toInt32) (p1 &&& (2147483647 : Int32)) (((8 : Int32) * (e0_1 p1 p2)) / (8 : Int32)))
def e0_3 (p0 : Int32) (p1 : Int32) (p2 : Int32) (p3 : Int32) : Int64 := ((((e0_2 p0 p1 p2 p3)).toInt64) - ((((((((p0).toInt64) &&& (2147483647 : Int64)) % (e0_0 p1))).toInt32)).toInt64))
def e0_4 (p1 : Int32) (p2 : Int32) (p3 : Int32) : Int64 := (((((p1 &&& (2147483647 : Int32)) - (e0_1 p1 p2))).toInt64) * (((p3 &&& (7 : Int32))).toInt64))
def e0_5 (p0 : Int32) (p1 : Int32) (p2 : Int32) (p3 : Int32) : Int32 := (if (e0_4 p1 p2 p3) < (((7 : Int64) * (e0_3 p0 p1 p2 p3)) + (7 : Int64)) then (1 : Int32) else (0 : Int32))
def e0_6 (p0 : Int32) (p1 : Int32) (p2 : Int32) (p3 : Int32) : Int32 := (if (e0_4 p1 p2 p3) < ((7 : Int64) * (e0_3 p0 p1 p2 p3)) then (0 : Int32) else (e0_5 p0 p1 p2 p3))
def e0_7 (p0 : Int32) (p1 : Int32) (p2 : Int32) (p3 : Int32) : Int64 := (((((((((p0).toInt64) &&& (2147483647 : Int64)) % (e0_0 p1))).toInt32)).toInt64) + ((((p3 &&& (7 : Int32))).toInt64) * (((e0_1 p1 p2)).toInt64)))
def e0_8 (p0 : Int32) (p1 : Int32) (p2 : Int32) (p3 : Int32) : Int32 := (if (((e0_2 p0 p1 p2 p3)).toInt64) = (e0_7 p0 p1 p2 p3) then (1 : Int32) else (0 : Int32))
def e0_9 (p0 : Int32) (p1 : Int32) (p2 : Int32) (p3 : Int32) : Int32 := (if (p1 &&& (2147483647 : Int32)) = ((8 : Int32) * (e0_1 p1 p2)) then (e0_8 p0 p1 p2 p3) else (1 : Int32))
theorem ef_0 (m : MethodId) (x0 : Int32) (x1 : Int32) (x2 : Int32) (x3 : Int32) : entryFrame m #[(.int x0), (.int x1), (.int x2), (.int x3)] maxLocals = mkF m 0 #[.val (.int x0), .val (.int x1), .val (.int x2), .val (.int x3), .unset, .unset, .unset, .unset, .unset, .unset, .unset, .unset, .unset, .unset, .unset, .unset, .unset, .unset, .unset, .unset] [] := by first | (simp [entryFrame, mkF, argsToLocals, Value.category, maxLocals]; done) | rfl
theorem pn_1 : plainName "com/example/skipscan/skipscan/ByteSampleStartPinLaw" = true := by first | (simp [plainName, overriddenIn]; done) | decide +kernel
def t0_0 (p0 : Int32) (p1 : Int32) (p2 : Int32) (p3 : Int32) : Int32 := (if (((8 : Int32) * (e0_1 p1 p2)) / (8 : Int32)) = (e0_1 p1 p2) then (if (e0_6 p0 p1 p2 p3) = (0 : Int32) then (0 : Int32) else (if (e0_9 p0 p1 p2 p3) = (0 : Int32) then (0 : Int32) else (1 : Int32))) else (0 : Int32))
def Q0 (Z : State) (p0 : Int32) (p1 : Int32) (p2 : Int32) (p3 : Int32) (h0 : Heap) (n0 : Nat) (v : Option Value) (h : Heap) (L : List Loc) : Prop := v = some (.int (t0_0 p0 p1 p2 p3)) ∧ Fr n0 L
set_option maxRecDepth 65536 in
set_option maxHeartbeats 40000000 in
theorem rm0 (l : Launch) (Z : State) (a0 : Array Value) (hw : ∀ d ∈ tables_1, d.before a0 Z = true) (ws : List Jvm.Cond) (p0 : Int32) (p1 : Int32) (p2 : Int32) (p3 : Int32) (h0 : Heap) (n0 : Nat) (Z0 : n0 ≤ h0.size) :
    MetFree l x (head1 (Jvm.Cond.code x code maxLocals ret :: ws) room_1) (fun a U => a = #[(.int p0), (.int p1), (.int p2), (.int p3)] ∧ Z.Warmed39 U.vm ∧ U.heap = h0) (fun _ _ _ _ _ => True) (fun _ U o U' => ∃ v L, o = .returned v ∧ Q0 Z p0 p1 p2 p3 h0 n0 v U'.heap L ∧ FrameEnd U o U' L 2 5) := by
  refine MetFree.of_bodySF (plainFor_of_name pn_1) hisR ?_
  intro p e s m args below meth c s₁ Bd hml0 hP hK
  obtain ⟨rfl, hZ, hh⟩ := hP
  have hx := Bd.exec
  have hby := Bd.bytes
  have hml : c.maxLocals = 20 := hml0
  have hown : s.vm.findClass "com/example/skipscan/skipscan/ByteSampleStartPinLaw" = some m.cls := findClass_of_methodNamed Bd.named
  have hnm := (name_of_methodNamed Bd.named Bd.method).1
  have X0 : Stand p l e room_1 s m #[(.int p0), (.int p1), (.int p2), (.int p3)] below meth c s₁ [] 0 0 := Stand.of_body Bd
  have e0 : s₁.heap = h0 := by rw [← hh, Bd.state]; rfl
  have N0 := Fr.nil n0
  refine OGl.start (ef_0 m p0 p1 p2 p3) ?_
  show OGl _ _ _ _ s₁ (mkF m 0 #[.val (.int p0), .val (.int p1), .val (.int p2), .val (.int p3), .unset, .unset, .unset, .unset, .unset, .unset, .unset, .unset, .unset, .unset, .unset, .unset, .unset, .unset, .unset, .unset] [])
  refine OGl.go (fun t k => XS.iloadN X0.here hx rfl (hb hby at_0) rfl (own_ldc X0 hx hown (mvT hZ (hw _ (List.mem_of_getElem? (i := 0) rfl))) rfl (hb hby at_1) (XS.iand X0.here hx rfl (hb hby at_3) rfl (XS.istore X0.here hx rfl (hb hby at_4) rfl (l' := #[.val (.int p0), .val (.int p1), .val (.int p2), .val (.int p3), .val (.int (p1 &&& (2147483647 : Int32))), .unset, .unset, .unset, .unset, .unset, .unset, .unset, .unset, .unset, .unset, .unset, .unset, .unset, .unset, .unset]) rfl (own_ldc2 X0 hx hown (mvT hZ (hw _ (List.mem_of_getElem? (i := 1) rfl))) rfl (hb hby at_6) (XS.iload X0.here hx rfl (hb hby at_9) rfl (XS.i2l X0.here hx rfl (hb hby at_11) rfl (XS.lsub X0.here hx rfl (hb hby at_12) rfl k)))))))) ?_
  show OGl _ _ _ _ s₁ (mkF m 13 #[.val (.int p0), .val (.int p1), .val (.int p2), .val (.int p3), .val (.int (p1 &&& (2147483647 : Int32))), .unset, .unset, .unset, .unset, .unset, .unset, .unset, .unset, .unset, .unset, .unset, .unset, .unset, .unset, .unset] [(.long ((2147483647 : Int64) - (((p1 &&& (2147483647 : Int32))).toInt64)))])
  refine OGl.go (fun t k => XS.lstore X0.here hx rfl (hb hby at_13) rfl (l' := #[.val (.int p0), .val (.int p1), .val (.int p2), .val (.int p3), .val (.int (p1 &&& (2147483647 : Int32))), .val (.long ((2147483647 : Int64) - (((p1 &&& (2147483647 : Int32))).toInt64))), .second, .unset, .unset, .unset, .unset, .unset, .unset, .unset, .unset, .unset, .unset, .unset, .unset, .unset]) rfl (XS.iloadN X0.here hx rfl (hb hby at_15) rfl (XS.i2l X0.here hx rfl (hb hby at_16) rfl (own_ldc2 X0 hx hown (mvT hZ (hw _ (List.mem_of_getElem? (i := 1) rfl))) rfl (hb hby at_17) (XS.land X0.here hx rfl (hb hby at_20) rfl (XS.lload X0.here hx rfl (hb hby at_21) rfl (XS.lconst X0.here hx rfl (hb hby at_23) (XS.ladd X0.here hx rfl (hb hby at_24) rfl k)))))))) ?_
  show OGl _ _ _ _ s₁ (mkF m 25 #[.val (.int p0), .val (.int p1), .val (.int p2), .val (.int p3), .val (.int (p1 &&& (2147483647 : Int32))), .val (.long ((2147483647 : Int64) - (((p1 &&& (2147483647 : Int32))).toInt64))), .second, .unset, .unset, .unset, .unset, .unset, .unset, .unset, .unset, .unset, .unset, .unset, .unset, .unset] [(.long (e0_0 p1)), (.long (((p0).toInt64) &&& (2147483647 : Int64)))])
  refine OGl.go (fun t k => own_lrem X0 hx rfl (hb hby at_25) rfl (own_sd1 p1) (XS.l2i X0.here hx rfl (hb hby at_26) rfl (XS.istore X0.here hx rfl (hb hby at_27) rfl (l' := #[.val (.int p0), .val (.int p1), .val (.int p2), .val (.int p3), .val (.int (p1 &&& (2147483647 : Int32))), .val (.long ((2147483647 : Int64) - (((p1 &&& (2147483647 : Int32))).toInt64))), .second, .val (.int ((((((p0).toInt64) &&& (2147483647 : Int64)) % (e0_0 p1))).toInt32)), .unset, .unset, .unset, .unset, .unset, .unset, .unset, .unset, .unset, .unset, .unset, .unset]) rfl (XS.iloadN X0.here hx rfl (hb hby at_29) rfl (own_ldc X0 hx hown (mvT hZ (hw _ (List.mem_of_getElem? (i := 0) rfl))) rfl (hb hby at_30) (XS.iand X0.here hx rfl (hb hby at_32) rfl (XS.iload X0.here hx rfl (hb hby at_33) rfl (XS.bipush X0.here hx rfl (hb hby at_35) k)))))))) ?_
  show OGl _ _ _ _ s₁ (mkF m 37 #[.val (.int p0), .val (.int p1), .val (.int p2), .val (.int p3), .val (.int (p1 &&& (2147483647 : Int32))), .val (.long ((2147483647 : Int64) - (((p1 &&& (2147483647 : Int32))).toInt64))), .second, .val (.int ((((((p0).toInt64) &&& (2147483647 : Int64)) % (e0_0 p1))).toInt32)), .unset, .unset, .unset, .unset, .unset, .unset, .unset, .unset, .unset, .unset, .unset, .unset] [(.int (8 : Int32)), (.int (p1 &&& (2147483647 : Int32))), (.int (p2 &&& (2147483647 : Int32)))])
  refine OGl.go (fun t k => XS.idiv X0.here hx rfl (hb hby at_37) rfl (by decide) (XS.iconst X0.here hx rfl (hb hby at_38) (XS.iadd X0.here hx rfl (hb hby at_39) rfl (iremM X0 hx rfl (hb hby at_40) rfl (own_sd2 p1) (XS.istore X0.here hx rfl (hb hby at_41) rfl (l' := #[.val (.int p0), .val (.int p1), .val (.int p2), .val (.int p3), .val (.int (p1 &&& (2147483647 : Int32))), .val (.long ((2147483647 : Int64) - (((p1 &&& (2147483647 : Int32))).toInt64))), .second, .val (.int ((((((p0).toInt64) &&& (2147483647 : Int64)) % (e0_0 p1))).toInt32)), .val (.int (e0_1 p1 p2)), .unset, .unset, .unset, .unset, .unset, .unset, .unset, .unset, .unset, .unset, .unset]) rfl (XS.bipush X0.here hx rfl (hb hby at_43) (XS.iload X0.here hx rfl (hb hby at_45) rfl (XS.imul X0.here hx rfl (hb hby at_47) rfl k)))))))) ?_
  show OGl _ _ _ _ s₁ (mkF m 48 #[.val (.int p0), .val (.int p1), .val (.int p2), .val (.int p3), .val (.int (p1 &&& (2147483647 : Int32))), .val (.long ((2147483647 : Int64) - (((p1 &&& (2147483647 : Int32))).toInt64))), .second, .val (.int ((((((p0).toInt64) &&& (2147483647 : Int64)) % (e0_0 p1))).toInt32)), .val (.int (e0_1 p1 p2)), .unset, .unset, .unset, .unset, .unset, .unset, .unset, .unset, .unset, .unset, .unset] [(.int ((8 : Int32) * (e0_1 p1 p2)))])
  refine OGl.go (fun t k => XS.istore X0.here hx rfl (hb hby at_48) rfl (l' := #[.val (.int p0), .val (.int p1), .val (.int p2), .val (.int p3), .val (.int (p1 &&& (2147483647 : Int32))), .val (.long ((2147483647 : Int64) - (((p1 &&& (2147483647 : Int32))).toInt64))), .second, .val (.int ((((((p0).toInt64) &&& (2147483647 : Int64)) % (e0_0 p1))).toInt32)), .val (.int (e0_1 p1 p2)), .val (.int ((8 : Int32) * (e0_1 p1 p2))), .unset, .unset, .unset, .unset, .unset, .unset, .unset, .unset, .unset, .unset]) rfl (XS.iloadN X0.here hx rfl (hb hby at_50) rfl (XS.bipush X0.here hx rfl (hb hby at_51) (XS.iand X0.here hx rfl (hb hby at_53) rfl (XS.istore X0.here hx rfl (hb hby at_54) rfl (l' := #[.val (.int p0), .val (.int p1), .val (.int p2), .val (.int p3), .val (.int (p1 &&& (2147483647 : Int32))), .val (.long ((2147483647 : Int64) - (((p1 &&& (2147483647 : Int32))).toInt64))), .second, .val (.int ((((((p0).toInt64) &&& (2147483647 : Int64)) % (e0_0 p1))).toInt32)), .val (.int (e0_1 p1 p2)), .val (.int ((8 : Int32) * (e0_1 p1 p2))), .val (.int (p3 &&& (7 : Int32))), .unset, .unset, .unset, .unset, .unset, .unset, .unset, .unset, .unset]) rfl k))))) ?_
  show OGl _ _ _ _ s₁ (mkF m 56 #[.val (.int p0), .val (.int p1), .val (.int p2), .val (.int p3), .val (.int (p1 &&& (2147483647 : Int32))), .val (.long ((2147483647 : Int64) - (((p1 &&& (2147483647 : Int32))).toInt64))), .second, .val (.int ((((((p0).toInt64) &&& (2147483647 : Int64)) % (e0_0 p1))).toInt32)), .val (.int (e0_1 p1 p2)), .val (.int ((8 : Int32) * (e0_1 p1 p2))), .val (.int (p3 &&& (7 : Int32))), .unset, .unset, .unset, .unset, .unset, .unset, .unset, .unset, .unset] [])
  obtain ⟨T1, h1, X1, e1, E1, A1, D1, -, st1⟩ := newO X0 hx hZ hown (hw _ (List.mem_of_getElem? (i := 2) rfl)) (hw _ (List.mem_of_getElem? (i := 3) rfl)) (hw _ (List.mem_of_getElem? (i := 4) rfl)) e0 (g := (mkF m 56 #[.val (.int p0), .val (.int p1), .val (.int p2), .val (.int p3), .val (.int (p1 &&& (2147483647 : Int32))), .val (.long ((2147483647 : Int64) - (((p1 &&& (2147483647 : Int32))).toInt64))), .second, .val (.int ((((((p0).toInt64) &&& (2147483647 : Int64)) % (e0_0 p1))).toInt32)), .val (.int (e0_1 p1 p2)), .val (.int ((8 : Int32) * (e0_1 p1 p2))), .val (.int (p3 &&& (7 : Int32))), .unset, .unset, .unset, .unset, .unset, .unset, .unset, .unset, .unset] [])) rfl (hb hby at_56) (by decide) (by decide)
  obtain ⟨b1, gb1⟩ : ∃ z, z = h0.size := ⟨_, rfl⟩
  rw [← gb1] at A1 D1 st1
  have sz_b1 : h0.size ≤ b1 := Nat.le_trans (Keep.refl h0 []).1 (Nat.le_of_eq gb1.symm)
  have g_b1 : n0 ≤ b1 := Nat.le_trans Z0 sz_b1
  have F2 : Fld Z h1 b1 "com/example/skipscan/skipscan/ByteSample" "array" "[B" .null := D1 (Or.inr (hw _ (List.mem_of_getElem? (i := 13) rfl))) (ty := (.array .byte)) (by decide)
  have F3 : Fld Z h1 b1 "com/example/skipscan/skipscan/ByteSample" "from" "I" (.int (0 : Int32)) := D1 (Or.inr (hw _ (List.mem_of_getElem? (i := 15) rfl))) (ty := .int) (by decide)
  have F4 : Fld Z h1 b1 "com/example/skipscan/skipscan/ByteSample" "span" "I" (.int (0 : Int32)) := D1 (Or.inr (hw _ (List.mem_of_getElem? (i := 17) rfl))) (ty := .int) (by decide)
  have F5 : Fld Z h1 b1 "com/example/skipscan/skipscan/ByteSample" "slice" "I" (.int (0 : Int32)) := D1 (Or.inr (hw _ (List.mem_of_getElem? (i := 19) rfl))) (ty := .int) (by decide)
  have KK1 : Keep h0 h1 [] := (Keep.refl h0 []).ext E1
  refine OGl.go st1 ?_
  show OGl _ _ _ _ T1 (mkF m 59 #[.val (.int p0), .val (.int p1), .val (.int p2), .val (.int p3), .val (.int (p1 &&& (2147483647 : Int32))), .val (.long ((2147483647 : Int64) - (((p1 &&& (2147483647 : Int32))).toInt64))), .second, .val (.int ((((((p0).toInt64) &&& (2147483647 : Int64)) % (e0_0 p1))).toInt32)), .val (.int (e0_1 p1 p2)), .val (.int ((8 : Int32) * (e0_1 p1 p2))), .val (.int (p3 &&& (7 : Int32))), .unset, .unset, .unset, .unset, .unset, .unset, .unset, .unset, .unset] [(.ref b1)])
  refine OGl.go (fun t k => XS.dup X1.here hx rfl (hb hby at_59) rfl rfl (XS.iconst X1.here hx rfl (hb hby at_60) k)) ?_
  show OGl _ _ _ _ T1 (mkF m 61 #[.val (.int p0), .val (.int p1), .val (.int p2), .val (.int p3), .val (.int (p1 &&& (2147483647 : Int32))), .val (.long ((2147483647 : Int64) - (((p1 &&& (2147483647 : Int32))).toInt64))), .second, .val (.int ((((((p0).toInt64) &&& (2147483647 : Int64)) % (e0_0 p1))).toInt32)), .val (.int (e0_1 p1 p2)), .val (.int ((8 : Int32) * (e0_1 p1 p2))), .val (.int (p3 &&& (7 : Int32))), .unset, .unset, .unset, .unset, .unset, .unset, .unset, .unset, .unset] [(.int (1 : Int32)), (.ref b1), (.ref b1)])
  obtain ⟨T6, h6, k6, X6, e6, E6, A6, st6⟩ := newP X1 hx hZ (hw _ (List.mem_of_getElem? (i := 5) rfl)) e1 (g := (mkF m 61 #[.val (.int p0), .val (.int p1), .val (.int p2), .val (.int p3), .val (.int (p1 &&& (2147483647 : Int32))), .val (.long ((2147483647 : Int64) - (((p1 &&& (2147483647 : Int32))).toInt64))), .second, .val (.int ((((((p0).toInt64) &&& (2147483647 : Int64)) % (e0_0 p1))).toInt32)), .val (.int (e0_1 p1 p2)), .val (.int ((8 : Int32) * (e0_1 p1 p2))), .val (.int (p3 &&& (7 : Int32))), .unset, .unset, .unset, .unset, .unset, .unset, .unset, .unset, .unset] [(.int (1 : Int32)), (.ref b1), (.ref b1)])) rfl (hb hby at_61) rfl (by decide) (cap := 1) (by decide) (by decide) (by decide) (by decide)
  obtain ⟨b6, gb6⟩ : ∃ z, z = h1.size := ⟨_, rfl⟩
  rw [← gb6] at A6 st6
  have ne_b1_b6 : b1 ≠ b6 := Nat.ne_of_lt (Nat.lt_of_lt_of_eq A1.lt gb6.symm)
  have sz_b6 : h0.size ≤ b6 := Nat.le_trans KK1.1 (Nat.le_of_eq gb6.symm)
  have g_b6 : n0 ≤ b6 := Nat.le_trans Z0 sz_b6
  have V6 : Arv Z h6 b6 k6 .byte (1 : Int32) [(.int (0 : Int32))] (.int (0 : Int32)) := (Arv.new A6 (by decide)).pad (pad_rep [] (.int (0 : Int32)) 1)
  have KK6 : Keep h0 h6 [] := KK1.ext E6
  refine OGl.go st6 ?_
  show OGl _ _ _ _ T6 (mkF m 63 #[.val (.int p0), .val (.int p1), .val (.int p2), .val (.int p3), .val (.int (p1 &&& (2147483647 : Int32))), .val (.long ((2147483647 : Int64) - (((p1 &&& (2147483647 : Int32))).toInt64))), .second, .val (.int ((((((p0).toInt64) &&& (2147483647 : Int64)) % (e0_0 p1))).toInt32)), .val (.int (e0_1 p1 p2)), .val (.int ((8 : Int32) * (e0_1 p1 p2))), .val (.int (p3 &&& (7 : Int32))), .unset, .unset, .unset, .unset, .unset, .unset, .unset, .unset, .unset] [(.ref b6), (.ref b1), (.ref b1)])
  refine OGl.go (fun t k => XS.iload X6.here hx rfl (hb hby at_63) rfl (XS.iload X6.here hx rfl (hb hby at_65) rfl (XS.iload X6.here hx rfl (hb hby at_67) rfl k))) ?_
  show OGl _ _ _ _ T6 (mkF m 69 #[.val (.int p0), .val (.int p1), .val (.int p2), .val (.int p3), .val (.int (p1 &&& (2147483647 : Int32))), .val (.long ((2147483647 : Int64) - (((p1 &&& (2147483647 : Int32))).toInt64))), .second, .val (.int ((((((p0).toInt64) &&& (2147483647 : Int64)) % (e0_0 p1))).toInt32)), .val (.int (e0_1 p1 p2)), .val (.int ((8 : Int32) * (e0_1 p1 p2))), .val (.int (p3 &&& (7 : Int32))), .unset, .unset, .unset, .unset, .unset, .unset, .unset, .unset, .unset] [(.int ((8 : Int32) * (e0_1 p1 p2))), (.int (p1 &&& (2147483647 : Int32))), (.int ((((((p0).toInt64) &&& (2147483647 : Int64)) % (e0_0 p1))).toInt32)), (.ref b6), (.ref b1), (.ref b1)])
  have F22 := (A1.ext E6)
  have F23 := (F2.ext E6)
  have F24 := (F3.ext E6)
  have F25 := (F4.ext E6)
  have F26 := (F5.ext E6)
  obtain ⟨_, _, ⟨T7, L7, kk7, n7⟩, -, X7, ⟨Lc7, hQ7, l7, y7, z7⟩, st7⟩ := X6.specialBack hx (y := (⟨"com/example/skipscan/skipscan/ByteSample", "<init>", "([BIII)V"⟩ : MethodName)) rfl hown (mvT hZ (hw _ (List.mem_of_getElem? (i := 6) rfl))) (mvT hZ (hw _ (List.mem_of_getElem? (i := 7) rfl))) (mvT hZ (hw _ (List.mem_of_getElem? (i := 8) rfl))) (by decide) (backOf (W := 1) (rm1 l Z a0 hw [] b1 b6 ((((((p0).toInt64) &&& (2147483647 : Int64)) % (e0_0 p1))).toInt32) (p1 &&& (2147483647 : Int32)) ((8 : Int32) * (e0_1 p1 p2)) h6 n0 (Nat.le_trans Z0 KK6.1) F22 F23 F24 F25 F26 g_b1) hZ (hw _ (List.mem_of_getElem? (i := 8) rfl)) (hw _ (List.mem_of_getElem? (i := 4) rfl)) (by decide) (by decide)) (g := (mkF m 69 #[.val (.int p0), .val (.int p1), .val (.int p2), .val (.int p3), .val (.int (p1 &&& (2147483647 : Int32))), .val (.long ((2147483647 : Int64) - (((p1 &&& (2147483647 : Int32))).toInt64))), .second, .val (.int ((((((p0).toInt64) &&& (2147483647 : Int64)) % (e0_0 p1))).toInt32)), .val (.int (e0_1 p1 p2)), .val (.int ((8 : Int32) * (e0_1 p1 p2))), .val (.int (p3 &&& (7 : Int32))), .unset, .unset, .unset, .unset, .unset, .unset, .unset, .unset, .unset] [(.int ((8 : Int32) * (e0_1 p1 p2))), (.int (p1 &&& (2147483647 : Int32))), (.int ((((((p0).toInt64) &&& (2147483647 : Int64)) % (e0_0 p1))).toInt32)), (.ref b6), (.ref b1), (.ref b1)])) rfl (by rw [hml]; rfl) (Steps.refl _) (a := b1) (argsL := [(.ref b6), (.int ((((((p0).toInt64) &&& (2147483647 : Int64)) % (e0_0 p1))).toInt32)), (.int (p1 &&& (2147483647 : Int32))), (.int ((8 : Int32) * (e0_1 p1 p2)))]) (rest := [(.ref b1)]) (lenOf pd_0 rfl) rfl (by show 2 * 0 + _ ≤ _; exact Nat.le_of_eq rfl) (hb hby at_69) (fun _ _ => ⟨rfl, e6, (by decide : 2 + 0 ≤ _), (by decide : 5 + 0 ≤ _)⟩)
  dsimp only [Pt.U, Pt.locs, Pt.cells, Pt.slots] at X7 l7 y7 z7 st7 hQ7
  subst l7 y7 z7
  obtain ⟨rfl, Nq7, K7, Fq7_0, Fq7_1, Fq7_2, Fq7_3⟩ := hQ7
  have KK7 : Keep h0 T7.heap [] := KK6.trans K7 (allS (Or.inr sz_b1) all0)
  have N7 := Fr.app N0 Nq7
  refine OGl.go (fun t k => st7.trans k) ?_
  show OGl _ _ _ _ T7 (mkF m 72 #[.val (.int p0), .val (.int p1), .val (.int p2), .val (.int p3), .val (.int (p1 &&& (2147483647 : Int32))), .val (.long ((2147483647 : Int64) - (((p1 &&& (2147483647 : Int32))).toInt64))), .second, .val (.int ((((((p0).toInt64) &&& (2147483647 : Int64)) % (e0_0 p1))).toInt32)), .val (.int (e0_1 p1 p2)), .val (.int ((8 : Int32) * (e0_1 p1 p2))), .val (.int (p3 &&& (7 : Int32))), .unset, .unset, .unset, .unset, .unset, .unset, .unset, .unset, .unset] [(.ref b1)])
  refine OGl.go (fun t k => XS.astore X7.here hx rfl (hb hby at_72) rfl rfl (l' := #[.val (.int p0), .val (.int p1), .val (.int p2), .val (.int p3), .val (.int (p1 &&& (2147483647 : Int32))), .val (.long ((2147483647 : Int64) - (((p1 &&& (2147483647 : Int32))).toInt64))), .second, .val (.int ((((((p0).toInt64) &&& (2147483647 : Int64)) % (e0_0 p1))).toInt32)), .val (.int (e0_1 p1 p2)), .val (.int ((8 : Int32) * (e0_1 p1 p2))), .val (.int (p3 &&& (7 : Int32))), .val (.ref b1), .unset, .unset, .unset, .unset, .unset, .unset, .unset, .unset]) rfl (XS.aload X7.here hx rfl (hb hby at_74) rfl rfl k)) ?_
  show OGl _ _ _ _ T7 (mkF m 76 #[.val (.int p0), .val (.int p1), .val (.int p2), .val (.int p3), .val (.int (p1 &&& (2147483647 : Int32))), .val (.long ((2147483647 : Int64) - (((p1 &&& (2147483647 : Int32))).toInt64))), .second, .val (.int ((((((p0).toInt64) &&& (2147483647 : Int64)) % (e0_0 p1))).toInt32)), .val (.int (e0_1 p1 p2)), .val (.int ((8 : Int32) * (e0_1 p1 p2))), .val (.int (p3 &&& (7 : Int32))), .val (.ref b1), .unset, .unset, .unset, .unset, .unset, .unset, .unset, .unset] [(.ref b1)])
  have F29 := (F22.keep K7)
  obtain ⟨cq27, kq27, q27a, q27b, q27c⟩ := isOf hZ rfl F29
  obtain ⟨_, _, ⟨T27, L27, kk27, n27⟩, -, X27, ⟨Lc27, hQ27, l27, y27, z27⟩, st27⟩ := X7.virtualBack hx (y := (⟨"com/example/skipscan/skipscan/ByteSample", "slice", "()I"⟩ : MethodName)) (z := (⟨"com/example/skipscan/skipscan/ByteSample", "slice", "()I"⟩ : MethodName)) hown (mvT hZ (hw _ (List.mem_of_getElem? (i := 20) rfl))) (mvT hZ (hw _ (List.mem_of_getElem? (i := 21) rfl))) (notFace_of_selects (args := #[]) (mvT hZ (hw _ (List.mem_of_getElem? (i := 23) rfl)))) (mvT hZ (hw _ (List.mem_of_getElem? (i := 23) rfl))) (mvT hZ (hw _ (List.mem_of_getElem? (i := 22) rfl))) (by decide) (backOf (W := 0) (rm3 l Z a0 hw [] b1 (((8 : Int32) * (e0_1 p1 p2)) / (8 : Int32)) T7.heap n0 (Nat.le_trans Z0 KK7.1) Fq7_2) hZ (hw _ (List.mem_of_getElem? (i := 24) rfl)) (hw _ (List.mem_of_getElem? (i := 4) rfl)) (by decide) (by decide)) q27a q27c (g := (mkF m 76 #[.val (.int p0), .val (.int p1), .val (.int p2), .val (.int p3), .val (.int (p1 &&& (2147483647 : Int32))), .val (.long ((2147483647 : Int64) - (((p1 &&& (2147483647 : Int32))).toInt64))), .second, .val (.int ((((((p0).toInt64) &&& (2147483647 : Int64)) % (e0_0 p1))).toInt32)), .val (.int (e0_1 p1 p2)), .val (.int ((8 : Int32) * (e0_1 p1 p2))), .val (.int (p3 &&& (7 : Int32))), .val (.ref b1), .unset, .unset, .unset, .unset, .unset, .unset, .unset, .unset] [(.ref b1)])) rfl (by rw [hml]; rfl) (Steps.refl _) (argsL := []) (rest := []) (lenOf pd_1 rfl) rfl (by show 2 * 0 + _ ≤ _; exact Nat.le_of_eq rfl) (hb hby at_76) (fun _ _ => ⟨rfl, rfl, (by decide : 2 + 0 ≤ _), (by decide : 5 + 0 ≤ _)⟩)
  dsimp only [Pt.U, Pt.locs, Pt.cells, Pt.slots] at X27 l27 y27 z27 st27 hQ27
  subst l27 y27 z27
  obtain ⟨rfl, Nq27, e27⟩ := hQ27
  have N27 := Fr.app N7 Nq27
  refine OGl.go (fun t k => st27.trans k) ?_
  show OGl _ _ _ _ T27 (mkF m 79 #[.val (.int p0), .val (.int p1), .val (.int p2), .val (.int p3), .val (.int (p1 &&& (2147483647 : Int32))), .val (.long ((2147483647 : Int64) - (((p1 &&& (2147483647 : Int32))).toInt64))), .second, .val (.int ((((((p0).toInt64) &&& (2147483647 : Int64)) % (e0_0 p1))).toInt32)), .val (.int (e0_1 p1 p2)), .val (.int ((8 : Int32) * (e0_1 p1 p2))), .val (.int (p3 &&& (7 : Int32))), .val (.ref b1), .unset, .unset, .unset, .unset, .unset, .unset, .unset, .unset] [(.int (((8 : Int32) * (e0_1 p1 p2)) / (8 : Int32)))])
  refine OGl.go (fun t k => XS.iload X27.here hx rfl (hb hby at_79) rfl k) ?_
  show OGl _ _ _ _ T27 (mkF m 81 #[.val (.int p0), .val (.int p1), .val (.int p2), .val (.int p3), .val (.int (p1 &&& (2147483647 : Int32))), .val (.long ((2147483647 : Int64) - (((p1 &&& (2147483647 : Int32))).toInt64))), .second, .val (.int ((((((p0).toInt64) &&& (2147483647 : Int64)) % (e0_0 p1))).toInt32)), .val (.int (e0_1 p1 p2)), .val (.int ((8 : Int32) * (e0_1 p1 p2))), .val (.int (p3 &&& (7 : Int32))), .val (.ref b1), .unset, .unset, .unset, .unset, .unset, .unset, .unset, .unset] [(.int (e0_1 p1 p2)), (.int (((8 : Int32) * (e0_1 p1 p2)) / (8 : Int32)))])
  by_cases hc30 : (((8 : Int32) * (e0_1 p1 p2)) / (8 : Int32)) = (e0_1 p1 p2)
  · refine OGl.go (fun t k => XS.icmpYes X27.here hx rfl (pc0 := 81) (pc' := 86) rfl (hb hby at_81) rfl (teq hc30).1 (by decide) (by decide) (XS.aload X27.here hx rfl (hb hby at_86) rfl rfl (XS.iload X27.here hx rfl (hb hby at_88) rfl k))) ?_
    show OGl _ _ _ _ T27 (mkF m 90 #[.val (.int p0), .val (.int p1), .val (.int p2), .val (.int p3), .val (.int (p1 &&& (2147483647 : Int32))), .val (.long ((2147483647 : Int64) - (((p1 &&& (2147483647 : Int32))).toInt64))), .second, .val (.int ((((((p0).toInt64) &&& (2147483647 : Int64)) % (e0_0 p1))).toInt32)), .val (.int (e0_1 p1 p2)), .val (.int ((8 : Int32) * (e0_1 p1 p2))), .val (.int (p3 &&& (7 : Int32))), .val (.ref b1), .unset, .unset, .unset, .unset, .unset, .unset, .unset, .unset] [(.int (p3 &&& (7 : Int32))), (.ref b1)])
    obtain ⟨cq31, kq31, q31a, q31b, q31c⟩ := isOf hZ e27 F29
    obtain ⟨_, _, ⟨T31, L31, kk31, n31⟩, -, X31, ⟨Lc31, hQ31, l31, y31, z31⟩, st31⟩ := X27.virtualBack hx (y := (⟨"com/example/skipscan/skipscan/ByteSample", "start", "(I)I"⟩ : MethodName)) (z := (⟨"com/example/skipscan/skipscan/ByteSample", "start", "(I)I"⟩ : MethodName)) hown (mvT hZ (hw _ (List.mem_of_getElem? (i := 25) rfl))) (mvT hZ (hw _ (List.mem_of_getElem? (i := 26) rfl))) (notFace_of_selects (args := #[]) (mvT hZ (hw _ (List.mem_of_getElem? (i := 28) rfl)))) (mvT hZ (hw _ (List.mem_of_getElem? (i := 28) rfl))) (mvT hZ (hw _ (List.mem_of_getElem? (i := 27) rfl))) (by decide) (backOf (W := 0) (rm4 l Z a0 hw [] b1 (p3 &&& (7 : Int32)) ((((((p0).toInt64) &&& (2147483647 : Int64)) % (e0_0 p1))).toInt32) (p1 &&& (2147483647 : Int32)) (((8 : Int32) * (e0_1 p1 p2)) / (8 : Int32)) T7.heap n0 (Nat.le_trans Z0 KK7.1) Fq7_1 Fq7_3 Fq7_2) hZ (hw _ (List.mem_of_getElem? (i := 29) rfl)) (hw _ (List.mem_of_getElem? (i := 4) rfl)) (by decide) (by decide)) q31a q31c (g := (mkF m 90 #[.val (.int p0), .val (.int p1), .val (.int p2), .val (.int p3), .val (.int (p1 &&& (2147483647 : Int32))), .val (.long ((2147483647 : Int64) - (((p1 &&& (2147483647 : Int32))).toInt64))), .second, .val (.int ((((((p0).toInt64) &&& (2147483647 : Int64)) % (e0_0 p1))).toInt32)), .val (.int (e0_1 p1 p2)), .val (.int ((8 : Int32) * (e0_1 p1 p2))), .val (.int (p3 &&& (7 : Int32))), .val (.ref b1), .unset, .unset, .unset, .unset, .unset, .unset, .unset, .unset] [(.int (p3 &&& (7 : Int32))), (.ref b1)])) rfl (by rw [hml]; rfl) (Steps.refl _) (argsL := [(.int (p3 &&& (7 : Int32)))]) (rest := []) (lenOf pd_2 rfl) rfl (by show 2 * 0 + _ ≤ _; exact Nat.le_of_eq rfl) (hb hby at_90) (fun _ _ => ⟨rfl, e27, (by decide : 2 + 0 ≤ _), (by decide : 5 + 0 ≤ _)⟩)
    dsimp only [Pt.U, Pt.locs, Pt.cells, Pt.slots] at X31 l31 y31 z31 st31 hQ31
    subst l31 y31 z31
    obtain ⟨rfl, Nq31, e31⟩ := hQ31
    have N31 := Fr.app N27 Nq31
    refine OGl.go (fun t k => st31.trans k) ?_
    show OGl _ _ _ _ T31 (mkF m 93 #[.val (.int p0), .val (.int p1), .val (.int p2), .val (.int p3), .val (.int (p1 &&& (2147483647 : Int32))), .val (.long ((2147483647 : Int64) - (((p1 &&& (2147483647 : Int32))).toInt64))), .second, .val (.int ((((((p0).toInt64) &&& (2147483647 : Int64)) % (e0_0 p1))).toInt32)), .val (.int (e0_1 p1 p2)), .val (.int ((8 : Int32) * (e0_1 p1 p2))), .val (.int (p3 &&& (7 : Int32))), .val (.ref b1), .unset, .unset, .unset, .unset, .unset, .unset, .unset, .unset] [(.int (e0_2 p0 p1 p2 p3))])
    refine OGl.go (fun t k => XS.i2l X31.here hx rfl (hb hby at_93) rfl (XS.lstore X31.here hx rfl (hb hby at_94) rfl (l' := #[.val (.int p0), .val (.int p1), .val (.int p2), .val (.int p3), .val (.int (p1 &&& (2147483647 : Int32))), .val (.long ((2147483647 : Int64) - (((p1 &&& (2147483647 : Int32))).toInt64))), .second, .val (.int ((((((p0).toInt64) &&& (2147483647 : Int64)) % (e0_0 p1))).toInt32)), .val (.int (e0_1 p1 p2)), .val (.int ((8 : Int32) * (e0_1 p1 p2))), .val (.int (p3 &&& (7 : Int32))), .val (.ref b1), .val (.long (((e0_2 p0 p1 p2 p3)).toInt64)), .second, .unset, .unset, .unset, .unset, .unset, .unset]) rfl (XS.lload X31.here hx rfl (hb hby at_96) rfl (XS.iload X31.here hx rfl (hb hby at_98) rfl (XS.i2l X31.here hx rfl (hb hby at_100) rfl (XS.lsub X31.here hx rfl (hb hby at_101) rfl (XS.lstore X31.here hx rfl (hb hby at_102) rfl (l' := #[.val (.int p0), .val (.int p1), .val (.int p2), .val (.int p3), .val (.int (p1 &&& (2147483647 : Int32))), .val (.long ((2147483647 : Int64) - (((p1 &&& (2147483647 : Int32))).toInt64))), .second, .val (.int ((((((p0).toInt64) &&& (2147483647 : Int64)) % (e0_0 p1))).toInt32)), .val (.int (e0_1 p1 p2)), .val (.int ((8 : Int32) * (e0_1 p1 p2))), .val (.int (p3 &&& (7 : Int32))), .val (.ref b1), .val (.long (((e0_2 p0 p1 p2 p3)).toInt64)), .second, .val (.long (e0_3 p0 p1 p2 p3)), .second, .unset, .unset, .unset, .unset]) rfl (XS.iload X31.here hx rfl (hb hby at_104) rfl k)))))))) ?_
    show OGl _ _ _ _ T31 (mkF m 106 #[.val (.int p0), .val (.int p1), .val (.int p2), .val (.int p3), .val (.int (p1 &&& (2147483647 : Int32))), .val (.long ((2147483647 : Int64) - (((p1 &&& (2147483647 : Int32))).toInt64))), .second, .val (.int ((((((p0).toInt64) &&& (2147483647 : Int64)) % (e0_0 p1))).toInt32)), .val (.int (e0_1 p1 p2)), .val (.int ((8 : Int32) * (e0_1 p1 p2))), .val (.int (p3 &&& (7 : Int32))), .val (.ref b1), .val (.long (((e0_2 p0 p1 p2 p3)).toInt64)), .second, .val (.long (e0_3 p0 p1 p2 p3)), .second, .unset, .unset, .unset, .unset] [(.int (p1 &&& (2147483647 : Int32)))])
    refine OGl.go (fun t k => XS.iload X31.here hx rfl (hb hby at_106) rfl (XS.isub X31.here hx rfl (hb hby at_108) rfl (XS.i2l X31.here hx rfl (hb hby at_109) rfl (XS.iload X31.here hx rfl (hb hby at_110) rfl (XS.i2l X31.here hx rfl (hb hby at_112) rfl (XS.lmul X31.here hx rfl (hb hby at_113) rfl (XS.lstore X31.here hx rfl (hb hby at_114) rfl (l' := #[.val (.int p0), .val (.int p1), .val (.int p2), .val (.int p3), .val (.int (p1 &&& (2147483647 : Int32))), .val (.long ((2147483647 : Int64) - (((p1 &&& (2147483647 : Int32))).toInt64))), .second, .val (.int ((((((p0).toInt64) &&& (2147483647 : Int64)) % (e0_0 p1))).toInt32)), .val (.int (e0_1 p1 p2)), .val (.int ((8 : Int32) * (e0_1 p1 p2))), .val (.int (p3 &&& (7 : Int32))), .val (.ref b1), .val (.long (((e0_2 p0 p1 p2 p3)).toInt64)), .second, .val (.long (e0_3 p0 p1 p2 p3)), .second, .val (.long (e0_4 p1 p2 p3)), .second, .unset, .unset]) rfl (own_ldc2 X31 hx hown (mvT hZ (hw _ (List.mem_of_getElem? (i := 31) rfl))) rfl (hb hby at_116) k)))))))) ?_
    show OGl _ _ _ _ T31 (mkF m 119 #[.val (.int p0), .val (.int p1), .val (.int p2), .val (.int p3), .val (.int (p1 &&& (2147483647 : Int32))), .val (.long ((2147483647 : Int64) - (((p1 &&& (2147483647 : Int32))).toInt64))), .second, .val (.int ((((((p0).toInt64) &&& (2147483647 : Int64)) % (e0_0 p1))).toInt32)), .val (.int (e0_1 p1 p2)), .val (.int ((8 : Int32) * (e0_1 p1 p2))), .val (.int (p3 &&& (7 : Int32))), .val (.ref b1), .val (.long (((e0_2 p0 p1 p2 p3)).toInt64)), .second, .val (.long (e0_3 p0 p1 p2 p3)), .second, .val (.long (e0_4 p1 p2 p3)), .second, .unset, .unset] [(.long (7 : Int64))])
    refine OGl.go (fun t k => XS.lload X31.here hx rfl (hb hby at_119) rfl (XS.lmul X31.here hx rfl (hb hby at_121) rfl (XS.lload X31.here hx rfl (hb hby at_122) rfl (XS.lcmp X31.here hx rfl (hb hby at_124) rfl k)))) ?_
    show OGl _ _ _ _ T31 (mkF m 125 #[.val (.int p0), .val (.int p1), .val (.int p2), .val (.int p3), .val (.int (p1 &&& (2147483647 : Int32))), .val (.long ((2147483647 : Int64) - (((p1 &&& (2147483647 : Int32))).toInt64))), .second, .val (.int ((((((p0).toInt64) &&& (2147483647 : Int64)) % (e0_0 p1))).toInt32)), .val (.int (e0_1 p1 p2)), .val (.int ((8 : Int32) * (e0_1 p1 p2))), .val (.int (p3 &&& (7 : Int32))), .val (.ref b1), .val (.long (((e0_2 p0 p1 p2 p3)).toInt64)), .second, .val (.long (e0_3 p0 p1 p2 p3)), .second, .val (.long (e0_4 p1 p2 p3)), .second, .unset, .unset] [(.int (lcmpW ((7 : Int64) * (e0_3 p0 p1 p2 p3)) (e0_4 p1 p2 p3)))])
    have m35 : ∀ t, Steps p.tables e below (T31.setTop (mkF m 149 #[.val (.int p0), .val (.int p1), .val (.int p2), .val (.int p3), .val (.int (p1 &&& (2147483647 : Int32))), .val (.long ((2147483647 : Int64) - (((p1 &&& (2147483647 : Int32))).toInt64))), .second, .val (.int ((((((p0).toInt64) &&& (2147483647 : Int64)) % (e0_0 p1))).toInt32)), .val (.int (e0_1 p1 p2)), .val (.int ((8 : Int32) * (e0_1 p1 p2))), .val (.int (p3 &&& (7 : Int32))), .val (.ref b1), .val (.long (((e0_2 p0 p1 p2 p3)).toInt64)), .second, .val (.long (e0_3 p0 p1 p2 p3)), .second, .val (.long (e0_4 p1 p2 p3)), .second, .unset, .unset] [(.int (e0_6 p0 p1 p2 p3))])) t → Steps p.tables e below (T31.setTop (mkF m 125 #[.val (.int p0), .val (.int p1), .val (.int p2), .val (.int p3), .val (.int (p1 &&& (2147483647 : Int32))), .val (.long ((2147483647 : Int64) - (((p1 &&& (2147483647 : Int32))).toInt64))), .second, .val (.int ((((((p0).toInt64) &&& (2147483647 : Int64)) % (e0_0 p1))).toInt32)), .val (.int (e0_1 p1 p2)), .val (.int ((8 : Int32) * (e0_1 p1 p2))), .val (.int (p3 &&& (7 : Int32))), .val (.ref b1), .val (.long (((e0_2 p0 p1 p2 p3)).toInt64)), .second, .val (.long (e0_3 p0 p1 p2 p3)), .second, .val (.long (e0_4 p1 p2 p3)), .second, .unset, .unset] [(.int (lcmpW ((7 : Int64) * (e0_3 p0 p1 p2 p3)) (e0_4 p1 p2 p3)))])) t := by
      intro t k
      by_cases hm35 : (e0_4 p1 p2 p3) < ((7 : Int64) * (e0_3 p0 p1 p2 p3))
      · rw [show (e0_6 p0 p1 p2 p3) = (0 : Int32) from if_pos hm35] at k
        refine XS.ifYes X31.here hx rfl (pc0 := 125) (pc' := 148) rfl (hb hby at_125) rfl (own_tltL hm35).2.2.1 (by decide) (by decide) (XS.iconst X31.here hx rfl (hb hby at_148) ?_)
        show Steps _ _ _ (T31.setTop (mkF m 149 #[.val (.int p0), .val (.int p1), .val (.int p2), .val (.int p3), .val (.int (p1 &&& (2147483647 : Int32))), .val (.long ((2147483647 : Int64) - (((p1 &&& (2147483647 : Int32))).toInt64))), .second, .val (.int ((((((p0).toInt64) &&& (2147483647 : Int64)) % (e0_0 p1))).toInt32)), .val (.int (e0_1 p1 p2)), .val (.int ((8 : Int32) * (e0_1 p1 p2))), .val (.int (p3 &&& (7 : Int32))), .val (.ref b1), .val (.long (((e0_2 p0 p1 p2 p3)).toInt64)), .second, .val (.long (e0_3 p0 p1 p2 p3)), .second, .val (.long (e0_4 p1 p2 p3)), .second, .unset, .unset] [(.int (0 : Int32))])) _
        exact k
      · rw [show (e0_6 p0 p1 p2 p3) = (e0_5 p0 p1 p2 p3) from if_neg hm35] at k
        refine XS.ifNo X31.here hx rfl (hb hby at_125) rfl (own_fltL hm35).2.2.1 (XS.lload X31.here hx rfl (hb hby at_128) rfl (own_ldc2 X31 hx hown (mvT hZ (hw _ (List.mem_of_getElem? (i := 31) rfl))) rfl (hb hby at_130) (XS.lload X31.here hx rfl (hb hby at_133) rfl (XS.lmul X31.here hx rfl (hb hby at_135) rfl (own_ldc2 X31 hx hown (mvT hZ (hw _ (List.mem_of_getElem? (i := 31) rfl))) rfl (hb hby at_136) (XS.ladd X31.here hx rfl (hb hby at_139) rfl (XS.lcmp X31.here hx rfl (hb hby at_140) rfl ?_)))))))
        show Steps _ _ _ (T31.setTop (mkF m 141 #[.val (.int p0), .val (.int p1), .val (.int p2), .val (.int p3), .val (.int (p1 &&& (2147483647 : Int32))), .val (.long ((2147483647 : Int64) - (((p1 &&& (2147483647 : Int32))).toInt64))), .second, .val (.int ((((((p0).toInt64) &&& (2147483647 : Int64)) % (e0_0 p1))).toInt32)), .val (.int (e0_1 p1 p2)), .val (.int ((8 : Int32) * (e0_1 p1 p2))), .val (.int (p3 &&& (7 : Int32))), .val (.ref b1), .val (.long (((e0_2 p0 p1 p2 p3)).toInt64)), .second, .val (.long (e0_3 p0 p1 p2 p3)), .second, .val (.long (e0_4 p1 p2 p3)), .second, .unset, .unset] [(.int (lcmpW (e0_4 p1 p2 p3) (((7 : Int64) * (e0_3 p0 p1 p2 p3)) + (7 : Int64))))])) _
        have m36 : ∀ t, Steps p.tables e below (T31.setTop (mkF m 149 #[.val (.int p0), .val (.int p1), .val (.int p2), .val (.int p3), .val (.int (p1 &&& (2147483647 : Int32))), .val (.long ((2147483647 : Int64) - (((p1 &&& (2147483647 : Int32))).toInt64))), .second, .val (.int ((((((p0).toInt64) &&& (2147483647 : Int64)) % (e0_0 p1))).toInt32)), .val (.int (e0_1 p1 p2)), .val (.int ((8 : Int32) * (e0_1 p1 p2))), .val (.int (p3 &&& (7 : Int32))), .val (.ref b1), .val (.long (((e0_2 p0 p1 p2 p3)).toInt64)), .second, .val (.long (e0_3 p0 p1 p2 p3)), .second, .val (.long (e0_4 p1 p2 p3)), .second, .unset, .unset] [(.int (e0_5 p0 p1 p2 p3))])) t → Steps p.tables e below (T31.setTop (mkF m 141 #[.val (.int p0), .val (.int p1), .val (.int p2), .val (.int p3), .val (.int (p1 &&& (2147483647 : Int32))), .val (.long ((2147483647 : Int64) - (((p1 &&& (2147483647 : Int32))).toInt64))), .second, .val (.int ((((((p0).toInt64) &&& (2147483647 : Int64)) % (e0_0 p1))).toInt32)), .val (.int (e0_1 p1 p2)), .val (.int ((8 : Int32) * (e0_1 p1 p2))), .val (.int (p3 &&& (7 : Int32))), .val (.ref b1), .val (.long (((e0_2 p0 p1 p2 p3)).toInt64)), .second, .val (.long (e0_3 p0 p1 p2 p3)), .second, .val (.long (e0_4 p1 p2 p3)), .second, .unset, .unset] [(.int (lcmpW (e0_4 p1 p2 p3) (((7 : Int64) * (e0_3 p0 p1 p2 p3)) + (7 : Int64))))])) t := by
          intro t k
          by_cases hm36 : (e0_4 p1 p2 p3) < (((7 : Int64) * (e0_3 p0 p1 p2 p3)) + (7 : Int64))
          · rw [show (e0_5 p0 p1 p2 p3) = (1 : Int32) from if_pos hm36] at k
            refine XS.ifNo X31.here hx rfl (hb hby at_141) rfl (own_tltL hm36).2.1 (XS.iconst X31.here hx rfl (hb hby at_144) (XS.goto X31.here hx rfl (pc0 := 145) (pc' := 149) rfl (hb hby at_145) (by decide) (by decide) ?_))
            show Steps _ _ _ (T31.setTop (mkF m 149 #[.val (.int p0), .val (.int p1), .val (.int p2), .val (.int p3), .val (.int (p1 &&& (2147483647 : Int32))), .val (.long ((2147483647 : Int64) - (((p1 &&& (2147483647 : Int32))).toInt64))), .second, .val (.int ((((((p0).toInt64) &&& (2147483647 : Int64)) % (e0_0 p1))).toInt32)), .val (.int (e0_1 p1 p2)), .val (.int ((8 : Int32) * (e0_1 p1 p2))), .val (.int (p3 &&& (7 : Int32))), .val (.ref b1), .val (.long (((e0_2 p0 p1 p2 p3)).toInt64)), .second, .val (.long (e0_3 p0 p1 p2 p3)), .second, .val (.long (e0_4 p1 p2 p3)), .second, .unset, .unset] [(.int (1 : Int32))])) _
            exact k
          · rw [show (e0_5 p0 p1 p2 p3) = (0 : Int32) from if_neg hm36] at k
            refine XS.ifYes X31.here hx rfl (pc0 := 141) (pc' := 148) rfl (hb hby at_141) rfl (own_fltL hm36).2.1 (by decide) (by decide) (XS.iconst X31.here hx rfl (hb hby at_148) ?_)
            show Steps _ _ _ (T31.setTop (mkF m 149 #[.val (.int p0), .val (.int p1), .val (.int p2), .val (.int p3), .val (.int (p1 &&& (2147483647 : Int32))), .val (.long ((2147483647 : Int64) - (((p1 &&& (2147483647 : Int32))).toInt64))), .second, .val (.int ((((((p0).toInt64) &&& (2147483647 : Int64)) % (e0_0 p1))).toInt32)), .val (.int (e0_1 p1 p2)), .val (.int ((8 : Int32) * (e0_1 p1 p2))), .val (.int (p3 &&& (7 : Int32))), .val (.ref b1), .val (.long (((e0_2 p0 p1 p2 p3)).toInt64)), .second, .val (.long (e0_3 p0 p1 p2 p3)), .second, .val (.long (e0_4 p1 p2 p3)), .second, .unset, .unset] [(.int (0 : Int32))])) _
            exact k
        refine m36 _ ?_
        show Steps _ _ _ (T31.setTop (mkF m 149 #[.val (.int p0), .val (.int p1), .val (.int p2), .val (.int p3), .val (.int (p1 &&& (2147483647 : Int32))), .val (.long ((2147483647 : Int64) - (((p1 &&& (2147483647 : Int32))).toInt64))), .second, .val (.int ((((((p0).toInt64) &&& (2147483647 : Int64)) % (e0_0 p1))).toInt32)), .val (.int (e0_1 p1 p2)), .val (.int ((8 : Int32) * (e0_1 p1 p2))), .val (.int (p3 &&& (7 : Int32))), .val (.ref b1), .val (.long (((e0_2 p0 p1 p2 p3)).toInt64)), .second, .val (.long (e0_3 p0 p1 p2 p3)), .second, .val (.long (e0_4 p1 p2 p3)), .second, .unset, .unset] [(.int (e0_5 p0 p1 p2 p3))])) _
        exact k
    refine OGl.go (fun t k => m35 _ (XS.istore X31.here hx rfl (hb hby at_149) rfl (l' := #[.val (.int p0), .val (.int p1), .val (.int p2), .val (.int p3), .val (.int (p1 &&& (2147483647 : Int32))), .val (.long ((2147483647 : Int64) - (((p1 &&& (2147483647 : Int32))).toInt64))), .second, .val (.int ((((((p0).toInt64) &&& (2147483647 : Int64)) % (e0_0 p1))).toInt32)), .val (.int (e0_1 p1 p2)), .val (.int ((8 : Int32) * (e0_1 p1 p2))), .val (.int (p3 &&& (7 : Int32))), .val (.ref b1), .val (.long (((e0_2 p0 p1 p2 p3)).toInt64)), .second, .val (.long (e0_3 p0 p1 p2 p3)), .second, .val (.long (e0_4 p1 p2 p3)), .second, .val (.int (e0_6 p0 p1 p2 p3)), .unset]) rfl (XS.iload X31.here hx rfl (hb hby at_151) rfl (XS.iload X31.here hx rfl (hb hby at_153) rfl k)))) ?_
    show OGl _ _ _ _ T31 (mkF m 155 #[.val (.int p0), .val (.int p1), .val (.int p2), .val (.int p3), .val (.int (p1 &&& (2147483647 : Int32))), .val (.long ((2147483647 : Int64) - (((p1 &&& (2147483647 : Int32))).toInt64))), .second, .val (.int ((((((p0).toInt64) &&& (2147483647 : Int64)) % (e0_0 p1))).toInt32)), .val (.int (e0_1 p1 p2)), .val (.int ((8 : Int32) * (e0_1 p1 p2))), .val (.int (p3 &&& (7 : Int32))), .val (.ref b1), .val (.long (((e0_2 p0 p1 p2 p3)).toInt64)), .second, .val (.long (e0_3 p0 p1 p2 p3)), .second, .val (.long (e0_4 p1 p2 p3)), .second, .val (.int (e0_6 p0 p1 p2 p3)), .unset] [(.int ((8 : Int32) * (e0_1 p1 p2))), (.int (p1 &&& (2147483647 : Int32)))])
    have m37 : ∀ t, Steps p.tables e below (T31.setTop (mkF m 180 #[.val (.int p0), .val (.int p1), .val (.int p2), .val (.int p3), .val (.int (p1 &&& (2147483647 : Int32))), .val (.long ((2147483647 : Int64) - (((p1 &&& (2147483647 : Int32))).toInt64))), .second, .val (.int ((((((p0).toInt64) &&& (2147483647 : Int64)) % (e0_0 p1))).toInt32)), .val (.int (e0_1 p1 p2)), .val (.int ((8 : Int32) * (e0_1 p1 p2))), .val (.int (p3 &&& (7 : Int32))), .val (.ref b1), .val (.long (((e0_2 p0 p1 p2 p3)).toInt64)), .second, .val (.long (e0_3 p0 p1 p2 p3)), .second, .val (.long (e0_4 p1 p2 p3)), .second, .val (.int (e0_6 p0 p1 p2 p3)), .unset] [(.int (e0_9 p0 p1 p2 p3))])) t → Steps p.tables e below (T31.setTop (mkF m 155 #[.val (.int p0), .val (.int p1), .val (.int p2), .val (.int p3), .val (.int (p1 &&& (2147483647 : Int32))), .val (.long ((2147483647 : Int64) - (((p1 &&& (2147483647 : Int32))).toInt64))), .second, .val (.int ((((((p0).toInt64) &&& (2147483647 : Int64)) % (e0_0 p1))).toInt32)), .val (.int (e0_1 p1 p2)), .val (.int ((8 : Int32) * (e0_1 p1 p2))), .val (.int (p3 &&& (7 : Int32))), .val (.ref b1), .val (.long (((e0_2 p0 p1 p2 p3)).toInt64)), .second, .val (.long (e0_3 p0 p1 p2 p3)), .second, .val (.long (e0_4 p1 p2 p3)), .second, .val (.int (e0_6 p0 p1 p2 p3)), .unset] [(.int ((8 : Int32) * (e0_1 p1 p2))), (.int (p1 &&& (2147483647 : Int32)))])) t := by
      intro t k
      by_cases hm37 : (p1 &&& (2147483647 : Int32)) = ((8 : Int32) * (e0_1 p1 p2))
      · rw [show (e0_9 p0 p1 p2 p3) = (e0_8 p0 p1 p2 p3) from if_pos hm37] at k
        refine XS.icmpNo X31.here hx rfl (hb hby at_155) rfl (teq hm37).2 (XS.lload X31.here hx rfl (hb hby at_158) rfl (XS.iload X31.here hx rfl (hb hby at_160) rfl (XS.i2l X31.here hx rfl (hb hby at_162) rfl (XS.iload X31.here hx rfl (hb hby at_163) rfl (XS.i2l X31.here hx rfl (hb hby at_165) rfl (XS.iload X31.here hx rfl (hb hby at_166) rfl (XS.i2l X31.here hx rfl (hb hby at_168) rfl ?_)))))))
        show Steps _ _ _ (T31.setTop (mkF m 169 #[.val (.int p0), .val (.int p1), .val (.int p2), .val (.int p3), .val (.int (p1 &&& (2147483647 : Int32))), .val (.long ((2147483647 : Int64) - (((p1 &&& (2147483647 : Int32))).toInt64))), .second, .val (.int ((((((p0).toInt64) &&& (2147483647 : Int64)) % (e0_0 p1))).toInt32)), .val (.int (e0_1 p1 p2)), .val (.int ((8 : Int32) * (e0_1 p1 p2))), .val (.int (p3 &&& (7 : Int32))), .val (.ref b1), .val (.long (((e0_2 p0 p1 p2 p3)).toInt64)), .second, .val (.long (e0_3 p0 p1 p2 p3)), .second, .val (.long (e0_4 p1 p2 p3)), .second, .val (.int (e0_6 p0 p1 p2 p3)), .unset] [(.long (((e0_1 p1 p2)).toInt64)), (.long (((p3 &&& (7 : Int32))).toInt64)), (.long ((((((((p0).toInt64) &&& (2147483647 : Int64)) % (e0_0 p1))).toInt32)).toInt64)), (.long (((e0_2 p0 p1 p2 p3)).toInt64))])) _
        refine XS.lmul X31.here hx rfl (hb hby at_169) rfl (XS.ladd X31.here hx rfl (hb hby at_170) rfl (XS.lcmp X31.here hx rfl (hb hby at_171) rfl ?_))
        show Steps _ _ _ (T31.setTop (mkF m 172 #[.val (.int p0), .val (.int p1), .val (.int p2), .val (.int p3), .val (.int (p1 &&& (2147483647 : Int32))), .val (.long ((2147483647 : Int64) - (((p1 &&& (2147483647 : Int32))).toInt64))), .second, .val (.int ((((((p0).toInt64) &&& (2147483647 : Int64)) % (e0_0 p1))).toInt32)), .val (.int (e0_1 p1 p2)), .val (.int ((8 : Int32) * (e0_1 p1 p2))), .val (.int (p3 &&& (7 : Int32))), .val (.ref b1), .val (.long (((e0_2 p0 p1 p2 p3)).toInt64)), .second, .val (.long (e0_3 p0 p1 p2 p3)), .second, .val (.long (e0_4 p1 p2 p3)), .second, .val (.int (e0_6 p0 p1 p2 p3)), .unset] [(.int (lcmpW (((e0_2 p0 p1 p2 p3)).toInt64) (e0_7 p0 p1 p2 p3)))])) _
        have m38 : ∀ t, Steps p.tables e below (T31.setTop (mkF m 180 #[.val (.int p0), .val (.int p1), .val (.int p2), .val (.int p3), .val (.int (p1 &&& (2147483647 : Int32))), .val (.long ((2147483647 : Int64) - (((p1 &&& (2147483647 : Int32))).toInt64))), .second, .val (.int ((((((p0).toInt64) &&& (2147483647 : Int64)) % (e0_0 p1))).toInt32)), .val (.int (e0_1 p1 p2)), .val (.int ((8 : Int32) * (e0_1 p1 p2))), .val (.int (p3 &&& (7 : Int32))), .val (.ref b1), .val (.long (((e0_2 p0 p1 p2 p3)).toInt64)), .second, .val (.long (e0_3 p0 p1 p2 p3)), .second, .val (.long (e0_4 p1 p2 p3)), .second, .val (.int (e0_6 p0 p1 p2 p3)), .unset] [(.int (e0_8 p0 p1 p2 p3))])) t → Steps p.tables e below (T31.setTop (mkF m 172 #[.val (.int p0), .val (.int p1), .val (.int p2), .val (.int p3), .val (.int (p1 &&& (2147483647 : Int32))), .val (.long ((2147483647 : Int64) - (((p1 &&& (2147483647 : Int32))).toInt64))), .second, .val (.int ((((((p0).toInt64) &&& (2147483647 : Int64)) % (e0_0 p1))).toInt32)), .val (.int (e0_1 p1 p2)), .val (.int ((8 : Int32) * (e0_1 p1 p2))), .val (.int (p3 &&& (7 : Int32))), .val (.ref b1), .val (.long (((e0_2 p0 p1 p2 p3)).toInt64)), .second, .val (.long (e0_3 p0 p1 p2 p3)), .second, .val (.long (e0_4 p1 p2 p3)), .second, .val (.int (e0_6 p0 p1 p2 p3)), .unset] [(.int (lcmpW (((e0_2 p0 p1 p2 p3)).toInt64) (e0_7 p0 p1 p2 p3)))])) t := by
          intro t k
          by_cases hm38 : (((e0_2 p0 p1 p2 p3)).toInt64) = (e0_7 p0 p1 p2 p3)
          · rw [show (e0_8 p0 p1 p2 p3) = (1 : Int32) from if_pos hm38] at k
            refine XS.ifNo X31.here hx rfl (hb hby at_172) rfl (own_teqL hm38).2 (XS.iconst X31.here hx rfl (hb hby at_175) (XS.goto X31.here hx rfl (pc0 := 176) (pc' := 180) rfl (hb hby at_176) (by decide) (by decide) ?_))
            show Steps _ _ _ (T31.setTop (mkF m 180 #[.val (.int p0), .val (.int p1), .val (.int p2), .val (.int p3), .val (.int (p1 &&& (2147483647 : Int32))), .val (.long ((2147483647 : Int64) - (((p1 &&& (2147483647 : Int32))).toInt64))), .second, .val (.int ((((((p0).toInt64) &&& (2147483647 : Int64)) % (e0_0 p1))).toInt32)), .val (.int (e0_1 p1 p2)), .val (.int ((8 : Int32) * (e0_1 p1 p2))), .val (.int (p3 &&& (7 : Int32))), .val (.ref b1), .val (.long (((e0_2 p0 p1 p2 p3)).toInt64)), .second, .val (.long (e0_3 p0 p1 p2 p3)), .second, .val (.long (e0_4 p1 p2 p3)), .second, .val (.int (e0_6 p0 p1 p2 p3)), .unset] [(.int (1 : Int32))])) _
            exact k
          · rw [show (e0_8 p0 p1 p2 p3) = (0 : Int32) from if_neg hm38] at k
            refine XS.ifYes X31.here hx rfl (pc0 := 172) (pc' := 179) rfl (hb hby at_172) rfl (own_feqL hm38).2 (by decide) (by decide) (XS.iconst X31.here hx rfl (hb hby at_179) ?_)
            show Steps _ _ _ (T31.setTop (mkF m 180 #[.val (.int p0), .val (.int p1), .val (.int p2), .val (.int p3), .val (.int (p1 &&& (2147483647 : Int32))), .val (.long ((2147483647 : Int64) - (((p1 &&& (2147483647 : Int32))).toInt64))), .second, .val (.int ((((((p0).toInt64) &&& (2147483647 : Int64)) % (e0_0 p1))).toInt32)), .val (.int (e0_1 p1 p2)), .val (.int ((8 : Int32) * (e0_1 p1 p2))), .val (.int (p3 &&& (7 : Int32))), .val (.ref b1), .val (.long (((e0_2 p0 p1 p2 p3)).toInt64)), .second, .val (.long (e0_3 p0 p1 p2 p3)), .second, .val (.long (e0_4 p1 p2 p3)), .second, .val (.int (e0_6 p0 p1 p2 p3)), .unset] [(.int (0 : Int32))])) _
            exact k
        refine m38 _ ?_
        show Steps _ _ _ (T31.setTop (mkF m 180 #[.val (.int p0), .val (.int p1), .val (.int p2), .val (.int p3), .val (.int (p1 &&& (2147483647 : Int32))), .val (.long ((2147483647 : Int64) - (((p1 &&& (2147483647 : Int32))).toInt64))), .second, .val (.int ((((((p0).toInt64) &&& (2147483647 : Int64)) % (e0_0 p1))).toInt32)), .val (.int (e0_1 p1 p2)), .val (.int ((8 : Int32) * (e0_1 p1 p2))), .val (.int (p3 &&& (7 : Int32))), .val (.ref b1), .val (.long (((e0_2 p0 p1 p2 p3)).toInt64)), .second, .val (.long (e0_3 p0 p1 p2 p3)), .second, .val (.long (e0_4 p1 p2 p3)), .second, .val (.int (e0_6 p0 p1 p2 p3)), .unset] [(.int (e0_8 p0 p1 p2 p3))])) _
        exact k
      · rw [show (e0_9 p0 p1 p2 p3) = (1 : Int32) from if_neg hm37] at k
        refine XS.icmpYes X31.here hx rfl (pc0 := 155) (pc' := 175) rfl (hb hby at_155) rfl (feq hm37).2 (by decide) (by decide) (XS.iconst X31.here hx rfl (hb hby at_175) (XS.goto X31.here hx rfl (pc0 := 176) (pc' := 180) rfl (hb hby at_176) (by decide) (by decide) ?_))
        show Steps _ _ _ (T31.setTop (mkF m 180 #[.val (.int p0), .val (.int p1), .val (.int p2), .val (.int p3), .val (.int (p1 &&& (2147483647 : Int32))), .val (.long ((2147483647 : Int64) - (((p1 &&& (2147483647 : Int32))).toInt64))), .second, .val (.int ((((((p0).toInt64) &&& (2147483647 : Int64)) % (e0_0 p1))).toInt32)), .val (.int (e0_1 p1 p2)), .val (.int ((8 : Int32) * (e0_1 p1 p2))), .val (.int (p3 &&& (7 : Int32))), .val (.ref b1), .val (.long (((e0_2 p0 p1 p2 p3)).toInt64)), .second, .val (.long (e0_3 p0 p1 p2 p3)), .second, .val (.long (e0_4 p1 p2 p3)), .second, .val (.int (e0_6 p0 p1 p2 p3)), .unset] [(.int (1 : Int32))])) _
        exact k
    refine OGl.go (fun t k => m37 _ (XS.istore X31.here hx rfl (hb hby at_180) rfl (l' := #[.val (.int p0), .val (.int p1), .val (.int p2), .val (.int p3), .val (.int (p1 &&& (2147483647 : Int32))), .val (.long ((2147483647 : Int64) - (((p1 &&& (2147483647 : Int32))).toInt64))), .second, .val (.int ((((((p0).toInt64) &&& (2147483647 : Int64)) % (e0_0 p1))).toInt32)), .val (.int (e0_1 p1 p2)), .val (.int ((8 : Int32) * (e0_1 p1 p2))), .val (.int (p3 &&& (7 : Int32))), .val (.ref b1), .val (.long (((e0_2 p0 p1 p2 p3)).toInt64)), .second, .val (.long (e0_3 p0 p1 p2 p3)), .second, .val (.long (e0_4 p1 p2 p3)), .second, .val (.int (e0_6 p0 p1 p2 p3)), .val (.int (e0_9 p0 p1 p2 p3))]) rfl (XS.iload X31.here hx rfl (hb hby at_182) rfl k))) ?_
    show OGl _ _ _ _ T31 (mkF m 184 #[.val (.int p0), .val (.int p1), .val (.int p2), .val (.int p3), .val (.int (p1 &&& (2147483647 : Int32))), .val (.long ((2147483647 : Int64) - (((p1 &&& (2147483647 : Int32))).toInt64))), .second, .val (.int ((((((p0).toInt64) &&& (2147483647 : Int64)) % (e0_0 p1))).toInt32)), .val (.int (e0_1 p1 p2)), .val (.int ((8 : Int32) * (e0_1 p1 p2))), .val (.int (p3 &&& (7 : Int32))), .val (.ref b1), .val (.long (((e0_2 p0 p1 p2 p3)).toInt64)), .second, .val (.long (e0_3 p0 p1 p2 p3)), .second, .val (.long (e0_4 p1 p2 p3)), .second, .val (.int (e0_6 p0 p1 p2 p3)), .val (.int (e0_9 p0 p1 p2 p3))] [(.int (e0_6 p0 p1 p2 p3))])
    by_cases hc39 : (e0_6 p0 p1 p2 p3) = (0 : Int32)
    · refine OGl.go (fun t k => XS.ifYes X31.here hx rfl (pc0 := 184) (pc' := 196) rfl (hb hby at_184) rfl ((if0 _ _).trans (teq hc39).1) (by decide) (by decide) (XS.iconst X31.here hx rfl (hb hby at_196) k)) ?_
      show OGl _ _ _ _ T31 (mkF m 197 #[.val (.int p0), .val (.int p1), .val (.int p2), .val (.int p3), .val (.int (p1 &&& (2147483647 : Int32))), .val (.long ((2147483647 : Int64) - (((p1 &&& (2147483647 : Int32))).toInt64))), .second, .val (.int ((((((p0).toInt64) &&& (2147483647 : Int64)) % (e0_0 p1))).toInt32)), .val (.int (e0_1 p1 p2)), .val (.int ((8 : Int32) * (e0_1 p1 p2))), .val (.int (p3 &&& (7 : Int32))), .val (.ref b1), .val (.long (((e0_2 p0 p1 p2 p3)).toInt64)), .second, .val (.long (e0_3 p0 p1 p2 p3)), .second, .val (.long (e0_4 p1 p2 p3)), .second, .val (.int (e0_6 p0 p1 p2 p3)), .val (.int (e0_9 p0 p1 p2 p3))] [(.int (0 : Int32))])
      obtain ⟨fs, hr, hrun, hended, hW, hsame⟩ := X31.leave (v := some (.int (0 : Int32))) (fun h => by rw [Bd.returns] at h; cases h)
      refine ⟨_, _, retN X31 hx (t := .boolean) Bd.returns (by simp) (hb hby at_197) hr, hrun, hended, _, _, rfl, ?_, ⟨_, rfl⟩, hW, hsame.mono (by decide) (by decide)⟩
      have hv41 : (t0_0 p0 p1 p2 p3) = (0 : Int32) := by unfold t0_0; rw [if_pos hc30, if_pos hc39]
      show Q0 Z p0 p1 p2 p3 h0 n0 _ T31.heap _
      rw [e31]
      exact ⟨(by rw [hv41]), N31⟩
    · refine OGl.go (fun t k => XS.ifNo X31.here hx rfl (hb hby at_184) rfl ((if0 _ _).trans (feq hc39).1) (XS.iload X31.here hx rfl (hb hby at_187) rfl k)) ?_
      show OGl _ _ _ _ T31 (mkF m 189 #[.val (.int p0), .val (.int p1), .val (.int p2), .val (.int p3), .val (.int (p1 &&& (2147483647 : Int32))), .val (.long ((2147483647 : Int64) - (((p1 &&& (2147483647 : Int32))).toInt64))), .second, .val (.int ((((((p0).toInt64) &&& (2147483647 : Int64)) % (e0_0 p1))).toInt32)), .val (.int (e0_1 p1 p2)), .val (.int ((8 : Int32) * (e0_1 p1 p2))), .val (.int (p3 &&& (7 : Int32))), .val (.ref b1), .val (.long (((e0_2 p0 p1 p2 p3)).toInt64)), .second, .val (.long (e0_3 p0 p1 p2 p3)), .second, .val (.long (e0_4 p1 p2 p3)), .second, .val (.int (e0_6 p0 p1 p2 p3)), .val (.int (e0_9 p0 p1 p2 p3))] [(.int (e0_9 p0 p1 p2 p3))])
      by_cases hc40 : (e0_9 p0 p1 p2 p3) = (0 : Int32)
      · refine OGl.go (fun t k => XS.ifYes X31.here hx rfl (pc0 := 189) (pc' := 196) rfl (hb hby at_189) rfl ((if0 _ _).trans (teq hc40).1) (by decide) (by decide) (XS.iconst X31.here hx rfl (hb hby at_196) k)) ?_
        show OGl _ _ _ _ T31 (mkF m 197 #[.val (.int p0), .val (.int p1), .val (.int p2), .val (.int p3), .val (.int (p1 &&& (2147483647 : Int32))), .val (.long ((2147483647 : Int64) - (((p1 &&& (2147483647 : Int32))).toInt64))), .second, .val (.int ((((((p0).toInt64) &&& (2147483647 : Int64)) % (e0_0 p1))).toInt32)), .val (.int (e0_1 p1 p2)), .val (.int ((8 : Int32) * (e0_1 p1 p2))), .val (.int (p3 &&& (7 : Int32))), .val (.ref b1), .val (.long (((e0_2 p0 p1 p2 p3)).toInt64)), .second, .val (.long (e0_3 p0 p1 p2 p3)), .second, .val (.long (e0_4 p1 p2 p3)), .second, .val (.int (e0_6 p0 p1 p2 p3)), .val (.int (e0_9 p0 p1 p2 p3))] [(.int (0 : Int32))])
        obtain ⟨fs, hr, hrun, hended, hW, hsame⟩ := X31.leave (v := some (.int (0 : Int32))) (fun h => by rw [Bd.returns] at h; cases h)
        refine ⟨_, _, retN X31 hx (t := .boolean) Bd.returns (by simp) (hb hby at_197) hr, hrun, hended, _, _, rfl, ?_, ⟨_, rfl⟩, hW, hsame.mono (by decide) (by decide)⟩
        have hv42 : (t0_0 p0 p1 p2 p3) = (0 : Int32) := by unfold t0_0; rw [if_pos hc30, if_neg hc39, if_pos hc40]
        show Q0 Z p0 p1 p2 p3 h0 n0 _ T31.heap _
        rw [e31]
        exact ⟨(by rw [hv42]), N31⟩
      · refine OGl.go (fun t k => XS.ifNo X31.here hx rfl (hb hby at_189) rfl ((if0 _ _).trans (feq hc40).1) (XS.iconst X31.here hx rfl (hb hby at_192) (XS.goto X31.here hx rfl (pc0 := 193) (pc' := 197) rfl (hb hby at_193) (by decide) (by decide) k))) ?_
        show OGl _ _ _ _ T31 (mkF m 197 #[.val (.int p0), .val (.int p1), .val (.int p2), .val (.int p3), .val (.int (p1 &&& (2147483647 : Int32))), .val (.long ((2147483647 : Int64) - (((p1 &&& (2147483647 : Int32))).toInt64))), .second, .val (.int ((((((p0).toInt64) &&& (2147483647 : Int64)) % (e0_0 p1))).toInt32)), .val (.int (e0_1 p1 p2)), .val (.int ((8 : Int32) * (e0_1 p1 p2))), .val (.int (p3 &&& (7 : Int32))), .val (.ref b1), .val (.long (((e0_2 p0 p1 p2 p3)).toInt64)), .second, .val (.long (e0_3 p0 p1 p2 p3)), .second, .val (.long (e0_4 p1 p2 p3)), .second, .val (.int (e0_6 p0 p1 p2 p3)), .val (.int (e0_9 p0 p1 p2 p3))] [(.int (1 : Int32))])
        obtain ⟨fs, hr, hrun, hended, hW, hsame⟩ := X31.leave (v := some (.int (1 : Int32))) (fun h => by rw [Bd.returns] at h; cases h)
        refine ⟨_, _, retN X31 hx (t := .boolean) Bd.returns (by simp) (hb hby at_197) hr, hrun, hended, _, _, rfl, ?_, ⟨_, rfl⟩, hW, hsame.mono (by decide) (by decide)⟩
        have hv43 : (t0_0 p0 p1 p2 p3) = (1 : Int32) := by unfold t0_0; rw [if_pos hc30, if_neg hc39, if_neg hc40]
        show Q0 Z p0 p1 p2 p3 h0 n0 _ T31.heap _
        rw [e31]
        exact ⟨(by rw [hv43]), N31⟩
  · refine OGl.go (fun t k => XS.icmpNo X27.here hx rfl (hb hby at_81) rfl (feq hc30).1 (XS.iconst X27.here hx rfl (hb hby at_84) k)) ?_
    show OGl _ _ _ _ T27 (mkF m 85 #[.val (.int p0), .val (.int p1), .val (.int p2), .val (.int p3), .val (.int (p1 &&& (2147483647 : Int32))), .val (.long ((2147483647 : Int64) - (((p1 &&& (2147483647 : Int32))).toInt64))), .second, .val (.int ((((((p0).toInt64) &&& (2147483647 : Int64)) % (e0_0 p1))).toInt32)), .val (.int (e0_1 p1 p2)), .val (.int ((8 : Int32) * (e0_1 p1 p2))), .val (.int (p3 &&& (7 : Int32))), .val (.ref b1), .unset, .unset, .unset, .unset, .unset, .unset, .unset, .unset] [(.int (0 : Int32))])
    obtain ⟨fs, hr, hrun, hended, hW, hsame⟩ := X27.leave (v := some (.int (0 : Int32))) (fun h => by rw [Bd.returns] at h; cases h)
    refine ⟨_, _, retN X27 hx (t := .boolean) Bd.returns (by simp) (hb hby at_85) hr, hrun, hended, _, _, rfl, ?_, ⟨_, rfl⟩, hW, hsame.mono (by decide) (by decide)⟩
    have hv44 : (t0_0 p0 p1 p2 p3) = (0 : Int32) := by unfold t0_0; rw [if_neg hc30]
    show Q0 Z p0 p1 p2 p3 h0 n0 _ T27.heap _
    rw [e27]
    exact ⟨(by rw [hv44]), N27⟩
theorem own_k (p1 p2 : Int32) : 0 ≤ (e0_1 p1 p2).toInt ∧ (e0_1 p1 p2).toInt ≤ (p1 &&& 2147483647).toInt / 8 := by
  have h := own_eig p1
  have h1 := own_sp p1
  have h2 := own_sp p2
  unfold e0_1
  have a := (c_iremV (p2 &&& 2147483647) ((p1 &&& (2147483647 : Int32)) / (8 : Int32) + (1 : Int32))).1 h2.1 (by omega)
  omega
theorem own_from (p0 p1 : Int32) : 0 ≤ ((((p0.toInt64) &&& (2147483647 : Int64)) % (e0_0 p1)).toInt32).toInt ∧ ((((p0.toInt64) &&& (2147483647 : Int64)) % (e0_0 p1)).toInt32).toInt ≤ 2147483647 - (p1 &&& 2147483647).toInt := by
  have h := own_room p1
  have h1 := own_sp p1
  have a := c_maskL (p0.toInt64) 2147483647 31 (by decide) (by decide)
  have b : ((p0.toInt64 &&& 2147483647) % (e0_0 p1)).toInt = (p0.toInt64 &&& 2147483647).toInt % (e0_0 p1).toInt := by
    rw [Int64.toInt_mod, Int.tmod_eq_emod_of_nonneg (by omega)]
  have c := c_l2i ((p0.toInt64 &&& 2147483647) % (e0_0 p1))
  have r := rng32 (((p0.toInt64 &&& 2147483647) % (e0_0 p1)).toInt32)
  rw [h] at b
  have m1 := Int.emod_nonneg (p0.toInt64 &&& 2147483647).toInt (show (2147483648 - (p1 &&& 2147483647).toInt : Int) ≠ 0 by omega)
  have m2 := Int.emod_lt_of_pos (p0.toInt64 &&& 2147483647).toInt (show (0 : Int) < 2147483648 - (p1 &&& 2147483647).toInt by omega)
  omega
theorem own_x8 (a : Int32) : ∃ n : Int, (a &&& 7).toInt = n ∧ (n = 0 ∨ n = 1 ∨ n = 2 ∨ n = 3 ∨ n = 4 ∨ n = 5 ∨ n = 6 ∨ n = 7) := by
  have h := c_mask a 7 3 (by decide) (by decide)
  exact ⟨_, rfl, by omega⟩
set_option maxHeartbeats 20000000 in
theorem own_law (a b c d : Int32) : t0_0 a b c d = 1 := by
  have hk := own_k b c
  have hf := own_from a b
  have hs := own_sp b
  obtain ⟨n, hx, hn⟩ := own_x8 d
  have k8 : (8 : Int32).toInt = 8 := by decide
  have k7 : (7 : Int64).toInt = 7 := by decide
  unfold t0_0 e0_6 e0_5 e0_9 e0_8 e0_7 e0_3 e0_4 e0_2 e4_0
  generalize e0_1 b c = K at *
  generalize ((((a.toInt64) &&& (2147483647 : Int64)) % (e0_0 b)).toInt32) = F at *
  generalize (b &&& 2147483647) = B at *
  generalize (d &&& 7) = X at *
  have m1 := c_imul 8 K
  rw [k8] at m1
  have rm1 := rng32 (8 * K)
  have d1 := (c_idiv (8 * K) 8 8 (by decide) (by decide)).1 (by omega)
  have hKK : ((8 : Int32) * K) / 8 = K := Int32.toInt_inj.mp (by omega)
  rw [hKK, if_pos rfl]
  have s1 := c_isub B K
  have rs1 := rng32 (B - K)
  have l1 := c_i2l (B - K)
  have l2 := c_i2l X
  have l3 := c_i2l F
  have l4 := c_i2l K
  have p1 := c_lmul (B - K).toInt64 X.toInt64
  have rp1 := rng64 ((B - K).toInt64 * X.toInt64)
  have p2 := c_lmul X.toInt64 K.toInt64
  have rp2 := rng64 (X.toInt64 * K.toInt64)
  rw [l1, l2, hx] at p1
  rw [l2, l4, hx] at p2
  have e1 : (B - K).toInt = B.toInt - K.toInt := by omega
  rw [e1] at p1
  have hP : ((B - K).toInt64 * X.toInt64).toInt = (B.toInt - K.toInt) * n := by
    rcases hn with rfl | rfl | rfl | rfl | rfl | rfl | rfl | rfl <;> omega
  have hP2 : (X.toInt64 * K.toInt64).toInt = n * K.toInt := by
    rcases hn with rfl | rfl | rfl | rfl | rfl | rfl | rfl | rfl <;> omega
  generalize (B - K).toInt64 * X.toInt64 = PP at *
  generalize X.toInt64 * K.toInt64 = P2 at *
  have hP0 : 0 ≤ PP.toInt ∧ PP.toInt ≤ 7 * (B.toInt - K.toInt) := by
    rcases hn with rfl | rfl | rfl | rfl | rfl | rfl | rfl | rfl <;> omega
  have q1 := (c_ldiv PP 7 7 (by decide) (by decide)).1 hP0.1
  have t1 := c_l2i (PP / 7)
  have rt1 := rng32 ((PP / 7).toInt32)
  have u1 := c_iadd F ((PP / 7).toInt32)
  have ru1 := rng32 (F + (PP / 7).toInt32)
  have l5 := c_i2l (F + (PP / 7).toInt32)
  have hS : (F + (PP / 7).toInt32).toInt = F.toInt + PP.toInt / 7 := by omega
  generalize F + (PP / 7).toInt32 = S at *
  have w1 := c_lsub S.toInt64 F.toInt64
  have rw1 := rng64 (S.toInt64 - F.toInt64)
  generalize S.toInt64 - F.toInt64 = O at *
  have hO : O.toInt = PP.toInt / 7 := by omega
  have w2 := c_lmul 7 O
  rw [k7] at w2
  have rw2 := rng64 (7 * O)
  generalize 7 * O = O7 at *
  have w3 := c_ladd O7 7
  have rw3 := rng64 (O7 + 7)
  generalize O7 + 7 = O8 at *
  have h1 : ¬ PP < O7 := by rw [Int64.lt_iff_toInt_lt]; omega
  have h2 : PP < O8 := by rw [Int64.lt_iff_toInt_lt]; omega
  rw [if_neg h1, if_pos h2, if_neg (by decide)]
  by_cases hB : B = 8 * K
  · have e2 := congrArg Int32.toInt hB
    rw [if_pos hB]
    have w4 := c_ladd F.toInt64 P2
    have rw4 := rng64 (F.toInt64 + P2)
    have h8 : (8 * K).toInt = 8 * K.toInt := by omega
    have hB8 : B.toInt = 8 * K.toInt := by omega
    have hP3 : 0 ≤ P2.toInt ∧ P2.toInt ≤ 7 * K.toInt := by
      rcases hn with rfl | rfl | rfl | rfl | rfl | rfl | rfl | rfl <;> omega
    have hw4 : (F.toInt64 + P2).toInt = F.toInt + P2.toInt := by omega
    have hP7 : PP.toInt = 7 * P2.toInt := by
      rw [hP, hP2, hB8]
      rcases hn with rfl | rfl | rfl | rfl | rfl | rfl | rfl | rfl <;> omega
    have h3 : S.toInt64 = F.toInt64 + P2 := Int64.toInt_inj.mp (by rw [l5, hw4, hS, hP7]; omega)
    rw [if_pos h3, if_neg (by decide)]
  · rw [if_neg hB, if_neg (by decide)]
set_option maxRecDepth 65536 in
set_option maxHeartbeats 40000000 in
theorem comes_1 {Post : Tables → Env → Array Value → State → Outcome → State → Prop} (hpost : ∀ tb e args s v u, (limb_1_1.after args s (.returned v) u = true ∧ limb_1_2.after args s (.returned v) u = true ∧ True) → FrameEnd s (.returned v) u (Jvm.fieldLocs frame_1_writes args s ++ Jvm.arrayLocs frame_1_arrays args s ++ Jvm.staticLocs frame_1_statics s) 16 128 → Post tb e args s (.returned v) u) :
    ArmFor flags0 classFile x code maxLocals ret World_1 tables_1 room_1 Calls_1 rest_1 Pre_1 Post := by
  intro l hfl _ _ p e ha hc hk s m args below hf hA hF happ hP
  obtain ⟨hcalls, hrest, hpre⟩ := hP
  obtain ⟨-, -, -, hnamed, -, -, -, hat⟩ := (Spec.applies_iff hf).mp happ
  obtain ⟨hg, hn⟩ := and_e (Cond.before_iff.mp (show (Jvm.Cond.and given_1 narrow_1).before args s = true from hpre))
  obtain ⟨hz, hy0⟩ := and_e hg
  obtain ⟨ha0, hy1⟩ := and_e hy0
  obtain ⟨ha1, hy2⟩ := and_e hy1
  obtain ⟨ha2, hy3⟩ := and_e hy2
  obtain ⟨w0, w1, w2, w3, rfl⟩ : ∃ w0 w1 w2 w3 : Value, args = #[w0, w1, w2, w3] := by
    have hs : args.size = 4 := by simpa [Cond.value, given_1] using hz
    obtain ⟨L⟩ := args
    match L, hs with
    | [w0, w1, w2, w3], _ => exact ⟨w0, w1, w2, w3, rfl⟩
  have hw := fun d (hd : d ∈ tables_1) => atoms_spec (ws := Jvm.Cond.code x code maxLocals ret :: tables_1) hat d (List.mem_cons_of_mem _ hd)
  obtain ⟨i0, ev0⟩ := is_v ha0
  obtain rfl : w0 = (.int i0) := Option.some.inj ev0
  obtain ⟨i1, ev1⟩ := is_v ha1
  obtain rfl : w1 = (.int i1) := Option.some.inj ev1
  obtain ⟨i2, ev2⟩ := is_v ha2
  obtain rfl : w2 = (.int i2) := Option.some.inj ev2
  obtain ⟨i3, ev3⟩ := is_v hy3
  obtain rfl : w3 = (.int i3) := Option.some.inj ev3
  obtain ⟨n, o, h1, h2, h3, _, L, rfl, ⟨hv, N⟩, hq⟩ := rm0 l s _ hw tables_1 i0 i1 i2 i3  s.heap s.heap.size (Nat.le_refl _)  p e ha hc hk s m _ below hf ((Spec.applies_iff_loose hf).mp happ).1 ⟨rfl, State.Warmed39.refl s, rfl⟩ trivial
  rw [own_law] at hv
  subst hv
  refine ⟨n, _, h1, h2, h3, hpost _ _ _ _ _ _ ⟨Cond.after_iff.mpr rfl, Cond.after_iff.mpr (eq_i res_at (Term.int_eval (1)) rfl), trivial⟩ ⟨hq.1, hq.2.1, (hq.2.2.sift fun y hy => Or.inr (N y hy)).mono (by decide) (by decide)⟩⟩
theorem main_1_1 : Claimed_1_1 := comes_1 fun _ _ _ _ _ _ h hF => ⟨h.1, hF⟩
theorem main_1_2 : Claimed_1_2 := comes_1 fun _ _ _ _ _ _ h hF => ⟨h.2.1, hF⟩
end Jvm.Pilot.@@N@@
namespace Jvm.Pilot.@@N@@
open Jvm Jvm.ClassFile Sem Op Lib Jvm.Free Jvm.Stand Jvm.Pilot.@@N@@.Jvm.D
/-! MADE BY PROGRAM (witnessworld.py) out of the Statement's table words and the real class files: 9 classes; the members and pool entries that the words name. The judged class is class 1, her method 1. -/
namespace start1
open Jvm.ClassFile
def u (s : String) : CpInfo := .utf8 (stringToUtf16 s)
/-- a pool by its gaps: so many unusable entries, then the entry; so many at the end -/
def gap : Nat → List CpInfo → List CpInfo
  | 0, r => r
  | n + 1, r => .unusable :: gap n r
def poolList (es : List (Nat × CpInfo)) (last : Nat) : List CpInfo := es.foldr (fun e r => gap e.1 (e.2 :: r)) (gap last [])
def pool (es : List (Nat × CpInfo)) (last : Nat) : Array CpInfo := ⟨poolList es last⟩
def fileOf (pool : Array CpInfo) (this : Nat) (attrs : Array Attribute := #[]) (ms : Array MethodInfo := #[]) (fl : Nat := 33) (sup : Nat := 0) (ifs : Array Nat := #[]) (fds : Array FieldInfo := #[]) : ClassFile where
  minorVersion := 0
  majorVersion := 65
  constantPool := pool
  accessFlags := fl
  thisClass := this
  superClass := sup
  interfaces := ifs
  fields := fds
  methods := ms
  attributes := attrs
def plain (name : String) (sup : Option ClassId) : Class where
  name := name
  kind := .ordinary
  loader := none
  accessFlags := 33
  super := sup
  interfaces := #[]
  cf := none
  fields := #[]
  methods := #[]
  instanceTypes := #[]
  staticTypes := #[]
  resolved := #[]
  callSites := []
  init := .initialized
  statics := none
  mirror := none

def pool0 : Array CpInfo := pool [(5, u "<init>"), (0, u "()V"), (1, .class_ 10), (1, u "java/lang/Object")] 113

def k0c0 : Code := { maxStack := 0, maxLocals := 1, code := object_method_1_code, exceptionTable := #[], attributes := #[] }
def k0m0 : Method := { name := "<init>", desc := "()V", sig := { parameters := [], returnType := none }, accessFlags := 1, code := some k0c0 }
/-- java/lang/Object -/
def k0 : Class := { plain "java/lang/Object" none with
  accessFlags := 33
  interfaces := #[]
  cf := some (fileOf pool0 8 #[] #[{ accessFlags := 1, nameIndex := 5, descriptorIndex := 6, attributes := #[] }] 33 0 #[] #[])
  fields := #[]
  methods := #[k0m0]
  instanceTypes := #[]
  staticTypes := #[]
  resolved := Array.replicate 124 none
  statics := none }

def pool1 : Array CpInfo := pool [(2, .class_ 4), (1, u "java/lang/Object"), (0, u "<init>"), (0, u "()V"), (0, .integer 2147483647), (2, .long 2147483647), (1, .class_ 13), (0, u "com/example/skipscan/skipscan/ByteSample"), (0, .methodref 12 15), (0, .nameAndType 5 16), (0, u "([BIII)V"), (0, .methodref 12 18), (0, .nameAndType 19 20), (0, u "slice"), (0, u "()I"), (0, .methodref 12 22), (0, .nameAndType 23 24), (0, u "start"), (0, u "(I)I"), (0, .long 7), (1, .class_ 28), (0, u "com/example/skipscan/skipscan/ByteSampleStartPinLaw"), (2, u "law"), (0, u "(IIII)Z")] 3

def k1m0 : Method := { name := "<init>", desc := "()V", sig := { parameters := [], returnType := none }, accessFlags := 1, code := none }
def k1c1 : Code := { maxStack := 8, maxLocals := 20, code := code, exceptionTable := #[], attributes := #[] }
def k1m1 : Method := { name := "law", desc := "(IIII)Z", sig := { parameters := [.int, .int, .int, .int], returnType := some .boolean }, accessFlags := 9, code := some k1c1 }
/-- com/example/skipscan/skipscan/ByteSampleStartPinLaw -/
def k1 : Class := { plain "com/example/skipscan/skipscan/ByteSampleStartPinLaw" (some 0) with
  accessFlags := 49
  interfaces := #[]
  cf := some (fileOf pool1 27 #[] #[{ accessFlags := 1, nameIndex := 5, descriptorIndex := 6, attributes := #[] }, { accessFlags := 9, nameIndex := 31, descriptorIndex := 32, attributes := #[] }] 49 2 #[] #[])
  fields := #[]
  methods := #[k1m0, k1m1]
  instanceTypes := #[]
  staticTypes := #[]
  resolved := Array.replicate 36 none
  statics := none }

def pool2 : Array CpInfo := pool [(1, .methodref 2 3), (0, .class_ 4), (0, .nameAndType 5 6), (0, u "java/lang/Object"), (0, u "<init>"), (0, u "()V"), (0, .fieldref 8 9), (0, .class_ 10), (0, .nameAndType 11 12), (0, u "com/example/skipscan/skipscan/ByteSample"), (0, u "array"), (0, u "[B"), (0, .fieldref 8 14), (0, .nameAndType 15 16), (0, u "from"), (0, u "I"), (0, .fieldref 8 18), (0, .nameAndType 19 16), (0, u "span"), (0, .fieldref 8 21), (0, .nameAndType 22 16), (0, u "slice"), (0, .long 7), (1, u "SLICES"), (2, u "([BIII)V"), (3, u "()I"), (0, u "start"), (0, u "(I)I")] 2

def k2c0 : Code := { maxStack := 3, maxLocals := 5, code := prog_9_method_1_code, exceptionTable := #[], attributes := #[] }
def k2m0 : Method := { name := "<init>", desc := "([BIII)V", sig := { parameters := [(.array .byte), .int, .int, .int], returnType := none }, accessFlags := 0, code := some k2c0 }
def k2c1 : Code := { maxStack := 1, maxLocals := 1, code := prog_9_method_3_code, exceptionTable := #[], attributes := #[] }
def k2m1 : Method := { name := "slice", desc := "()I", sig := { parameters := [], returnType := some .int }, accessFlags := 0, code := some k2c1 }
def k2c2 : Code := { maxStack := 5, maxLocals := 2, code := prog_9_method_4_code, exceptionTable := #[], attributes := #[] }
def k2m2 : Method := { name := "start", desc := "(I)I", sig := { parameters := [.int], returnType := some .int }, accessFlags := 0, code := some k2c2 }
/-- com/example/skipscan/skipscan/ByteSample -/
def k2 : Class := { plain "com/example/skipscan/skipscan/ByteSample" (some 0) with
  accessFlags := 32
  interfaces := #[]
  cf := some (fileOf pool2 8 #[] #[{ accessFlags := 0, nameIndex := 5, descriptorIndex := 28, attributes := #[] }, { accessFlags := 0, nameIndex := 22, descriptorIndex := 32, attributes := #[] }, { accessFlags := 0, nameIndex := 33, descriptorIndex := 34, attributes := #[] }] 32 2 #[] #[{ accessFlags := 24, nameIndex := 25, descriptorIndex := 16, attributes := #[] }, { accessFlags := 18, nameIndex := 11, descriptorIndex := 12, attributes := #[] }, { accessFlags := 18, nameIndex := 15, descriptorIndex := 16, attributes := #[] }, { accessFlags := 18, nameIndex := 19, descriptorIndex := 16, attributes := #[] }, { accessFlags := 18, nameIndex := 22, descriptorIndex := 16, attributes := #[] }])
  fields := #[{ name := "SLICES", type := .int, accessFlags := 24, slot := 0, constantValue := 0 }, { name := "array", type := (.array .byte), accessFlags := 18, slot := 0, constantValue := 0 }, { name := "from", type := .int, accessFlags := 18, slot := 1, constantValue := 0 }, { name := "span", type := .int, accessFlags := 18, slot := 2, constantValue := 0 }, { name := "slice", type := .int, accessFlags := 18, slot := 3, constantValue := 0 }]
  methods := #[k2m0, k2m1, k2m2]
  instanceTypes := #[(.array .byte), .int, .int, .int]
  staticTypes := #[.int]
  resolved := Array.replicate 37 none
  statics := none }

def pool3 : Array CpInfo := pool [(1, u "java/lang/Cloneable"), (0, .class_ 1), (0, u "java/lang/Object"), (0, .class_ 3)] 3

/-- java/lang/Cloneable -/
def k3 : Class := { plain "java/lang/Cloneable" (some 0) with
  accessFlags := 1537
  interfaces := #[]
  cf := some (fileOf pool3 2 #[] #[] 1537 4 #[] #[])
  fields := #[]
  methods := #[]
  instanceTypes := #[]
  staticTypes := #[]
  resolved := Array.replicate 8 none
  statics := none }

def pool4 : Array CpInfo := pool [(1, u "java/io/Serializable"), (0, .class_ 1), (0, u "java/lang/Object"), (0, .class_ 3)] 3

/-- java/io/Serializable -/
def k4 : Class := { plain "java/io/Serializable" (some 0) with
  accessFlags := 1537
  interfaces := #[]
  cf := some (fileOf pool4 2 #[] #[] 1537 4 #[] #[])
  fields := #[]
  methods := #[]
  instanceTypes := #[]
  staticTypes := #[]
  resolved := Array.replicate 8 none
  statics := none }

/-- the primitive byte -/
def k5 : Class := { plain "byte" none with kind := .primitive 'B', accessFlags := 0x411 }
/-- [B -/
def k6 : Class := { plain "[B" (some 0) with kind := .array 5 .byte, interfaces := #[3, 4], accessFlags := 1041 }

/-- the primitive int -/
def k7 : Class := { plain "int" none with kind := .primitive 'I', accessFlags := 0x411 }
/-- [I -/
def k8 : Class := { plain "[I" (some 0) with kind := .array 7 .int, interfaces := #[3, 4], accessFlags := 1041 }

def heap : Heap := #[]
def classes : Array Class := #[k0, k1, k2, k3, k4, k5, k6, k7, k8]
def interned : List (Array UInt16 × Addr) := []
def slotsUsed : Nat := 0
def theMethod : MethodId := ⟨1, 1⟩
def args0 : Array Value := #[.int 5, .int 5, .int 5, .int 5]
def aboutOver (below : List Frame) : State where
  vm := { classes := classes, interned := interned.toArray }
  heap := heap
  slotsUsed := slotsUsed
  threads := #[{ frames := .invoking theMethod args0 :: below }]
def below0 : List Frame := [.native { method := ⟨0, 0⟩, args := #[] }]
def about1 : State := aboutOver below0
def p0 : Program := .bare "" "" ""
def e0 : Env := launch0.env 0 0 0
theorem w_frames : about1.frames = Frame.invoking theMethod args0 :: below0 := rfl
set_option maxRecDepth 65536 in
theorem w_args : argsFit about1.vm theMethod args0 = true := by decide +kernel
set_option maxRecDepth 65536 in
theorem w_heap : heapFits about1 = true := by decide +kernel
set_option maxRecDepth 65536 in
theorem w_runnable : about1.curStatus? = some .runnable := by decide +kernel
set_option maxRecDepth 65536 in
theorem w_alone : about1.alone = true := by decide +kernel
set_option maxRecDepth 65536 in
theorem w_named : about1.methodNamed? x = some theMethod := by decide +kernel
set_option maxRecDepth 65536 in
theorem w_hears : about1.hears theMethod below0 = true := by decide +kernel
set_option maxRecDepth 65536 in
theorem w_ripe : about1.ripe theMethod args0 below0 = true := by decide +kernel
theorem w_running : about1.status = .running := rfl
set_option maxRecDepth 65536 in
theorem w_room : about1.hasRoom e0.platform room_1 = true :=
  launch0.hasRoom_least _ room_1 (by decide +kernel) (by decide +kernel) (by decide +kernel) (by decide +kernel) (by decide +kernel) (by decide +kernel)
theorem allAtoms_all (ts : List Jvm.Cond) (a : Array Jvm.Value) (st : Jvm.State) : (allAtoms ts).before a st = ts.all (fun c => c.before a st) := by
  induction ts with
  | nil => rfl
  | cons c t ih =>
    show (Jvm.Cond.and c (allAtoms t)).before a st = _
    rw [Jvm.Cond.before_and, ih, List.all_cons]
def words1 : List Jvm.Cond := Jvm.Cond.code x code maxLocals ret :: tables_1
/-- a 'code' word, met by the world's own term for the bytes: nothing is compared byte by byte -/
theorem code_word {y : MethodName} {bytes : ByteArray} {mx : Nat} {rt : Option FieldType} {a : Array Value} {s : State} {m : MethodId} {meth : Method} {c : Code} (h1 : s.methodNamed? y = some m) (h2 : s.vm.method? m = some meth) (h3 : meth.code = some c) (h4 : c.code = bytes)
    (h5 : (c.maxLocals == mx && c.exceptionTable.isEmpty && decide (c.maxStack ≤ mostOperands) && decide (meth.sig.returnType = rt) && !meth.locks && decide (parseMethodDescriptor y.desc = some meth.sig)) = true) : (Jvm.Cond.code y bytes mx rt).before a s = true := by
  simp only [Bool.and_eq_true, beq_iff_eq, Bool.not_eq_true', decide_eq_true_eq] at h5
  obtain ⟨⟨⟨⟨⟨g1, g2⟩, g3⟩, g4⟩, g5⟩, g6⟩ := h5
  simp [Cond.before, Cond.holds, Cond.value, h1, h2, h3, h4, g1, g2, g3, g4, g5, g6]
def isCode : Jvm.Cond → Bool
  | .code _ _ _ _ => true
  | _ => false
theorem all_split {L : List Jvm.Cond} {P : Jvm.Cond → Bool} (h1 : L.all (fun c => isCode c || P c) = true) (h2 : ∀ c ∈ L.filter isCode, P c = true) : L.all P = true := by
  refine List.all_eq_true.mpr fun c hc => ?_
  have h := List.all_eq_true.mp h1 c hc
  rcases Bool.eq_false_or_eq_true (isCode c) with hi | hi
  · exact h2 c (List.mem_filter.mpr ⟨hc, hi⟩)
  · simpa [hi] using h
set_option maxRecDepth 65536 in
theorem w_c0 : (Jvm.Cond.code x code maxLocals ret).before args0 about1 = true := code_word (m := ⟨1, 1⟩) (meth := k1m1) (c := k1c1) (by decide +kernel) rfl rfl rfl (by decide +kernel)
set_option maxRecDepth 65536 in
theorem w_c1 : (Jvm.Cond.code ({ cls := "com/example/skipscan/skipscan/ByteSample", name := "<init>", desc := "([BIII)V" } : Jvm.MethodName) prog_9_method_1_code (5 : Nat) (Option.none : Option Jvm.ClassFile.FieldType)).before args0 about1 = true := code_word (m := ⟨2, 0⟩) (meth := k2m0) (c := k2c0) (by decide +kernel) rfl rfl rfl (by decide +kernel)
set_option maxRecDepth 65536 in
theorem w_c2 : (Jvm.Cond.code ({ cls := "java/lang/Object", name := "<init>", desc := "()V" } : Jvm.MethodName) object_method_1_code (1 : Nat) (Option.none : Option Jvm.ClassFile.FieldType)).before args0 about1 = true := code_word (m := ⟨0, 0⟩) (meth := k0m0) (c := k0c0) (by decide +kernel) rfl rfl rfl (by decide +kernel)
set_option maxRecDepth 65536 in
theorem w_c3 : (Jvm.Cond.code ({ cls := "com/example/skipscan/skipscan/ByteSample", name := "slice", desc := "()I" } : Jvm.MethodName) prog_9_method_3_code (1 : Nat) (Option.some Jvm.ClassFile.FieldType.int)).before args0 about1 = true := code_word (m := ⟨2, 1⟩) (meth := k2m1) (c := k2c1) (by decide +kernel) rfl rfl rfl (by decide +kernel)
set_option maxRecDepth 65536 in
theorem w_c4 : (Jvm.Cond.code ({ cls := "com/example/skipscan/skipscan/ByteSample", name := "start", desc := "(I)I" } : Jvm.MethodName) prog_9_method_4_code (2 : Nat) (Option.some Jvm.ClassFile.FieldType.int)).before args0 about1 = true := code_word (m := ⟨2, 2⟩) (meth := k2m2) (c := k2c2) (by decide +kernel) rfl rfl rfl (by decide +kernel)
def codes1 : List Jvm.Cond := [Jvm.Cond.code x code maxLocals ret, Jvm.Cond.code ({ cls := "com/example/skipscan/skipscan/ByteSample", name := "<init>", desc := "([BIII)V" } : Jvm.MethodName) prog_9_method_1_code (5 : Nat) (Option.none : Option Jvm.ClassFile.FieldType), Jvm.Cond.code ({ cls := "java/lang/Object", name := "<init>", desc := "()V" } : Jvm.MethodName) object_method_1_code (1 : Nat) (Option.none : Option Jvm.ClassFile.FieldType), Jvm.Cond.code ({ cls := "com/example/skipscan/skipscan/ByteSample", name := "slice", desc := "()I" } : Jvm.MethodName) prog_9_method_3_code (1 : Nat) (Option.some Jvm.ClassFile.FieldType.int), Jvm.Cond.code ({ cls := "com/example/skipscan/skipscan/ByteSample", name := "start", desc := "(I)I" } : Jvm.MethodName) prog_9_method_4_code (2 : Nat) (Option.some Jvm.ClassFile.FieldType.int)]
set_option maxRecDepth 65536 in
theorem codes_eq : words1.filter isCode = codes1 := rfl
theorem w_codes : ∀ c ∈ words1.filter isCode, c.before args0 about1 = true := by
  rw [codes_eq]
  intro c hc
  simp only [codes1, List.mem_cons, List.not_mem_nil, or_false] at hc
  rcases hc with rfl | rfl | rfl | rfl | rfl
  · exact w_c0
  · exact w_c1
  · exact w_c2
  · exact w_c3
  · exact w_c4
set_option maxRecDepth 65536 in
theorem w_t1 : (words1.take 24).all (fun c => isCode c || c.before args0 about1) = true := by decide +kernel
set_option maxRecDepth 65536 in
theorem w_t2 : (words1.drop 24).all (fun c => isCode c || c.before args0 about1) = true := by decide +kernel
theorem w_tables : (allAtoms (Jvm.Cond.code x code maxLocals ret :: tables_1)).before args0 about1 = true := by
  rw [allAtoms_all]
  show words1.all (fun c => c.before args0 about1) = true
  refine all_split ?_ w_codes
  rw [← List.take_append_drop 24 words1, List.all_append, w_t1, w_t2]
  rfl
set_option maxRecDepth 65536 in
theorem w_case : (Jvm.Cond.and given_1 narrow_1).before args0 about1 = true := by decide +kernel
theorem w_applies : (headSpec (Jvm.Cond.code x code maxLocals ret :: tables_1) room_1).applies x e0.platform about1 = true :=
  (Spec.applies_iff w_frames).mpr ⟨w_running, w_runnable, w_alone, w_named, w_hears, w_ripe, w_room, w_tables⟩
theorem atStart : AtStart classFile x code maxLocals ret World_1 tables_1 room_1 Calls_1 rest_1 Pre_1 launch0 p0 e0 about1 theMethod args0 below0 :=
  ⟨lists_1, trivial, launch0.admits_env _ _ _, launch0.least_env, fairChoices_fair.cas, fairChoices_fair.clock, w_frames, w_args, w_heap, w_applies, trivial, trivial, w_case⟩
end start1
theorem witness_1 : WitnessClaimed_1 := ⟨start1.p0, start1.e0, start1.about1, start1.theMethod, start1.args0, start1.below0, start1.atStart⟩
end Jvm.Pilot.@@N@@
