import JvmDerived
import JvmDerived.Pilot.@@N@@Statement
import JvmDerived.Pilot.@@N@@Code
set_option linter.unusedVariables false
set_option linter.unusedSimpArgs false
namespace Jvm.RoadKit
open Sem ClassFile Op Lib Jvm.Stand Jvm.Free Jvm.LawKit
section New
variable {p : Program} {l : Launch} {e : Env} {R : Room} {s : State} {m : MethodId} {args : Array Value} {below : List Frame} {meth : Method} {c : Code} {T : State} {locs : List Loc} {cells slots : Nat}
theorem retI (X : Stand p l e R s m args below meth c T locs cells slots) (hx : p.tables.exec = Jvm.exec) {pc : Nat} {Ls : Array Slot} {z : Int32} {rest : List Value} (hret : meth.sig.returnType = some .int) (hd : decode c.code pc = .ok (.ireturn, 1)) {fs : List Frame}
    (hl : ∀ (f : JFrame) (acts : List Action), f.method = m → f.locked = none → f.entered = [] → (doReturn e (T.setTop f) acts (some (.int z))).1 = T.setFrames fs) : Steps p.tables e below (T.setTop (mkF m pc Ls (.int z :: rest))) (T.setFrames fs) := by
  have hm' : T.vm.method? m = some meth := X.method'
  have hn : narrow .int (.int z) = .int z := rfl
  show Steps p.tables e below (T.setTop { method := m, pc := pc, locals := Ls, stack := _ :: rest, locked := none }) _
  jvm_step X.here [X.here.top, hx, hd, hm', hret, hn]
  first | (intro acts; rw [hl _ acts rfl rfl rfl]) | rw [hl _ _ rfl rfl rfl]
  exact Steps.refl _
theorem own_ldc {g : JFrame} {target : State} (X : Stand p l e R s m args below meth c T locs cells slots) (hx : p.tables.exec = Jvm.exec) {own : String} {index : Nat} {v : Int32} (hown : s.vm.findClass own = some m.cls) (w : (Cond.constant own index v).before args s = true) (hg : g.method = m) (hd : decode c.code g.pc = .ok (.ldc index, 2))
    (hr : Steps p.tables e below (T.setTop { g with pc := g.pc + 2, stack := .int v :: g.stack }) target) : Steps p.tables e below (T.setTop g) target := X.ldcInt hx hown w hg hd target hr
theorem own_ldc2 {g : JFrame} {target : State} (X : Stand p l e R s m args below meth c T locs cells slots) (hx : p.tables.exec = Jvm.exec) {own : String} {index : Nat} {v : Int64} (hown : s.vm.findClass own = some m.cls) (w : (Cond.constantLong own index v).before args s = true) (hg : g.method = m) (hd : decode c.code g.pc = .ok (.ldc2_w index, 3))
    (hr : Steps p.tables e below (T.setTop { g with pc := g.pc + 3, stack := .long v :: g.stack }) target) : Steps p.tables e below (T.setTop g) target := X.ldc2Long hx hown w hg hd target hr
theorem own_len {g : JFrame} {target : State} (X : Stand p l e R s m args below meth c T locs cells slots) (hx : p.tables.exec = Jvm.exec) {a : Addr} {cell : Cell} {ty : FieldType} {z : Int32} (hcell : T.heap[a]? = some cell) (harr : s.isArrayOf cell ty) (hz : cell.slots.size = z.toNatClampNeg) (hn : ¬ z < 0) (hg : g.method = m) {rest : List Value} (hs : g.stack = .ref a :: rest) (hd : decode c.code g.pc = .ok (.arraylength, 1))
    (hr : Steps p.tables e below (T.setTop { g with pc := g.pc + 1, stack := .int z :: rest }) target) : Steps p.tables e below (T.setTop g) target := X.arraylength hx hcell harr hg hs hd target (by rw [len_of hz hn]; exact hr)
theorem own_iaload {g : JFrame} {target : State} (X : Stand p l e R s m args below meth c T locs cells slots) (hx : p.tables.exec = Jvm.exec) {a : Addr} {cell : Cell} {j : Int32} {v : Value} (hcell : T.heap[a]? = some cell) (harr : s.isArrayOf cell .int) (hk : cell.vm ≠ .unknown) (hin : ¬ (j < 0 ∨ cell.slots.size ≤ j.toNatClampNeg)) (hv : cell.slots[j.toNatClampNeg]? = some v) (hg : g.method = m) {rest : List Value} (hs : g.stack = .int j :: .ref a :: rest) (hd : decode c.code g.pc = .ok (.iaload, 1))
    (hr : Steps p.tables e below (T.setTop { g with pc := g.pc + 1, stack := v :: rest }) target) : Steps p.tables e below (T.setTop g) target := X.iaload hx hcell harr hk hin hv hg hs hd target hr
theorem own_laload {g : JFrame} {target : State} (X : Stand p l e R s m args below meth c T locs cells slots) (hx : p.tables.exec = Jvm.exec) {a : Addr} {cell : Cell} {j : Int32} {v : Value} (hcell : T.heap[a]? = some cell) (harr : s.isArrayOf cell .long) (hk : cell.vm ≠ .unknown) (hin : ¬ (j < 0 ∨ cell.slots.size ≤ j.toNatClampNeg)) (hv : cell.slots[j.toNatClampNeg]? = some v) (hg : g.method = m) {rest : List Value} (hs : g.stack = .int j :: .ref a :: rest) (hd : decode c.code g.pc = .ok (.laload, 1))
    (hr : Steps p.tables e below (T.setTop { g with pc := g.pc + 1, stack := v :: rest }) target) : Steps p.tables e below (T.setTop g) target := X.laload hx hcell harr hk hin hv hg hs hd target hr
theorem own_baload {g : JFrame} {target : State} (X : Stand p l e R s m args below meth c T locs cells slots) (hx : p.tables.exec = Jvm.exec) {a : Addr} {cell : Cell} {j : Int32} {v : Value} (hcell : T.heap[a]? = some cell) (harr : s.isArrayOf cell .byte) (hk : cell.vm ≠ .unknown) (hin : ¬ (j < 0 ∨ cell.slots.size ≤ j.toNatClampNeg)) (hv : cell.slots[j.toNatClampNeg]? = some v) (hg : g.method = m) {rest : List Value} (hs : g.stack = .int j :: .ref a :: rest) (hd : decode c.code g.pc = .ok (.baload, 1))
    (hr : Steps p.tables e below (T.setTop { g with pc := g.pc + 1, stack := v :: rest }) target) : Steps p.tables e below (T.setTop g) target := X.baloadBytes hx hcell harr hk hin hv hg hs hd target hr
theorem own_lrem {g : JFrame} {target : State} (X : Stand p l e R s m args below meth c T locs cells slots) (hx : p.tables.exec = Jvm.exec) (hg : g.method = m) {x y : Int64} {rest : List Value} (hd : decode c.code g.pc = .ok (.lrem, 1)) (hs : g.stack = .long y :: .long x :: rest) (hy : y ≠ 0)
    (hr : Steps p.tables e below (T.setTop { g with pc := g.pc + 1, stack := .long (x % y) :: rest }) target) : Steps p.tables e below (T.setTop g) target :=
  XS.lrem X.here hx hg hd hs hy (by rw [lrem_mod]; exact hr)
theorem own_tltL {x y : Int64} (h : x < y) : ifCond.holds .lt (lcmpW x y) = true ∧ ifCond.holds .ge (lcmpW x y) = false ∧ ifCond.holds .gt (lcmpW y x) = true ∧ ifCond.holds .le (lcmpW y x) = false := by
  have h1 : lcmpW x y < 0 := by rw [lcW]; exact (lc_lt x y).mpr h
  have h2 : 0 < lcmpW y x := by rw [lcW]; exact (lc_gt y x).mpr h
  exact ⟨(if0 _ _).trans (tlt h1).1, (if0 _ _).trans (tlt h1).2.1, (if0 _ _).trans (tlt h2).2.2.1, (if0 _ _).trans (tlt h2).2.2.2⟩
theorem own_fltL {x y : Int64} (h : ¬ x < y) : ifCond.holds .lt (lcmpW x y) = false ∧ ifCond.holds .ge (lcmpW x y) = true ∧ ifCond.holds .gt (lcmpW y x) = false ∧ ifCond.holds .le (lcmpW y x) = true := by
  have h1 : ¬ lcmpW x y < 0 := by rw [lcW, lc_lt]; exact h
  have h2 : ¬ 0 < lcmpW y x := by rw [lcW, lc_gt]; exact h
  exact ⟨(if0 _ _).trans (flt h1).1, (if0 _ _).trans (flt h1).2.1, (if0 _ _).trans (flt h2).2.2.1, (if0 _ _).trans (flt h2).2.2.2⟩
theorem own_teqL {x y : Int64} (h : x = y) : ifCond.holds .eq (lcmpW x y) = true ∧ ifCond.holds .ne (lcmpW x y) = false := by
  have h1 : lcmpW x y = 0 := by rw [lcW, lc_eq]; exact h
  exact ⟨(if0 _ _).trans (teq h1).1, (if0 _ _).trans (teq h1).2⟩
theorem own_feqL {x y : Int64} (h : ¬ x = y) : ifCond.holds .eq (lcmpW x y) = false ∧ ifCond.holds .ne (lcmpW x y) = true := by
  have h1 : ¬ lcmpW x y = 0 := by rw [lcW, lc_eq]; exact h
  exact ⟨(if0 _ _).trans (feq h1).1, (if0 _ _).trans (feq h1).2⟩
end New
end Jvm.RoadKit
namespace Jvm.Pilot.@@N@@
open Jvm Jvm.ClassFile Sem Op Lib Jvm.Free Jvm.Stand Jvm.LawKit Jvm.RoadKit Bundle Jvm.Pilot.@@N@@.Jvm.D
/-- what is left to show from a place of the walk on -/
abbrev OGl (p : Program) (e : Env) (below : List Frame) (Q : Outcome → State → Prop) (T : State) (g : JFrame) : Prop :=
  ∃ s₂ o, Steps p.tables e below (T.setTop g) s₂ ∧ s₂.status = .running ∧ Ended s₂ below o ∧ Q o s₂
theorem OGl.go {p : Program} {e : Env} {below : List Frame} {Q : Outcome → State → Prop} {T T' : State} {g g' : JFrame} (h : ∀ t, Steps p.tables e below (T'.setTop g') t → Steps p.tables e below (T.setTop g) t) (k : OGl p e below Q T' g') : OGl p e below Q T g := by
  obtain ⟨s2, o, h1, h2⟩ := k
  exact ⟨s2, o, h _ h1, h2⟩
theorem OGl.start {p : Program} {e : Env} {below : List Frame} {Q : Outcome → State → Prop} {T : State} {g g' : JFrame} (q : g = g') (k : OGl p e below Q T g') : OGl p e below Q T g := q ▸ k
theorem own_selPriv {s : State} {args : Array Value} {y y' x' : MethodName} {C' : String} (hp : s.PrivateAt y) (hi : (Cond.instanceMethod y).before args s = true) (hs : (Cond.selects C' x' y').before args s = true) (hc : y'.cls = y.cls) (hy : y.cls ≠ "java/lang/invoke/MethodHandle" ∧ y.cls ≠ "java/lang/invoke/VarHandle" := by decide) : (Cond.selects y.cls y y).before args s = true := by
  obtain ⟨mk, meth, hn, hm, -, -⟩ := Cond.instanceMethod_spec hi
  obtain ⟨c2, r2, m2, -, -, q3, -, kP, hkP, hkPi⟩ := Cond.selects_spec hs
  have h1 := findClass_of_methodNamed hn
  have h2 := findClass_of_methodNamed q3
  rw [hc, h1] at h2
  have h3 : mk.cls = m2.cls := Option.some.inj h2
  have hf := State.methodFound?_of_named hn hy
  have hsel : selectMethod {} s.vm mk.cls mk = .method mk := selectMethod_private hm (hp mk meth hn hm)
  rw [← h3] at hkP
  simp [Cond.before, Cond.holds, Cond.value, h1, hf, hn, hsel, hkP, hkPi]
theorem own_weak {Z : State} {h : Heap} {a : Addr} {k : ClassId} {ty : FieldType} {z : Int32} {vs vs' : List Value} {d : Value} (F : Arv Z h a k ty z vs d) (q : ∀ i, i < z.toNatClampNeg → vs'.getD i d = vs.getD i d) : Arv Z h a k ty z vs' d := by
  obtain ⟨c, A, r1, r2, r3, H, G⟩ := F
  exact ⟨c, A, r1, r2, r3, fun i hi => by rw [q i (r2 ▸ hi)]; exact H i hi, fun i hi => by rw [q i (r2 ▸ hi)]; exact G i hi⟩
theorem own_cl {z j : Int32} {k i : Nat} (h : ¬ j < z) (hk : j.toInt = k) (hi : i < z.toNatClampNeg) : i < k := by
  rw [Int32.lt_iff_toInt_lt] at h
  have : z.toNatClampNeg = z.toInt.toNat := rfl
  omega
theorem own_irr {α : Type} [LT α] [Std.Irrefl (α := α) (· < ·)] (x : α) : ¬ x < x := Std.Irrefl.irrefl x
theorem d1_0 : decode prog_45_method_1_code 0 = .ok (.aload_n 0, 1) := by decide +kernel
theorem d1_1 : decode prog_45_method_1_code 1 = .ok (.invokespecial 1, 3) := by decide +kernel
theorem d2_0 : decode jdk_30_method_1_code 0 = .ok (.aload_n 0, 1) := by decide +kernel
theorem d2_1 : decode jdk_30_method_1_code 1 = .ok (.invokespecial 1, 3) := by decide +kernel
theorem d2_4 : decode jdk_30_method_1_code 4 = .ok (.return_, 1) := by decide +kernel
theorem ef_2 (m : MethodId) (x0 : Addr) : entryFrame m #[(.ref x0)] 1 = mkF m 0 #[.val (.ref x0)] [] := by first | (simp [entryFrame, mkF, argsToLocals, Value.category]; done) | rfl
theorem pn_0 : plainName "java/lang/Record" = true := by first | (simp [plainName, overriddenIn]; done) | decide +kernel
def Q2 (Z : State) (o0 : Addr) (h0 : Heap) (n0 : Nat) (v : Option Value) (h : Heap) (L : List Loc) : Prop := v = none ∧ Fr n0 L ∧ h = h0
set_option maxRecDepth 65536 in
set_option maxHeartbeats 40000000 in
theorem rm2 (l : Launch) (Z : State) (a0 : Array Value) (hw : ∀ d ∈ tables_1, d.before a0 Z = true) (ws : List Jvm.Cond) (o0 : Addr) (h0 : Heap) (n0 : Nat) (Z0 : n0 ≤ h0.size) :
    MetFree l (⟨"java/lang/Record", "<init>", "()V"⟩ : MethodName) (head1 (Jvm.Cond.code (⟨"java/lang/Record", "<init>", "()V"⟩ : MethodName) jdk_30_method_1_code 1 none :: ws) ({ frames := 1, cells := 0, slots := 0, locals := 12 } : Room)) (fun a U => a = #[(.ref o0)] ∧ Z.Warmed39 U.vm ∧ U.heap = h0) (fun _ _ _ _ _ => True) (fun _ U o U' => ∃ v L, o = .returned v ∧ Q2 Z o0 h0 n0 v U'.heap L ∧ FrameEnd U o U' L ({ frames := 1, cells := 0, slots := 0, locals := 12 } : Room).cells ({ frames := 1, cells := 0, slots := 0, locals := 12 } : Room).slots) := by
  refine MetFree.of_bodySF (plainFor_of_name pn_0) hisR ?_
  intro p e s m args below meth c s₁ Bd hml0 hP hK
  obtain ⟨rfl, hZ, hh⟩ := hP
  have hx := Bd.exec
  have hby := Bd.bytes
  have hml : c.maxLocals = 1 := hml0
  have hown : s.vm.findClass "java/lang/Record" = some m.cls := findClass_of_methodNamed Bd.named
  have hnm := (name_of_methodNamed Bd.named Bd.method).1
  have X0 : Stand p l e ({ frames := 1, cells := 0, slots := 0, locals := 12 } : Room) s m #[(.ref o0)] below meth c s₁ [] 0 0 := Stand.of_body Bd
  have e0 : s₁.heap = h0 := by rw [← hh, Bd.state]; rfl
  have N0 := Fr.nil n0
  refine OGl.start (ef_2 m o0) ?_
  show OGl _ _ _ _ s₁ (mkF m 0 #[.val (.ref o0)] [])
  refine OGl.go (fun t k => XS.aloadN X0.here hx rfl (hb hby d2_0) rfl rfl k) ?_
  show OGl _ _ _ _ s₁ (mkF m 1 #[.val (.ref o0)] [(.ref o0)])
  obtain ⟨T8, X8, e8, st8⟩ := initO X0 hx hZ hown (hw _ (List.mem_of_getElem? (i := 12) rfl)) (hw _ (List.mem_of_getElem? (i := 13) rfl)) (hw _ (List.mem_of_getElem? (i := 14) rfl)) e0 (g := (mkF m 1 #[.val (.ref o0)] [(.ref o0)])) rfl (by rw [hml]; rfl) rfl (hb hby d2_1) (by decide) (W := 0) (by show 2 * 0 + _ ≤ _; exact Nat.le_of_eq rfl) (by decide)
  refine OGl.go st8 ?_
  show OGl _ _ _ _ T8 (mkF m 4 #[.val (.ref o0)] [])
  obtain ⟨fs, hr, hrun, hended, hW, hsame⟩ := X8.leave (v := none) (fun _ => rfl)
  refine ⟨_, _, X8.returnOut hx Bd.returns (hb hby d2_4) hr, hrun, hended, _, _, rfl, ?_, ⟨_, rfl⟩, hW, hsame.mono (by decide) (by decide)⟩
  show Q2 Z o0 h0 n0 _ T8.heap _
  rw [e8]
  exact ⟨rfl, N0, rfl⟩
theorem pd_0 : parseMethodDescriptor "()V" = some ⟨[], none⟩ := by decide +kernel
theorem d1_4 : decode prog_45_method_1_code 4 = .ok (.aload_n 0, 1) := by decide +kernel
theorem d1_5 : decode prog_45_method_1_code 5 = .ok (.iload_n 1, 1) := by decide +kernel
theorem d1_6 : decode prog_45_method_1_code 6 = .ok (.putfield 7, 3) := by decide +kernel
theorem d1_9 : decode prog_45_method_1_code 9 = .ok (.aload_n 0, 1) := by decide +kernel
theorem d1_10 : decode prog_45_method_1_code 10 = .ok (.iload_n 2, 1) := by decide +kernel
theorem d1_11 : decode prog_45_method_1_code 11 = .ok (.putfield 13, 3) := by decide +kernel
theorem d1_14 : decode prog_45_method_1_code 14 = .ok (.aload_n 0, 1) := by decide +kernel
theorem d1_15 : decode prog_45_method_1_code 15 = .ok (.iload_n 3, 1) := by decide +kernel
theorem d1_16 : decode prog_45_method_1_code 16 = .ok (.putfield 16, 3) := by decide +kernel
theorem d1_19 : decode prog_45_method_1_code 19 = .ok (.aload_n 0, 1) := by decide +kernel
theorem d1_20 : decode prog_45_method_1_code 20 = .ok (.iload 4, 2) := by decide +kernel
theorem d1_22 : decode prog_45_method_1_code 22 = .ok (.putfield 19, 3) := by decide +kernel
theorem d1_25 : decode prog_45_method_1_code 25 = .ok (.return_, 1) := by decide +kernel
theorem ef_1 (m : MethodId) (x0 : Addr) (x1 : Int32) (x2 : Int32) (x3 : Int32) (x4 : Int32) : entryFrame m #[(.ref x0), (.int x1), (.int x2), (.int x3), (.int x4)] 5 = mkF m 0 #[.val (.ref x0), .val (.int x1), .val (.int x2), .val (.int x3), .val (.int x4)] [] := by first | (simp [entryFrame, mkF, argsToLocals, Value.category]; done) | rfl
theorem pn_1 : plainName "com/example/wallbreak/wallbreak/cardfree/Pattern" = true := by first | (simp [plainName, overriddenIn]; done) | decide +kernel
def Q1 (Z : State) (o0 : Addr) (p1 : Int32) (p2 : Int32) (p3 : Int32) (p4 : Int32) (h0 : Heap) (n0 : Nat) (v : Option Value) (h : Heap) (L : List Loc) : Prop := v = none ∧ Fr n0 L ∧ Keep h0 h [o0] ∧ Fld Z h o0 "com/example/wallbreak/wallbreak/cardfree/Pattern" "kongs" "I" (.int p3) ∧ Fld Z h o0 "com/example/wallbreak/wallbreak/cardfree/Pattern" "pairs" "I" (.int p1) ∧ Fld Z h o0 "com/example/wallbreak/wallbreak/cardfree/Pattern" "pungs" "I" (.int p2) ∧ Fld Z h o0 "com/example/wallbreak/wallbreak/cardfree/Pattern" "quints" "I" (.int p4)
set_option maxRecDepth 65536 in
set_option maxHeartbeats 40000000 in
theorem rm1 (l : Launch) (Z : State) (a0 : Array Value) (hw : ∀ d ∈ tables_1, d.before a0 Z = true) (ws : List Jvm.Cond) (o0 : Addr) (p1 : Int32) (p2 : Int32) (p3 : Int32) (p4 : Int32) (h0 : Heap) (n0 : Nat) (Z0 : n0 ≤ h0.size) (E_o0 : Exa Z h0 o0 "com/example/wallbreak/wallbreak/cardfree/Pattern") (F1_o0 : Fld Z h0 o0 "com/example/wallbreak/wallbreak/cardfree/Pattern" "pairs" "I" (.int (0 : Int32))) (F2_o0 : Fld Z h0 o0 "com/example/wallbreak/wallbreak/cardfree/Pattern" "pungs" "I" (.int (0 : Int32))) (F3_o0 : Fld Z h0 o0 "com/example/wallbreak/wallbreak/cardfree/Pattern" "kongs" "I" (.int (0 : Int32))) (F4_o0 : Fld Z h0 o0 "com/example/wallbreak/wallbreak/cardfree/Pattern" "quints" "I" (.int (0 : Int32))) (g_o0 : n0 ≤ o0) :
    MetFree l (⟨"com/example/wallbreak/wallbreak/cardfree/Pattern", "<init>", "(IIII)V"⟩ : MethodName) (head1 (Jvm.Cond.code (⟨"com/example/wallbreak/wallbreak/cardfree/Pattern", "<init>", "(IIII)V"⟩ : MethodName) prog_45_method_1_code 5 none :: ws) ({ frames := 2, cells := 0, slots := 0, locals := 24 } : Room)) (fun a U => a = #[(.ref o0), (.int p1), (.int p2), (.int p3), (.int p4)] ∧ Z.Warmed39 U.vm ∧ U.heap = h0) (fun _ _ _ _ _ => True) (fun _ U o U' => ∃ v L, o = .returned v ∧ Q1 Z o0 p1 p2 p3 p4 h0 n0 v U'.heap L ∧ FrameEnd U o U' L ({ frames := 2, cells := 0, slots := 0, locals := 24 } : Room).cells ({ frames := 2, cells := 0, slots := 0, locals := 24 } : Room).slots) := by
  refine MetFree.of_bodySF (plainFor_of_name pn_1) hisR ?_
  intro p e s m args below meth c s₁ Bd hml0 hP hK
  obtain ⟨rfl, hZ, hh⟩ := hP
  have hx := Bd.exec
  have hby := Bd.bytes
  have hml : c.maxLocals = 5 := hml0
  have hown : s.vm.findClass "com/example/wallbreak/wallbreak/cardfree/Pattern" = some m.cls := findClass_of_methodNamed Bd.named
  have hnm := (name_of_methodNamed Bd.named Bd.method).1
  have X0 : Stand p l e ({ frames := 2, cells := 0, slots := 0, locals := 24 } : Room) s m #[(.ref o0), (.int p1), (.int p2), (.int p3), (.int p4)] below meth c s₁ [] 0 0 := Stand.of_body Bd
  have e0 : s₁.heap = h0 := by rw [← hh, Bd.state]; rfl
  have N0 := Fr.nil n0
  refine OGl.start (ef_1 m o0 p1 p2 p3 p4) ?_
  show OGl _ _ _ _ s₁ (mkF m 0 #[.val (.ref o0), .val (.int p1), .val (.int p2), .val (.int p3), .val (.int p4)] [])
  refine OGl.go (fun t k => XS.aloadN X0.here hx rfl (hb hby d1_0) rfl rfl k) ?_
  show OGl _ _ _ _ s₁ (mkF m 1 #[.val (.ref o0), .val (.int p1), .val (.int p2), .val (.int p3), .val (.int p4)] [(.ref o0)])
  obtain ⟨_, _, ⟨T7, L7, kk7, n7⟩, -, X7, ⟨Lc7, hQ7, l7, y7, z7⟩, st7⟩ := X0.specialBack hx (y := (⟨"java/lang/Record", "<init>", "()V"⟩ : MethodName)) rfl hown (mvT hZ (hw _ (List.mem_of_getElem? (i := 7) rfl))) (mvT hZ (hw _ (List.mem_of_getElem? (i := 8) rfl))) (mvT hZ (hw _ (List.mem_of_getElem? (i := 11) rfl))) (by decide) (backOf (W := 0) (rm2 l Z a0 hw [] o0 h0 n0 Z0 ) hZ (hw _ (List.mem_of_getElem? (i := 11) rfl)) (hw _ (List.mem_of_getElem? (i := 10) rfl)) (by decide) (by decide)) (g := (mkF m 1 #[.val (.ref o0), .val (.int p1), .val (.int p2), .val (.int p3), .val (.int p4)] [(.ref o0)])) rfl (by rw [hml]; rfl) (Steps.refl _) (a := o0) (argsL := []) (rest := []) (lenOf pd_0 rfl) rfl (by show 2 * 0 + _ ≤ _; exact Nat.le_of_eq rfl) (hb hby d1_1) (fun _ _ => ⟨rfl, e0, (by decide : 0 + 0 ≤ _), (by decide : 0 + 0 ≤ _)⟩)
  dsimp only [Pt.U, Pt.locs, Pt.cells, Pt.slots] at X7 l7 y7 z7 st7 hQ7
  subst l7 y7 z7
  obtain ⟨rfl, Nq7, e7⟩ := hQ7
  have N7 := Fr.app N0 Nq7
  refine OGl.go (fun t k => st7.trans k) ?_
  show OGl _ _ _ _ T7 (mkF m 4 #[.val (.ref o0), .val (.int p1), .val (.int p2), .val (.int p3), .val (.int p4)] [])
  refine OGl.go (fun t k => XS.aloadN X7.here hx rfl (hb hby d1_4) rfl rfl (XS.iloadN X7.here hx rfl (hb hby d1_5) rfl k)) ?_
  show OGl _ _ _ _ T7 (mkF m 6 #[.val (.ref o0), .val (.int p1), .val (.int p2), .val (.int p3), .val (.int p4)] [(.int p1), (.ref o0)])
  obtain ⟨T9, h9, X9, e9, W9, st9⟩ := putF X7 hx hZ hown (host := "") (Or.inl (hw _ (List.mem_of_getElem? (i := 15) rfl))) Via.refl e7 F1_o0 E_o0 (Or.inr ⟨(hw _ (List.mem_of_getElem? (i := 16) rfl)), rfl, hnm⟩) (hw _ (List.mem_of_getElem? (i := 2) rfl)) (ty := .int) (by decide) rfl rfl (g := (mkF m 6 #[.val (.ref o0), .val (.int p1), .val (.int p2), .val (.int p3), .val (.int p4)] [(.int p1), (.ref o0)])) rfl rfl (hb hby d1_6)
  refine OGl.go st9 ?_
  have N9 := Fr.snoc X9 N7 g_o0
  have Fw9 := F1_o0.same W9
  have KK9 : Keep h0 h9 [o0] := (Keep.refl h0 [o0]).wr W9 (Or.inl (List.mem_of_getElem? (i := 0) rfl))
  show OGl _ _ _ _ T9 (mkF m 9 #[.val (.ref o0), .val (.int p1), .val (.int p2), .val (.int p3), .val (.int p4)] [])
  refine OGl.go (fun t k => XS.aloadN X9.here hx rfl (hb hby d1_9) rfl rfl (XS.iloadN X9.here hx rfl (hb hby d1_10) rfl k)) ?_
  show OGl _ _ _ _ T9 (mkF m 11 #[.val (.ref o0), .val (.int p1), .val (.int p2), .val (.int p3), .val (.int p4)] [(.int p2), (.ref o0)])
  have F10 := (F2_o0.other W9 (Or.inr (slot_ne (Or.inr (hw _ (List.mem_of_getElem? (i := 18) rfl))) (Or.inr (hw _ (List.mem_of_getElem? (i := 16) rfl))) (by decide) (t := .int) (t' := .int) (by decide) (by decide))))
  have F11 := (E_o0.wr W9)
  obtain ⟨T12, h12, X12, e12, W12, st12⟩ := putF X9 hx hZ hown (host := "") (Or.inl (hw _ (List.mem_of_getElem? (i := 17) rfl))) Via.refl e9 F10 F11 (Or.inr ⟨(hw _ (List.mem_of_getElem? (i := 18) rfl)), rfl, hnm⟩) (hw _ (List.mem_of_getElem? (i := 2) rfl)) (ty := .int) (by decide) rfl rfl (g := (mkF m 11 #[.val (.ref o0), .val (.int p1), .val (.int p2), .val (.int p3), .val (.int p4)] [(.int p2), (.ref o0)])) rfl rfl (hb hby d1_11)
  refine OGl.go st12 ?_
  have N12 := Fr.snoc X12 N9 g_o0
  have Fw12 := F10.same W12
  have KK12 : Keep h0 h12 [o0] := KK9.wr W12 (Or.inl (List.mem_of_getElem? (i := 0) rfl))
  show OGl _ _ _ _ T12 (mkF m 14 #[.val (.ref o0), .val (.int p1), .val (.int p2), .val (.int p3), .val (.int p4)] [])
  refine OGl.go (fun t k => XS.aloadN X12.here hx rfl (hb hby d1_14) rfl rfl (XS.iloadN X12.here hx rfl (hb hby d1_15) rfl k)) ?_
  show OGl _ _ _ _ T12 (mkF m 16 #[.val (.ref o0), .val (.int p1), .val (.int p2), .val (.int p3), .val (.int p4)] [(.int p3), (.ref o0)])
  have F13 := ((F3_o0.other W9 (Or.inr (slot_ne (Or.inr (hw _ (List.mem_of_getElem? (i := 20) rfl))) (Or.inr (hw _ (List.mem_of_getElem? (i := 16) rfl))) (by decide) (t := .int) (t' := .int) (by decide) (by decide)))).other W12 (Or.inr (slot_ne (Or.inr (hw _ (List.mem_of_getElem? (i := 20) rfl))) (Or.inr (hw _ (List.mem_of_getElem? (i := 18) rfl))) (by decide) (t := .int) (t' := .int) (by decide) (by decide))))
  have F14 := (F11.wr W12)
  obtain ⟨T15, h15, X15, e15, W15, st15⟩ := putF X12 hx hZ hown (host := "") (Or.inl (hw _ (List.mem_of_getElem? (i := 19) rfl))) Via.refl e12 F13 F14 (Or.inr ⟨(hw _ (List.mem_of_getElem? (i := 20) rfl)), rfl, hnm⟩) (hw _ (List.mem_of_getElem? (i := 2) rfl)) (ty := .int) (by decide) rfl rfl (g := (mkF m 16 #[.val (.ref o0), .val (.int p1), .val (.int p2), .val (.int p3), .val (.int p4)] [(.int p3), (.ref o0)])) rfl rfl (hb hby d1_16)
  refine OGl.go st15 ?_
  have N15 := Fr.snoc X15 N12 g_o0
  have Fw15 := F13.same W15
  have KK15 : Keep h0 h15 [o0] := KK12.wr W15 (Or.inl (List.mem_of_getElem? (i := 0) rfl))
  show OGl _ _ _ _ T15 (mkF m 19 #[.val (.ref o0), .val (.int p1), .val (.int p2), .val (.int p3), .val (.int p4)] [])
  refine OGl.go (fun t k => XS.aloadN X15.here hx rfl (hb hby d1_19) rfl rfl (XS.iload X15.here hx rfl (hb hby d1_20) rfl k)) ?_
  show OGl _ _ _ _ T15 (mkF m 22 #[.val (.ref o0), .val (.int p1), .val (.int p2), .val (.int p3), .val (.int p4)] [(.int p4), (.ref o0)])
  have F16 := (((F4_o0.other W9 (Or.inr (slot_ne (Or.inr (hw _ (List.mem_of_getElem? (i := 22) rfl))) (Or.inr (hw _ (List.mem_of_getElem? (i := 16) rfl))) (by decide) (t := .int) (t' := .int) (by decide) (by decide)))).other W12 (Or.inr (slot_ne (Or.inr (hw _ (List.mem_of_getElem? (i := 22) rfl))) (Or.inr (hw _ (List.mem_of_getElem? (i := 18) rfl))) (by decide) (t := .int) (t' := .int) (by decide) (by decide)))).other W15 (Or.inr (slot_ne (Or.inr (hw _ (List.mem_of_getElem? (i := 22) rfl))) (Or.inr (hw _ (List.mem_of_getElem? (i := 20) rfl))) (by decide) (t := .int) (t' := .int) (by decide) (by decide))))
  have F17 := (F14.wr W15)
  obtain ⟨T18, h18, X18, e18, W18, st18⟩ := putF X15 hx hZ hown (host := "") (Or.inl (hw _ (List.mem_of_getElem? (i := 21) rfl))) Via.refl e15 F16 F17 (Or.inr ⟨(hw _ (List.mem_of_getElem? (i := 22) rfl)), rfl, hnm⟩) (hw _ (List.mem_of_getElem? (i := 2) rfl)) (ty := .int) (by decide) rfl rfl (g := (mkF m 22 #[.val (.ref o0), .val (.int p1), .val (.int p2), .val (.int p3), .val (.int p4)] [(.int p4), (.ref o0)])) rfl rfl (hb hby d1_22)
  refine OGl.go st18 ?_
  have N18 := Fr.snoc X18 N15 g_o0
  have Fw18 := F16.same W18
  have KK18 : Keep h0 h18 [o0] := KK15.wr W18 (Or.inl (List.mem_of_getElem? (i := 0) rfl))
  show OGl _ _ _ _ T18 (mkF m 25 #[.val (.ref o0), .val (.int p1), .val (.int p2), .val (.int p3), .val (.int p4)] [])
  obtain ⟨fs, hr, hrun, hended, hW, hsame⟩ := X18.leave (v := none) (fun _ => rfl)
  refine ⟨_, _, X18.returnOut hx Bd.returns (hb hby d1_25) hr, hrun, hended, _, _, rfl, ?_, ⟨_, rfl⟩, hW, hsame.mono (by decide) (by decide)⟩
  show Q1 Z o0 p1 p2 p3 p4 h0 n0 _ T18.heap _
  rw [e18]
  have F19 := (Fw15.other W18 (Or.inr (slot_ne (Or.inr (hw _ (List.mem_of_getElem? (i := 20) rfl))) (Or.inr (hw _ (List.mem_of_getElem? (i := 22) rfl))) (by decide) (t := .int) (t' := .int) (by decide) (by decide))))
  have F20 := (((Fw9.other W12 (Or.inr (slot_ne (Or.inr (hw _ (List.mem_of_getElem? (i := 16) rfl))) (Or.inr (hw _ (List.mem_of_getElem? (i := 18) rfl))) (by decide) (t := .int) (t' := .int) (by decide) (by decide)))).other W15 (Or.inr (slot_ne (Or.inr (hw _ (List.mem_of_getElem? (i := 16) rfl))) (Or.inr (hw _ (List.mem_of_getElem? (i := 20) rfl))) (by decide) (t := .int) (t' := .int) (by decide) (by decide)))).other W18 (Or.inr (slot_ne (Or.inr (hw _ (List.mem_of_getElem? (i := 16) rfl))) (Or.inr (hw _ (List.mem_of_getElem? (i := 22) rfl))) (by decide) (t := .int) (t' := .int) (by decide) (by decide))))
  have F21 := ((Fw12.other W15 (Or.inr (slot_ne (Or.inr (hw _ (List.mem_of_getElem? (i := 18) rfl))) (Or.inr (hw _ (List.mem_of_getElem? (i := 20) rfl))) (by decide) (t := .int) (t' := .int) (by decide) (by decide)))).other W18 (Or.inr (slot_ne (Or.inr (hw _ (List.mem_of_getElem? (i := 18) rfl))) (Or.inr (hw _ (List.mem_of_getElem? (i := 22) rfl))) (by decide) (t := .int) (t' := .int) (by decide) (by decide))))
  exact ⟨rfl, N18, KK18, F19, F20, F21, Fw18⟩
theorem pd_1 : parseMethodDescriptor "(IIII)V" = some ⟨[.int, .int, .int, .int], none⟩ := by decide +kernel
theorem d4_0 : decode prog_45_method_3_code 0 = .ok (.iconst 0, 1) := by decide +kernel
theorem d4_1 : decode prog_45_method_3_code 1 = .ok (.istore_n 1, 1) := by decide +kernel
theorem d4_2 : decode prog_45_method_3_code 2 = .ok (.aload_n 0, 1) := by decide +kernel
theorem d4_3 : decode prog_45_method_3_code 3 = .ok (.invokevirtual 47, 3) := by decide +kernel
theorem d5_0 : decode prog_45_method_8_code 0 = .ok (.iconst 4, 1) := by decide +kernel
theorem d5_1 : decode prog_45_method_8_code 1 = .ok (.newarray .int, 2) := by decide +kernel
theorem d5_3 : decode prog_45_method_8_code 3 = .ok (.dup, 1) := by decide +kernel
theorem d5_4 : decode prog_45_method_8_code 4 = .ok (.iconst 0, 1) := by decide +kernel
theorem d5_5 : decode prog_45_method_8_code 5 = .ok (.aload_n 0, 1) := by decide +kernel
theorem d5_6 : decode prog_45_method_8_code 6 = .ok (.getfield 7, 3) := by decide +kernel
theorem d5_9 : decode prog_45_method_8_code 9 = .ok (.iastore, 1) := by decide +kernel
theorem d5_10 : decode prog_45_method_8_code 10 = .ok (.dup, 1) := by decide +kernel
theorem d5_11 : decode prog_45_method_8_code 11 = .ok (.iconst 1, 1) := by decide +kernel
theorem d5_12 : decode prog_45_method_8_code 12 = .ok (.aload_n 0, 1) := by decide +kernel
theorem d5_13 : decode prog_45_method_8_code 13 = .ok (.getfield 13, 3) := by decide +kernel
theorem d5_16 : decode prog_45_method_8_code 16 = .ok (.iastore, 1) := by decide +kernel
theorem d5_17 : decode prog_45_method_8_code 17 = .ok (.dup, 1) := by decide +kernel
theorem d5_18 : decode prog_45_method_8_code 18 = .ok (.iconst 2, 1) := by decide +kernel
theorem d5_19 : decode prog_45_method_8_code 19 = .ok (.aload_n 0, 1) := by decide +kernel
theorem d5_20 : decode prog_45_method_8_code 20 = .ok (.getfield 16, 3) := by decide +kernel
theorem d5_23 : decode prog_45_method_8_code 23 = .ok (.iastore, 1) := by decide +kernel
theorem d5_24 : decode prog_45_method_8_code 24 = .ok (.dup, 1) := by decide +kernel
theorem d5_25 : decode prog_45_method_8_code 25 = .ok (.iconst 3, 1) := by decide +kernel
theorem d5_26 : decode prog_45_method_8_code 26 = .ok (.aload_n 0, 1) := by decide +kernel
theorem d5_27 : decode prog_45_method_8_code 27 = .ok (.getfield 19, 3) := by decide +kernel
theorem d5_30 : decode prog_45_method_8_code 30 = .ok (.iastore, 1) := by decide +kernel
theorem d5_31 : decode prog_45_method_8_code 31 = .ok (.areturn, 1) := by decide +kernel
theorem ef_5 (m : MethodId) (x0 : Addr) : entryFrame m #[(.ref x0)] 1 = mkF m 0 #[.val (.ref x0)] [] := by first | (simp [entryFrame, mkF, argsToLocals, Value.category]; done) | rfl
def Q5 (Z : State) (o0 : Addr) (p1 : Int32) (p2 : Int32) (p3 : Int32) (p4 : Int32) (h0 : Heap) (n0 : Nat) (v : Option Value) (h : Heap) (L : List Loc) : Prop := ∃ (nb0 : Addr), ∃ (nk0 : ClassId), v = some (.ref nb0) ∧ Fr n0 L ∧ Keep h0 h [] ∧ h0.size ≤ nb0 ∧ Arv Z h nb0 nk0 .int (4 : Int32) [(.int p1), (.int p2), (.int p3), (.int p4)] (.int (0 : Int32))
set_option maxRecDepth 65536 in
set_option maxHeartbeats 40000000 in
theorem rm5 (l : Launch) (Z : State) (a0 : Array Value) (hw : ∀ d ∈ tables_1, d.before a0 Z = true) (ws : List Jvm.Cond) (o0 : Addr) (p1 : Int32) (p2 : Int32) (p3 : Int32) (p4 : Int32) (h0 : Heap) (n0 : Nat) (Z0 : n0 ≤ h0.size) (F0_o0 : Fld Z h0 o0 "com/example/wallbreak/wallbreak/cardfree/Pattern" "pairs" "I" (.int p1)) (F1_o0 : Fld Z h0 o0 "com/example/wallbreak/wallbreak/cardfree/Pattern" "pungs" "I" (.int p2)) (F2_o0 : Fld Z h0 o0 "com/example/wallbreak/wallbreak/cardfree/Pattern" "kongs" "I" (.int p3)) (F3_o0 : Fld Z h0 o0 "com/example/wallbreak/wallbreak/cardfree/Pattern" "quints" "I" (.int p4)) :
    MetFree l (⟨"com/example/wallbreak/wallbreak/cardfree/Pattern", "bySize", "()[I"⟩ : MethodName) (head1 (Jvm.Cond.code (⟨"com/example/wallbreak/wallbreak/cardfree/Pattern", "bySize", "()[I"⟩ : MethodName) prog_45_method_8_code 1 (some (.array .int)) :: ws) ({ frames := 0, cells := 1, slots := 4, locals := 0 } : Room)) (fun a U => a = #[(.ref o0)] ∧ Z.Warmed39 U.vm ∧ U.heap = h0) (fun _ _ _ _ _ => True) (fun _ U o U' => ∃ v L, o = .returned v ∧ Q5 Z o0 p1 p2 p3 p4 h0 n0 v U'.heap L ∧ FrameEnd U o U' L ({ frames := 0, cells := 1, slots := 4, locals := 0 } : Room).cells ({ frames := 0, cells := 1, slots := 4, locals := 0 } : Room).slots) := by
  refine MetFree.of_bodySF (plainFor_of_name pn_1) hisR ?_
  intro p e s m args below meth c s₁ Bd hml0 hP hK
  obtain ⟨rfl, hZ, hh⟩ := hP
  have hx := Bd.exec
  have hby := Bd.bytes
  have hml : c.maxLocals = 1 := hml0
  have hown : s.vm.findClass "com/example/wallbreak/wallbreak/cardfree/Pattern" = some m.cls := findClass_of_methodNamed Bd.named
  have hnm := (name_of_methodNamed Bd.named Bd.method).1
  have X0 : Stand p l e ({ frames := 0, cells := 1, slots := 4, locals := 0 } : Room) s m #[(.ref o0)] below meth c s₁ [] 0 0 := Stand.of_body Bd
  have e0 : s₁.heap = h0 := by rw [← hh, Bd.state]; rfl
  have N0 := Fr.nil n0
  refine OGl.start (ef_5 m o0) ?_
  show OGl _ _ _ _ s₁ (mkF m 0 #[.val (.ref o0)] [])
  refine OGl.go (fun t k => XS.iconst X0.here hx rfl (hb hby d5_0) k) ?_
  show OGl _ _ _ _ s₁ (mkF m 1 #[.val (.ref o0)] [(.int (4 : Int32))])
  obtain ⟨T28, h28, k28, X28, e28, E28, A28, st28⟩ := newP X0 hx hZ (hw _ (List.mem_of_getElem? (i := 32) rfl)) e0 (g := (mkF m 1 #[.val (.ref o0)] [(.int (4 : Int32))])) rfl (hb hby d5_1) rfl (by decide) (cap := 4) (by decide) (by decide) (by decide) (by decide)
  obtain ⟨b28, gb28⟩ : ∃ z, z = h0.size := ⟨_, rfl⟩
  rw [← gb28] at A28 st28
  have sz_b28 : h0.size ≤ b28 := Nat.le_trans (Keep.refl h0 []).1 (Nat.le_of_eq gb28.symm)
  have g_b28 : n0 ≤ b28 := Nat.le_trans Z0 sz_b28
  have V28 : Arv Z h28 b28 k28 .int (4 : Int32) [(.int (0 : Int32)), (.int (0 : Int32)), (.int (0 : Int32)), (.int (0 : Int32))] (.int (0 : Int32)) := (Arv.new A28 (by decide)).pad (pad_rep [] (.int (0 : Int32)) 4)
  have KK28 : Keep h0 h28 [] := (Keep.refl h0 []).ext E28
  refine OGl.go st28 ?_
  show OGl _ _ _ _ T28 (mkF m 3 #[.val (.ref o0)] [(.ref b28)])
  refine OGl.go (fun t k => XS.dup X28.here hx rfl (hb hby d5_3) rfl rfl (XS.iconst X28.here hx rfl (hb hby d5_4) (XS.aloadN X28.here hx rfl (hb hby d5_5) rfl rfl k))) ?_
  show OGl _ _ _ _ T28 (mkF m 6 #[.val (.ref o0)] [(.ref o0), (.int (0 : Int32)), (.ref b28), (.ref b28)])
  have F29 := (F0_o0.ext E28)
  obtain ⟨T30, X30, e30, st30⟩ := getF X28 hx hZ hown (host := "") (Or.inl (hw _ (List.mem_of_getElem? (i := 15) rfl))) Via.refl e28 F29 (g := (mkF m 6 #[.val (.ref o0)] [(.ref o0), (.int (0 : Int32)), (.ref b28), (.ref b28)])) rfl rfl (hb hby d5_6)
  refine OGl.go st30 ?_
  show OGl _ _ _ _ T30 (mkF m 9 #[.val (.ref o0)] [(.int p1), (.int (0 : Int32)), (.ref b28), (.ref b28)])
  obtain ⟨cl31, Ar31, qk31, Sz31, Nn31, Ha31, Gf31⟩ := id V28
  have hin31 : ¬ ((0 : Int32) < 0 ∨ cl31.slots.size ≤ ((0 : Int32)).toNatClampNeg) := inb_of Sz31 ⟨by decide, by decide⟩
  obtain ⟨T31, h31, X31, e31, W31, st31⟩ := stI X30 hx hZ e30 Ar31 (j := (0 : Int32)) hin31 (g := (mkF m 9 #[.val (.ref o0)] [(.int p1), (.int (0 : Int32)), (.ref b28), (.ref b28)])) rfl rfl (hb hby d5_9)
  have V31 : Arv Z h31 b28 k28 .int (4 : Int32) [(.int p1), (.int (0 : Int32)), (.int (0 : Int32)), (.int (0 : Int32))] (.int (0 : Int32)) := Arv.set Ar31 qk31 Sz31 Nn31 Ha31 Gf31 rfl W31 0 rfl (Nat.le_of_ble_eq_true rfl)
  refine OGl.go st31 ?_
  have N31 := Fr.snoc X31 N0 g_b28
  have KK31 : Keep h0 h31 [] := KK28.wr W31 (Or.inr sz_b28)
  show OGl _ _ _ _ T31 (mkF m 10 #[.val (.ref o0)] [(.ref b28)])
  refine OGl.go (fun t k => XS.dup X31.here hx rfl (hb hby d5_10) rfl rfl (XS.iconst X31.here hx rfl (hb hby d5_11) (XS.aloadN X31.here hx rfl (hb hby d5_12) rfl rfl k))) ?_
  show OGl _ _ _ _ T31 (mkF m 13 #[.val (.ref o0)] [(.ref o0), (.int (1 : Int32)), (.ref b28), (.ref b28)])
  have F32 := ((F1_o0.ext E28).other W31 (Or.inl (Nat.ne_of_lt (Nat.lt_of_lt_of_le F0_o0.lt sz_b28))))
  obtain ⟨T33, X33, e33, st33⟩ := getF X31 hx hZ hown (host := "") (Or.inl (hw _ (List.mem_of_getElem? (i := 17) rfl))) Via.refl e31 F32 (g := (mkF m 13 #[.val (.ref o0)] [(.ref o0), (.int (1 : Int32)), (.ref b28), (.ref b28)])) rfl rfl (hb hby d5_13)
  refine OGl.go st33 ?_
  show OGl _ _ _ _ T33 (mkF m 16 #[.val (.ref o0)] [(.int p2), (.int (1 : Int32)), (.ref b28), (.ref b28)])
  obtain ⟨cl34, Ar34, qk34, Sz34, Nn34, Ha34, Gf34⟩ := id V31
  have hin34 : ¬ ((1 : Int32) < 0 ∨ cl34.slots.size ≤ ((1 : Int32)).toNatClampNeg) := inb_of Sz34 ⟨by decide, by decide⟩
  obtain ⟨T34, h34, X34, e34, W34, st34⟩ := stI X33 hx hZ e33 Ar34 (j := (1 : Int32)) hin34 (g := (mkF m 16 #[.val (.ref o0)] [(.int p2), (.int (1 : Int32)), (.ref b28), (.ref b28)])) rfl rfl (hb hby d5_16)
  have V34 : Arv Z h34 b28 k28 .int (4 : Int32) [(.int p1), (.int p2), (.int (0 : Int32)), (.int (0 : Int32))] (.int (0 : Int32)) := Arv.set Ar34 qk34 Sz34 Nn34 Ha34 Gf34 rfl W34 1 rfl (Nat.le_of_ble_eq_true rfl)
  refine OGl.go st34 ?_
  have N34 := Fr.snoc X34 N31 g_b28
  have KK34 : Keep h0 h34 [] := KK31.wr W34 (Or.inr sz_b28)
  show OGl _ _ _ _ T34 (mkF m 17 #[.val (.ref o0)] [(.ref b28)])
  refine OGl.go (fun t k => XS.dup X34.here hx rfl (hb hby d5_17) rfl rfl (XS.iconst X34.here hx rfl (hb hby d5_18) (XS.aloadN X34.here hx rfl (hb hby d5_19) rfl rfl k))) ?_
  show OGl _ _ _ _ T34 (mkF m 20 #[.val (.ref o0)] [(.ref o0), (.int (2 : Int32)), (.ref b28), (.ref b28)])
  have F35 := (((F2_o0.ext E28).other W31 (Or.inl (Nat.ne_of_lt (Nat.lt_of_lt_of_le F0_o0.lt sz_b28)))).other W34 (Or.inl (Nat.ne_of_lt (Nat.lt_of_lt_of_le F0_o0.lt sz_b28))))
  obtain ⟨T36, X36, e36, st36⟩ := getF X34 hx hZ hown (host := "") (Or.inl (hw _ (List.mem_of_getElem? (i := 19) rfl))) Via.refl e34 F35 (g := (mkF m 20 #[.val (.ref o0)] [(.ref o0), (.int (2 : Int32)), (.ref b28), (.ref b28)])) rfl rfl (hb hby d5_20)
  refine OGl.go st36 ?_
  show OGl _ _ _ _ T36 (mkF m 23 #[.val (.ref o0)] [(.int p3), (.int (2 : Int32)), (.ref b28), (.ref b28)])
  obtain ⟨cl37, Ar37, qk37, Sz37, Nn37, Ha37, Gf37⟩ := id V34
  have hin37 : ¬ ((2 : Int32) < 0 ∨ cl37.slots.size ≤ ((2 : Int32)).toNatClampNeg) := inb_of Sz37 ⟨by decide, by decide⟩
  obtain ⟨T37, h37, X37, e37, W37, st37⟩ := stI X36 hx hZ e36 Ar37 (j := (2 : Int32)) hin37 (g := (mkF m 23 #[.val (.ref o0)] [(.int p3), (.int (2 : Int32)), (.ref b28), (.ref b28)])) rfl rfl (hb hby d5_23)
  have V37 : Arv Z h37 b28 k28 .int (4 : Int32) [(.int p1), (.int p2), (.int p3), (.int (0 : Int32))] (.int (0 : Int32)) := Arv.set Ar37 qk37 Sz37 Nn37 Ha37 Gf37 rfl W37 2 rfl (Nat.le_of_ble_eq_true rfl)
  refine OGl.go st37 ?_
  have N37 := Fr.snoc X37 N34 g_b28
  have KK37 : Keep h0 h37 [] := KK34.wr W37 (Or.inr sz_b28)
  show OGl _ _ _ _ T37 (mkF m 24 #[.val (.ref o0)] [(.ref b28)])
  refine OGl.go (fun t k => XS.dup X37.here hx rfl (hb hby d5_24) rfl rfl (XS.iconst X37.here hx rfl (hb hby d5_25) (XS.aloadN X37.here hx rfl (hb hby d5_26) rfl rfl k))) ?_
  show OGl _ _ _ _ T37 (mkF m 27 #[.val (.ref o0)] [(.ref o0), (.int (3 : Int32)), (.ref b28), (.ref b28)])
  have F38 := ((((F3_o0.ext E28).other W31 (Or.inl (Nat.ne_of_lt (Nat.lt_of_lt_of_le F0_o0.lt sz_b28)))).other W34 (Or.inl (Nat.ne_of_lt (Nat.lt_of_lt_of_le F0_o0.lt sz_b28)))).other W37 (Or.inl (Nat.ne_of_lt (Nat.lt_of_lt_of_le F0_o0.lt sz_b28))))
  obtain ⟨T39, X39, e39, st39⟩ := getF X37 hx hZ hown (host := "") (Or.inl (hw _ (List.mem_of_getElem? (i := 21) rfl))) Via.refl e37 F38 (g := (mkF m 27 #[.val (.ref o0)] [(.ref o0), (.int (3 : Int32)), (.ref b28), (.ref b28)])) rfl rfl (hb hby d5_27)
  refine OGl.go st39 ?_
  show OGl _ _ _ _ T39 (mkF m 30 #[.val (.ref o0)] [(.int p4), (.int (3 : Int32)), (.ref b28), (.ref b28)])
  obtain ⟨cl40, Ar40, qk40, Sz40, Nn40, Ha40, Gf40⟩ := id V37
  have hin40 : ¬ ((3 : Int32) < 0 ∨ cl40.slots.size ≤ ((3 : Int32)).toNatClampNeg) := inb_of Sz40 ⟨by decide, by decide⟩
  obtain ⟨T40, h40, X40, e40, W40, st40⟩ := stI X39 hx hZ e39 Ar40 (j := (3 : Int32)) hin40 (g := (mkF m 30 #[.val (.ref o0)] [(.int p4), (.int (3 : Int32)), (.ref b28), (.ref b28)])) rfl rfl (hb hby d5_30)
  have V40 : Arv Z h40 b28 k28 .int (4 : Int32) [(.int p1), (.int p2), (.int p3), (.int p4)] (.int (0 : Int32)) := Arv.set Ar40 qk40 Sz40 Nn40 Ha40 Gf40 rfl W40 3 rfl (Nat.le_of_ble_eq_true rfl)
  refine OGl.go st40 ?_
  have N40 := Fr.snoc X40 N37 g_b28
  have KK40 : Keep h0 h40 [] := KK37.wr W40 (Or.inr sz_b28)
  show OGl _ _ _ _ T40 (mkF m 31 #[.val (.ref o0)] [(.ref b28)])
  obtain ⟨fs, hr, hrun, hended, hW, hsame⟩ := X40.leave (v := some (.ref b28)) (fun h => by rw [Bd.returns] at h; cases h)
  refine ⟨_, _, retOut X40 hx (t := (.array .int)) Bd.returns rfl (Or.inr (Or.inr (Or.inr (Or.inr ⟨rfl, rfl, rfl⟩)))) (hb hby d5_31) hr, hrun, hended, _, _, rfl, ?_, ⟨_, rfl⟩, hW, hsame.mono (by decide) (by decide)⟩
  show Q5 Z o0 p1 p2 p3 p4 h0 n0 _ T40.heap _
  rw [e40]
  exact ⟨b28, k28, rfl, N40, KK40, sz_b28, V40⟩
theorem pd_2 : parseMethodDescriptor "()[I" = some ⟨[], some (.array .int)⟩ := by decide +kernel
theorem d4_6 : decode prog_45_method_3_code 6 = .ok (.astore_n 2, 1) := by decide +kernel
theorem d4_7 : decode prog_45_method_3_code 7 = .ok (.aload_n 2, 1) := by decide +kernel
theorem d4_8 : decode prog_45_method_3_code 8 = .ok (.arraylength, 1) := by decide +kernel
theorem d4_9 : decode prog_45_method_3_code 9 = .ok (.istore_n 3, 1) := by decide +kernel
theorem d4_10 : decode prog_45_method_3_code 10 = .ok (.iconst 0, 1) := by decide +kernel
theorem d4_11 : decode prog_45_method_3_code 11 = .ok (.istore 4, 2) := by decide +kernel
theorem d4_13 : decode prog_45_method_3_code 13 = .ok (.iload 4, 2) := by decide +kernel
theorem d4_15 : decode prog_45_method_3_code 15 = .ok (.iload_n 3, 1) := by decide +kernel
theorem d4_16 : decode prog_45_method_3_code 16 = .ok (.if_icmp .ge 28, 3) := by decide +kernel
theorem d4_19 : decode prog_45_method_3_code 19 = .ok (.aload_n 2, 1) := by decide +kernel
theorem d4_20 : decode prog_45_method_3_code 20 = .ok (.iload 4, 2) := by decide +kernel
theorem d4_22 : decode prog_45_method_3_code 22 = .ok (.iaload, 1) := by decide +kernel
theorem d4_23 : decode prog_45_method_3_code 23 = .ok (.istore 5, 2) := by decide +kernel
theorem d4_25 : decode prog_45_method_3_code 25 = .ok (.iload_n 1, 1) := by decide +kernel
theorem d4_26 : decode prog_45_method_3_code 26 = .ok (.iload 5, 2) := by decide +kernel
theorem d4_28 : decode prog_45_method_3_code 28 = .ok (.ifCond .le 7, 3) := by decide +kernel
theorem d4_31 : decode prog_45_method_3_code 31 = .ok (.iconst 1, 1) := by decide +kernel
theorem d4_32 : decode prog_45_method_3_code 32 = .ok (.goto 4, 3) := by decide +kernel
theorem d4_35 : decode prog_45_method_3_code 35 = .ok (.iconst 0, 1) := by decide +kernel
theorem d4_36 : decode prog_45_method_3_code 36 = .ok (.iadd, 1) := by decide +kernel
theorem d4_37 : decode prog_45_method_3_code 37 = .ok (.istore_n 1, 1) := by decide +kernel
theorem d4_38 : decode prog_45_method_3_code 38 = .ok (.iinc 4 1, 3) := by decide +kernel
theorem d4_41 : decode prog_45_method_3_code 41 = .ok (.goto (-28), 3) := by decide +kernel
theorem d4_44 : decode prog_45_method_3_code 44 = .ok (.iload_n 1, 1) := by decide +kernel
theorem d4_45 : decode prog_45_method_3_code 45 = .ok (.ireturn, 1) := by decide +kernel
def e4_0 (p1 : Int32) : Int32 := ((0 : Int32) + (if (0 : Int32) < p1 then (1 : Int32) else (0 : Int32)))
def e4_1 (p1 : Int32) (p2 : Int32) (p3 : Int32) : Int32 := (((e4_0 p1) + (if (0 : Int32) < p2 then (1 : Int32) else (0 : Int32))) + (if (0 : Int32) < p3 then (1 : Int32) else (0 : Int32)))
def e4_2 (p1 : Int32) (p2 : Int32) (p3 : Int32) (p4 : Int32) : Int32 := ((e4_1 p1 p2 p3) + (if (0 : Int32) < p4 then (1 : Int32) else (0 : Int32)))
theorem ef_4 (m : MethodId) (x0 : Addr) : entryFrame m #[(.ref x0)] 6 = mkF m 0 #[.val (.ref x0), .unset, .unset, .unset, .unset, .unset] [] := by first | (simp [entryFrame, mkF, argsToLocals, Value.category]; done) | rfl
def Q4 (Z : State) (o0 : Addr) (p1 : Int32) (p2 : Int32) (p3 : Int32) (p4 : Int32) (h0 : Heap) (n0 : Nat) (v : Option Value) (h : Heap) (L : List Loc) : Prop := v = some (.int (e4_2 p1 p2 p3 p4)) ∧ Fr n0 L ∧ Keep h0 h []
set_option maxRecDepth 65536 in
set_option maxHeartbeats 40000000 in
theorem rm4 (l : Launch) (Z : State) (a0 : Array Value) (hw : ∀ d ∈ tables_1, d.before a0 Z = true) (ws : List Jvm.Cond) (o0 : Addr) (p1 : Int32) (p2 : Int32) (p3 : Int32) (p4 : Int32) (h0 : Heap) (n0 : Nat) (Z0 : n0 ≤ h0.size) (E_o0 : Exa Z h0 o0 "com/example/wallbreak/wallbreak/cardfree/Pattern") (F1_o0 : Fld Z h0 o0 "com/example/wallbreak/wallbreak/cardfree/Pattern" "pairs" "I" (.int p1)) (F2_o0 : Fld Z h0 o0 "com/example/wallbreak/wallbreak/cardfree/Pattern" "pungs" "I" (.int p2)) (F3_o0 : Fld Z h0 o0 "com/example/wallbreak/wallbreak/cardfree/Pattern" "kongs" "I" (.int p3)) (F4_o0 : Fld Z h0 o0 "com/example/wallbreak/wallbreak/cardfree/Pattern" "quints" "I" (.int p4)) :
    MetFree l (⟨"com/example/wallbreak/wallbreak/cardfree/Pattern", "sizes", "()I"⟩ : MethodName) (head1 (Jvm.Cond.code (⟨"com/example/wallbreak/wallbreak/cardfree/Pattern", "sizes", "()I"⟩ : MethodName) prog_45_method_3_code 6 (some .int) :: ws) ({ frames := 1, cells := 1, slots := 4, locals := 12 } : Room)) (fun a U => a = #[(.ref o0)] ∧ Z.Warmed39 U.vm ∧ U.heap = h0) (fun _ _ _ _ _ => True) (fun _ U o U' => ∃ v L, o = .returned v ∧ Q4 Z o0 p1 p2 p3 p4 h0 n0 v U'.heap L ∧ FrameEnd U o U' L ({ frames := 1, cells := 1, slots := 4, locals := 12 } : Room).cells ({ frames := 1, cells := 1, slots := 4, locals := 12 } : Room).slots) := by
  refine MetFree.of_bodySF (plainFor_of_name pn_1) hisR ?_
  intro p e s m args below meth c s₁ Bd hml0 hP hK
  obtain ⟨rfl, hZ, hh⟩ := hP
  have hx := Bd.exec
  have hby := Bd.bytes
  have hml : c.maxLocals = 6 := hml0
  have hown : s.vm.findClass "com/example/wallbreak/wallbreak/cardfree/Pattern" = some m.cls := findClass_of_methodNamed Bd.named
  have hnm := (name_of_methodNamed Bd.named Bd.method).1
  have X0 : Stand p l e ({ frames := 1, cells := 1, slots := 4, locals := 12 } : Room) s m #[(.ref o0)] below meth c s₁ [] 0 0 := Stand.of_body Bd
  have e0 : s₁.heap = h0 := by rw [← hh, Bd.state]; rfl
  have N0 := Fr.nil n0
  refine OGl.start (ef_4 m o0) ?_
  show OGl _ _ _ _ s₁ (mkF m 0 #[.val (.ref o0), .unset, .unset, .unset, .unset, .unset] [])
  refine OGl.go (fun t k => XS.iconst X0.here hx rfl (hb hby d4_0) (XS.istoreN X0.here hx rfl (hb hby d4_1) rfl (l' := #[.val (.ref o0), .val (.int (0 : Int32)), .unset, .unset, .unset, .unset]) rfl (XS.aloadN X0.here hx rfl (hb hby d4_2) rfl rfl k))) ?_
  show OGl _ _ _ _ s₁ (mkF m 3 #[.val (.ref o0), .val (.int (0 : Int32)), .unset, .unset, .unset, .unset] [(.ref o0)])
  obtain ⟨cq27, q27a, q27b⟩ := (E_o0).cell
  obtain ⟨_, _, ⟨T27, L27, kk27, n27⟩, -, X27, ⟨Lc27, hQ27, l27, y27, z27⟩, st27⟩ := X0.privateBack hx (y := (⟨"com/example/wallbreak/wallbreak/cardfree/Pattern", "bySize", "()[I"⟩ : MethodName)) hown (mvT hZ (hw _ (List.mem_of_getElem? (i := 28) rfl))) (mvT hZ (hw _ (List.mem_of_getElem? (i := 29) rfl))) (own_selPriv (y := (⟨"com/example/wallbreak/wallbreak/cardfree/Pattern", "bySize", "()[I"⟩ : MethodName)) (Cond.privateMethod_at (mvP hZ (hw _ (List.mem_of_getElem? (i := 30) rfl)) (args := #[]))) (mvT hZ (hw _ (List.mem_of_getElem? (i := 29) rfl))) (mvT hZ (hw _ (List.mem_of_getElem? (i := 26) rfl))) rfl) (Cond.privateMethod_at (mvP hZ (hw _ (List.mem_of_getElem? (i := 30) rfl)) (args := #[]))) (mvT hZ (hw _ (List.mem_of_getElem? (i := 31) rfl))) (by decide) (backOf (W := 0) (rm5 l Z a0 hw [] o0 p1 p2 p3 p4 h0 n0 Z0 F1_o0 F2_o0 F3_o0 F4_o0) hZ (hw _ (List.mem_of_getElem? (i := 31) rfl)) (hw _ (List.mem_of_getElem? (i := 3) rfl)) (by decide) (by decide)) (g := (mkF m 3 #[.val (.ref o0), .val (.int (0 : Int32)), .unset, .unset, .unset, .unset] [(.ref o0)])) rfl (by rw [hml]; rfl) (Steps.refl _) (a := o0) (by rw [e0]; exact q27a) q27b (argsL := []) (rest := []) (lenOf pd_2 rfl) rfl (by show 2 * 0 + _ ≤ _; exact Nat.le_of_eq rfl) (hb hby d4_3) (fun _ _ => ⟨rfl, e0, (by decide : 0 + 1 ≤ _), (by decide : 0 + 4 ≤ _)⟩)
  dsimp only [Pt.U, Pt.locs, Pt.cells, Pt.slots] at X27 l27 y27 z27 st27 hQ27
  subst l27 y27 z27
  obtain ⟨b27_0, kb27_1, rfl, Nq27, K27, sb_b27_0, Fq27_0⟩ := hQ27
  have sz_b27_0 : h0.size ≤ b27_0 := Nat.le_trans (Keep.refl h0 []).1 sb_b27_0
  have g_b27_0 : n0 ≤ b27_0 := Nat.le_trans Z0 sz_b27_0
  have KK27 : Keep h0 T27.heap [] := (Keep.refl h0 []).trans K27 all0
  have N27 := Fr.app N0 Nq27
  refine OGl.go (fun t k => st27.trans k) ?_
  show OGl _ _ _ _ T27 (mkF m 6 #[.val (.ref o0), .val (.int (0 : Int32)), .unset, .unset, .unset, .unset] [(.ref b27_0)])
  obtain ⟨cl41, Ar41, -, Sz41, Nn41, -, -⟩ := id Fq27_0
  refine OGl.go (fun t k => XS.astoreN X27.here hx rfl (hb hby d4_6) rfl rfl (l' := #[.val (.ref o0), .val (.int (0 : Int32)), .val (.ref b27_0), .unset, .unset, .unset]) rfl (XS.aloadN X27.here hx rfl (hb hby d4_7) rfl rfl (own_len X27 hx Ar41.1 (State.isArrayOf_alike hZ.alike Ar41.2.1) Sz41 Nn41 rfl rfl (hb hby d4_8) (XS.istoreN X27.here hx rfl (hb hby d4_9) rfl (l' := #[.val (.ref o0), .val (.int (0 : Int32)), .val (.ref b27_0), .val (.int (4 : Int32)), .unset, .unset]) rfl (XS.iconst X27.here hx rfl (hb hby d4_10) (XS.istore X27.here hx rfl (hb hby d4_11) rfl (l' := #[.val (.ref o0), .val (.int (0 : Int32)), .val (.ref b27_0), .val (.int (4 : Int32)), .val (.int (0 : Int32)), .unset]) rfl (XS.iload X27.here hx rfl (hb hby d4_13) rfl (XS.iloadN X27.here hx rfl (hb hby d4_15) rfl k)))))))) ?_
  show OGl _ _ _ _ T27 (mkF m 16 #[.val (.ref o0), .val (.int (0 : Int32)), .val (.ref b27_0), .val (.int (4 : Int32)), .val (.int (0 : Int32)), .unset] [(.int (4 : Int32)), (.int (0 : Int32))])
  obtain ⟨cl42, Ar42, -, Sz42, -, Ha42, -⟩ := id Fq27_0
  have hin42 : ¬ ((0 : Int32) < 0 ∨ cl42.slots.size ≤ ((0 : Int32)).toNatClampNeg) := inb_of Sz42 ⟨by decide, by decide⟩
  refine OGl.go (fun t k => XS.icmpNo X27.here hx rfl (hb hby d4_16) rfl (tlt (by decide : (0 : Int32) < (4 : Int32))).2.1 (XS.aloadN X27.here hx rfl (hb hby d4_19) rfl rfl (XS.iload X27.here hx rfl (hb hby d4_20) rfl (own_iaload X27 hx (j := (0 : Int32)) (v := (.int p1)) Ar42.1 (State.isArrayOf_alike hZ.alike Ar42.2.1) Ar42.2.2 hin42 (Has.at Ha42 hin42 rfl) rfl rfl (hb hby d4_22) (XS.istore X27.here hx rfl (hb hby d4_23) rfl (l' := #[.val (.ref o0), .val (.int (0 : Int32)), .val (.ref b27_0), .val (.int (4 : Int32)), .val (.int (0 : Int32)), .val (.int p1)]) rfl (XS.iloadN X27.here hx rfl (hb hby d4_25) rfl (XS.iload X27.here hx rfl (hb hby d4_26) rfl k))))))) ?_
  show OGl _ _ _ _ T27 (mkF m 28 #[.val (.ref o0), .val (.int (0 : Int32)), .val (.ref b27_0), .val (.int (4 : Int32)), .val (.int (0 : Int32)), .val (.int p1)] [(.int p1), (.int (0 : Int32))])
  have m43 : ∀ t, Steps p.tables e below (T27.setTop (mkF m 36 #[.val (.ref o0), .val (.int (0 : Int32)), .val (.ref b27_0), .val (.int (4 : Int32)), .val (.int (0 : Int32)), .val (.int p1)] [(.int (if (0 : Int32) < p1 then (1 : Int32) else (0 : Int32))), (.int (0 : Int32))])) t → Steps p.tables e below (T27.setTop (mkF m 28 #[.val (.ref o0), .val (.int (0 : Int32)), .val (.ref b27_0), .val (.int (4 : Int32)), .val (.int (0 : Int32)), .val (.int p1)] [(.int p1), (.int (0 : Int32))])) t := by
    intro t k
    by_cases hm43 : (0 : Int32) < p1
    · rw [show (if (0 : Int32) < p1 then (1 : Int32) else (0 : Int32)) = (1 : Int32) from if_pos hm43] at k
      refine XS.ifNo X27.here hx rfl (hb hby d4_28) rfl ((if0 _ _).trans (tlt hm43).2.2.2) (XS.iconst X27.here hx rfl (hb hby d4_31) (XS.goto X27.here hx rfl (pc0 := 32) (pc' := 36) rfl (hb hby d4_32) (by decide) (by decide) ?_))
      show Steps _ _ _ (T27.setTop (mkF m 36 #[.val (.ref o0), .val (.int (0 : Int32)), .val (.ref b27_0), .val (.int (4 : Int32)), .val (.int (0 : Int32)), .val (.int p1)] [(.int (1 : Int32)), (.int (0 : Int32))])) _
      exact k
    · rw [show (if (0 : Int32) < p1 then (1 : Int32) else (0 : Int32)) = (0 : Int32) from if_neg hm43] at k
      refine XS.ifYes X27.here hx rfl (pc0 := 28) (pc' := 35) rfl (hb hby d4_28) rfl ((if0 _ _).trans (flt hm43).2.2.2) (by decide) (by decide) (XS.iconst X27.here hx rfl (hb hby d4_35) ?_)
      show Steps _ _ _ (T27.setTop (mkF m 36 #[.val (.ref o0), .val (.int (0 : Int32)), .val (.ref b27_0), .val (.int (4 : Int32)), .val (.int (0 : Int32)), .val (.int p1)] [(.int (0 : Int32)), (.int (0 : Int32))])) _
      exact k
  refine OGl.go (fun t k => m43 _ (XS.iadd X27.here hx rfl (hb hby d4_36) rfl (XS.istoreN X27.here hx rfl (hb hby d4_37) rfl (l' := #[.val (.ref o0), .val (.int (e4_0 p1)), .val (.ref b27_0), .val (.int (4 : Int32)), .val (.int (0 : Int32)), .val (.int p1)]) rfl (XS.iinc X27.here hx rfl (hb hby d4_38) rfl (l' := #[.val (.ref o0), .val (.int (e4_0 p1)), .val (.ref b27_0), .val (.int (4 : Int32)), .val (.int (1 : Int32)), .val (.int p1)]) rfl (XS.goto X27.here hx rfl (pc0 := 41) (pc' := 13) rfl (hb hby d4_41) (by decide) (by decide) (XS.iload X27.here hx rfl (hb hby d4_13) rfl (XS.iloadN X27.here hx rfl (hb hby d4_15) rfl (XS.icmpNo X27.here hx rfl (hb hby d4_16) rfl (tlt (by decide : (1 : Int32) < (4 : Int32))).2.1 k)))))))) ?_
  show OGl _ _ _ _ T27 (mkF m 19 #[.val (.ref o0), .val (.int (e4_0 p1)), .val (.ref b27_0), .val (.int (4 : Int32)), .val (.int (1 : Int32)), .val (.int p1)] [])
  obtain ⟨cl44, Ar44, -, Sz44, -, Ha44, -⟩ := id Fq27_0
  have hin44 : ¬ ((1 : Int32) < 0 ∨ cl44.slots.size ≤ ((1 : Int32)).toNatClampNeg) := inb_of Sz44 ⟨by decide, by decide⟩
  refine OGl.go (fun t k => XS.aloadN X27.here hx rfl (hb hby d4_19) rfl rfl (XS.iload X27.here hx rfl (hb hby d4_20) rfl (own_iaload X27 hx (j := (1 : Int32)) (v := (.int p2)) Ar44.1 (State.isArrayOf_alike hZ.alike Ar44.2.1) Ar44.2.2 hin44 (Has.at Ha44 hin44 rfl) rfl rfl (hb hby d4_22) (XS.istore X27.here hx rfl (hb hby d4_23) rfl (l' := #[.val (.ref o0), .val (.int (e4_0 p1)), .val (.ref b27_0), .val (.int (4 : Int32)), .val (.int (1 : Int32)), .val (.int p2)]) rfl (XS.iloadN X27.here hx rfl (hb hby d4_25) rfl (XS.iload X27.here hx rfl (hb hby d4_26) rfl k)))))) ?_
  show OGl _ _ _ _ T27 (mkF m 28 #[.val (.ref o0), .val (.int (e4_0 p1)), .val (.ref b27_0), .val (.int (4 : Int32)), .val (.int (1 : Int32)), .val (.int p2)] [(.int p2), (.int (e4_0 p1))])
  have m45 : ∀ t, Steps p.tables e below (T27.setTop (mkF m 36 #[.val (.ref o0), .val (.int (e4_0 p1)), .val (.ref b27_0), .val (.int (4 : Int32)), .val (.int (1 : Int32)), .val (.int p2)] [(.int (if (0 : Int32) < p2 then (1 : Int32) else (0 : Int32))), (.int (e4_0 p1))])) t → Steps p.tables e below (T27.setTop (mkF m 28 #[.val (.ref o0), .val (.int (e4_0 p1)), .val (.ref b27_0), .val (.int (4 : Int32)), .val (.int (1 : Int32)), .val (.int p2)] [(.int p2), (.int (e4_0 p1))])) t := by
    intro t k
    by_cases hm45 : (0 : Int32) < p2
    · rw [show (if (0 : Int32) < p2 then (1 : Int32) else (0 : Int32)) = (1 : Int32) from if_pos hm45] at k
      refine XS.ifNo X27.here hx rfl (hb hby d4_28) rfl ((if0 _ _).trans (tlt hm45).2.2.2) (XS.iconst X27.here hx rfl (hb hby d4_31) (XS.goto X27.here hx rfl (pc0 := 32) (pc' := 36) rfl (hb hby d4_32) (by decide) (by decide) ?_))
      show Steps _ _ _ (T27.setTop (mkF m 36 #[.val (.ref o0), .val (.int (e4_0 p1)), .val (.ref b27_0), .val (.int (4 : Int32)), .val (.int (1 : Int32)), .val (.int p2)] [(.int (1 : Int32)), (.int (e4_0 p1))])) _
      exact k
    · rw [show (if (0 : Int32) < p2 then (1 : Int32) else (0 : Int32)) = (0 : Int32) from if_neg hm45] at k
      refine XS.ifYes X27.here hx rfl (pc0 := 28) (pc' := 35) rfl (hb hby d4_28) rfl ((if0 _ _).trans (flt hm45).2.2.2) (by decide) (by decide) (XS.iconst X27.here hx rfl (hb hby d4_35) ?_)
      show Steps _ _ _ (T27.setTop (mkF m 36 #[.val (.ref o0), .val (.int (e4_0 p1)), .val (.ref b27_0), .val (.int (4 : Int32)), .val (.int (1 : Int32)), .val (.int p2)] [(.int (0 : Int32)), (.int (e4_0 p1))])) _
      exact k
  refine OGl.go (fun t k => m45 _ (XS.iadd X27.here hx rfl (hb hby d4_36) rfl (XS.istoreN X27.here hx rfl (hb hby d4_37) rfl (l' := #[.val (.ref o0), .val (.int ((e4_0 p1) + (if (0 : Int32) < p2 then (1 : Int32) else (0 : Int32)))), .val (.ref b27_0), .val (.int (4 : Int32)), .val (.int (1 : Int32)), .val (.int p2)]) rfl (XS.iinc X27.here hx rfl (hb hby d4_38) rfl (l' := #[.val (.ref o0), .val (.int ((e4_0 p1) + (if (0 : Int32) < p2 then (1 : Int32) else (0 : Int32)))), .val (.ref b27_0), .val (.int (4 : Int32)), .val (.int (2 : Int32)), .val (.int p2)]) rfl (XS.goto X27.here hx rfl (pc0 := 41) (pc' := 13) rfl (hb hby d4_41) (by decide) (by decide) (XS.iload X27.here hx rfl (hb hby d4_13) rfl (XS.iloadN X27.here hx rfl (hb hby d4_15) rfl (XS.icmpNo X27.here hx rfl (hb hby d4_16) rfl (tlt (by decide : (2 : Int32) < (4 : Int32))).2.1 k)))))))) ?_
  show OGl _ _ _ _ T27 (mkF m 19 #[.val (.ref o0), .val (.int ((e4_0 p1) + (if (0 : Int32) < p2 then (1 : Int32) else (0 : Int32)))), .val (.ref b27_0), .val (.int (4 : Int32)), .val (.int (2 : Int32)), .val (.int p2)] [])
  obtain ⟨cl46, Ar46, -, Sz46, -, Ha46, -⟩ := id Fq27_0
  have hin46 : ¬ ((2 : Int32) < 0 ∨ cl46.slots.size ≤ ((2 : Int32)).toNatClampNeg) := inb_of Sz46 ⟨by decide, by decide⟩
  refine OGl.go (fun t k => XS.aloadN X27.here hx rfl (hb hby d4_19) rfl rfl (XS.iload X27.here hx rfl (hb hby d4_20) rfl (own_iaload X27 hx (j := (2 : Int32)) (v := (.int p3)) Ar46.1 (State.isArrayOf_alike hZ.alike Ar46.2.1) Ar46.2.2 hin46 (Has.at Ha46 hin46 rfl) rfl rfl (hb hby d4_22) (XS.istore X27.here hx rfl (hb hby d4_23) rfl (l' := #[.val (.ref o0), .val (.int ((e4_0 p1) + (if (0 : Int32) < p2 then (1 : Int32) else (0 : Int32)))), .val (.ref b27_0), .val (.int (4 : Int32)), .val (.int (2 : Int32)), .val (.int p3)]) rfl (XS.iloadN X27.here hx rfl (hb hby d4_25) rfl (XS.iload X27.here hx rfl (hb hby d4_26) rfl k)))))) ?_
  show OGl _ _ _ _ T27 (mkF m 28 #[.val (.ref o0), .val (.int ((e4_0 p1) + (if (0 : Int32) < p2 then (1 : Int32) else (0 : Int32)))), .val (.ref b27_0), .val (.int (4 : Int32)), .val (.int (2 : Int32)), .val (.int p3)] [(.int p3), (.int ((e4_0 p1) + (if (0 : Int32) < p2 then (1 : Int32) else (0 : Int32))))])
  have m47 : ∀ t, Steps p.tables e below (T27.setTop (mkF m 36 #[.val (.ref o0), .val (.int ((e4_0 p1) + (if (0 : Int32) < p2 then (1 : Int32) else (0 : Int32)))), .val (.ref b27_0), .val (.int (4 : Int32)), .val (.int (2 : Int32)), .val (.int p3)] [(.int (if (0 : Int32) < p3 then (1 : Int32) else (0 : Int32))), (.int ((e4_0 p1) + (if (0 : Int32) < p2 then (1 : Int32) else (0 : Int32))))])) t → Steps p.tables e below (T27.setTop (mkF m 28 #[.val (.ref o0), .val (.int ((e4_0 p1) + (if (0 : Int32) < p2 then (1 : Int32) else (0 : Int32)))), .val (.ref b27_0), .val (.int (4 : Int32)), .val (.int (2 : Int32)), .val (.int p3)] [(.int p3), (.int ((e4_0 p1) + (if (0 : Int32) < p2 then (1 : Int32) else (0 : Int32))))])) t := by
    intro t k
    by_cases hm47 : (0 : Int32) < p3
    · rw [show (if (0 : Int32) < p3 then (1 : Int32) else (0 : Int32)) = (1 : Int32) from if_pos hm47] at k
      refine XS.ifNo X27.here hx rfl (hb hby d4_28) rfl ((if0 _ _).trans (tlt hm47).2.2.2) (XS.iconst X27.here hx rfl (hb hby d4_31) (XS.goto X27.here hx rfl (pc0 := 32) (pc' := 36) rfl (hb hby d4_32) (by decide) (by decide) ?_))
      show Steps _ _ _ (T27.setTop (mkF m 36 #[.val (.ref o0), .val (.int ((e4_0 p1) + (if (0 : Int32) < p2 then (1 : Int32) else (0 : Int32)))), .val (.ref b27_0), .val (.int (4 : Int32)), .val (.int (2 : Int32)), .val (.int p3)] [(.int (1 : Int32)), (.int ((e4_0 p1) + (if (0 : Int32) < p2 then (1 : Int32) else (0 : Int32))))])) _
      exact k
    · rw [show (if (0 : Int32) < p3 then (1 : Int32) else (0 : Int32)) = (0 : Int32) from if_neg hm47] at k
      refine XS.ifYes X27.here hx rfl (pc0 := 28) (pc' := 35) rfl (hb hby d4_28) rfl ((if0 _ _).trans (flt hm47).2.2.2) (by decide) (by decide) (XS.iconst X27.here hx rfl (hb hby d4_35) ?_)
      show Steps _ _ _ (T27.setTop (mkF m 36 #[.val (.ref o0), .val (.int ((e4_0 p1) + (if (0 : Int32) < p2 then (1 : Int32) else (0 : Int32)))), .val (.ref b27_0), .val (.int (4 : Int32)), .val (.int (2 : Int32)), .val (.int p3)] [(.int (0 : Int32)), (.int ((e4_0 p1) + (if (0 : Int32) < p2 then (1 : Int32) else (0 : Int32))))])) _
      exact k
  refine OGl.go (fun t k => m47 _ (XS.iadd X27.here hx rfl (hb hby d4_36) rfl (XS.istoreN X27.here hx rfl (hb hby d4_37) rfl (l' := #[.val (.ref o0), .val (.int (e4_1 p1 p2 p3)), .val (.ref b27_0), .val (.int (4 : Int32)), .val (.int (2 : Int32)), .val (.int p3)]) rfl (XS.iinc X27.here hx rfl (hb hby d4_38) rfl (l' := #[.val (.ref o0), .val (.int (e4_1 p1 p2 p3)), .val (.ref b27_0), .val (.int (4 : Int32)), .val (.int (3 : Int32)), .val (.int p3)]) rfl (XS.goto X27.here hx rfl (pc0 := 41) (pc' := 13) rfl (hb hby d4_41) (by decide) (by decide) (XS.iload X27.here hx rfl (hb hby d4_13) rfl (XS.iloadN X27.here hx rfl (hb hby d4_15) rfl (XS.icmpNo X27.here hx rfl (hb hby d4_16) rfl (tlt (by decide : (3 : Int32) < (4 : Int32))).2.1 k)))))))) ?_
  show OGl _ _ _ _ T27 (mkF m 19 #[.val (.ref o0), .val (.int (e4_1 p1 p2 p3)), .val (.ref b27_0), .val (.int (4 : Int32)), .val (.int (3 : Int32)), .val (.int p3)] [])
  obtain ⟨cl48, Ar48, -, Sz48, -, Ha48, -⟩ := id Fq27_0
  have hin48 : ¬ ((3 : Int32) < 0 ∨ cl48.slots.size ≤ ((3 : Int32)).toNatClampNeg) := inb_of Sz48 ⟨by decide, by decide⟩
  refine OGl.go (fun t k => XS.aloadN X27.here hx rfl (hb hby d4_19) rfl rfl (XS.iload X27.here hx rfl (hb hby d4_20) rfl (own_iaload X27 hx (j := (3 : Int32)) (v := (.int p4)) Ar48.1 (State.isArrayOf_alike hZ.alike Ar48.2.1) Ar48.2.2 hin48 (Has.at Ha48 hin48 rfl) rfl rfl (hb hby d4_22) (XS.istore X27.here hx rfl (hb hby d4_23) rfl (l' := #[.val (.ref o0), .val (.int (e4_1 p1 p2 p3)), .val (.ref b27_0), .val (.int (4 : Int32)), .val (.int (3 : Int32)), .val (.int p4)]) rfl (XS.iloadN X27.here hx rfl (hb hby d4_25) rfl (XS.iload X27.here hx rfl (hb hby d4_26) rfl k)))))) ?_
  show OGl _ _ _ _ T27 (mkF m 28 #[.val (.ref o0), .val (.int (e4_1 p1 p2 p3)), .val (.ref b27_0), .val (.int (4 : Int32)), .val (.int (3 : Int32)), .val (.int p4)] [(.int p4), (.int (e4_1 p1 p2 p3))])
  have m49 : ∀ t, Steps p.tables e below (T27.setTop (mkF m 36 #[.val (.ref o0), .val (.int (e4_1 p1 p2 p3)), .val (.ref b27_0), .val (.int (4 : Int32)), .val (.int (3 : Int32)), .val (.int p4)] [(.int (if (0 : Int32) < p4 then (1 : Int32) else (0 : Int32))), (.int (e4_1 p1 p2 p3))])) t → Steps p.tables e below (T27.setTop (mkF m 28 #[.val (.ref o0), .val (.int (e4_1 p1 p2 p3)), .val (.ref b27_0), .val (.int (4 : Int32)), .val (.int (3 : Int32)), .val (.int p4)] [(.int p4), (.int (e4_1 p1 p2 p3))])) t := by
    intro t k
    by_cases hm49 : (0 : Int32) < p4
    · rw [show (if (0 : Int32) < p4 then (1 : Int32) else (0 : Int32)) = (1 : Int32) from if_pos hm49] at k
      refine XS.ifNo X27.here hx rfl (hb hby d4_28) rfl ((if0 _ _).trans (tlt hm49).2.2.2) (XS.iconst X27.here hx rfl (hb hby d4_31) (XS.goto X27.here hx rfl (pc0 := 32) (pc' := 36) rfl (hb hby d4_32) (by decide) (by decide) ?_))
      show Steps _ _ _ (T27.setTop (mkF m 36 #[.val (.ref o0), .val (.int (e4_1 p1 p2 p3)), .val (.ref b27_0), .val (.int (4 : Int32)), .val (.int (3 : Int32)), .val (.int p4)] [(.int (1 : Int32)), (.int (e4_1 p1 p2 p3))])) _
      exact k
    · rw [show (if (0 : Int32) < p4 then (1 : Int32) else (0 : Int32)) = (0 : Int32) from if_neg hm49] at k
      refine XS.ifYes X27.here hx rfl (pc0 := 28) (pc' := 35) rfl (hb hby d4_28) rfl ((if0 _ _).trans (flt hm49).2.2.2) (by decide) (by decide) (XS.iconst X27.here hx rfl (hb hby d4_35) ?_)
      show Steps _ _ _ (T27.setTop (mkF m 36 #[.val (.ref o0), .val (.int (e4_1 p1 p2 p3)), .val (.ref b27_0), .val (.int (4 : Int32)), .val (.int (3 : Int32)), .val (.int p4)] [(.int (0 : Int32)), (.int (e4_1 p1 p2 p3))])) _
      exact k
  refine OGl.go (fun t k => m49 _ (XS.iadd X27.here hx rfl (hb hby d4_36) rfl (XS.istoreN X27.here hx rfl (hb hby d4_37) rfl (l' := #[.val (.ref o0), .val (.int (e4_2 p1 p2 p3 p4)), .val (.ref b27_0), .val (.int (4 : Int32)), .val (.int (3 : Int32)), .val (.int p4)]) rfl (XS.iinc X27.here hx rfl (hb hby d4_38) rfl (l' := #[.val (.ref o0), .val (.int (e4_2 p1 p2 p3 p4)), .val (.ref b27_0), .val (.int (4 : Int32)), .val (.int (4 : Int32)), .val (.int p4)]) rfl (XS.goto X27.here hx rfl (pc0 := 41) (pc' := 13) rfl (hb hby d4_41) (by decide) (by decide) (XS.iload X27.here hx rfl (hb hby d4_13) rfl (XS.iloadN X27.here hx rfl (hb hby d4_15) rfl (XS.icmpYes X27.here hx rfl (pc0 := 16) (pc' := 44) rfl (hb hby d4_16) rfl (flt (by decide : ¬ ((4 : Int32) < (4 : Int32)))).2.1 (by decide) (by decide) k)))))))) ?_
  show OGl _ _ _ _ T27 (mkF m 44 #[.val (.ref o0), .val (.int (e4_2 p1 p2 p3 p4)), .val (.ref b27_0), .val (.int (4 : Int32)), .val (.int (4 : Int32)), .val (.int p4)] [])
  refine OGl.go (fun t k => XS.iloadN X27.here hx rfl (hb hby d4_44) rfl k) ?_
  show OGl _ _ _ _ T27 (mkF m 45 #[.val (.ref o0), .val (.int (e4_2 p1 p2 p3 p4)), .val (.ref b27_0), .val (.int (4 : Int32)), .val (.int (4 : Int32)), .val (.int p4)] [(.int (e4_2 p1 p2 p3 p4))])
  obtain ⟨fs, hr, hrun, hended, hW, hsame⟩ := X27.leave (v := some (.int (e4_2 p1 p2 p3 p4))) (fun h => by rw [Bd.returns] at h; cases h)
  refine ⟨_, _, retI X27 hx Bd.returns (hb hby d4_45) hr, hrun, hended, _, _, rfl, ?_, ⟨_, rfl⟩, hW, hsame.mono (by decide) (by decide)⟩
  show Q4 Z o0 p1 p2 p3 p4 h0 n0 _ T27.heap _
  exact ⟨rfl, N27, KK27⟩
theorem pd_3 : parseMethodDescriptor "()I" = some ⟨[], some .int⟩ := by decide +kernel
def e0_0 (p0 : Int32) : Int32 := (if (p0 &&& (2147483647 : Int32)) = (0 : Int32) then (0 : Int32) else (1 : Int32))
def e0_1 (p0 : Int32) (p1 : Int32) : Int32 := (if (p1 &&& (2147483647 : Int32)) = (0 : Int32) then (e0_0 p0) else ((e0_0 p0) + (1 : Int32)))
def e0_2 (p0 : Int32) (p1 : Int32) (p2 : Int32) : Int32 := (if (p2 &&& (2147483647 : Int32)) = (0 : Int32) then (e0_1 p0 p1) else ((e0_1 p0 p1) + (1 : Int32)))
def e0_3 (p0 : Int32) (p1 : Int32) (p2 : Int32) (p3 : Int32) : Int32 := (if (p3 &&& (2147483647 : Int32)) = (0 : Int32) then (e0_2 p0 p1 p2) else ((e0_2 p0 p1 p2) + (1 : Int32)))
def e0_4 (p0 : Int32) (p1 : Int32) (p2 : Int32) (p3 : Int32) : Int32 := (e4_2 (p0 &&& (2147483647 : Int32)) (p1 &&& (2147483647 : Int32)) (p2 &&& (2147483647 : Int32)) (p3 &&& (2147483647 : Int32)))
theorem ef_0 (m : MethodId) (x0 : Int32) (x1 : Int32) (x2 : Int32) (x3 : Int32) : entryFrame m #[(.int x0), (.int x1), (.int x2), (.int x3)] maxLocals = mkF m 0 #[.val (.int x0), .val (.int x1), .val (.int x2), .val (.int x3), .unset, .unset, .unset, .unset, .unset, .unset] [] := by first | (simp [entryFrame, mkF, argsToLocals, Value.category, maxLocals]; done) | rfl
theorem pn_2 : plainName "com/example/wallbreak/wallbreak/cardfree/PatternSizesPinLaw" = true := by first | (simp [plainName, overriddenIn]; done) | decide +kernel
def t0_0 (p0 : Int32) (p1 : Int32) (p2 : Int32) (p3 : Int32) : Int32 := (if (e0_4 p0 p1 p2 p3) = (e0_3 p0 p1 p2 p3) then (1 : Int32) else (0 : Int32))
def Q0 (Z : State) (p0 : Int32) (p1 : Int32) (p2 : Int32) (p3 : Int32) (h0 : Heap) (n0 : Nat) (v : Option Value) (h : Heap) (L : List Loc) : Prop := v = some (.int (t0_0 p0 p1 p2 p3)) ∧ Fr n0 L
set_option maxRecDepth 65536 in
set_option maxHeartbeats 40000000 in
theorem rm0 (l : Launch) (Z : State) (a0 : Array Value) (hw : ∀ d ∈ tables_1, d.before a0 Z = true) (ws : List Jvm.Cond) (p0 : Int32) (p1 : Int32) (p2 : Int32) (p3 : Int32) (h0 : Heap) (n0 : Nat) (Z0 : n0 ≤ h0.size) :
    MetFree l x (head1 (Jvm.Cond.code x code maxLocals ret :: ws) room_1) (fun a U => a = #[(.int p0), (.int p1), (.int p2), (.int p3)] ∧ Z.Warmed39 U.vm ∧ U.heap = h0) (fun _ _ _ _ _ => True) (fun _ U o U' => ∃ v L, o = .returned v ∧ Q0 Z p0 p1 p2 p3 h0 n0 v U'.heap L ∧ FrameEnd U o U' L 2 8) := by
  refine MetFree.of_bodySF (plainFor_of_name pn_2) hisR ?_
  intro p e s m args below meth c s₁ Bd hml0 hP hK
  obtain ⟨rfl, hZ, hh⟩ := hP
  have hx := Bd.exec
  have hby := Bd.bytes
  have hml : c.maxLocals = 10 := hml0
  have hown : s.vm.findClass "com/example/wallbreak/wallbreak/cardfree/PatternSizesPinLaw" = some m.cls := findClass_of_methodNamed Bd.named
  have hnm := (name_of_methodNamed Bd.named Bd.method).1
  have X0 : Stand p l e room_1 s m #[(.int p0), (.int p1), (.int p2), (.int p3)] below meth c s₁ [] 0 0 := Stand.of_body Bd
  have e0 : s₁.heap = h0 := by rw [← hh, Bd.state]; rfl
  have N0 := Fr.nil n0
  refine OGl.start (ef_0 m p0 p1 p2 p3) ?_
  show OGl _ _ _ _ s₁ (mkF m 0 #[.val (.int p0), .val (.int p1), .val (.int p2), .val (.int p3), .unset, .unset, .unset, .unset, .unset, .unset] [])
  refine OGl.go (fun t k => XS.iloadN X0.here hx rfl (hb hby at_0) rfl (own_ldc X0 hx hown (mvT hZ (hw _ (List.mem_of_getElem? (i := 0) rfl))) rfl (hb hby at_1) (XS.iand X0.here hx rfl (hb hby at_3) rfl (XS.istore X0.here hx rfl (hb hby at_4) rfl (l' := #[.val (.int p0), .val (.int p1), .val (.int p2), .val (.int p3), .val (.int (p0 &&& (2147483647 : Int32))), .unset, .unset, .unset, .unset, .unset]) rfl (XS.iloadN X0.here hx rfl (hb hby at_6) rfl (own_ldc X0 hx hown (mvT hZ (hw _ (List.mem_of_getElem? (i := 0) rfl))) rfl (hb hby at_7) (XS.iand X0.here hx rfl (hb hby at_9) rfl (XS.istore X0.here hx rfl (hb hby at_10) rfl (l' := #[.val (.int p0), .val (.int p1), .val (.int p2), .val (.int p3), .val (.int (p0 &&& (2147483647 : Int32))), .val (.int (p1 &&& (2147483647 : Int32))), .unset, .unset, .unset, .unset]) rfl k)))))))) ?_
  show OGl _ _ _ _ s₁ (mkF m 12 #[.val (.int p0), .val (.int p1), .val (.int p2), .val (.int p3), .val (.int (p0 &&& (2147483647 : Int32))), .val (.int (p1 &&& (2147483647 : Int32))), .unset, .unset, .unset, .unset] [])
  refine OGl.go (fun t k => XS.iloadN X0.here hx rfl (hb hby at_12) rfl (own_ldc X0 hx hown (mvT hZ (hw _ (List.mem_of_getElem? (i := 0) rfl))) rfl (hb hby at_13) (XS.iand X0.here hx rfl (hb hby at_15) rfl (XS.istore X0.here hx rfl (hb hby at_16) rfl (l' := #[.val (.int p0), .val (.int p1), .val (.int p2), .val (.int p3), .val (.int (p0 &&& (2147483647 : Int32))), .val (.int (p1 &&& (2147483647 : Int32))), .val (.int (p2 &&& (2147483647 : Int32))), .unset, .unset, .unset]) rfl (XS.iloadN X0.here hx rfl (hb hby at_18) rfl (own_ldc X0 hx hown (mvT hZ (hw _ (List.mem_of_getElem? (i := 0) rfl))) rfl (hb hby at_19) (XS.iand X0.here hx rfl (hb hby at_21) rfl (XS.istore X0.here hx rfl (hb hby at_22) rfl (l' := #[.val (.int p0), .val (.int p1), .val (.int p2), .val (.int p3), .val (.int (p0 &&& (2147483647 : Int32))), .val (.int (p1 &&& (2147483647 : Int32))), .val (.int (p2 &&& (2147483647 : Int32))), .val (.int (p3 &&& (2147483647 : Int32))), .unset, .unset]) rfl k)))))))) ?_
  show OGl _ _ _ _ s₁ (mkF m 24 #[.val (.int p0), .val (.int p1), .val (.int p2), .val (.int p3), .val (.int (p0 &&& (2147483647 : Int32))), .val (.int (p1 &&& (2147483647 : Int32))), .val (.int (p2 &&& (2147483647 : Int32))), .val (.int (p3 &&& (2147483647 : Int32))), .unset, .unset] [])
  obtain ⟨T1, h1, X1, e1, E1, A1, D1, -, st1⟩ := newO X0 hx hZ hown (hw _ (List.mem_of_getElem? (i := 1) rfl)) (hw _ (List.mem_of_getElem? (i := 2) rfl)) (hw _ (List.mem_of_getElem? (i := 3) rfl)) e0 (g := (mkF m 24 #[.val (.int p0), .val (.int p1), .val (.int p2), .val (.int p3), .val (.int (p0 &&& (2147483647 : Int32))), .val (.int (p1 &&& (2147483647 : Int32))), .val (.int (p2 &&& (2147483647 : Int32))), .val (.int (p3 &&& (2147483647 : Int32))), .unset, .unset] [])) rfl (hb hby at_24) (by decide) (by decide)
  obtain ⟨b1, gb1⟩ : ∃ z, z = h0.size := ⟨_, rfl⟩
  rw [← gb1] at A1 D1 st1
  have sz_b1 : h0.size ≤ b1 := Nat.le_trans (Keep.refl h0 []).1 (Nat.le_of_eq gb1.symm)
  have g_b1 : n0 ≤ b1 := Nat.le_trans Z0 sz_b1
  have F2 : Fld Z h1 b1 "com/example/wallbreak/wallbreak/cardfree/Pattern" "pairs" "I" (.int (0 : Int32)) := D1 (Or.inr (hw _ (List.mem_of_getElem? (i := 16) rfl))) (ty := .int) (by decide)
  have F3 : Fld Z h1 b1 "com/example/wallbreak/wallbreak/cardfree/Pattern" "pungs" "I" (.int (0 : Int32)) := D1 (Or.inr (hw _ (List.mem_of_getElem? (i := 18) rfl))) (ty := .int) (by decide)
  have F4 : Fld Z h1 b1 "com/example/wallbreak/wallbreak/cardfree/Pattern" "kongs" "I" (.int (0 : Int32)) := D1 (Or.inr (hw _ (List.mem_of_getElem? (i := 20) rfl))) (ty := .int) (by decide)
  have F5 : Fld Z h1 b1 "com/example/wallbreak/wallbreak/cardfree/Pattern" "quints" "I" (.int (0 : Int32)) := D1 (Or.inr (hw _ (List.mem_of_getElem? (i := 22) rfl))) (ty := .int) (by decide)
  have KK1 : Keep h0 h1 [] := (Keep.refl h0 []).ext E1
  refine OGl.go st1 ?_
  show OGl _ _ _ _ T1 (mkF m 27 #[.val (.int p0), .val (.int p1), .val (.int p2), .val (.int p3), .val (.int (p0 &&& (2147483647 : Int32))), .val (.int (p1 &&& (2147483647 : Int32))), .val (.int (p2 &&& (2147483647 : Int32))), .val (.int (p3 &&& (2147483647 : Int32))), .unset, .unset] [(.ref b1)])
  refine OGl.go (fun t k => XS.dup X1.here hx rfl (hb hby at_27) rfl rfl (XS.iload X1.here hx rfl (hb hby at_28) rfl (XS.iload X1.here hx rfl (hb hby at_30) rfl (XS.iload X1.here hx rfl (hb hby at_32) rfl (XS.iload X1.here hx rfl (hb hby at_34) rfl k))))) ?_
  show OGl _ _ _ _ T1 (mkF m 36 #[.val (.int p0), .val (.int p1), .val (.int p2), .val (.int p3), .val (.int (p0 &&& (2147483647 : Int32))), .val (.int (p1 &&& (2147483647 : Int32))), .val (.int (p2 &&& (2147483647 : Int32))), .val (.int (p3 &&& (2147483647 : Int32))), .unset, .unset] [(.int (p3 &&& (2147483647 : Int32))), (.int (p2 &&& (2147483647 : Int32))), (.int (p1 &&& (2147483647 : Int32))), (.int (p0 &&& (2147483647 : Int32))), (.ref b1), (.ref b1)])
  obtain ⟨_, _, ⟨T6, L6, kk6, n6⟩, -, X6, ⟨Lc6, hQ6, l6, y6, z6⟩, st6⟩ := X1.specialBack hx (y := (⟨"com/example/wallbreak/wallbreak/cardfree/Pattern", "<init>", "(IIII)V"⟩ : MethodName)) rfl hown (mvT hZ (hw _ (List.mem_of_getElem? (i := 4) rfl))) (mvT hZ (hw _ (List.mem_of_getElem? (i := 5) rfl))) (mvT hZ (hw _ (List.mem_of_getElem? (i := 6) rfl))) (by decide) (backOf (W := 1) (rm1 l Z a0 hw [] b1 (p0 &&& (2147483647 : Int32)) (p1 &&& (2147483647 : Int32)) (p2 &&& (2147483647 : Int32)) (p3 &&& (2147483647 : Int32)) h1 n0 (Nat.le_trans Z0 KK1.1) A1 F2 F3 F4 F5 g_b1) hZ (hw _ (List.mem_of_getElem? (i := 6) rfl)) (hw _ (List.mem_of_getElem? (i := 3) rfl)) (by decide) (by decide)) (g := (mkF m 36 #[.val (.int p0), .val (.int p1), .val (.int p2), .val (.int p3), .val (.int (p0 &&& (2147483647 : Int32))), .val (.int (p1 &&& (2147483647 : Int32))), .val (.int (p2 &&& (2147483647 : Int32))), .val (.int (p3 &&& (2147483647 : Int32))), .unset, .unset] [(.int (p3 &&& (2147483647 : Int32))), (.int (p2 &&& (2147483647 : Int32))), (.int (p1 &&& (2147483647 : Int32))), (.int (p0 &&& (2147483647 : Int32))), (.ref b1), (.ref b1)])) rfl (by rw [hml]; rfl) (Steps.refl _) (a := b1) (argsL := [(.int (p0 &&& (2147483647 : Int32))), (.int (p1 &&& (2147483647 : Int32))), (.int (p2 &&& (2147483647 : Int32))), (.int (p3 &&& (2147483647 : Int32)))]) (rest := [(.ref b1)]) (lenOf pd_1 rfl) rfl (by show 2 * 0 + _ ≤ _; exact Nat.le_of_eq rfl) (hb hby at_36) (fun _ _ => ⟨rfl, e1, (by decide : 1 + 0 ≤ _), (by decide : 4 + 0 ≤ _)⟩)
  dsimp only [Pt.U, Pt.locs, Pt.cells, Pt.slots] at X6 l6 y6 z6 st6 hQ6
  subst l6 y6 z6
  obtain ⟨rfl, Nq6, K6, Fq6_0, Fq6_1, Fq6_2, Fq6_3⟩ := hQ6
  have KK6 : Keep h0 T6.heap [] := KK1.trans K6 (allS (Or.inr sz_b1) all0)
  have N6 := Fr.app N0 Nq6
  refine OGl.go (fun t k => st6.trans k) ?_
  show OGl _ _ _ _ T6 (mkF m 39 #[.val (.int p0), .val (.int p1), .val (.int p2), .val (.int p3), .val (.int (p0 &&& (2147483647 : Int32))), .val (.int (p1 &&& (2147483647 : Int32))), .val (.int (p2 &&& (2147483647 : Int32))), .val (.int (p3 &&& (2147483647 : Int32))), .unset, .unset] [(.ref b1)])
  refine OGl.go (fun t k => XS.astore X6.here hx rfl (hb hby at_39) rfl rfl (l' := #[.val (.int p0), .val (.int p1), .val (.int p2), .val (.int p3), .val (.int (p0 &&& (2147483647 : Int32))), .val (.int (p1 &&& (2147483647 : Int32))), .val (.int (p2 &&& (2147483647 : Int32))), .val (.int (p3 &&& (2147483647 : Int32))), .val (.ref b1), .unset]) rfl (XS.iconst X6.here hx rfl (hb hby at_41) (XS.istore X6.here hx rfl (hb hby at_42) rfl (l' := #[.val (.int p0), .val (.int p1), .val (.int p2), .val (.int p3), .val (.int (p0 &&& (2147483647 : Int32))), .val (.int (p1 &&& (2147483647 : Int32))), .val (.int (p2 &&& (2147483647 : Int32))), .val (.int (p3 &&& (2147483647 : Int32))), .val (.ref b1), .val (.int (0 : Int32))]) rfl (XS.iload X6.here hx rfl (hb hby at_44) rfl k)))) ?_
  show OGl _ _ _ _ T6 (mkF m 46 #[.val (.int p0), .val (.int p1), .val (.int p2), .val (.int p3), .val (.int (p0 &&& (2147483647 : Int32))), .val (.int (p1 &&& (2147483647 : Int32))), .val (.int (p2 &&& (2147483647 : Int32))), .val (.int (p3 &&& (2147483647 : Int32))), .val (.ref b1), .val (.int (0 : Int32))] [(.int (p0 &&& (2147483647 : Int32)))])
  have m22 : ∀ t, Steps p.tables e below (T6.setTop (mkF m 55 #[.val (.int p0), .val (.int p1), .val (.int p2), .val (.int p3), .val (.int (p0 &&& (2147483647 : Int32))), .val (.int (p1 &&& (2147483647 : Int32))), .val (.int (p2 &&& (2147483647 : Int32))), .val (.int (p3 &&& (2147483647 : Int32))), .val (.ref b1), .val (.int (e0_0 p0))] [])) t → Steps p.tables e below (T6.setTop (mkF m 46 #[.val (.int p0), .val (.int p1), .val (.int p2), .val (.int p3), .val (.int (p0 &&& (2147483647 : Int32))), .val (.int (p1 &&& (2147483647 : Int32))), .val (.int (p2 &&& (2147483647 : Int32))), .val (.int (p3 &&& (2147483647 : Int32))), .val (.ref b1), .val (.int (0 : Int32))] [(.int (p0 &&& (2147483647 : Int32)))])) t := by
    intro t k
    by_cases hm22 : (p0 &&& (2147483647 : Int32)) = (0 : Int32)
    · rw [show (e0_0 p0) = (0 : Int32) from if_pos hm22] at k
      refine XS.ifYes X6.here hx rfl (pc0 := 46) (pc' := 55) rfl (hb hby at_46) rfl ((if0 _ _).trans (teq hm22).1) (by decide) (by decide) ?_
      show Steps _ _ _ (T6.setTop (mkF m 55 #[.val (.int p0), .val (.int p1), .val (.int p2), .val (.int p3), .val (.int (p0 &&& (2147483647 : Int32))), .val (.int (p1 &&& (2147483647 : Int32))), .val (.int (p2 &&& (2147483647 : Int32))), .val (.int (p3 &&& (2147483647 : Int32))), .val (.ref b1), .val (.int (0 : Int32))] [])) _
      exact k
    · rw [show (e0_0 p0) = (1 : Int32) from if_neg hm22] at k
      refine XS.ifNo X6.here hx rfl (hb hby at_46) rfl ((if0 _ _).trans (feq hm22).1) (XS.iload X6.here hx rfl (hb hby at_49) rfl (XS.iconst X6.here hx rfl (hb hby at_51) (XS.iadd X6.here hx rfl (hb hby at_52) rfl (XS.istore X6.here hx rfl (hb hby at_53) rfl (l' := #[.val (.int p0), .val (.int p1), .val (.int p2), .val (.int p3), .val (.int (p0 &&& (2147483647 : Int32))), .val (.int (p1 &&& (2147483647 : Int32))), .val (.int (p2 &&& (2147483647 : Int32))), .val (.int (p3 &&& (2147483647 : Int32))), .val (.ref b1), .val (.int (1 : Int32))]) rfl ?_))))
      show Steps _ _ _ (T6.setTop (mkF m 55 #[.val (.int p0), .val (.int p1), .val (.int p2), .val (.int p3), .val (.int (p0 &&& (2147483647 : Int32))), .val (.int (p1 &&& (2147483647 : Int32))), .val (.int (p2 &&& (2147483647 : Int32))), .val (.int (p3 &&& (2147483647 : Int32))), .val (.ref b1), .val (.int (1 : Int32))] [])) _
      exact k
  refine OGl.go (fun t k => m22 _ (XS.iload X6.here hx rfl (hb hby at_55) rfl k)) ?_
  show OGl _ _ _ _ T6 (mkF m 57 #[.val (.int p0), .val (.int p1), .val (.int p2), .val (.int p3), .val (.int (p0 &&& (2147483647 : Int32))), .val (.int (p1 &&& (2147483647 : Int32))), .val (.int (p2 &&& (2147483647 : Int32))), .val (.int (p3 &&& (2147483647 : Int32))), .val (.ref b1), .val (.int (e0_0 p0))] [(.int (p1 &&& (2147483647 : Int32)))])
  have m23 : ∀ t, Steps p.tables e below (T6.setTop (mkF m 66 #[.val (.int p0), .val (.int p1), .val (.int p2), .val (.int p3), .val (.int (p0 &&& (2147483647 : Int32))), .val (.int (p1 &&& (2147483647 : Int32))), .val (.int (p2 &&& (2147483647 : Int32))), .val (.int (p3 &&& (2147483647 : Int32))), .val (.ref b1), .val (.int (e0_1 p0 p1))] [])) t → Steps p.tables e below (T6.setTop (mkF m 57 #[.val (.int p0), .val (.int p1), .val (.int p2), .val (.int p3), .val (.int (p0 &&& (2147483647 : Int32))), .val (.int (p1 &&& (2147483647 : Int32))), .val (.int (p2 &&& (2147483647 : Int32))), .val (.int (p3 &&& (2147483647 : Int32))), .val (.ref b1), .val (.int (e0_0 p0))] [(.int (p1 &&& (2147483647 : Int32)))])) t := by
    intro t k
    by_cases hm23 : (p1 &&& (2147483647 : Int32)) = (0 : Int32)
    · rw [show (e0_1 p0 p1) = (e0_0 p0) from if_pos hm23] at k
      refine XS.ifYes X6.here hx rfl (pc0 := 57) (pc' := 66) rfl (hb hby at_57) rfl ((if0 _ _).trans (teq hm23).1) (by decide) (by decide) ?_
      show Steps _ _ _ (T6.setTop (mkF m 66 #[.val (.int p0), .val (.int p1), .val (.int p2), .val (.int p3), .val (.int (p0 &&& (2147483647 : Int32))), .val (.int (p1 &&& (2147483647 : Int32))), .val (.int (p2 &&& (2147483647 : Int32))), .val (.int (p3 &&& (2147483647 : Int32))), .val (.ref b1), .val (.int (e0_0 p0))] [])) _
      exact k
    · rw [show (e0_1 p0 p1) = ((e0_0 p0) + (1 : Int32)) from if_neg hm23] at k
      refine XS.ifNo X6.here hx rfl (hb hby at_57) rfl ((if0 _ _).trans (feq hm23).1) (XS.iload X6.here hx rfl (hb hby at_60) rfl (XS.iconst X6.here hx rfl (hb hby at_62) (XS.iadd X6.here hx rfl (hb hby at_63) rfl (XS.istore X6.here hx rfl (hb hby at_64) rfl (l' := #[.val (.int p0), .val (.int p1), .val (.int p2), .val (.int p3), .val (.int (p0 &&& (2147483647 : Int32))), .val (.int (p1 &&& (2147483647 : Int32))), .val (.int (p2 &&& (2147483647 : Int32))), .val (.int (p3 &&& (2147483647 : Int32))), .val (.ref b1), .val (.int ((e0_0 p0) + (1 : Int32)))]) rfl ?_))))
      show Steps _ _ _ (T6.setTop (mkF m 66 #[.val (.int p0), .val (.int p1), .val (.int p2), .val (.int p3), .val (.int (p0 &&& (2147483647 : Int32))), .val (.int (p1 &&& (2147483647 : Int32))), .val (.int (p2 &&& (2147483647 : Int32))), .val (.int (p3 &&& (2147483647 : Int32))), .val (.ref b1), .val (.int ((e0_0 p0) + (1 : Int32)))] [])) _
      exact k
  refine OGl.go (fun t k => m23 _ (XS.iload X6.here hx rfl (hb hby at_66) rfl k)) ?_
  show OGl _ _ _ _ T6 (mkF m 68 #[.val (.int p0), .val (.int p1), .val (.int p2), .val (.int p3), .val (.int (p0 &&& (2147483647 : Int32))), .val (.int (p1 &&& (2147483647 : Int32))), .val (.int (p2 &&& (2147483647 : Int32))), .val (.int (p3 &&& (2147483647 : Int32))), .val (.ref b1), .val (.int (e0_1 p0 p1))] [(.int (p2 &&& (2147483647 : Int32)))])
  have m24 : ∀ t, Steps p.tables e below (T6.setTop (mkF m 77 #[.val (.int p0), .val (.int p1), .val (.int p2), .val (.int p3), .val (.int (p0 &&& (2147483647 : Int32))), .val (.int (p1 &&& (2147483647 : Int32))), .val (.int (p2 &&& (2147483647 : Int32))), .val (.int (p3 &&& (2147483647 : Int32))), .val (.ref b1), .val (.int (e0_2 p0 p1 p2))] [])) t → Steps p.tables e below (T6.setTop (mkF m 68 #[.val (.int p0), .val (.int p1), .val (.int p2), .val (.int p3), .val (.int (p0 &&& (2147483647 : Int32))), .val (.int (p1 &&& (2147483647 : Int32))), .val (.int (p2 &&& (2147483647 : Int32))), .val (.int (p3 &&& (2147483647 : Int32))), .val (.ref b1), .val (.int (e0_1 p0 p1))] [(.int (p2 &&& (2147483647 : Int32)))])) t := by
    intro t k
    by_cases hm24 : (p2 &&& (2147483647 : Int32)) = (0 : Int32)
    · rw [show (e0_2 p0 p1 p2) = (e0_1 p0 p1) from if_pos hm24] at k
      refine XS.ifYes X6.here hx rfl (pc0 := 68) (pc' := 77) rfl (hb hby at_68) rfl ((if0 _ _).trans (teq hm24).1) (by decide) (by decide) ?_
      show Steps _ _ _ (T6.setTop (mkF m 77 #[.val (.int p0), .val (.int p1), .val (.int p2), .val (.int p3), .val (.int (p0 &&& (2147483647 : Int32))), .val (.int (p1 &&& (2147483647 : Int32))), .val (.int (p2 &&& (2147483647 : Int32))), .val (.int (p3 &&& (2147483647 : Int32))), .val (.ref b1), .val (.int (e0_1 p0 p1))] [])) _
      exact k
    · rw [show (e0_2 p0 p1 p2) = ((e0_1 p0 p1) + (1 : Int32)) from if_neg hm24] at k
      refine XS.ifNo X6.here hx rfl (hb hby at_68) rfl ((if0 _ _).trans (feq hm24).1) (XS.iload X6.here hx rfl (hb hby at_71) rfl (XS.iconst X6.here hx rfl (hb hby at_73) (XS.iadd X6.here hx rfl (hb hby at_74) rfl (XS.istore X6.here hx rfl (hb hby at_75) rfl (l' := #[.val (.int p0), .val (.int p1), .val (.int p2), .val (.int p3), .val (.int (p0 &&& (2147483647 : Int32))), .val (.int (p1 &&& (2147483647 : Int32))), .val (.int (p2 &&& (2147483647 : Int32))), .val (.int (p3 &&& (2147483647 : Int32))), .val (.ref b1), .val (.int ((e0_1 p0 p1) + (1 : Int32)))]) rfl ?_))))
      show Steps _ _ _ (T6.setTop (mkF m 77 #[.val (.int p0), .val (.int p1), .val (.int p2), .val (.int p3), .val (.int (p0 &&& (2147483647 : Int32))), .val (.int (p1 &&& (2147483647 : Int32))), .val (.int (p2 &&& (2147483647 : Int32))), .val (.int (p3 &&& (2147483647 : Int32))), .val (.ref b1), .val (.int ((e0_1 p0 p1) + (1 : Int32)))] [])) _
      exact k
  refine OGl.go (fun t k => m24 _ (XS.iload X6.here hx rfl (hb hby at_77) rfl k)) ?_
  show OGl _ _ _ _ T6 (mkF m 79 #[.val (.int p0), .val (.int p1), .val (.int p2), .val (.int p3), .val (.int (p0 &&& (2147483647 : Int32))), .val (.int (p1 &&& (2147483647 : Int32))), .val (.int (p2 &&& (2147483647 : Int32))), .val (.int (p3 &&& (2147483647 : Int32))), .val (.ref b1), .val (.int (e0_2 p0 p1 p2))] [(.int (p3 &&& (2147483647 : Int32)))])
  have m25 : ∀ t, Steps p.tables e below (T6.setTop (mkF m 88 #[.val (.int p0), .val (.int p1), .val (.int p2), .val (.int p3), .val (.int (p0 &&& (2147483647 : Int32))), .val (.int (p1 &&& (2147483647 : Int32))), .val (.int (p2 &&& (2147483647 : Int32))), .val (.int (p3 &&& (2147483647 : Int32))), .val (.ref b1), .val (.int (e0_3 p0 p1 p2 p3))] [])) t → Steps p.tables e below (T6.setTop (mkF m 79 #[.val (.int p0), .val (.int p1), .val (.int p2), .val (.int p3), .val (.int (p0 &&& (2147483647 : Int32))), .val (.int (p1 &&& (2147483647 : Int32))), .val (.int (p2 &&& (2147483647 : Int32))), .val (.int (p3 &&& (2147483647 : Int32))), .val (.ref b1), .val (.int (e0_2 p0 p1 p2))] [(.int (p3 &&& (2147483647 : Int32)))])) t := by
    intro t k
    by_cases hm25 : (p3 &&& (2147483647 : Int32)) = (0 : Int32)
    · rw [show (e0_3 p0 p1 p2 p3) = (e0_2 p0 p1 p2) from if_pos hm25] at k
      refine XS.ifYes X6.here hx rfl (pc0 := 79) (pc' := 88) rfl (hb hby at_79) rfl ((if0 _ _).trans (teq hm25).1) (by decide) (by decide) ?_
      show Steps _ _ _ (T6.setTop (mkF m 88 #[.val (.int p0), .val (.int p1), .val (.int p2), .val (.int p3), .val (.int (p0 &&& (2147483647 : Int32))), .val (.int (p1 &&& (2147483647 : Int32))), .val (.int (p2 &&& (2147483647 : Int32))), .val (.int (p3 &&& (2147483647 : Int32))), .val (.ref b1), .val (.int (e0_2 p0 p1 p2))] [])) _
      exact k
    · rw [show (e0_3 p0 p1 p2 p3) = ((e0_2 p0 p1 p2) + (1 : Int32)) from if_neg hm25] at k
      refine XS.ifNo X6.here hx rfl (hb hby at_79) rfl ((if0 _ _).trans (feq hm25).1) (XS.iload X6.here hx rfl (hb hby at_82) rfl (XS.iconst X6.here hx rfl (hb hby at_84) (XS.iadd X6.here hx rfl (hb hby at_85) rfl (XS.istore X6.here hx rfl (hb hby at_86) rfl (l' := #[.val (.int p0), .val (.int p1), .val (.int p2), .val (.int p3), .val (.int (p0 &&& (2147483647 : Int32))), .val (.int (p1 &&& (2147483647 : Int32))), .val (.int (p2 &&& (2147483647 : Int32))), .val (.int (p3 &&& (2147483647 : Int32))), .val (.ref b1), .val (.int ((e0_2 p0 p1 p2) + (1 : Int32)))]) rfl ?_))))
      show Steps _ _ _ (T6.setTop (mkF m 88 #[.val (.int p0), .val (.int p1), .val (.int p2), .val (.int p3), .val (.int (p0 &&& (2147483647 : Int32))), .val (.int (p1 &&& (2147483647 : Int32))), .val (.int (p2 &&& (2147483647 : Int32))), .val (.int (p3 &&& (2147483647 : Int32))), .val (.ref b1), .val (.int ((e0_2 p0 p1 p2) + (1 : Int32)))] [])) _
      exact k
  refine OGl.go (fun t k => m25 _ (XS.aload X6.here hx rfl (hb hby at_88) rfl rfl k)) ?_
  show OGl _ _ _ _ T6 (mkF m 90 #[.val (.int p0), .val (.int p1), .val (.int p2), .val (.int p3), .val (.int (p0 &&& (2147483647 : Int32))), .val (.int (p1 &&& (2147483647 : Int32))), .val (.int (p2 &&& (2147483647 : Int32))), .val (.int (p3 &&& (2147483647 : Int32))), .val (.ref b1), .val (.int (e0_3 p0 p1 p2 p3))] [(.ref b1)])
  have F50 := (A1.keep K6)
  obtain ⟨cq26, kq26, q26a, q26b, q26c⟩ := isOf hZ rfl F50
  obtain ⟨_, _, ⟨T26, L26, kk26, n26⟩, -, X26, ⟨Lc26, hQ26, l26, y26, z26⟩, st26⟩ := X6.virtualBack hx (y := (⟨"com/example/wallbreak/wallbreak/cardfree/Pattern", "sizes", "()I"⟩ : MethodName)) (z := (⟨"com/example/wallbreak/wallbreak/cardfree/Pattern", "sizes", "()I"⟩ : MethodName)) hown (mvT hZ (hw _ (List.mem_of_getElem? (i := 23) rfl))) (mvT hZ (hw _ (List.mem_of_getElem? (i := 24) rfl))) (notFace_of_selects (args := #[]) (mvT hZ (hw _ (List.mem_of_getElem? (i := 26) rfl)))) (mvT hZ (hw _ (List.mem_of_getElem? (i := 26) rfl))) (mvT hZ (hw _ (List.mem_of_getElem? (i := 25) rfl))) (by decide) (backOf (W := 0) (rm4 l Z a0 hw [] b1 (p0 &&& (2147483647 : Int32)) (p1 &&& (2147483647 : Int32)) (p2 &&& (2147483647 : Int32)) (p3 &&& (2147483647 : Int32)) T6.heap n0 (Nat.le_trans Z0 KK6.1) F50 Fq6_1 Fq6_2 Fq6_0 Fq6_3) hZ (hw _ (List.mem_of_getElem? (i := 27) rfl)) (hw _ (List.mem_of_getElem? (i := 3) rfl)) (by decide) (by decide)) q26a q26c (g := (mkF m 90 #[.val (.int p0), .val (.int p1), .val (.int p2), .val (.int p3), .val (.int (p0 &&& (2147483647 : Int32))), .val (.int (p1 &&& (2147483647 : Int32))), .val (.int (p2 &&& (2147483647 : Int32))), .val (.int (p3 &&& (2147483647 : Int32))), .val (.ref b1), .val (.int (e0_3 p0 p1 p2 p3))] [(.ref b1)])) rfl (by rw [hml]; rfl) (Steps.refl _) (argsL := []) (rest := []) (lenOf pd_3 rfl) rfl (by show 2 * 0 + _ ≤ _; exact Nat.le_of_eq rfl) (hb hby at_90) (fun _ _ => ⟨rfl, rfl, (by decide : 1 + 1 ≤ _), (by decide : 4 + 4 ≤ _)⟩)
  dsimp only [Pt.U, Pt.locs, Pt.cells, Pt.slots] at X26 l26 y26 z26 st26 hQ26
  subst l26 y26 z26
  obtain ⟨rfl, Nq26, K26⟩ := hQ26
  have KK26 : Keep h0 T26.heap [] := KK6.trans K26 all0
  have N26 := Fr.app N6 Nq26
  refine OGl.go (fun t k => st26.trans k) ?_
  show OGl _ _ _ _ T26 (mkF m 93 #[.val (.int p0), .val (.int p1), .val (.int p2), .val (.int p3), .val (.int (p0 &&& (2147483647 : Int32))), .val (.int (p1 &&& (2147483647 : Int32))), .val (.int (p2 &&& (2147483647 : Int32))), .val (.int (p3 &&& (2147483647 : Int32))), .val (.ref b1), .val (.int (e0_3 p0 p1 p2 p3))] [(.int (e0_4 p0 p1 p2 p3))])
  refine OGl.go (fun t k => XS.iload X26.here hx rfl (hb hby at_93) rfl k) ?_
  show OGl _ _ _ _ T26 (mkF m 95 #[.val (.int p0), .val (.int p1), .val (.int p2), .val (.int p3), .val (.int (p0 &&& (2147483647 : Int32))), .val (.int (p1 &&& (2147483647 : Int32))), .val (.int (p2 &&& (2147483647 : Int32))), .val (.int (p3 &&& (2147483647 : Int32))), .val (.ref b1), .val (.int (e0_3 p0 p1 p2 p3))] [(.int (e0_3 p0 p1 p2 p3)), (.int (e0_4 p0 p1 p2 p3))])
  by_cases hc51 : (e0_4 p0 p1 p2 p3) = (e0_3 p0 p1 p2 p3)
  · refine OGl.go (fun t k => XS.icmpNo X26.here hx rfl (hb hby at_95) rfl (teq hc51).2 (XS.iconst X26.here hx rfl (hb hby at_98) (XS.goto X26.here hx rfl (pc0 := 99) (pc' := 103) rfl (hb hby at_99) (by decide) (by decide) k))) ?_
    show OGl _ _ _ _ T26 (mkF m 103 #[.val (.int p0), .val (.int p1), .val (.int p2), .val (.int p3), .val (.int (p0 &&& (2147483647 : Int32))), .val (.int (p1 &&& (2147483647 : Int32))), .val (.int (p2 &&& (2147483647 : Int32))), .val (.int (p3 &&& (2147483647 : Int32))), .val (.ref b1), .val (.int (e0_3 p0 p1 p2 p3))] [(.int (1 : Int32))])
    obtain ⟨fs, hr, hrun, hended, hW, hsame⟩ := X26.leave (v := some (.int (1 : Int32))) (fun h => by rw [Bd.returns] at h; cases h)
    refine ⟨_, _, retN X26 hx (t := .boolean) Bd.returns (by simp) (hb hby at_103) hr, hrun, hended, _, _, rfl, ?_, ⟨_, rfl⟩, hW, hsame.mono (by decide) (by decide)⟩
    have hv52 : (t0_0 p0 p1 p2 p3) = (1 : Int32) := by unfold t0_0; rw [if_pos hc51]
    show Q0 Z p0 p1 p2 p3 h0 n0 _ T26.heap _
    exact ⟨(by rw [hv52]), N26⟩
  · refine OGl.go (fun t k => XS.icmpYes X26.here hx rfl (pc0 := 95) (pc' := 102) rfl (hb hby at_95) rfl (feq hc51).2 (by decide) (by decide) (XS.iconst X26.here hx rfl (hb hby at_102) k)) ?_
    show OGl _ _ _ _ T26 (mkF m 103 #[.val (.int p0), .val (.int p1), .val (.int p2), .val (.int p3), .val (.int (p0 &&& (2147483647 : Int32))), .val (.int (p1 &&& (2147483647 : Int32))), .val (.int (p2 &&& (2147483647 : Int32))), .val (.int (p3 &&& (2147483647 : Int32))), .val (.ref b1), .val (.int (e0_3 p0 p1 p2 p3))] [(.int (0 : Int32))])
    obtain ⟨fs, hr, hrun, hended, hW, hsame⟩ := X26.leave (v := some (.int (0 : Int32))) (fun h => by rw [Bd.returns] at h; cases h)
    refine ⟨_, _, retN X26 hx (t := .boolean) Bd.returns (by simp) (hb hby at_103) hr, hrun, hended, _, _, rfl, ?_, ⟨_, rfl⟩, hW, hsame.mono (by decide) (by decide)⟩
    have hv53 : (t0_0 p0 p1 p2 p3) = (0 : Int32) := by unfold t0_0; rw [if_neg hc51]
    show Q0 Z p0 p1 p2 p3 h0 n0 _ T26.heap _
    exact ⟨(by rw [hv53]), N26⟩
theorem own_pos (x : Int32) : (if (0 : Int32) < (x &&& 2147483647) then (1 : Int32) else (0 : Int32)) = if (x &&& 2147483647) = (0 : Int32) then (0 : Int32) else (1 : Int32) := by
  have h := c_mask x 2147483647 31 (by decide) (by decide)
  have k0 : (0 : Int32).toInt = 0 := by decide
  generalize (x &&& 2147483647) = y at *
  by_cases p : y = 0
  · rw [if_pos p, p]; rfl
  · rw [if_neg p, if_pos]
    rw [Int32.lt_iff_toInt_lt]
    have : y.toInt ≠ 0 := fun q => p (Int32.toInt_inj.mp (q.trans k0.symm))
    omega
theorem own_law (a b c d : Int32) : t0_0 a b c d = 1 := by
  unfold t0_0 e0_4 e4_2 e4_1 e4_0 e0_3 e0_2 e0_1 e0_0
  rw [own_pos a, own_pos b, own_pos c, own_pos d]
  by_cases p1 : (a &&& 2147483647) = 0 <;> by_cases p2 : (b &&& 2147483647) = 0 <;> by_cases p3 : (c &&& 2147483647) = 0 <;> by_cases p4 : (d &&& 2147483647) = 0 <;> simp only [p1, p2, p3, p4, if_true, if_false] <;> decide
set_option maxRecDepth 65536 in
set_option maxHeartbeats 40000000 in
theorem comes_1 {Post : Tables → Env → Array Value → State → Outcome → State → Prop} (hpost : ∀ tb e args s v u, (limb_1_1.after args s (.returned v) u = true ∧ limb_1_2.after args s (.returned v) u = true ∧ True) → FrameEnd s (.returned v) u (Jvm.fieldLocs frame_1_writes args s ++ Jvm.arrayLocs frame_1_arrays args s ++ Jvm.staticLocs frame_1_statics s) 16 128 → Post tb e args s (.returned v) u) :
    ArmFor flags0 classFile x code maxLocals ret World_1 tables_1 room_1 Calls_1 rest_1 Pre_1 Post := by
  intro l hfl _ _ p e ha hc hk s m args below hf hA hF happ hP
  obtain ⟨hcalls, hrest, hpre⟩ := hP
  obtain ⟨-, -, -, hnamed, -, -, -, hat⟩ := (Spec.applies_iff hf).mp happ
  obtain ⟨hg, hn⟩ := and_e (Cond.before_iff.mp (show (Jvm.Cond.and given_1 narrow_1).before args s = true from hpre))
  obtain ⟨hz, hy0⟩ := and_e hg
  obtain ⟨ha0, hy1⟩ := and_e hy0
  obtain ⟨ha1, hy2⟩ := and_e hy1
  obtain ⟨ha2, hy3⟩ := and_e hy2
  obtain ⟨w0, w1, w2, w3, rfl⟩ : ∃ w0 w1 w2 w3 : Value, args = #[w0, w1, w2, w3] := by
    have hs : args.size = 4 := by simpa [Cond.value, given_1] using hz
    obtain ⟨L⟩ := args
    match L, hs with
    | [w0, w1, w2, w3], _ => exact ⟨w0, w1, w2, w3, rfl⟩
  have hw := fun d (hd : d ∈ tables_1) => atoms_spec (ws := Jvm.Cond.code x code maxLocals ret :: tables_1) hat d (List.mem_cons_of_mem _ hd)
  obtain ⟨i0, ev0⟩ := is_v ha0
  obtain rfl : w0 = (.int i0) := Option.some.inj ev0
  obtain ⟨i1, ev1⟩ := is_v ha1
  obtain rfl : w1 = (.int i1) := Option.some.inj ev1
  obtain ⟨i2, ev2⟩ := is_v ha2
  obtain rfl : w2 = (.int i2) := Option.some.inj ev2
  obtain ⟨i3, ev3⟩ := is_v hy3
  obtain rfl : w3 = (.int i3) := Option.some.inj ev3
  obtain ⟨n, o, h1, h2, h3, _, L, rfl, ⟨hv, N⟩, hq⟩ := rm0 l s _ hw tables_1 i0 i1 i2 i3  s.heap s.heap.size (Nat.le_refl _)  p e ha hc hk s m _ below hf ((Spec.applies_iff_loose hf).mp happ).1 ⟨rfl, State.Warmed39.refl s, rfl⟩ trivial
  rw [own_law] at hv
  subst hv
  refine ⟨n, _, h1, h2, h3, hpost _ _ _ _ _ _ ⟨Cond.after_iff.mpr rfl, Cond.after_iff.mpr (eq_i res_at (Term.int_eval (1)) rfl), trivial⟩ ⟨hq.1, hq.2.1, (hq.2.2.sift fun y hy => Or.inr (N y hy)).mono (by decide) (by decide)⟩⟩
theorem main_1_1 : Claimed_1_1 := comes_1 fun _ _ _ _ _ _ h hF => ⟨h.1, hF⟩
theorem main_1_2 : Claimed_1_2 := comes_1 fun _ _ _ _ _ _ h hF => ⟨h.2.1, hF⟩
end Jvm.Pilot.@@N@@
namespace Jvm.Pilot.@@N@@
open Jvm Jvm.ClassFile Sem Op Lib Jvm.Free Jvm.Stand Jvm.Pilot.@@N@@.Jvm.D
/-! MADE BY PROGRAM (witnessworld.py) out of the Statement's table words and the real class files: 10 classes; the members and pool entries that the words name. The judged class is class 1, her method 1. -/
namespace start1
open Jvm.ClassFile
def u (s : String) : CpInfo := .utf8 (stringToUtf16 s)
/-- a pool by its gaps: so many unusable entries, then the entry; so many at the end -/
def gap : Nat → List CpInfo → List CpInfo
  | 0, r => r
  | n + 1, r => .unusable :: gap n r
def poolList (es : List (Nat × CpInfo)) (last : Nat) : List CpInfo := es.foldr (fun e r => gap e.1 (e.2 :: r)) (gap last [])
def pool (es : List (Nat × CpInfo)) (last : Nat) : Array CpInfo := ⟨poolList es last⟩
def fileOf (pool : Array CpInfo) (this : Nat) (attrs : Array Attribute := #[]) (ms : Array MethodInfo := #[]) (fl : Nat := 33) (sup : Nat := 0) (ifs : Array Nat := #[]) (fds : Array FieldInfo := #[]) : ClassFile where
  minorVersion := 0
  majorVersion := 65
  constantPool := pool
  accessFlags := fl
  thisClass := this
  superClass := sup
  interfaces := ifs
  fields := fds
  methods := ms
  attributes := attrs
def plain (name : String) (sup : Option ClassId) : Class where
  name := name
  kind := .ordinary
  loader := none
  accessFlags := 33
  super := sup
  interfaces := #[]
  cf := none
  fields := #[]
  methods := #[]
  instanceTypes := #[]
  staticTypes := #[]
  resolved := #[]
  callSites := []
  init := .initialized
  statics := none
  mirror := none

def pool0 : Array CpInfo := pool [(5, u "<init>"), (0, u "()V"), (1, .class_ 10), (1, u "java/lang/Object")] 113

def k0c0 : Code := { maxStack := 0, maxLocals := 1, code := object_method_1_code, exceptionTable := #[], attributes := #[] }
def k0m0 : Method := { name := "<init>", desc := "()V", sig := { parameters := [], returnType := none }, accessFlags := 1, code := some k0c0 }
/-- java/lang/Object -/
def k0 : Class := { plain "java/lang/Object" none with
  accessFlags := 33
  interfaces := #[]
  cf := some (fileOf pool0 8 #[] #[{ accessFlags := 1, nameIndex := 5, descriptorIndex := 6, attributes := #[] }] 33 0 #[] #[])
  fields := #[]
  methods := #[k0m0]
  instanceTypes := #[]
  staticTypes := #[]
  resolved := Array.replicate 124 none
  statics := none }

def pool1 : Array CpInfo := pool [(2, .class_ 4), (1, u "java/lang/Object"), (0, u "<init>"), (0, u "()V"), (0, .integer 2147483647), (0, .class_ 9), (0, u "com/example/wallbreak/wallbreak/cardfree/Pattern"), (0, .methodref 8 11), (0, .nameAndType 5 12), (0, u "(IIII)V"), (0, .methodref 8 14), (0, .nameAndType 15 16), (0, u "sizes"), (0, u "()I"), (0, .class_ 18), (0, u "com/example/wallbreak/wallbreak/cardfree/PatternSizesPinLaw"), (2, u "law"), (0, u "(IIII)Z")] 3

def k1m0 : Method := { name := "<init>", desc := "()V", sig := { parameters := [], returnType := none }, accessFlags := 2, code := none }
def k1c1 : Code := { maxStack := 6, maxLocals := 10, code := code, exceptionTable := #[], attributes := #[] }
def k1m1 : Method := { name := "law", desc := "(IIII)Z", sig := { parameters := [.int, .int, .int, .int], returnType := some .boolean }, accessFlags := 9, code := some k1c1 }
/-- com/example/wallbreak/wallbreak/cardfree/PatternSizesPinLaw -/
def k1 : Class := { plain "com/example/wallbreak/wallbreak/cardfree/PatternSizesPinLaw" (some 0) with
  accessFlags := 49
  interfaces := #[]
  cf := some (fileOf pool1 17 #[] #[{ accessFlags := 2, nameIndex := 5, descriptorIndex := 6, attributes := #[] }, { accessFlags := 9, nameIndex := 21, descriptorIndex := 22, attributes := #[] }] 49 2 #[] #[])
  fields := #[]
  methods := #[k1m0, k1m1]
  instanceTypes := #[]
  staticTypes := #[]
  resolved := Array.replicate 26 none
  statics := none }

def pool2 : Array CpInfo := pool [(1, .methodref 2 3), (0, .class_ 4), (0, .nameAndType 5 6), (0, u "java/lang/Object"), (0, u "<init>"), (0, u "()V"), (0, .class_ 8), (0, u "java/lang/Record")] 13

def k2c0 : Code := { maxStack := 1, maxLocals := 1, code := jdk_30_method_1_code, exceptionTable := #[], attributes := #[] }
def k2m0 : Method := { name := "<init>", desc := "()V", sig := { parameters := [], returnType := none }, accessFlags := 4, code := some k2c0 }
/-- java/lang/Record -/
def k2 : Class := { plain "java/lang/Record" (some 0) with
  accessFlags := 1057
  interfaces := #[]
  cf := some (fileOf pool2 7 #[] #[{ accessFlags := 4, nameIndex := 5, descriptorIndex := 6, attributes := #[] }] 1057 2 #[] #[])
  fields := #[]
  methods := #[k2m0]
  instanceTypes := #[]
  staticTypes := #[]
  resolved := Array.replicate 22 none
  statics := none }

def pool3 : Array CpInfo := pool [(1, .methodref 2 3), (0, .class_ 4), (0, .nameAndType 5 6), (0, u "java/lang/Record"), (0, u "<init>"), (0, u "()V"), (0, .fieldref 8 9), (0, .class_ 10), (0, .nameAndType 11 12), (0, u "com/example/wallbreak/wallbreak/cardfree/Pattern"), (0, u "pairs"), (0, u "I"), (0, .fieldref 8 14), (0, .nameAndType 15 12), (0, u "pungs"), (0, .fieldref 8 17), (0, .nameAndType 18 12), (0, u "kongs"), (0, .fieldref 8 20), (0, .nameAndType 21 12), (0, u "quints"), (21, u "()I"), (2, u "(IIII)V"), (0, .methodref 8 48), (0, .nameAndType 49 50), (0, u "bySize"), (0, u "()[I"), (2, u "sizes"), (5, u "NAMES"), (0, u "Ljava/util/List;")] 117

def k3c0 : Code := { maxStack := 2, maxLocals := 5, code := prog_45_method_1_code, exceptionTable := #[], attributes := #[] }
def k3m0 : Method := { name := "<init>", desc := "(IIII)V", sig := { parameters := [.int, .int, .int, .int], returnType := none }, accessFlags := 1, code := some k3c0 }
def k3c1 : Code := { maxStack := 2, maxLocals := 6, code := prog_45_method_3_code, exceptionTable := #[], attributes := #[] }
def k3m1 : Method := { name := "sizes", desc := "()I", sig := { parameters := [], returnType := some .int }, accessFlags := 0, code := some k3c1 }
def k3c2 : Code := { maxStack := 4, maxLocals := 1, code := prog_45_method_8_code, exceptionTable := #[], attributes := #[] }
def k3m2 : Method := { name := "bySize", desc := "()[I", sig := { parameters := [], returnType := some (.array .int) }, accessFlags := 2, code := some k3c2 }
/-- com/example/wallbreak/wallbreak/cardfree/Pattern -/
def k3 : Class := { plain "com/example/wallbreak/wallbreak/cardfree/Pattern" (some 2) with
  accessFlags := 49
  interfaces := #[]
  cf := some (fileOf pool3 8 #[] #[{ accessFlags := 1, nameIndex := 5, descriptorIndex := 46, attributes := #[] }, { accessFlags := 0, nameIndex := 53, descriptorIndex := 43, attributes := #[] }, { accessFlags := 2, nameIndex := 49, descriptorIndex := 50, attributes := #[] }] 49 2 #[] #[{ accessFlags := 18, nameIndex := 11, descriptorIndex := 12, attributes := #[] }, { accessFlags := 18, nameIndex := 15, descriptorIndex := 12, attributes := #[] }, { accessFlags := 18, nameIndex := 18, descriptorIndex := 12, attributes := #[] }, { accessFlags := 18, nameIndex := 21, descriptorIndex := 12, attributes := #[] }, { accessFlags := 26, nameIndex := 59, descriptorIndex := 60, attributes := #[] }])
  fields := #[{ name := "pairs", type := .int, accessFlags := 18, slot := 0, constantValue := 0 }, { name := "pungs", type := .int, accessFlags := 18, slot := 1, constantValue := 0 }, { name := "kongs", type := .int, accessFlags := 18, slot := 2, constantValue := 0 }, { name := "quints", type := .int, accessFlags := 18, slot := 3, constantValue := 0 }, { name := "NAMES", type := (.object "java/util/List"), accessFlags := 26, slot := 0, constantValue := 0 }]
  methods := #[k3m0, k3m1, k3m2]
  instanceTypes := #[.int, .int, .int, .int]
  staticTypes := #[(.object "java/util/List")]
  resolved := Array.replicate 178 none
  statics := none }

def pool4 : Array CpInfo := pool [(1, u "java/lang/Cloneable"), (0, .class_ 1), (0, u "java/lang/Object"), (0, .class_ 3)] 3

/-- java/lang/Cloneable -/
def k4 : Class := { plain "java/lang/Cloneable" (some 0) with
  accessFlags := 1537
  interfaces := #[]
  cf := some (fileOf pool4 2 #[] #[] 1537 4 #[] #[])
  fields := #[]
  methods := #[]
  instanceTypes := #[]
  staticTypes := #[]
  resolved := Array.replicate 8 none
  statics := none }

def pool5 : Array CpInfo := pool [(1, u "java/io/Serializable"), (0, .class_ 1), (0, u "java/lang/Object"), (0, .class_ 3)] 3

/-- java/io/Serializable -/
def k5 : Class := { plain "java/io/Serializable" (some 0) with
  accessFlags := 1537
  interfaces := #[]
  cf := some (fileOf pool5 2 #[] #[] 1537 4 #[] #[])
  fields := #[]
  methods := #[]
  instanceTypes := #[]
  staticTypes := #[]
  resolved := Array.replicate 8 none
  statics := none }

/-- the primitive byte -/
def k6 : Class := { plain "byte" none with kind := .primitive 'B', accessFlags := 0x411 }
/-- [B -/
def k7 : Class := { plain "[B" (some 0) with kind := .array 6 .byte, interfaces := #[4, 5], accessFlags := 1041 }

/-- the primitive int -/
def k8 : Class := { plain "int" none with kind := .primitive 'I', accessFlags := 0x411 }
/-- [I -/
def k9 : Class := { plain "[I" (some 0) with kind := .array 8 .int, interfaces := #[4, 5], accessFlags := 1041 }

def heap : Heap := #[]
def classes : Array Class := #[k0, k1, k2, k3, k4, k5, k6, k7, k8, k9]
def interned : List (Array UInt16 × Addr) := []
def slotsUsed : Nat := 0
def theMethod : MethodId := ⟨1, 1⟩
def args0 : Array Value := #[.int 5, .int 5, .int 5, .int 5]
def aboutOver (below : List Frame) : State where
  vm := { classes := classes, interned := interned.toArray }
  heap := heap
  slotsUsed := slotsUsed
  threads := #[{ frames := .invoking theMethod args0 :: below }]
def below0 : List Frame := [.native { method := ⟨0, 0⟩, args := #[] }]
def about1 : State := aboutOver below0
def p0 : Program := .bare "" "" ""
def e0 : Env := launch0.env 0 0 0
theorem w_frames : about1.frames = Frame.invoking theMethod args0 :: below0 := rfl
set_option maxRecDepth 65536 in
theorem w_args : argsFit about1.vm theMethod args0 = true := by decide +kernel
set_option maxRecDepth 65536 in
theorem w_heap : heapFits about1 = true := by decide +kernel
set_option maxRecDepth 65536 in
theorem w_runnable : about1.curStatus? = some .runnable := by decide +kernel
set_option maxRecDepth 65536 in
theorem w_alone : about1.alone = true := by decide +kernel
set_option maxRecDepth 65536 in
theorem w_named : about1.methodNamed? x = some theMethod := by decide +kernel
set_option maxRecDepth 65536 in
theorem w_hears : about1.hears theMethod below0 = true := by decide +kernel
set_option maxRecDepth 65536 in
theorem w_ripe : about1.ripe theMethod args0 below0 = true := by decide +kernel
theorem w_running : about1.status = .running := rfl
set_option maxRecDepth 65536 in
theorem w_room : about1.hasRoom e0.platform room_1 = true :=
  launch0.hasRoom_least _ room_1 (by decide +kernel) (by decide +kernel) (by decide +kernel) (by decide +kernel) (by decide +kernel) (by decide +kernel)
theorem allAtoms_all (ts : List Jvm.Cond) (a : Array Jvm.Value) (st : Jvm.State) : (allAtoms ts).before a st = ts.all (fun c => c.before a st) := by
  induction ts with
  | nil => rfl
  | cons c t ih =>
    show (Jvm.Cond.and c (allAtoms t)).before a st = _
    rw [Jvm.Cond.before_and, ih, List.all_cons]
def words1 : List Jvm.Cond := Jvm.Cond.code x code maxLocals ret :: tables_1
/-- a 'code' word, met by the world's own term for the bytes: nothing is compared byte by byte -/
theorem code_word {y : MethodName} {bytes : ByteArray} {mx : Nat} {rt : Option FieldType} {a : Array Value} {s : State} {m : MethodId} {meth : Method} {c : Code} (h1 : s.methodNamed? y = some m) (h2 : s.vm.method? m = some meth) (h3 : meth.code = some c) (h4 : c.code = bytes)
    (h5 : (c.maxLocals == mx && c.exceptionTable.isEmpty && decide (c.maxStack ≤ mostOperands) && decide (meth.sig.returnType = rt) && !meth.locks && decide (parseMethodDescriptor y.desc = some meth.sig)) = true) : (Jvm.Cond.code y bytes mx rt).before a s = true := by
  simp only [Bool.and_eq_true, beq_iff_eq, Bool.not_eq_true', decide_eq_true_eq] at h5
  obtain ⟨⟨⟨⟨⟨g1, g2⟩, g3⟩, g4⟩, g5⟩, g6⟩ := h5
  simp [Cond.before, Cond.holds, Cond.value, h1, h2, h3, h4, g1, g2, g3, g4, g5, g6]
def isCode : Jvm.Cond → Bool
  | .code _ _ _ _ => true
  | _ => false
theorem all_split {L : List Jvm.Cond} {P : Jvm.Cond → Bool} (h1 : L.all (fun c => isCode c || P c) = true) (h2 : ∀ c ∈ L.filter isCode, P c = true) : L.all P = true := by
  refine List.all_eq_true.mpr fun c hc => ?_
  have h := List.all_eq_true.mp h1 c hc
  rcases Bool.eq_false_or_eq_true (isCode c) with hi | hi
  · exact h2 c (List.mem_filter.mpr ⟨hc, hi⟩)
  · simpa [hi] using h
set_option maxRecDepth 65536 in
theorem w_c0 : (Jvm.Cond.code x code maxLocals ret).before args0 about1 = true := code_word (m := ⟨1, 1⟩) (meth := k1m1) (c := k1c1) (by decide +kernel) rfl rfl rfl (by decide +kernel)
set_option maxRecDepth 65536 in
theorem w_c1 : (Jvm.Cond.code ({ cls := "com/example/wallbreak/wallbreak/cardfree/Pattern", name := "<init>", desc := "(IIII)V" } : Jvm.MethodName) prog_45_method_1_code (5 : Nat) (Option.none : Option Jvm.ClassFile.FieldType)).before args0 about1 = true := code_word (m := ⟨3, 0⟩) (meth := k3m0) (c := k3c0) (by decide +kernel) rfl rfl rfl (by decide +kernel)
set_option maxRecDepth 65536 in
theorem w_c2 : (Jvm.Cond.code ({ cls := "java/lang/Record", name := "<init>", desc := "()V" } : Jvm.MethodName) jdk_30_method_1_code (1 : Nat) (Option.none : Option Jvm.ClassFile.FieldType)).before args0 about1 = true := code_word (m := ⟨2, 0⟩) (meth := k2m0) (c := k2c0) (by decide +kernel) rfl rfl rfl (by decide +kernel)
set_option maxRecDepth 65536 in
theorem w_c3 : (Jvm.Cond.code ({ cls := "java/lang/Object", name := "<init>", desc := "()V" } : Jvm.MethodName) object_method_1_code (1 : Nat) (Option.none : Option Jvm.ClassFile.FieldType)).before args0 about1 = true := code_word (m := ⟨0, 0⟩) (meth := k0m0) (c := k0c0) (by decide +kernel) rfl rfl rfl (by decide +kernel)
set_option maxRecDepth 65536 in
theorem w_c4 : (Jvm.Cond.code ({ cls := "com/example/wallbreak/wallbreak/cardfree/Pattern", name := "sizes", desc := "()I" } : Jvm.MethodName) prog_45_method_3_code (6 : Nat) (Option.some Jvm.ClassFile.FieldType.int)).before args0 about1 = true := code_word (m := ⟨3, 1⟩) (meth := k3m1) (c := k3c1) (by decide +kernel) rfl rfl rfl (by decide +kernel)
set_option maxRecDepth 65536 in
theorem w_c5 : (Jvm.Cond.code ({ cls := "com/example/wallbreak/wallbreak/cardfree/Pattern", name := "bySize", desc := "()[I" } : Jvm.MethodName) prog_45_method_8_code (1 : Nat) (Option.some (Jvm.ClassFile.FieldType.array Jvm.ClassFile.FieldType.int))).before args0 about1 = true := code_word (m := ⟨3, 2⟩) (meth := k3m2) (c := k3c2) (by decide +kernel) rfl rfl rfl (by decide +kernel)
def codes1 : List Jvm.Cond := [Jvm.Cond.code x code maxLocals ret, Jvm.Cond.code ({ cls := "com/example/wallbreak/wallbreak/cardfree/Pattern", name := "<init>", desc := "(IIII)V" } : Jvm.MethodName) prog_45_method_1_code (5 : Nat) (Option.none : Option Jvm.ClassFile.FieldType), Jvm.Cond.code ({ cls := "java/lang/Record", name := "<init>", desc := "()V" } : Jvm.MethodName) jdk_30_method_1_code (1 : Nat) (Option.none : Option Jvm.ClassFile.FieldType), Jvm.Cond.code ({ cls := "java/lang/Object", name := "<init>", desc := "()V" } : Jvm.MethodName) object_method_1_code (1 : Nat) (Option.none : Option Jvm.ClassFile.FieldType), Jvm.Cond.code ({ cls := "com/example/wallbreak/wallbreak/cardfree/Pattern", name := "sizes", desc := "()I" } : Jvm.MethodName) prog_45_method_3_code (6 : Nat) (Option.some Jvm.ClassFile.FieldType.int), Jvm.Cond.code ({ cls := "com/example/wallbreak/wallbreak/cardfree/Pattern", name := "bySize", desc := "()[I" } : Jvm.MethodName) prog_45_method_8_code (1 : Nat) (Option.some (Jvm.ClassFile.FieldType.array Jvm.ClassFile.FieldType.int))]
set_option maxRecDepth 65536 in
theorem codes_eq : words1.filter isCode = codes1 := rfl
theorem w_codes : ∀ c ∈ words1.filter isCode, c.before args0 about1 = true := by
  rw [codes_eq]
  intro c hc
  simp only [codes1, List.mem_cons, List.not_mem_nil, or_false] at hc
  rcases hc with rfl | rfl | rfl | rfl | rfl | rfl
  · exact w_c0
  · exact w_c1
  · exact w_c2
  · exact w_c3
  · exact w_c4
  · exact w_c5
set_option maxRecDepth 65536 in
theorem w_t1 : (words1.take 24).all (fun c => isCode c || c.before args0 about1) = true := by decide +kernel
set_option maxRecDepth 65536 in
theorem w_t2 : (words1.drop 24).all (fun c => isCode c || c.before args0 about1) = true := by decide +kernel
theorem w_tables : (allAtoms (Jvm.Cond.code x code maxLocals ret :: tables_1)).before args0 about1 = true := by
  rw [allAtoms_all]
  show words1.all (fun c => c.before args0 about1) = true
  refine all_split ?_ w_codes
  rw [← List.take_append_drop 24 words1, List.all_append, w_t1, w_t2]
  rfl
set_option maxRecDepth 65536 in
theorem w_case : (Jvm.Cond.and given_1 narrow_1).before args0 about1 = true := by decide +kernel
theorem w_applies : (headSpec (Jvm.Cond.code x code maxLocals ret :: tables_1) room_1).applies x e0.platform about1 = true :=
  (Spec.applies_iff w_frames).mpr ⟨w_running, w_runnable, w_alone, w_named, w_hears, w_ripe, w_room, w_tables⟩
theorem atStart : AtStart classFile x code maxLocals ret World_1 tables_1 room_1 Calls_1 rest_1 Pre_1 launch0 p0 e0 about1 theMethod args0 below0 :=
  ⟨lists_1, trivial, launch0.admits_env _ _ _, launch0.least_env, fairChoices_fair.cas, fairChoices_fair.clock, w_frames, w_args, w_heap, w_applies, trivial, trivial, w_case⟩
end start1
theorem witness_1 : WitnessClaimed_1 := ⟨start1.p0, start1.e0, start1.about1, start1.theMethod, start1.args0, start1.below0, start1.atStart⟩
end Jvm.Pilot.@@N@@
