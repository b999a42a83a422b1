import JvmDerived
import JvmDerived.Pilot.@@N@@Statement
import JvmDerived.Pilot.@@N@@Code
set_option linter.unusedVariables false
set_option linter.unusedSimpArgs false
namespace Jvm.RoadKit
open Sem ClassFile Op Lib Jvm.Stand Jvm.Free Jvm.LawKit
section New
variable {p : Program} {l : Launch} {e : Env} {R : Room} {s : State} {m : MethodId} {args : Array Value} {below : List Frame} {meth : Method} {c : Code} {T : State} {locs : List Loc} {cells slots : Nat}
theorem retI (X : Stand p l e R s m args below meth c T locs cells slots) (hx : p.tables.exec = Jvm.exec) {pc : Nat} {Ls : Array Slot} {z : Int32} {rest : List Value} (hret : meth.sig.returnType = some .int) (hd : decode c.code pc = .ok (.ireturn, 1)) {fs : List Frame}
    (hl : ∀ (f : JFrame) (acts : List Action), f.method = m → f.locked = none → f.entered = [] → (doReturn e (T.setTop f) acts (some (.int z))).1 = T.setFrames fs) : Steps p.tables e below (T.setTop (mkF m pc Ls (.int z :: rest))) (T.setFrames fs) := by
  have hm' : T.vm.method? m = some meth := X.method'
  have hn : narrow .int (.int z) = .int z := rfl
  show Steps p.tables e below (T.setTop { method := m, pc := pc, locals := Ls, stack := _ :: rest, locked := none }) _
  jvm_step X.here [X.here.top, hx, hd, hm', hret, hn]
  first | (intro acts; rw [hl _ acts rfl rfl rfl]) | rw [hl _ _ rfl rfl rfl]
  exact Steps.refl _
theorem own_ldc {g : JFrame} {target : State} (X : Stand p l e R s m args below meth c T locs cells slots) (hx : p.tables.exec = Jvm.exec) {own : String} {index : Nat} {v : Int32} (hown : s.vm.findClass own = some m.cls) (w : (Cond.constant own index v).before args s = true) (hg : g.method = m) (hd : decode c.code g.pc = .ok (.ldc index, 2))
    (hr : Steps p.tables e below (T.setTop { g with pc := g.pc + 2, stack := .int v :: g.stack }) target) : Steps p.tables e below (T.setTop g) target := X.ldcInt hx hown w hg hd target hr
theorem own_ldc2 {g : JFrame} {target : State} (X : Stand p l e R s m args below meth c T locs cells slots) (hx : p.tables.exec = Jvm.exec) {own : String} {index : Nat} {v : Int64} (hown : s.vm.findClass own = some m.cls) (w : (Cond.constantLong own index v).before args s = true) (hg : g.method = m) (hd : decode c.code g.pc = .ok (.ldc2_w index, 3))
    (hr : Steps p.tables e below (T.setTop { g with pc := g.pc + 3, stack := .long v :: g.stack }) target) : Steps p.tables e below (T.setTop g) target := X.ldc2Long hx hown w hg hd target hr
theorem own_len {g : JFrame} {target : State} (X : Stand p l e R s m args below meth c T locs cells slots) (hx : p.tables.exec = Jvm.exec) {a : Addr} {cell : Cell} {ty : FieldType} {z : Int32} (hcell : T.heap[a]? = some cell) (harr : s.isArrayOf cell ty) (hz : cell.slots.size = z.toNatClampNeg) (hn : ¬ z < 0) (hg : g.method = m) {rest : List Value} (hs : g.stack = .ref a :: rest) (hd : decode c.code g.pc = .ok (.arraylength, 1))
    (hr : Steps p.tables e below (T.setTop { g with pc := g.pc + 1, stack := .int z :: rest }) target) : Steps p.tables e below (T.setTop g) target := X.arraylength hx hcell harr hg hs hd target (by rw [len_of hz hn]; exact hr)
theorem own_iaload {g : JFrame} {target : State} (X : Stand p l e R s m args below meth c T locs cells slots) (hx : p.tables.exec = Jvm.exec) {a : Addr} {cell : Cell} {j : Int32} {v : Value} (hcell : T.heap[a]? = some cell) (harr : s.isArrayOf cell .int) (hk : cell.vm ≠ .unknown) (hin : ¬ (j < 0 ∨ cell.slots.size ≤ j.toNatClampNeg)) (hv : cell.slots[j.toNatClampNeg]? = some v) (hg : g.method = m) {rest : List Value} (hs : g.stack = .int j :: .ref a :: rest) (hd : decode c.code g.pc = .ok (.iaload, 1))
    (hr : Steps p.tables e below (T.setTop { g with pc := g.pc + 1, stack := v :: rest }) target) : Steps p.tables e below (T.setTop g) target := X.iaload hx hcell harr hk hin hv hg hs hd target hr
theorem own_laload {g : JFrame} {target : State} (X : Stand p l e R s m args below meth c T locs cells slots) (hx : p.tables.exec = Jvm.exec) {a : Addr} {cell : Cell} {j : Int32} {v : Value} (hcell : T.heap[a]? = some cell) (harr : s.isArrayOf cell .long) (hk : cell.vm ≠ .unknown) (hin : ¬ (j < 0 ∨ cell.slots.size ≤ j.toNatClampNeg)) (hv : cell.slots[j.toNatClampNeg]? = some v) (hg : g.method = m) {rest : List Value} (hs : g.stack = .int j :: .ref a :: rest) (hd : decode c.code g.pc = .ok (.laload, 1))
    (hr : Steps p.tables e below (T.setTop { g with pc := g.pc + 1, stack := v :: rest }) target) : Steps p.tables e below (T.setTop g) target := X.laload hx hcell harr hk hin hv hg hs hd target hr
theorem own_baload {g : JFrame} {target : State} (X : Stand p l e R s m args below meth c T locs cells slots) (hx : p.tables.exec = Jvm.exec) {a : Addr} {cell : Cell} {j : Int32} {v : Value} (hcell : T.heap[a]? = some cell) (harr : s.isArrayOf cell .byte) (hk : cell.vm ≠ .unknown) (hin : ¬ (j < 0 ∨ cell.slots.size ≤ j.toNatClampNeg)) (hv : cell.slots[j.toNatClampNeg]? = some v) (hg : g.method = m) {rest : List Value} (hs : g.stack = .int j :: .ref a :: rest) (hd : decode c.code g.pc = .ok (.baload, 1))
    (hr : Steps p.tables e below (T.setTop { g with pc := g.pc + 1, stack := v :: rest }) target) : Steps p.tables e below (T.setTop g) target := X.baloadBytes hx hcell harr hk hin hv hg hs hd target hr
theorem own_lrem {g : JFrame} {target : State} (X : Stand p l e R s m args below meth c T locs cells slots) (hx : p.tables.exec = Jvm.exec) (hg : g.method = m) {x y : Int64} {rest : List Value} (hd : decode c.code g.pc = .ok (.lrem, 1)) (hs : g.stack = .long y :: .long x :: rest) (hy : y ≠ 0)
    (hr : Steps p.tables e below (T.setTop { g with pc := g.pc + 1, stack := .long (x % y) :: rest }) target) : Steps p.tables e below (T.setTop g) target :=
  XS.lrem X.here hx hg hd hs hy (by rw [lrem_mod]; exact hr)
theorem own_tltL {x y : Int64} (h : x < y) : ifCond.holds .lt (lcmpW x y) = true ∧ ifCond.holds .ge (lcmpW x y) = false ∧ ifCond.holds .gt (lcmpW y x) = true ∧ ifCond.holds .le (lcmpW y x) = false := by
  have h1 : lcmpW x y < 0 := by rw [lcW]; exact (lc_lt x y).mpr h
  have h2 : 0 < lcmpW y x := by rw [lcW]; exact (lc_gt y x).mpr h
  exact ⟨(if0 _ _).trans (tlt h1).1, (if0 _ _).trans (tlt h1).2.1, (if0 _ _).trans (tlt h2).2.2.1, (if0 _ _).trans (tlt h2).2.2.2⟩
theorem own_fltL {x y : Int64} (h : ¬ x < y) : ifCond.holds .lt (lcmpW x y) = false ∧ ifCond.holds .ge (lcmpW x y) = true ∧ ifCond.holds .gt (lcmpW y x) = false ∧ ifCond.holds .le (lcmpW y x) = true := by
  have h1 : ¬ lcmpW x y < 0 := by rw [lcW, lc_lt]; exact h
  have h2 : ¬ 0 < lcmpW y x := by rw [lcW, lc_gt]; exact h
  exact ⟨(if0 _ _).trans (flt h1).1, (if0 _ _).trans (flt h1).2.1, (if0 _ _).trans (flt h2).2.2.1, (if0 _ _).trans (flt h2).2.2.2⟩
theorem own_teqL {x y : Int64} (h : x = y) : ifCond.holds .eq (lcmpW x y) = true ∧ ifCond.holds .ne (lcmpW x y) = false := by
  have h1 : lcmpW x y = 0 := by rw [lcW, lc_eq]; exact h
  exact ⟨(if0 _ _).trans (teq h1).1, (if0 _ _).trans (teq h1).2⟩
theorem own_feqL {x y : Int64} (h : ¬ x = y) : ifCond.holds .eq (lcmpW x y) = false ∧ ifCond.holds .ne (lcmpW x y) = true := by
  have h1 : ¬ lcmpW x y = 0 := by rw [lcW, lc_eq]; exact h
  exact ⟨(if0 _ _).trans (feq h1).1, (if0 _ _).trans (feq h1).2⟩
end New
end Jvm.RoadKit
namespace Jvm.Pilot.@@N@@
open Jvm Jvm.ClassFile Sem Op Lib Jvm.Free Jvm.Stand Jvm.LawKit Jvm.RoadKit Bundle Jvm.Pilot.@@N@@.Jvm.D
/-- what is left to show from a place of the walk on -/
abbrev OGl (p : Program) (e : Env) (below : List Frame) (Q : Outcome → State → Prop) (T : State) (g : JFrame) : Prop :=
  ∃ s₂ o, Steps p.tables e below (T.setTop g) s₂ ∧ s₂.status = .running ∧ Ended s₂ below o ∧ Q o s₂
theorem OGl.go {p : Program} {e : Env} {below : List Frame} {Q : Outcome → State → Prop} {T T' : State} {g g' : JFrame} (h : ∀ t, Steps p.tables e below (T'.setTop g') t → Steps p.tables e below (T.setTop g) t) (k : OGl p e below Q T' g') : OGl p e below Q T g := by
  obtain ⟨s2, o, h1, h2⟩ := k
  exact ⟨s2, o, h _ h1, h2⟩
theorem OGl.start {p : Program} {e : Env} {below : List Frame} {Q : Outcome → State → Prop} {T : State} {g g' : JFrame} (q : g = g') (k : OGl p e below Q T g') : OGl p e below Q T g := q ▸ k
theorem own_selPriv {s : State} {args : Array Value} {y y' x' : MethodName} {C' : String} (hp : s.PrivateAt y) (hi : (Cond.instanceMethod y).before args s = true) (hs : (Cond.selects C' x' y').before args s = true) (hc : y'.cls = y.cls) (hy : y.cls ≠ "java/lang/invoke/MethodHandle" ∧ y.cls ≠ "java/lang/invoke/VarHandle" := by decide) : (Cond.selects y.cls y y).before args s = true := by
  obtain ⟨mk, meth, hn, hm, -, -⟩ := Cond.instanceMethod_spec hi
  obtain ⟨c2, r2, m2, -, -, q3, -, kP, hkP, hkPi⟩ := Cond.selects_spec hs
  have h1 := findClass_of_methodNamed hn
  have h2 := findClass_of_methodNamed q3
  rw [hc, h1] at h2
  have h3 : mk.cls = m2.cls := Option.some.inj h2
  have hf := State.methodFound?_of_named hn hy
  have hsel : selectMethod {} s.vm mk.cls mk = .method mk := selectMethod_private hm (hp mk meth hn hm)
  rw [← h3] at hkP
  simp [Cond.before, Cond.holds, Cond.value, h1, hf, hn, hsel, hkP, hkPi]
theorem own_weak {Z : State} {h : Heap} {a : Addr} {k : ClassId} {ty : FieldType} {z : Int32} {vs vs' : List Value} {d : Value} (F : Arv Z h a k ty z vs d) (q : ∀ i, i < z.toNatClampNeg → vs'.getD i d = vs.getD i d) : Arv Z h a k ty z vs' d := by
  obtain ⟨c, A, r1, r2, r3, H, G⟩ := F
  exact ⟨c, A, r1, r2, r3, fun i hi => by rw [q i (r2 ▸ hi)]; exact H i hi, fun i hi => by rw [q i (r2 ▸ hi)]; exact G i hi⟩
theorem own_cl {z j : Int32} {k i : Nat} (h : ¬ j < z) (hk : j.toInt = k) (hi : i < z.toNatClampNeg) : i < k := by
  rw [Int32.lt_iff_toInt_lt] at h
  have : z.toNatClampNeg = z.toInt.toNat := rfl
  omega
theorem own_irr {α : Type} [LT α] [Std.Irrefl (α := α) (· < ·)] (x : α) : ¬ x < x := Std.Irrefl.irrefl x
theorem d1_0 : decode prog_45_method_1_code 0 = .ok (.aload_n 0, 1) := by decide +kernel
theorem d1_1 : decode prog_45_method_1_code 1 = .ok (.invokespecial 1, 3) := by decide +kernel
theorem d2_0 : decode jdk_30_method_1_code 0 = .ok (.aload_n 0, 1) := by decide +kernel
theorem d2_1 : decode jdk_30_method_1_code 1 = .ok (.invokespecial 1, 3) := by decide +kernel
theorem d2_4 : decode jdk_30_method_1_code 4 = .ok (.return_, 1) := by decide +kernel
theorem ef_2 (m : MethodId) (x0 : Addr) : entryFrame m #[(.ref x0)] 1 = mkF m 0 #[.val (.ref x0)] [] := by first | (simp [entryFrame, mkF, argsToLocals, Value.category]; done) | rfl
theorem pn_0 : plainName "java/lang/Record" = true := by first | (simp [plainName, overriddenIn]; done) | decide +kernel
def Q2 (Z : State) (o0 : Addr) (h0 : Heap) (n0 : Nat) (v : Option Value) (h : Heap) (L : List Loc) : Prop := v = none ∧ Fr n0 L ∧ h = h0
set_option maxRecDepth 65536 in
set_option maxHeartbeats 40000000 in
theorem rm2 (l : Launch) (Z : State) (a0 : Array Value) (hw : ∀ d ∈ tables_1, d.before a0 Z = true) (ws : List Jvm.Cond) (o0 : Addr) (h0 : Heap) (n0 : Nat) (Z0 : n0 ≤ h0.size) :
    MetFree l (⟨"java/lang/Record", "<init>", "()V"⟩ : MethodName) (head1 (Jvm.Cond.code (⟨"java/lang/Record", "<init>", "()V"⟩ : MethodName) jdk_30_method_1_code 1 none :: ws) ({ frames := 1, cells := 0, slots := 0, locals := 12 } : Room)) (fun a U => a = #[(.ref o0)] ∧ Z.Warmed39 U.vm ∧ U.heap = h0) (fun _ _ _ _ _ => True) (fun _ U o U' => ∃ v L, o = .returned v ∧ Q2 Z o0 h0 n0 v U'.heap L ∧ FrameEnd U o U' L ({ frames := 1, cells := 0, slots := 0, locals := 12 } : Room).cells ({ frames := 1, cells := 0, slots := 0, locals := 12 } : Room).slots) := by
  refine MetFree.of_bodySF (plainFor_of_name pn_0) hisR ?_
  intro p e s m args below meth c s₁ Bd hml0 hP hK
  obtain ⟨rfl, hZ, hh⟩ := hP
  have hx := Bd.exec
  have hby := Bd.bytes
  have hml : c.maxLocals = 1 := hml0
  have hown : s.vm.findClass "java/lang/Record" = some m.cls := findClass_of_methodNamed Bd.named
  have hnm := (name_of_methodNamed Bd.named Bd.method).1
  have X0 : Stand p l e ({ frames := 1, cells := 0, slots := 0, locals := 12 } : Room) s m #[(.ref o0)] below meth c s₁ [] 0 0 := Stand.of_body Bd
  have e0 : s₁.heap = h0 := by rw [← hh, Bd.state]; rfl
  have N0 := Fr.nil n0
  refine OGl.start (ef_2 m o0) ?_
  show OGl _ _ _ _ s₁ (mkF m 0 #[.val (.ref o0)] [])
  refine OGl.go (fun t k => XS.aloadN X0.here hx rfl (hb hby d2_0) rfl rfl k) ?_
  show OGl _ _ _ _ s₁ (mkF m 1 #[.val (.ref o0)] [(.ref o0)])
  obtain ⟨T16, X16, e16, st16⟩ := initO X0 hx hZ hown (hw _ (List.mem_of_getElem? (i := 12) rfl)) (hw _ (List.mem_of_getElem? (i := 13) rfl)) (hw _ (List.mem_of_getElem? (i := 14) rfl)) e0 (g := (mkF m 1 #[.val (.ref o0)] [(.ref o0)])) rfl (by rw [hml]; rfl) rfl (hb hby d2_1) (by decide) (W := 0) (by show 2 * 0 + _ ≤ _; exact Nat.le_of_eq rfl) (by decide)
  refine OGl.go st16 ?_
  show OGl _ _ _ _ T16 (mkF m 4 #[.val (.ref o0)] [])
  obtain ⟨fs, hr, hrun, hended, hW, hsame⟩ := X16.leave (v := none) (fun _ => rfl)
  refine ⟨_, _, X16.returnOut hx Bd.returns (hb hby d2_4) hr, hrun, hended, _, _, rfl, ?_, ⟨_, rfl⟩, hW, hsame.mono (by decide) (by decide)⟩
  show Q2 Z o0 h0 n0 _ T16.heap _
  rw [e16]
  exact ⟨rfl, N0, rfl⟩
theorem pd_0 : parseMethodDescriptor "()V" = some ⟨[], none⟩ := by decide +kernel
theorem d1_4 : decode prog_45_method_1_code 4 = .ok (.aload_n 0, 1) := by decide +kernel
theorem d1_5 : decode prog_45_method_1_code 5 = .ok (.iload_n 1, 1) := by decide +kernel
theorem d1_6 : decode prog_45_method_1_code 6 = .ok (.putfield 7, 3) := by decide +kernel
theorem d1_9 : decode prog_45_method_1_code 9 = .ok (.aload_n 0, 1) := by decide +kernel
theorem d1_10 : decode prog_45_method_1_code 10 = .ok (.iload_n 2, 1) := by decide +kernel
theorem d1_11 : decode prog_45_method_1_code 11 = .ok (.putfield 13, 3) := by decide +kernel
theorem d1_14 : decode prog_45_method_1_code 14 = .ok (.aload_n 0, 1) := by decide +kernel
theorem d1_15 : decode prog_45_method_1_code 15 = .ok (.iload_n 3, 1) := by decide +kernel
theorem d1_16 : decode prog_45_method_1_code 16 = .ok (.putfield 16, 3) := by decide +kernel
theorem d1_19 : decode prog_45_method_1_code 19 = .ok (.aload_n 0, 1) := by decide +kernel
theorem d1_20 : decode prog_45_method_1_code 20 = .ok (.iload 4, 2) := by decide +kernel
theorem d1_22 : decode prog_45_method_1_code 22 = .ok (.putfield 19, 3) := by decide +kernel
theorem d1_25 : decode prog_45_method_1_code 25 = .ok (.return_, 1) := by decide +kernel
theorem ef_1 (m : MethodId) (x0 : Addr) (x1 : Int32) (x2 : Int32) (x3 : Int32) (x4 : Int32) : entryFrame m #[(.ref x0), (.int x1), (.int x2), (.int x3), (.int x4)] 5 = mkF m 0 #[.val (.ref x0), .val (.int x1), .val (.int x2), .val (.int x3), .val (.int x4)] [] := by first | (simp [entryFrame, mkF, argsToLocals, Value.category]; done) | rfl
theorem pn_1 : plainName "com/example/wallbreak/wallbreak/cardfree/Pattern" = true := by first | (simp [plainName, overriddenIn]; done) | decide +kernel
def Q1 (Z : State) (o0 : Addr) (p1 : Int32) (p2 : Int32) (p3 : Int32) (p4 : Int32) (h0 : Heap) (n0 : Nat) (v : Option Value) (h : Heap) (L : List Loc) : Prop := v = none ∧ Fr n0 L ∧ Keep h0 h [o0] ∧ Fld Z h o0 "com/example/wallbreak/wallbreak/cardfree/Pattern" "kongs" "I" (.int p3) ∧ Fld Z h o0 "com/example/wallbreak/wallbreak/cardfree/Pattern" "pairs" "I" (.int p1) ∧ Fld Z h o0 "com/example/wallbreak/wallbreak/cardfree/Pattern" "pungs" "I" (.int p2) ∧ Fld Z h o0 "com/example/wallbreak/wallbreak/cardfree/Pattern" "quints" "I" (.int p4)
set_option maxRecDepth 65536 in
set_option maxHeartbeats 40000000 in
theorem rm1 (l : Launch) (Z : State) (a0 : Array Value) (hw : ∀ d ∈ tables_1, d.before a0 Z = true) (ws : List Jvm.Cond) (o0 : Addr) (p1 : Int32) (p2 : Int32) (p3 : Int32) (p4 : Int32) (h0 : Heap) (n0 : Nat) (Z0 : n0 ≤ h0.size) (E_o0 : Exa Z h0 o0 "com/example/wallbreak/wallbreak/cardfree/Pattern") (F1_o0 : Fld Z h0 o0 "com/example/wallbreak/wallbreak/cardfree/Pattern" "pairs" "I" (.int (0 : Int32))) (F2_o0 : Fld Z h0 o0 "com/example/wallbreak/wallbreak/cardfree/Pattern" "pungs" "I" (.int (0 : Int32))) (F3_o0 : Fld Z h0 o0 "com/example/wallbreak/wallbreak/cardfree/Pattern" "kongs" "I" (.int (0 : Int32))) (F4_o0 : Fld Z h0 o0 "com/example/wallbreak/wallbreak/cardfree/Pattern" "quints" "I" (.int (0 : Int32))) (g_o0 : n0 ≤ o0) :
    MetFree l (⟨"com/example/wallbreak/wallbreak/cardfree/Pattern", "<init>", "(IIII)V"⟩ : MethodName) (head1 (Jvm.Cond.code (⟨"com/example/wallbreak/wallbreak/cardfree/Pattern", "<init>", "(IIII)V"⟩ : MethodName) prog_45_method_1_code 5 none :: ws) ({ frames := 2, cells := 0, slots := 0, locals := 24 } : Room)) (fun a U => a = #[(.ref o0), (.int p1), (.int p2), (.int p3), (.int p4)] ∧ Z.Warmed39 U.vm ∧ U.heap = h0) (fun _ _ _ _ _ => True) (fun _ U o U' => ∃ v L, o = .returned v ∧ Q1 Z o0 p1 p2 p3 p4 h0 n0 v U'.heap L ∧ FrameEnd U o U' L ({ frames := 2, cells := 0, slots := 0, locals := 24 } : Room).cells ({ frames := 2, cells := 0, slots := 0, locals := 24 } : Room).slots) := by
  refine MetFree.of_bodySF (plainFor_of_name pn_1) hisR ?_
  intro p e s m args below meth c s₁ Bd hml0 hP hK
  obtain ⟨rfl, hZ, hh⟩ := hP
  have hx := Bd.exec
  have hby := Bd.bytes
  have hml : c.maxLocals = 5 := hml0
  have hown : s.vm.findClass "com/example/wallbreak/wallbreak/cardfree/Pattern" = some m.cls := findClass_of_methodNamed Bd.named
  have hnm := (name_of_methodNamed Bd.named Bd.method).1
  have X0 : Stand p l e ({ frames := 2, cells := 0, slots := 0, locals := 24 } : Room) s m #[(.ref o0), (.int p1), (.int p2), (.int p3), (.int p4)] below meth c s₁ [] 0 0 := Stand.of_body Bd
  have e0 : s₁.heap = h0 := by rw [← hh, Bd.state]; rfl
  have N0 := Fr.nil n0
  refine OGl.start (ef_1 m o0 p1 p2 p3 p4) ?_
  show OGl _ _ _ _ s₁ (mkF m 0 #[.val (.ref o0), .val (.int p1), .val (.int p2), .val (.int p3), .val (.int p4)] [])
  refine OGl.go (fun t k => XS.aloadN X0.here hx rfl (hb hby d1_0) rfl rfl k) ?_
  show OGl _ _ _ _ s₁ (mkF m 1 #[.val (.ref o0), .val (.int p1), .val (.int p2), .val (.int p3), .val (.int p4)] [(.ref o0)])
  obtain ⟨_, _, ⟨T15, L15, kk15, n15⟩, -, X15, ⟨Lc15, hQ15, l15, y15, z15⟩, st15⟩ := X0.specialBack hx (y := (⟨"java/lang/Record", "<init>", "()V"⟩ : MethodName)) rfl hown (mvT hZ (hw _ (List.mem_of_getElem? (i := 7) rfl))) (mvT hZ (hw _ (List.mem_of_getElem? (i := 8) rfl))) (mvT hZ (hw _ (List.mem_of_getElem? (i := 11) rfl))) (by decide) (backOf (W := 0) (rm2 l Z a0 hw [] o0 h0 n0 Z0 ) hZ (hw _ (List.mem_of_getElem? (i := 11) rfl)) (hw _ (List.mem_of_getElem? (i := 10) rfl)) (by decide) (by decide)) (g := (mkF m 1 #[.val (.ref o0), .val (.int p1), .val (.int p2), .val (.int p3), .val (.int p4)] [(.ref o0)])) rfl (by rw [hml]; rfl) (Steps.refl _) (a := o0) (argsL := []) (rest := []) (lenOf pd_0 rfl) rfl (by show 2 * 0 + _ ≤ _; exact Nat.le_of_eq rfl) (hb hby d1_1) (fun _ _ => ⟨rfl, e0, (by decide : 0 + 0 ≤ _), (by decide : 0 + 0 ≤ _)⟩)
  dsimp only [Pt.U, Pt.locs, Pt.cells, Pt.slots] at X15 l15 y15 z15 st15 hQ15
  subst l15 y15 z15
  obtain ⟨rfl, Nq15, e15⟩ := hQ15
  have N15 := Fr.app N0 Nq15
  refine OGl.go (fun t k => st15.trans k) ?_
  show OGl _ _ _ _ T15 (mkF m 4 #[.val (.ref o0), .val (.int p1), .val (.int p2), .val (.int p3), .val (.int p4)] [])
  refine OGl.go (fun t k => XS.aloadN X15.here hx rfl (hb hby d1_4) rfl rfl (XS.iloadN X15.here hx rfl (hb hby d1_5) rfl k)) ?_
  show OGl _ _ _ _ T15 (mkF m 6 #[.val (.ref o0), .val (.int p1), .val (.int p2), .val (.int p3), .val (.int p4)] [(.int p1), (.ref o0)])
  obtain ⟨T17, h17, X17, e17, W17, st17⟩ := putF X15 hx hZ hown (host := "") (Or.inl (hw _ (List.mem_of_getElem? (i := 15) rfl))) Via.refl e15 F1_o0 E_o0 (Or.inr ⟨(hw _ (List.mem_of_getElem? (i := 16) rfl)), rfl, hnm⟩) (hw _ (List.mem_of_getElem? (i := 2) rfl)) (ty := .int) (by decide) rfl rfl (g := (mkF m 6 #[.val (.ref o0), .val (.int p1), .val (.int p2), .val (.int p3), .val (.int p4)] [(.int p1), (.ref o0)])) rfl rfl (hb hby d1_6)
  refine OGl.go st17 ?_
  have N17 := Fr.snoc X17 N15 g_o0
  have Fw17 := F1_o0.same W17
  have KK17 : Keep h0 h17 [o0] := (Keep.refl h0 [o0]).wr W17 (Or.inl (List.mem_of_getElem? (i := 0) rfl))
  show OGl _ _ _ _ T17 (mkF m 9 #[.val (.ref o0), .val (.int p1), .val (.int p2), .val (.int p3), .val (.int p4)] [])
  refine OGl.go (fun t k => XS.aloadN X17.here hx rfl (hb hby d1_9) rfl rfl (XS.iloadN X17.here hx rfl (hb hby d1_10) rfl k)) ?_
  show OGl _ _ _ _ T17 (mkF m 11 #[.val (.ref o0), .val (.int p1), .val (.int p2), .val (.int p3), .val (.int p4)] [(.int p2), (.ref o0)])
  have F18 := (F2_o0.other W17 (Or.inr (slot_ne (Or.inr (hw _ (List.mem_of_getElem? (i := 18) rfl))) (Or.inr (hw _ (List.mem_of_getElem? (i := 16) rfl))) (by decide) (t := .int) (t' := .int) (by decide) (by decide))))
  have F19 := (E_o0.wr W17)
  obtain ⟨T20, h20, X20, e20, W20, st20⟩ := putF X17 hx hZ hown (host := "") (Or.inl (hw _ (List.mem_of_getElem? (i := 17) rfl))) Via.refl e17 F18 F19 (Or.inr ⟨(hw _ (List.mem_of_getElem? (i := 18) rfl)), rfl, hnm⟩) (hw _ (List.mem_of_getElem? (i := 2) rfl)) (ty := .int) (by decide) rfl rfl (g := (mkF m 11 #[.val (.ref o0), .val (.int p1), .val (.int p2), .val (.int p3), .val (.int p4)] [(.int p2), (.ref o0)])) rfl rfl (hb hby d1_11)
  refine OGl.go st20 ?_
  have N20 := Fr.snoc X20 N17 g_o0
  have Fw20 := F18.same W20
  have KK20 : Keep h0 h20 [o0] := KK17.wr W20 (Or.inl (List.mem_of_getElem? (i := 0) rfl))
  show OGl _ _ _ _ T20 (mkF m 14 #[.val (.ref o0), .val (.int p1), .val (.int p2), .val (.int p3), .val (.int p4)] [])
  refine OGl.go (fun t k => XS.aloadN X20.here hx rfl (hb hby d1_14) rfl rfl (XS.iloadN X20.here hx rfl (hb hby d1_15) rfl k)) ?_
  show OGl _ _ _ _ T20 (mkF m 16 #[.val (.ref o0), .val (.int p1), .val (.int p2), .val (.int p3), .val (.int p4)] [(.int p3), (.ref o0)])
  have F21 := ((F3_o0.other W17 (Or.inr (slot_ne (Or.inr (hw _ (List.mem_of_getElem? (i := 20) rfl))) (Or.inr (hw _ (List.mem_of_getElem? (i := 16) rfl))) (by decide) (t := .int) (t' := .int) (by decide) (by decide)))).other W20 (Or.inr (slot_ne (Or.inr (hw _ (List.mem_of_getElem? (i := 20) rfl))) (Or.inr (hw _ (List.mem_of_getElem? (i := 18) rfl))) (by decide) (t := .int) (t' := .int) (by decide) (by decide))))
  have F22 := (F19.wr W20)
  obtain ⟨T23, h23, X23, e23, W23, st23⟩ := putF X20 hx hZ hown (host := "") (Or.inl (hw _ (List.mem_of_getElem? (i := 19) rfl))) Via.refl e20 F21 F22 (Or.inr ⟨(hw _ (List.mem_of_getElem? (i := 20) rfl)), rfl, hnm⟩) (hw _ (List.mem_of_getElem? (i := 2) rfl)) (ty := .int) (by decide) rfl rfl (g := (mkF m 16 #[.val (.ref o0), .val (.int p1), .val (.int p2), .val (.int p3), .val (.int p4)] [(.int p3), (.ref o0)])) rfl rfl (hb hby d1_16)
  refine OGl.go st23 ?_
  have N23 := Fr.snoc X23 N20 g_o0
  have Fw23 := F21.same W23
  have KK23 : Keep h0 h23 [o0] := KK20.wr W23 (Or.inl (List.mem_of_getElem? (i := 0) rfl))
  show OGl _ _ _ _ T23 (mkF m 19 #[.val (.ref o0), .val (.int p1), .val (.int p2), .val (.int p3), .val (.int p4)] [])
  refine OGl.go (fun t k => XS.aloadN X23.here hx rfl (hb hby d1_19) rfl rfl (XS.iload X23.here hx rfl (hb hby d1_20) rfl k)) ?_
  show OGl _ _ _ _ T23 (mkF m 22 #[.val (.ref o0), .val (.int p1), .val (.int p2), .val (.int p3), .val (.int p4)] [(.int p4), (.ref o0)])
  have F24 := (((F4_o0.other W17 (Or.inr (slot_ne (Or.inr (hw _ (List.mem_of_getElem? (i := 22) rfl))) (Or.inr (hw _ (List.mem_of_getElem? (i := 16) rfl))) (by decide) (t := .int) (t' := .int) (by decide) (by decide)))).other W20 (Or.inr (slot_ne (Or.inr (hw _ (List.mem_of_getElem? (i := 22) rfl))) (Or.inr (hw _ (List.mem_of_getElem? (i := 18) rfl))) (by decide) (t := .int) (t' := .int) (by decide) (by decide)))).other W23 (Or.inr (slot_ne (Or.inr (hw _ (List.mem_of_getElem? (i := 22) rfl))) (Or.inr (hw _ (List.mem_of_getElem? (i := 20) rfl))) (by decide) (t := .int) (t' := .int) (by decide) (by decide))))
  have F25 := (F22.wr W23)
  obtain ⟨T26, h26, X26, e26, W26, st26⟩ := putF X23 hx hZ hown (host := "") (Or.inl (hw _ (List.mem_of_getElem? (i := 21) rfl))) Via.refl e23 F24 F25 (Or.inr ⟨(hw _ (List.mem_of_getElem? (i := 22) rfl)), rfl, hnm⟩) (hw _ (List.mem_of_getElem? (i := 2) rfl)) (ty := .int) (by decide) rfl rfl (g := (mkF m 22 #[.val (.ref o0), .val (.int p1), .val (.int p2), .val (.int p3), .val (.int p4)] [(.int p4), (.ref o0)])) rfl rfl (hb hby d1_22)
  refine OGl.go st26 ?_
  have N26 := Fr.snoc X26 N23 g_o0
  have Fw26 := F24.same W26
  have KK26 : Keep h0 h26 [o0] := KK23.wr W26 (Or.inl (List.mem_of_getElem? (i := 0) rfl))
  show OGl _ _ _ _ T26 (mkF m 25 #[.val (.ref o0), .val (.int p1), .val (.int p2), .val (.int p3), .val (.int p4)] [])
  obtain ⟨fs, hr, hrun, hended, hW, hsame⟩ := X26.leave (v := none) (fun _ => rfl)
  refine ⟨_, _, X26.returnOut hx Bd.returns (hb hby d1_25) hr, hrun, hended, _, _, rfl, ?_, ⟨_, rfl⟩, hW, hsame.mono (by decide) (by decide)⟩
  show Q1 Z o0 p1 p2 p3 p4 h0 n0 _ T26.heap _
  rw [e26]
  have F27 := (Fw23.other W26 (Or.inr (slot_ne (Or.inr (hw _ (List.mem_of_getElem? (i := 20) rfl))) (Or.inr (hw _ (List.mem_of_getElem? (i := 22) rfl))) (by decide) (t := .int) (t' := .int) (by decide) (by decide))))
  have F28 := (((Fw17.other W20 (Or.inr (slot_ne (Or.inr (hw _ (List.mem_of_getElem? (i := 16) rfl))) (Or.inr (hw _ (List.mem_of_getElem? (i := 18) rfl))) (by decide) (t := .int) (t' := .int) (by decide) (by decide)))).other W23 (Or.inr (slot_ne (Or.inr (hw _ (List.mem_of_getElem? (i := 16) rfl))) (Or.inr (hw _ (List.mem_of_getElem? (i := 20) rfl))) (by decide) (t := .int) (t' := .int) (by decide) (by decide)))).other W26 (Or.inr (slot_ne (Or.inr (hw _ (List.mem_of_getElem? (i := 16) rfl))) (Or.inr (hw _ (List.mem_of_getElem? (i := 22) rfl))) (by decide) (t := .int) (t' := .int) (by decide) (by decide))))
  have F29 := ((Fw20.other W23 (Or.inr (slot_ne (Or.inr (hw _ (List.mem_of_getElem? (i := 18) rfl))) (Or.inr (hw _ (List.mem_of_getElem? (i := 20) rfl))) (by decide) (t := .int) (t' := .int) (by decide) (by decide)))).other W26 (Or.inr (slot_ne (Or.inr (hw _ (List.mem_of_getElem? (i := 18) rfl))) (Or.inr (hw _ (List.mem_of_getElem? (i := 22) rfl))) (by decide) (t := .int) (t' := .int) (by decide) (by decide))))
  exact ⟨rfl, N26, KK26, F27, F28, F29, Fw26⟩
theorem pd_1 : parseMethodDescriptor "(IIII)V" = some ⟨[.int, .int, .int, .int], none⟩ := by decide +kernel
theorem d4_0 : decode prog_45_method_5_code 0 = .ok (.aload_n 0, 1) := by decide +kernel
theorem d4_1 : decode prog_45_method_5_code 1 = .ok (.getfield 7, 3) := by decide +kernel
theorem d4_4 : decode prog_45_method_5_code 4 = .ok (.bipush 7, 2) := by decide +kernel
theorem d4_6 : decode prog_45_method_5_code 6 = .ok (.if_icmp .ne 15, 3) := by decide +kernel
theorem d4_9 : decode prog_45_method_5_code 9 = .ok (.aload_n 0, 1) := by decide +kernel
theorem d4_10 : decode prog_45_method_5_code 10 = .ok (.invokevirtual 51, 3) := by decide +kernel
theorem d5_0 : decode prog_45_method_3_code 0 = .ok (.iconst 0, 1) := by decide +kernel
theorem d5_1 : decode prog_45_method_3_code 1 = .ok (.istore_n 1, 1) := by decide +kernel
theorem d5_2 : decode prog_45_method_3_code 2 = .ok (.aload_n 0, 1) := by decide +kernel
theorem d5_3 : decode prog_45_method_3_code 3 = .ok (.invokevirtual 47, 3) := by decide +kernel
theorem d6_0 : decode prog_45_method_8_code 0 = .ok (.iconst 4, 1) := by decide +kernel
theorem d6_1 : decode prog_45_method_8_code 1 = .ok (.newarray .int, 2) := by decide +kernel
theorem d6_3 : decode prog_45_method_8_code 3 = .ok (.dup, 1) := by decide +kernel
theorem d6_4 : decode prog_45_method_8_code 4 = .ok (.iconst 0, 1) := by decide +kernel
theorem d6_5 : decode prog_45_method_8_code 5 = .ok (.aload_n 0, 1) := by decide +kernel
theorem d6_6 : decode prog_45_method_8_code 6 = .ok (.getfield 7, 3) := by decide +kernel
theorem d6_9 : decode prog_45_method_8_code 9 = .ok (.iastore, 1) := by decide +kernel
theorem d6_10 : decode prog_45_method_8_code 10 = .ok (.dup, 1) := by decide +kernel
theorem d6_11 : decode prog_45_method_8_code 11 = .ok (.iconst 1, 1) := by decide +kernel
theorem d6_12 : decode prog_45_method_8_code 12 = .ok (.aload_n 0, 1) := by decide +kernel
theorem d6_13 : decode prog_45_method_8_code 13 = .ok (.getfield 13, 3) := by decide +kernel
theorem d6_16 : decode prog_45_method_8_code 16 = .ok (.iastore, 1) := by decide +kernel
theorem d6_17 : decode prog_45_method_8_code 17 = .ok (.dup, 1) := by decide +kernel
theorem d6_18 : decode prog_45_method_8_code 18 = .ok (.iconst 2, 1) := by decide +kernel
theorem d6_19 : decode prog_45_method_8_code 19 = .ok (.aload_n 0, 1) := by decide +kernel
theorem d6_20 : decode prog_45_method_8_code 20 = .ok (.getfield 16, 3) := by decide +kernel
theorem d6_23 : decode prog_45_method_8_code 23 = .ok (.iastore, 1) := by decide +kernel
theorem d6_24 : decode prog_45_method_8_code 24 = .ok (.dup, 1) := by decide +kernel
theorem d6_25 : decode prog_45_method_8_code 25 = .ok (.iconst 3, 1) := by decide +kernel
theorem d6_26 : decode prog_45_method_8_code 26 = .ok (.aload_n 0, 1) := by decide +kernel
theorem d6_27 : decode prog_45_method_8_code 27 = .ok (.getfield 19, 3) := by decide +kernel
theorem d6_30 : decode prog_45_method_8_code 30 = .ok (.iastore, 1) := by decide +kernel
theorem d6_31 : decode prog_45_method_8_code 31 = .ok (.areturn, 1) := by decide +kernel
theorem ef_6 (m : MethodId) (x0 : Addr) : entryFrame m #[(.ref x0)] 1 = mkF m 0 #[.val (.ref x0)] [] := by first | (simp [entryFrame, mkF, argsToLocals, Value.category]; done) | rfl
def Q6 (Z : State) (o0 : Addr) (p1 : Int32) (p2 : Int32) (p3 : Int32) (p4 : Int32) (h0 : Heap) (n0 : Nat) (v : Option Value) (h : Heap) (L : List Loc) : Prop := ∃ (nb0 : Addr), ∃ (nk0 : ClassId), v = some (.ref nb0) ∧ Fr n0 L ∧ Keep h0 h [] ∧ h0.size ≤ nb0 ∧ Arv Z h nb0 nk0 .int (4 : Int32) [(.int p1), (.int p2), (.int p3), (.int p4)] (.int (0 : Int32))
set_option maxRecDepth 65536 in
set_option maxHeartbeats 40000000 in
theorem rm6 (l : Launch) (Z : State) (a0 : Array Value) (hw : ∀ d ∈ tables_1, d.before a0 Z = true) (ws : List Jvm.Cond) (o0 : Addr) (p1 : Int32) (p2 : Int32) (p3 : Int32) (p4 : Int32) (h0 : Heap) (n0 : Nat) (Z0 : n0 ≤ h0.size) (F0_o0 : Fld Z h0 o0 "com/example/wallbreak/wallbreak/cardfree/Pattern" "pairs" "I" (.int p1)) (F1_o0 : Fld Z h0 o0 "com/example/wallbreak/wallbreak/cardfree/Pattern" "pungs" "I" (.int p2)) (F2_o0 : Fld Z h0 o0 "com/example/wallbreak/wallbreak/cardfree/Pattern" "kongs" "I" (.int p3)) (F3_o0 : Fld Z h0 o0 "com/example/wallbreak/wallbreak/cardfree/Pattern" "quints" "I" (.int p4)) :
    MetFree l (⟨"com/example/wallbreak/wallbreak/cardfree/Pattern", "bySize", "()[I"⟩ : MethodName) (head1 (Jvm.Cond.code (⟨"com/example/wallbreak/wallbreak/cardfree/Pattern", "bySize", "()[I"⟩ : MethodName) prog_45_method_8_code 1 (some (.array .int)) :: ws) ({ frames := 0, cells := 1, slots := 4, locals := 0 } : Room)) (fun a U => a = #[(.ref o0)] ∧ Z.Warmed39 U.vm ∧ U.heap = h0) (fun _ _ _ _ _ => True) (fun _ U o U' => ∃ v L, o = .returned v ∧ Q6 Z o0 p1 p2 p3 p4 h0 n0 v U'.heap L ∧ FrameEnd U o U' L ({ frames := 0, cells := 1, slots := 4, locals := 0 } : Room).cells ({ frames := 0, cells := 1, slots := 4, locals := 0 } : Room).slots) := by
  refine MetFree.of_bodySF (plainFor_of_name pn_1) hisR ?_
  intro p e s m args below meth c s₁ Bd hml0 hP hK
  obtain ⟨rfl, hZ, hh⟩ := hP
  have hx := Bd.exec
  have hby := Bd.bytes
  have hml : c.maxLocals = 1 := hml0
  have hown : s.vm.findClass "com/example/wallbreak/wallbreak/cardfree/Pattern" = some m.cls := findClass_of_methodNamed Bd.named
  have hnm := (name_of_methodNamed Bd.named Bd.method).1
  have X0 : Stand p l e ({ frames := 0, cells := 1, slots := 4, locals := 0 } : Room) s m #[(.ref o0)] below meth c s₁ [] 0 0 := Stand.of_body Bd
  have e0 : s₁.heap = h0 := by rw [← hh, Bd.state]; rfl
  have N0 := Fr.nil n0
  refine OGl.start (ef_6 m o0) ?_
  show OGl _ _ _ _ s₁ (mkF m 0 #[.val (.ref o0)] [])
  refine OGl.go (fun t k => XS.iconst X0.here hx rfl (hb hby d6_0) k) ?_
  show OGl _ _ _ _ s₁ (mkF m 1 #[.val (.ref o0)] [(.int (4 : Int32))])
  obtain ⟨T35, h35, k35, X35, e35, E35, A35, st35⟩ := newP X0 hx hZ (hw _ (List.mem_of_getElem? (i := 37) rfl)) e0 (g := (mkF m 1 #[.val (.ref o0)] [(.int (4 : Int32))])) rfl (hb hby d6_1) rfl (by decide) (cap := 4) (by decide) (by decide) (by decide) (by decide)
  obtain ⟨b35, gb35⟩ : ∃ z, z = h0.size := ⟨_, rfl⟩
  rw [← gb35] at A35 st35
  have sz_b35 : h0.size ≤ b35 := Nat.le_trans (Keep.refl h0 []).1 (Nat.le_of_eq gb35.symm)
  have g_b35 : n0 ≤ b35 := Nat.le_trans Z0 sz_b35
  have V35 : Arv Z h35 b35 k35 .int (4 : Int32) [(.int (0 : Int32)), (.int (0 : Int32)), (.int (0 : Int32)), (.int (0 : Int32))] (.int (0 : Int32)) := (Arv.new A35 (by decide)).pad (pad_rep [] (.int (0 : Int32)) 4)
  have KK35 : Keep h0 h35 [] := (Keep.refl h0 []).ext E35
  refine OGl.go st35 ?_
  show OGl _ _ _ _ T35 (mkF m 3 #[.val (.ref o0)] [(.ref b35)])
  refine OGl.go (fun t k => XS.dup X35.here hx rfl (hb hby d6_3) rfl rfl (XS.iconst X35.here hx rfl (hb hby d6_4) (XS.aloadN X35.here hx rfl (hb hby d6_5) rfl rfl k))) ?_
  show OGl _ _ _ _ T35 (mkF m 6 #[.val (.ref o0)] [(.ref o0), (.int (0 : Int32)), (.ref b35), (.ref b35)])
  have F36 := (F0_o0.ext E35)
  obtain ⟨T37, X37, e37, st37⟩ := getF X35 hx hZ hown (host := "") (Or.inl (hw _ (List.mem_of_getElem? (i := 15) rfl))) Via.refl e35 F36 (g := (mkF m 6 #[.val (.ref o0)] [(.ref o0), (.int (0 : Int32)), (.ref b35), (.ref b35)])) rfl rfl (hb hby d6_6)
  refine OGl.go st37 ?_
  show OGl _ _ _ _ T37 (mkF m 9 #[.val (.ref o0)] [(.int p1), (.int (0 : Int32)), (.ref b35), (.ref b35)])
  obtain ⟨cl38, Ar38, qk38, Sz38, Nn38, Ha38, Gf38⟩ := id V35
  have hin38 : ¬ ((0 : Int32) < 0 ∨ cl38.slots.size ≤ ((0 : Int32)).toNatClampNeg) := inb_of Sz38 ⟨by decide, by decide⟩
  obtain ⟨T38, h38, X38, e38, W38, st38⟩ := stI X37 hx hZ e37 Ar38 (j := (0 : Int32)) hin38 (g := (mkF m 9 #[.val (.ref o0)] [(.int p1), (.int (0 : Int32)), (.ref b35), (.ref b35)])) rfl rfl (hb hby d6_9)
  have V38 : Arv Z h38 b35 k35 .int (4 : Int32) [(.int p1), (.int (0 : Int32)), (.int (0 : Int32)), (.int (0 : Int32))] (.int (0 : Int32)) := Arv.set Ar38 qk38 Sz38 Nn38 Ha38 Gf38 rfl W38 0 rfl (Nat.le_of_ble_eq_true rfl)
  refine OGl.go st38 ?_
  have N38 := Fr.snoc X38 N0 g_b35
  have KK38 : Keep h0 h38 [] := KK35.wr W38 (Or.inr sz_b35)
  show OGl _ _ _ _ T38 (mkF m 10 #[.val (.ref o0)] [(.ref b35)])
  refine OGl.go (fun t k => XS.dup X38.here hx rfl (hb hby d6_10) rfl rfl (XS.iconst X38.here hx rfl (hb hby d6_11) (XS.aloadN X38.here hx rfl (hb hby d6_12) rfl rfl k))) ?_
  show OGl _ _ _ _ T38 (mkF m 13 #[.val (.ref o0)] [(.ref o0), (.int (1 : Int32)), (.ref b35), (.ref b35)])
  have F39 := ((F1_o0.ext E35).other W38 (Or.inl (Nat.ne_of_lt (Nat.lt_of_lt_of_le F0_o0.lt sz_b35))))
  obtain ⟨T40, X40, e40, st40⟩ := getF X38 hx hZ hown (host := "") (Or.inl (hw _ (List.mem_of_getElem? (i := 17) rfl))) Via.refl e38 F39 (g := (mkF m 13 #[.val (.ref o0)] [(.ref o0), (.int (1 : Int32)), (.ref b35), (.ref b35)])) rfl rfl (hb hby d6_13)
  refine OGl.go st40 ?_
  show OGl _ _ _ _ T40 (mkF m 16 #[.val (.ref o0)] [(.int p2), (.int (1 : Int32)), (.ref b35), (.ref b35)])
  obtain ⟨cl41, Ar41, qk41, Sz41, Nn41, Ha41, Gf41⟩ := id V38
  have hin41 : ¬ ((1 : Int32) < 0 ∨ cl41.slots.size ≤ ((1 : Int32)).toNatClampNeg) := inb_of Sz41 ⟨by decide, by decide⟩
  obtain ⟨T41, h41, X41, e41, W41, st41⟩ := stI X40 hx hZ e40 Ar41 (j := (1 : Int32)) hin41 (g := (mkF m 16 #[.val (.ref o0)] [(.int p2), (.int (1 : Int32)), (.ref b35), (.ref b35)])) rfl rfl (hb hby d6_16)
  have V41 : Arv Z h41 b35 k35 .int (4 : Int32) [(.int p1), (.int p2), (.int (0 : Int32)), (.int (0 : Int32))] (.int (0 : Int32)) := Arv.set Ar41 qk41 Sz41 Nn41 Ha41 Gf41 rfl W41 1 rfl (Nat.le_of_ble_eq_true rfl)
  refine OGl.go st41 ?_
  have N41 := Fr.snoc X41 N38 g_b35
  have KK41 : Keep h0 h41 [] := KK38.wr W41 (Or.inr sz_b35)
  show OGl _ _ _ _ T41 (mkF m 17 #[.val (.ref o0)] [(.ref b35)])
  refine OGl.go (fun t k => XS.dup X41.here hx rfl (hb hby d6_17) rfl rfl (XS.iconst X41.here hx rfl (hb hby d6_18) (XS.aloadN X41.here hx rfl (hb hby d6_19) rfl rfl k))) ?_
  show OGl _ _ _ _ T41 (mkF m 20 #[.val (.ref o0)] [(.ref o0), (.int (2 : Int32)), (.ref b35), (.ref b35)])
  have F42 := (((F2_o0.ext E35).other W38 (Or.inl (Nat.ne_of_lt (Nat.lt_of_lt_of_le F0_o0.lt sz_b35)))).other W41 (Or.inl (Nat.ne_of_lt (Nat.lt_of_lt_of_le F0_o0.lt sz_b35))))
  obtain ⟨T43, X43, e43, st43⟩ := getF X41 hx hZ hown (host := "") (Or.inl (hw _ (List.mem_of_getElem? (i := 19) rfl))) Via.refl e41 F42 (g := (mkF m 20 #[.val (.ref o0)] [(.ref o0), (.int (2 : Int32)), (.ref b35), (.ref b35)])) rfl rfl (hb hby d6_20)
  refine OGl.go st43 ?_
  show OGl _ _ _ _ T43 (mkF m 23 #[.val (.ref o0)] [(.int p3), (.int (2 : Int32)), (.ref b35), (.ref b35)])
  obtain ⟨cl44, Ar44, qk44, Sz44, Nn44, Ha44, Gf44⟩ := id V41
  have hin44 : ¬ ((2 : Int32) < 0 ∨ cl44.slots.size ≤ ((2 : Int32)).toNatClampNeg) := inb_of Sz44 ⟨by decide, by decide⟩
  obtain ⟨T44, h44, X44, e44, W44, st44⟩ := stI X43 hx hZ e43 Ar44 (j := (2 : Int32)) hin44 (g := (mkF m 23 #[.val (.ref o0)] [(.int p3), (.int (2 : Int32)), (.ref b35), (.ref b35)])) rfl rfl (hb hby d6_23)
  have V44 : Arv Z h44 b35 k35 .int (4 : Int32) [(.int p1), (.int p2), (.int p3), (.int (0 : Int32))] (.int (0 : Int32)) := Arv.set Ar44 qk44 Sz44 Nn44 Ha44 Gf44 rfl W44 2 rfl (Nat.le_of_ble_eq_true rfl)
  refine OGl.go st44 ?_
  have N44 := Fr.snoc X44 N41 g_b35
  have KK44 : Keep h0 h44 [] := KK41.wr W44 (Or.inr sz_b35)
  show OGl _ _ _ _ T44 (mkF m 24 #[.val (.ref o0)] [(.ref b35)])
  refine OGl.go (fun t k => XS.dup X44.here hx rfl (hb hby d6_24) rfl rfl (XS.iconst X44.here hx rfl (hb hby d6_25) (XS.aloadN X44.here hx rfl (hb hby d6_26) rfl rfl k))) ?_
  show OGl _ _ _ _ T44 (mkF m 27 #[.val (.ref o0)] [(.ref o0), (.int (3 : Int32)), (.ref b35), (.ref b35)])
  have F45 := ((((F3_o0.ext E35).other W38 (Or.inl (Nat.ne_of_lt (Nat.lt_of_lt_of_le F0_o0.lt sz_b35)))).other W41 (Or.inl (Nat.ne_of_lt (Nat.lt_of_lt_of_le F0_o0.lt sz_b35)))).other W44 (Or.inl (Nat.ne_of_lt (Nat.lt_of_lt_of_le F0_o0.lt sz_b35))))
  obtain ⟨T46, X46, e46, st46⟩ := getF X44 hx hZ hown (host := "") (Or.inl (hw _ (List.mem_of_getElem? (i := 21) rfl))) Via.refl e44 F45 (g := (mkF m 27 #[.val (.ref o0)] [(.ref o0), (.int (3 : Int32)), (.ref b35), (.ref b35)])) rfl rfl (hb hby d6_27)
  refine OGl.go st46 ?_
  show OGl _ _ _ _ T46 (mkF m 30 #[.val (.ref o0)] [(.int p4), (.int (3 : Int32)), (.ref b35), (.ref b35)])
  obtain ⟨cl47, Ar47, qk47, Sz47, Nn47, Ha47, Gf47⟩ := id V44
  have hin47 : ¬ ((3 : Int32) < 0 ∨ cl47.slots.size ≤ ((3 : Int32)).toNatClampNeg) := inb_of Sz47 ⟨by decide, by decide⟩
  obtain ⟨T47, h47, X47, e47, W47, st47⟩ := stI X46 hx hZ e46 Ar47 (j := (3 : Int32)) hin47 (g := (mkF m 30 #[.val (.ref o0)] [(.int p4), (.int (3 : Int32)), (.ref b35), (.ref b35)])) rfl rfl (hb hby d6_30)
  have V47 : Arv Z h47 b35 k35 .int (4 : Int32) [(.int p1), (.int p2), (.int p3), (.int p4)] (.int (0 : Int32)) := Arv.set Ar47 qk47 Sz47 Nn47 Ha47 Gf47 rfl W47 3 rfl (Nat.le_of_ble_eq_true rfl)
  refine OGl.go st47 ?_
  have N47 := Fr.snoc X47 N44 g_b35
  have KK47 : Keep h0 h47 [] := KK44.wr W47 (Or.inr sz_b35)
  show OGl _ _ _ _ T47 (mkF m 31 #[.val (.ref o0)] [(.ref b35)])
  obtain ⟨fs, hr, hrun, hended, hW, hsame⟩ := X47.leave (v := some (.ref b35)) (fun h => by rw [Bd.returns] at h; cases h)
  refine ⟨_, _, retOut X47 hx (t := (.array .int)) Bd.returns rfl (Or.inr (Or.inr (Or.inr (Or.inr ⟨rfl, rfl, rfl⟩)))) (hb hby d6_31) hr, hrun, hended, _, _, rfl, ?_, ⟨_, rfl⟩, hW, hsame.mono (by decide) (by decide)⟩
  show Q6 Z o0 p1 p2 p3 p4 h0 n0 _ T47.heap _
  rw [e47]
  exact ⟨b35, k35, rfl, N47, KK47, sz_b35, V47⟩
theorem pd_2 : parseMethodDescriptor "()[I" = some ⟨[], some (.array .int)⟩ := by decide +kernel
theorem d5_6 : decode prog_45_method_3_code 6 = .ok (.astore_n 2, 1) := by decide +kernel
theorem d5_7 : decode prog_45_method_3_code 7 = .ok (.aload_n 2, 1) := by decide +kernel
theorem d5_8 : decode prog_45_method_3_code 8 = .ok (.arraylength, 1) := by decide +kernel
theorem d5_9 : decode prog_45_method_3_code 9 = .ok (.istore_n 3, 1) := by decide +kernel
theorem d5_10 : decode prog_45_method_3_code 10 = .ok (.iconst 0, 1) := by decide +kernel
theorem d5_11 : decode prog_45_method_3_code 11 = .ok (.istore 4, 2) := by decide +kernel
theorem d5_13 : decode prog_45_method_3_code 13 = .ok (.iload 4, 2) := by decide +kernel
theorem d5_15 : decode prog_45_method_3_code 15 = .ok (.iload_n 3, 1) := by decide +kernel
theorem d5_16 : decode prog_45_method_3_code 16 = .ok (.if_icmp .ge 28, 3) := by decide +kernel
theorem d5_19 : decode prog_45_method_3_code 19 = .ok (.aload_n 2, 1) := by decide +kernel
theorem d5_20 : decode prog_45_method_3_code 20 = .ok (.iload 4, 2) := by decide +kernel
theorem d5_22 : decode prog_45_method_3_code 22 = .ok (.iaload, 1) := by decide +kernel
theorem d5_23 : decode prog_45_method_3_code 23 = .ok (.istore 5, 2) := by decide +kernel
theorem d5_25 : decode prog_45_method_3_code 25 = .ok (.iload_n 1, 1) := by decide +kernel
theorem d5_26 : decode prog_45_method_3_code 26 = .ok (.iload 5, 2) := by decide +kernel
theorem d5_28 : decode prog_45_method_3_code 28 = .ok (.ifCond .le 7, 3) := by decide +kernel
theorem d5_31 : decode prog_45_method_3_code 31 = .ok (.iconst 1, 1) := by decide +kernel
theorem d5_32 : decode prog_45_method_3_code 32 = .ok (.goto 4, 3) := by decide +kernel
theorem d5_35 : decode prog_45_method_3_code 35 = .ok (.iconst 0, 1) := by decide +kernel
theorem d5_36 : decode prog_45_method_3_code 36 = .ok (.iadd, 1) := by decide +kernel
theorem d5_37 : decode prog_45_method_3_code 37 = .ok (.istore_n 1, 1) := by decide +kernel
theorem d5_38 : decode prog_45_method_3_code 38 = .ok (.iinc 4 1, 3) := by decide +kernel
theorem d5_41 : decode prog_45_method_3_code 41 = .ok (.goto (-28), 3) := by decide +kernel
theorem d5_44 : decode prog_45_method_3_code 44 = .ok (.iload_n 1, 1) := by decide +kernel
theorem d5_45 : decode prog_45_method_3_code 45 = .ok (.ireturn, 1) := by decide +kernel
def e5_0 (p1 : Int32) : Int32 := ((0 : Int32) + (if (0 : Int32) < p1 then (1 : Int32) else (0 : Int32)))
def e5_1 (p1 : Int32) (p2 : Int32) (p3 : Int32) : Int32 := (((e5_0 p1) + (if (0 : Int32) < p2 then (1 : Int32) else (0 : Int32))) + (if (0 : Int32) < p3 then (1 : Int32) else (0 : Int32)))
def e5_2 (p1 : Int32) (p2 : Int32) (p3 : Int32) (p4 : Int32) : Int32 := ((e5_1 p1 p2 p3) + (if (0 : Int32) < p4 then (1 : Int32) else (0 : Int32)))
theorem ef_5 (m : MethodId) (x0 : Addr) : entryFrame m #[(.ref x0)] 6 = mkF m 0 #[.val (.ref x0), .unset, .unset, .unset, .unset, .unset] [] := by first | (simp [entryFrame, mkF, argsToLocals, Value.category]; done) | rfl
def Q5 (Z : State) (o0 : Addr) (p1 : Int32) (p2 : Int32) (p3 : Int32) (p4 : Int32) (h0 : Heap) (n0 : Nat) (v : Option Value) (h : Heap) (L : List Loc) : Prop := v = some (.int (e5_2 p1 p2 p3 p4)) ∧ Fr n0 L ∧ Keep h0 h []
set_option maxRecDepth 65536 in
set_option maxHeartbeats 40000000 in
theorem rm5 (l : Launch) (Z : State) (a0 : Array Value) (hw : ∀ d ∈ tables_1, d.before a0 Z = true) (ws : List Jvm.Cond) (o0 : Addr) (p1 : Int32) (p2 : Int32) (p3 : Int32) (p4 : Int32) (h0 : Heap) (n0 : Nat) (Z0 : n0 ≤ h0.size) (E_o0 : Exa Z h0 o0 "com/example/wallbreak/wallbreak/cardfree/Pattern") (F1_o0 : Fld Z h0 o0 "com/example/wallbreak/wallbreak/cardfree/Pattern" "pairs" "I" (.int p1)) (F2_o0 : Fld Z h0 o0 "com/example/wallbreak/wallbreak/cardfree/Pattern" "pungs" "I" (.int p2)) (F3_o0 : Fld Z h0 o0 "com/example/wallbreak/wallbreak/cardfree/Pattern" "kongs" "I" (.int p3)) (F4_o0 : Fld Z h0 o0 "com/example/wallbreak/wallbreak/cardfree/Pattern" "quints" "I" (.int p4)) :
    MetFree l (⟨"com/example/wallbreak/wallbreak/cardfree/Pattern", "sizes", "()I"⟩ : MethodName) (head1 (Jvm.Cond.code (⟨"com/example/wallbreak/wallbreak/cardfree/Pattern", "sizes", "()I"⟩ : MethodName) prog_45_method_3_code 6 (some .int) :: ws) ({ frames := 1, cells := 1, slots := 4, locals := 12 } : Room)) (fun a U => a = #[(.ref o0)] ∧ Z.Warmed39 U.vm ∧ U.heap = h0) (fun _ _ _ _ _ => True) (fun _ U o U' => ∃ v L, o = .returned v ∧ Q5 Z o0 p1 p2 p3 p4 h0 n0 v U'.heap L ∧ FrameEnd U o U' L ({ frames := 1, cells := 1, slots := 4, locals := 12 } : Room).cells ({ frames := 1, cells := 1, slots := 4, locals := 12 } : Room).slots) := by
  refine MetFree.of_bodySF (plainFor_of_name pn_1) hisR ?_
  intro p e s m args below meth c s₁ Bd hml0 hP hK
  obtain ⟨rfl, hZ, hh⟩ := hP
  have hx := Bd.exec
  have hby := Bd.bytes
  have hml : c.maxLocals = 6 := hml0
  have hown : s.vm.findClass "com/example/wallbreak/wallbreak/cardfree/Pattern" = some m.cls := findClass_of_methodNamed Bd.named
  have hnm := (name_of_methodNamed Bd.named Bd.method).1
  have X0 : Stand p l e ({ frames := 1, cells := 1, slots := 4, locals := 12 } : Room) s m #[(.ref o0)] below meth c s₁ [] 0 0 := Stand.of_body Bd
  have e0 : s₁.heap = h0 := by rw [← hh, Bd.state]; rfl
  have N0 := Fr.nil n0
  refine OGl.start (ef_5 m o0) ?_
  show OGl _ _ _ _ s₁ (mkF m 0 #[.val (.ref o0), .unset, .unset, .unset, .unset, .unset] [])
  refine OGl.go (fun t k => XS.iconst X0.here hx rfl (hb hby d5_0) (XS.istoreN X0.here hx rfl (hb hby d5_1) rfl (l' := #[.val (.ref o0), .val (.int (0 : Int32)), .unset, .unset, .unset, .unset]) rfl (XS.aloadN X0.here hx rfl (hb hby d5_2) rfl rfl k))) ?_
  show OGl _ _ _ _ s₁ (mkF m 3 #[.val (.ref o0), .val (.int (0 : Int32)), .unset, .unset, .unset, .unset] [(.ref o0)])
  obtain ⟨cq34, q34a, q34b⟩ := (E_o0).cell
  obtain ⟨_, _, ⟨T34, L34, kk34, n34⟩, -, X34, ⟨Lc34, hQ34, l34, y34, z34⟩, st34⟩ := X0.privateBack hx (y := (⟨"com/example/wallbreak/wallbreak/cardfree/Pattern", "bySize", "()[I"⟩ : MethodName)) hown (mvT hZ (hw _ (List.mem_of_getElem? (i := 33) rfl))) (mvT hZ (hw _ (List.mem_of_getElem? (i := 34) rfl))) (own_selPriv (y := (⟨"com/example/wallbreak/wallbreak/cardfree/Pattern", "bySize", "()[I"⟩ : MethodName)) (Cond.privateMethod_at (mvP hZ (hw _ (List.mem_of_getElem? (i := 35) rfl)) (args := #[]))) (mvT hZ (hw _ (List.mem_of_getElem? (i := 34) rfl))) (mvT hZ (hw _ (List.mem_of_getElem? (i := 26) rfl))) rfl) (Cond.privateMethod_at (mvP hZ (hw _ (List.mem_of_getElem? (i := 35) rfl)) (args := #[]))) (mvT hZ (hw _ (List.mem_of_getElem? (i := 36) rfl))) (by decide) (backOf (W := 0) (rm6 l Z a0 hw [] o0 p1 p2 p3 p4 h0 n0 Z0 F1_o0 F2_o0 F3_o0 F4_o0) hZ (hw _ (List.mem_of_getElem? (i := 36) rfl)) (hw _ (List.mem_of_getElem? (i := 3) rfl)) (by decide) (by decide)) (g := (mkF m 3 #[.val (.ref o0), .val (.int (0 : Int32)), .unset, .unset, .unset, .unset] [(.ref o0)])) rfl (by rw [hml]; rfl) (Steps.refl _) (a := o0) (by rw [e0]; exact q34a) q34b (argsL := []) (rest := []) (lenOf pd_2 rfl) rfl (by show 2 * 0 + _ ≤ _; exact Nat.le_of_eq rfl) (hb hby d5_3) (fun _ _ => ⟨rfl, e0, (by decide : 0 + 1 ≤ _), (by decide : 0 + 4 ≤ _)⟩)
  dsimp only [Pt.U, Pt.locs, Pt.cells, Pt.slots] at X34 l34 y34 z34 st34 hQ34
  subst l34 y34 z34
  obtain ⟨b34_0, kb34_1, rfl, Nq34, K34, sb_b34_0, Fq34_0⟩ := hQ34
  have sz_b34_0 : h0.size ≤ b34_0 := Nat.le_trans (Keep.refl h0 []).1 sb_b34_0
  have g_b34_0 : n0 ≤ b34_0 := Nat.le_trans Z0 sz_b34_0
  have KK34 : Keep h0 T34.heap [] := (Keep.refl h0 []).trans K34 all0
  have N34 := Fr.app N0 Nq34
  refine OGl.go (fun t k => st34.trans k) ?_
  show OGl _ _ _ _ T34 (mkF m 6 #[.val (.ref o0), .val (.int (0 : Int32)), .unset, .unset, .unset, .unset] [(.ref b34_0)])
  obtain ⟨cl48, Ar48, -, Sz48, Nn48, -, -⟩ := id Fq34_0
  refine OGl.go (fun t k => XS.astoreN X34.here hx rfl (hb hby d5_6) rfl rfl (l' := #[.val (.ref o0), .val (.int (0 : Int32)), .val (.ref b34_0), .unset, .unset, .unset]) rfl (XS.aloadN X34.here hx rfl (hb hby d5_7) rfl rfl (own_len X34 hx Ar48.1 (State.isArrayOf_alike hZ.alike Ar48.2.1) Sz48 Nn48 rfl rfl (hb hby d5_8) (XS.istoreN X34.here hx rfl (hb hby d5_9) rfl (l' := #[.val (.ref o0), .val (.int (0 : Int32)), .val (.ref b34_0), .val (.int (4 : Int32)), .unset, .unset]) rfl (XS.iconst X34.here hx rfl (hb hby d5_10) (XS.istore X34.here hx rfl (hb hby d5_11) rfl (l' := #[.val (.ref o0), .val (.int (0 : Int32)), .val (.ref b34_0), .val (.int (4 : Int32)), .val (.int (0 : Int32)), .unset]) rfl (XS.iload X34.here hx rfl (hb hby d5_13) rfl (XS.iloadN X34.here hx rfl (hb hby d5_15) rfl k)))))))) ?_
  show OGl _ _ _ _ T34 (mkF m 16 #[.val (.ref o0), .val (.int (0 : Int32)), .val (.ref b34_0), .val (.int (4 : Int32)), .val (.int (0 : Int32)), .unset] [(.int (4 : Int32)), (.int (0 : Int32))])
  obtain ⟨cl49, Ar49, -, Sz49, -, Ha49, -⟩ := id Fq34_0
  have hin49 : ¬ ((0 : Int32) < 0 ∨ cl49.slots.size ≤ ((0 : Int32)).toNatClampNeg) := inb_of Sz49 ⟨by decide, by decide⟩
  refine OGl.go (fun t k => XS.icmpNo X34.here hx rfl (hb hby d5_16) rfl (tlt (by decide : (0 : Int32) < (4 : Int32))).2.1 (XS.aloadN X34.here hx rfl (hb hby d5_19) rfl rfl (XS.iload X34.here hx rfl (hb hby d5_20) rfl (own_iaload X34 hx (j := (0 : Int32)) (v := (.int p1)) Ar49.1 (State.isArrayOf_alike hZ.alike Ar49.2.1) Ar49.2.2 hin49 (Has.at Ha49 hin49 rfl) rfl rfl (hb hby d5_22) (XS.istore X34.here hx rfl (hb hby d5_23) rfl (l' := #[.val (.ref o0), .val (.int (0 : Int32)), .val (.ref b34_0), .val (.int (4 : Int32)), .val (.int (0 : Int32)), .val (.int p1)]) rfl (XS.iloadN X34.here hx rfl (hb hby d5_25) rfl (XS.iload X34.here hx rfl (hb hby d5_26) rfl k))))))) ?_
  show OGl _ _ _ _ T34 (mkF m 28 #[.val (.ref o0), .val (.int (0 : Int32)), .val (.ref b34_0), .val (.int (4 : Int32)), .val (.int (0 : Int32)), .val (.int p1)] [(.int p1), (.int (0 : Int32))])
  have m50 : ∀ t, Steps p.tables e below (T34.setTop (mkF m 36 #[.val (.ref o0), .val (.int (0 : Int32)), .val (.ref b34_0), .val (.int (4 : Int32)), .val (.int (0 : Int32)), .val (.int p1)] [(.int (if (0 : Int32) < p1 then (1 : Int32) else (0 : Int32))), (.int (0 : Int32))])) t → Steps p.tables e below (T34.setTop (mkF m 28 #[.val (.ref o0), .val (.int (0 : Int32)), .val (.ref b34_0), .val (.int (4 : Int32)), .val (.int (0 : Int32)), .val (.int p1)] [(.int p1), (.int (0 : Int32))])) t := by
    intro t k
    by_cases hm50 : (0 : Int32) < p1
    · rw [show (if (0 : Int32) < p1 then (1 : Int32) else (0 : Int32)) = (1 : Int32) from if_pos hm50] at k
      refine XS.ifNo X34.here hx rfl (hb hby d5_28) rfl ((if0 _ _).trans (tlt hm50).2.2.2) (XS.iconst X34.here hx rfl (hb hby d5_31) (XS.goto X34.here hx rfl (pc0 := 32) (pc' := 36) rfl (hb hby d5_32) (by decide) (by decide) ?_))
      show Steps _ _ _ (T34.setTop (mkF m 36 #[.val (.ref o0), .val (.int (0 : Int32)), .val (.ref b34_0), .val (.int (4 : Int32)), .val (.int (0 : Int32)), .val (.int p1)] [(.int (1 : Int32)), (.int (0 : Int32))])) _
      exact k
    · rw [show (if (0 : Int32) < p1 then (1 : Int32) else (0 : Int32)) = (0 : Int32) from if_neg hm50] at k
      refine XS.ifYes X34.here hx rfl (pc0 := 28) (pc' := 35) rfl (hb hby d5_28) rfl ((if0 _ _).trans (flt hm50).2.2.2) (by decide) (by decide) (XS.iconst X34.here hx rfl (hb hby d5_35) ?_)
      show Steps _ _ _ (T34.setTop (mkF m 36 #[.val (.ref o0), .val (.int (0 : Int32)), .val (.ref b34_0), .val (.int (4 : Int32)), .val (.int (0 : Int32)), .val (.int p1)] [(.int (0 : Int32)), (.int (0 : Int32))])) _
      exact k
  refine OGl.go (fun t k => m50 _ (XS.iadd X34.here hx rfl (hb hby d5_36) rfl (XS.istoreN X34.here hx rfl (hb hby d5_37) rfl (l' := #[.val (.ref o0), .val (.int (e5_0 p1)), .val (.ref b34_0), .val (.int (4 : Int32)), .val (.int (0 : Int32)), .val (.int p1)]) rfl (XS.iinc X34.here hx rfl (hb hby d5_38) rfl (l' := #[.val (.ref o0), .val (.int (e5_0 p1)), .val (.ref b34_0), .val (.int (4 : Int32)), .val (.int (1 : Int32)), .val (.int p1)]) rfl (XS.goto X34.here hx rfl (pc0 := 41) (pc' := 13) rfl (hb hby d5_41) (by decide) (by decide) (XS.iload X34.here hx rfl (hb hby d5_13) rfl (XS.iloadN X34.here hx rfl (hb hby d5_15) rfl (XS.icmpNo X34.here hx rfl (hb hby d5_16) rfl (tlt (by decide : (1 : Int32) < (4 : Int32))).2.1 k)))))))) ?_
  show OGl _ _ _ _ T34 (mkF m 19 #[.val (.ref o0), .val (.int (e5_0 p1)), .val (.ref b34_0), .val (.int (4 : Int32)), .val (.int (1 : Int32)), .val (.int p1)] [])
  obtain ⟨cl51, Ar51, -, Sz51, -, Ha51, -⟩ := id Fq34_0
  have hin51 : ¬ ((1 : Int32) < 0 ∨ cl51.slots.size ≤ ((1 : Int32)).toNatClampNeg) := inb_of Sz51 ⟨by decide, by decide⟩
  refine OGl.go (fun t k => XS.aloadN X34.here hx rfl (hb hby d5_19) rfl rfl (XS.iload X34.here hx rfl (hb hby d5_20) rfl (own_iaload X34 hx (j := (1 : Int32)) (v := (.int p2)) Ar51.1 (State.isArrayOf_alike hZ.alike Ar51.2.1) Ar51.2.2 hin51 (Has.at Ha51 hin51 rfl) rfl rfl (hb hby d5_22) (XS.istore X34.here hx rfl (hb hby d5_23) rfl (l' := #[.val (.ref o0), .val (.int (e5_0 p1)), .val (.ref b34_0), .val (.int (4 : Int32)), .val (.int (1 : Int32)), .val (.int p2)]) rfl (XS.iloadN X34.here hx rfl (hb hby d5_25) rfl (XS.iload X34.here hx rfl (hb hby d5_26) rfl k)))))) ?_
  show OGl _ _ _ _ T34 (mkF m 28 #[.val (.ref o0), .val (.int (e5_0 p1)), .val (.ref b34_0), .val (.int (4 : Int32)), .val (.int (1 : Int32)), .val (.int p2)] [(.int p2), (.int (e5_0 p1))])
  have m52 : ∀ t, Steps p.tables e below (T34.setTop (mkF m 36 #[.val (.ref o0), .val (.int (e5_0 p1)), .val (.ref b34_0), .val (.int (4 : Int32)), .val (.int (1 : Int32)), .val (.int p2)] [(.int (if (0 : Int32) < p2 then (1 : Int32) else (0 : Int32))), (.int (e5_0 p1))])) t → Steps p.tables e below (T34.setTop (mkF m 28 #[.val (.ref o0), .val (.int (e5_0 p1)), .val (.ref b34_0), .val (.int (4 : Int32)), .val (.int (1 : Int32)), .val (.int p2)] [(.int p2), (.int (e5_0 p1))])) t := by
    intro t k
    by_cases hm52 : (0 : Int32) < p2
    · rw [show (if (0 : Int32) < p2 then (1 : Int32) else (0 : Int32)) = (1 : Int32) from if_pos hm52] at k
      refine XS.ifNo X34.here hx rfl (hb hby d5_28) rfl ((if0 _ _).trans (tlt hm52).2.2.2) (XS.iconst X34.here hx rfl (hb hby d5_31) (XS.goto X34.here hx rfl (pc0 := 32) (pc' := 36) rfl (hb hby d5_32) (by decide) (by decide) ?_))
      show Steps _ _ _ (T34.setTop (mkF m 36 #[.val (.ref o0), .val (.int (e5_0 p1)), .val (.ref b34_0), .val (.int (4 : Int32)), .val (.int (1 : Int32)), .val (.int p2)] [(.int (1 : Int32)), (.int (e5_0 p1))])) _
      exact k
    · rw [show (if (0 : Int32) < p2 then (1 : Int32) else (0 : Int32)) = (0 : Int32) from if_neg hm52] at k
      refine XS.ifYes X34.here hx rfl (pc0 := 28) (pc' := 35) rfl (hb hby d5_28) rfl ((if0 _ _).trans (flt hm52).2.2.2) (by decide) (by decide) (XS.iconst X34.here hx rfl (hb hby d5_35) ?_)
      show Steps _ _ _ (T34.setTop (mkF m 36 #[.val (.ref o0), .val (.int (e5_0 p1)), .val (.ref b34_0), .val (.int (4 : Int32)), .val (.int (1 : Int32)), .val (.int p2)] [(.int (0 : Int32)), (.int (e5_0 p1))])) _
      exact k
  refine OGl.go (fun t k => m52 _ (XS.iadd X34.here hx rfl (hb hby d5_36) rfl (XS.istoreN X34.here hx rfl (hb hby d5_37) rfl (l' := #[.val (.ref o0), .val (.int ((e5_0 p1) + (if (0 : Int32) < p2 then (1 : Int32) else (0 : Int32)))), .val (.ref b34_0), .val (.int (4 : Int32)), .val (.int (1 : Int32)), .val (.int p2)]) rfl (XS.iinc X34.here hx rfl (hb hby d5_38) rfl (l' := #[.val (.ref o0), .val (.int ((e5_0 p1) + (if (0 : Int32) < p2 then (1 : Int32) else (0 : Int32)))), .val (.ref b34_0), .val (.int (4 : Int32)), .val (.int (2 : Int32)), .val (.int p2)]) rfl (XS.goto X34.here hx rfl (pc0 := 41) (pc' := 13) rfl (hb hby d5_41) (by decide) (by decide) (XS.iload X34.here hx rfl (hb hby d5_13) rfl (XS.iloadN X34.here hx rfl (hb hby d5_15) rfl (XS.icmpNo X34.here hx rfl (hb hby d5_16) rfl (tlt (by decide : (2 : Int32) < (4 : Int32))).2.1 k)))))))) ?_
  show OGl _ _ _ _ T34 (mkF m 19 #[.val (.ref o0), .val (.int ((e5_0 p1) + (if (0 : Int32) < p2 then (1 : Int32) else (0 : Int32)))), .val (.ref b34_0), .val (.int (4 : Int32)), .val (.int (2 : Int32)), .val (.int p2)] [])
  obtain ⟨cl53, Ar53, -, Sz53, -, Ha53, -⟩ := id Fq34_0
  have hin53 : ¬ ((2 : Int32) < 0 ∨ cl53.slots.size ≤ ((2 : Int32)).toNatClampNeg) := inb_of Sz53 ⟨by decide, by decide⟩
  refine OGl.go (fun t k => XS.aloadN X34.here hx rfl (hb hby d5_19) rfl rfl (XS.iload X34.here hx rfl (hb hby d5_20) rfl (own_iaload X34 hx (j := (2 : Int32)) (v := (.int p3)) Ar53.1 (State.isArrayOf_alike hZ.alike Ar53.2.1) Ar53.2.2 hin53 (Has.at Ha53 hin53 rfl) rfl rfl (hb hby d5_22) (XS.istore X34.here hx rfl (hb hby d5_23) rfl (l' := #[.val (.ref o0), .val (.int ((e5_0 p1) + (if (0 : Int32) < p2 then (1 : Int32) else (0 : Int32)))), .val (.ref b34_0), .val (.int (4 : Int32)), .val (.int (2 : Int32)), .val (.int p3)]) rfl (XS.iloadN X34.here hx rfl (hb hby d5_25) rfl (XS.iload X34.here hx rfl (hb hby d5_26) rfl k)))))) ?_
  show OGl _ _ _ _ T34 (mkF m 28 #[.val (.ref o0), .val (.int ((e5_0 p1) + (if (0 : Int32) < p2 then (1 : Int32) else (0 : Int32)))), .val (.ref b34_0), .val (.int (4 : Int32)), .val (.int (2 : Int32)), .val (.int p3)] [(.int p3), (.int ((e5_0 p1) + (if (0 : Int32) < p2 then (1 : Int32) else (0 : Int32))))])
  have m54 : ∀ t, Steps p.tables e below (T34.setTop (mkF m 36 #[.val (.ref o0), .val (.int ((e5_0 p1) + (if (0 : Int32) < p2 then (1 : Int32) else (0 : Int32)))), .val (.ref b34_0), .val (.int (4 : Int32)), .val (.int (2 : Int32)), .val (.int p3)] [(.int (if (0 : Int32) < p3 then (1 : Int32) else (0 : Int32))), (.int ((e5_0 p1) + (if (0 : Int32) < p2 then (1 : Int32) else (0 : Int32))))])) t → Steps p.tables e below (T34.setTop (mkF m 28 #[.val (.ref o0), .val (.int ((e5_0 p1) + (if (0 : Int32) < p2 then (1 : Int32) else (0 : Int32)))), .val (.ref b34_0), .val (.int (4 : Int32)), .val (.int (2 : Int32)), .val (.int p3)] [(.int p3), (.int ((e5_0 p1) + (if (0 : Int32) < p2 then (1 : Int32) else (0 : Int32))))])) t := by
    intro t k
    by_cases hm54 : (0 : Int32) < p3
    · rw [show (if (0 : Int32) < p3 then (1 : Int32) else (0 : Int32)) = (1 : Int32) from if_pos hm54] at k
      refine XS.ifNo X34.here hx rfl (hb hby d5_28) rfl ((if0 _ _).trans (tlt hm54).2.2.2) (XS.iconst X34.here hx rfl (hb hby d5_31) (XS.goto X34.here hx rfl (pc0 := 32) (pc' := 36) rfl (hb hby d5_32) (by decide) (by decide) ?_))
      show Steps _ _ _ (T34.setTop (mkF m 36 #[.val (.ref o0), .val (.int ((e5_0 p1) + (if (0 : Int32) < p2 then (1 : Int32) else (0 : Int32)))), .val (.ref b34_0), .val (.int (4 : Int32)), .val (.int (2 : Int32)), .val (.int p3)] [(.int (1 : Int32)), (.int ((e5_0 p1) + (if (0 : Int32) < p2 then (1 : Int32) else (0 : Int32))))])) _
      exact k
    · rw [show (if (0 : Int32) < p3 then (1 : Int32) else (0 : Int32)) = (0 : Int32) from if_neg hm54] at k
      refine XS.ifYes X34.here hx rfl (pc0 := 28) (pc' := 35) rfl (hb hby d5_28) rfl ((if0 _ _).trans (flt hm54).2.2.2) (by decide) (by decide) (XS.iconst X34.here hx rfl (hb hby d5_35) ?_)
      show Steps _ _ _ (T34.setTop (mkF m 36 #[.val (.ref o0), .val (.int ((e5_0 p1) + (if (0 : Int32) < p2 then (1 : Int32) else (0 : Int32)))), .val (.ref b34_0), .val (.int (4 : Int32)), .val (.int (2 : Int32)), .val (.int p3)] [(.int (0 : Int32)), (.int ((e5_0 p1) + (if (0 : Int32) < p2 then (1 : Int32) else (0 : Int32))))])) _
      exact k
  refine OGl.go (fun t k => m54 _ (XS.iadd X34.here hx rfl (hb hby d5_36) rfl (XS.istoreN X34.here hx rfl (hb hby d5_37) rfl (l' := #[.val (.ref o0), .val (.int (e5_1 p1 p2 p3)), .val (.ref b34_0), .val (.int (4 : Int32)), .val (.int (2 : Int32)), .val (.int p3)]) rfl (XS.iinc X34.here hx rfl (hb hby d5_38) rfl (l' := #[.val (.ref o0), .val (.int (e5_1 p1 p2 p3)), .val (.ref b34_0), .val (.int (4 : Int32)), .val (.int (3 : Int32)), .val (.int p3)]) rfl (XS.goto X34.here hx rfl (pc0 := 41) (pc' := 13) rfl (hb hby d5_41) (by decide) (by decide) (XS.iload X34.here hx rfl (hb hby d5_13) rfl (XS.iloadN X34.here hx rfl (hb hby d5_15) rfl (XS.icmpNo X34.here hx rfl (hb hby d5_16) rfl (tlt (by decide : (3 : Int32) < (4 : Int32))).2.1 k)))))))) ?_
  show OGl _ _ _ _ T34 (mkF m 19 #[.val (.ref o0), .val (.int (e5_1 p1 p2 p3)), .val (.ref b34_0), .val (.int (4 : Int32)), .val (.int (3 : Int32)), .val (.int p3)] [])
  obtain ⟨cl55, Ar55, -, Sz55, -, Ha55, -⟩ := id Fq34_0
  have hin55 : ¬ ((3 : Int32) < 0 ∨ cl55.slots.size ≤ ((3 : Int32)).toNatClampNeg) := inb_of Sz55 ⟨by decide, by decide⟩
  refine OGl.go (fun t k => XS.aloadN X34.here hx rfl (hb hby d5_19) rfl rfl (XS.iload X34.here hx rfl (hb hby d5_20) rfl (own_iaload X34 hx (j := (3 : Int32)) (v := (.int p4)) Ar55.1 (State.isArrayOf_alike hZ.alike Ar55.2.1) Ar55.2.2 hin55 (Has.at Ha55 hin55 rfl) rfl rfl (hb hby d5_22) (XS.istore X34.here hx rfl (hb hby d5_23) rfl (l' := #[.val (.ref o0), .val (.int (e5_1 p1 p2 p3)), .val (.ref b34_0), .val (.int (4 : Int32)), .val (.int (3 : Int32)), .val (.int p4)]) rfl (XS.iloadN X34.here hx rfl (hb hby d5_25) rfl (XS.iload X34.here hx rfl (hb hby d5_26) rfl k)))))) ?_
  show OGl _ _ _ _ T34 (mkF m 28 #[.val (.ref o0), .val (.int (e5_1 p1 p2 p3)), .val (.ref b34_0), .val (.int (4 : Int32)), .val (.int (3 : Int32)), .val (.int p4)] [(.int p4), (.int (e5_1 p1 p2 p3))])
  have m56 : ∀ t, Steps p.tables e below (T34.setTop (mkF m 36 #[.val (.ref o0), .val (.int (e5_1 p1 p2 p3)), .val (.ref b34_0), .val (.int (4 : Int32)), .val (.int (3 : Int32)), .val (.int p4)] [(.int (if (0 : Int32) < p4 then (1 : Int32) else (0 : Int32))), (.int (e5_1 p1 p2 p3))])) t → Steps p.tables e below (T34.setTop (mkF m 28 #[.val (.ref o0), .val (.int (e5_1 p1 p2 p3)), .val (.ref b34_0), .val (.int (4 : Int32)), .val (.int (3 : Int32)), .val (.int p4)] [(.int p4), (.int (e5_1 p1 p2 p3))])) t := by
    intro t k
    by_cases hm56 : (0 : Int32) < p4
    · rw [show (if (0 : Int32) < p4 then (1 : Int32) else (0 : Int32)) = (1 : Int32) from if_pos hm56] at k
      refine XS.ifNo X34.here hx rfl (hb hby d5_28) rfl ((if0 _ _).trans (tlt hm56).2.2.2) (XS.iconst X34.here hx rfl (hb hby d5_31) (XS.goto X34.here hx rfl (pc0 := 32) (pc' := 36) rfl (hb hby d5_32) (by decide) (by decide) ?_))
      show Steps _ _ _ (T34.setTop (mkF m 36 #[.val (.ref o0), .val (.int (e5_1 p1 p2 p3)), .val (.ref b34_0), .val (.int (4 : Int32)), .val (.int (3 : Int32)), .val (.int p4)] [(.int (1 : Int32)), (.int (e5_1 p1 p2 p3))])) _
      exact k
    · rw [show (if (0 : Int32) < p4 then (1 : Int32) else (0 : Int32)) = (0 : Int32) from if_neg hm56] at k
      refine XS.ifYes X34.here hx rfl (pc0 := 28) (pc' := 35) rfl (hb hby d5_28) rfl ((if0 _ _).trans (flt hm56).2.2.2) (by decide) (by decide) (XS.iconst X34.here hx rfl (hb hby d5_35) ?_)
      show Steps _ _ _ (T34.setTop (mkF m 36 #[.val (.ref o0), .val (.int (e5_1 p1 p2 p3)), .val (.ref b34_0), .val (.int (4 : Int32)), .val (.int (3 : Int32)), .val (.int p4)] [(.int (0 : Int32)), (.int (e5_1 p1 p2 p3))])) _
      exact k
  refine OGl.go (fun t k => m56 _ (XS.iadd X34.here hx rfl (hb hby d5_36) rfl (XS.istoreN X34.here hx rfl (hb hby d5_37) rfl (l' := #[.val (.ref o0), .val (.int (e5_2 p1 p2 p3 p4)), .val (.ref b34_0), .val (.int (4 : Int32)), .val (.int (3 : Int32)), .val (.int p4)]) rfl (XS.iinc X34.here hx rfl (hb hby d5_38) rfl (l' := #[.val (.ref o0), .val (.int (e5_2 p1 p2 p3 p4)), .val (.ref b34_0), .val (.int (4 : Int32)), .val (.int (4 : Int32)), .val (.int p4)]) rfl (XS.goto X34.here hx rfl (pc0 := 41) (pc' := 13) rfl (hb hby d5_41) (by decide) (by decide) (XS.iload X34.here hx rfl (hb hby d5_13) rfl (XS.iloadN X34.here hx rfl (hb hby d5_15) rfl (XS.icmpYes X34.here hx rfl (pc0 := 16) (pc' := 44) rfl (hb hby d5_16) rfl (flt (by decide : ¬ ((4 : Int32) < (4 : Int32)))).2.1 (by decide) (by decide) k)))))))) ?_
  show OGl _ _ _ _ T34 (mkF m 44 #[.val (.ref o0), .val (.int (e5_2 p1 p2 p3 p4)), .val (.ref b34_0), .val (.int (4 : Int32)), .val (.int (4 : Int32)), .val (.int p4)] [])
  refine OGl.go (fun t k => XS.iloadN X34.here hx rfl (hb hby d5_44) rfl k) ?_
  show OGl _ _ _ _ T34 (mkF m 45 #[.val (.ref o0), .val (.int (e5_2 p1 p2 p3 p4)), .val (.ref b34_0), .val (.int (4 : Int32)), .val (.int (4 : Int32)), .val (.int p4)] [(.int (e5_2 p1 p2 p3 p4))])
  obtain ⟨fs, hr, hrun, hended, hW, hsame⟩ := X34.leave (v := some (.int (e5_2 p1 p2 p3 p4))) (fun h => by rw [Bd.returns] at h; cases h)
  refine ⟨_, _, retI X34 hx Bd.returns (hb hby d5_45) hr, hrun, hended, _, _, rfl, ?_, ⟨_, rfl⟩, hW, hsame.mono (by decide) (by decide)⟩
  show Q5 Z o0 p1 p2 p3 p4 h0 n0 _ T34.heap _
  exact ⟨rfl, N34, KK34⟩
theorem pd_3 : parseMethodDescriptor "()I" = some ⟨[], some .int⟩ := by decide +kernel
theorem d4_13 : decode prog_45_method_5_code 13 = .ok (.iconst 1, 1) := by decide +kernel
theorem d4_14 : decode prog_45_method_5_code 14 = .ok (.if_icmp .ne 7, 3) := by decide +kernel
theorem d4_17 : decode prog_45_method_5_code 17 = .ok (.iconst 1, 1) := by decide +kernel
theorem d4_18 : decode prog_45_method_5_code 18 = .ok (.goto 4, 3) := by decide +kernel
theorem d4_22 : decode prog_45_method_5_code 22 = .ok (.ireturn, 1) := by decide +kernel
theorem d4_21 : decode prog_45_method_5_code 21 = .ok (.iconst 0, 1) := by decide +kernel
theorem ef_4 (m : MethodId) (x0 : Addr) : entryFrame m #[(.ref x0)] 1 = mkF m 0 #[.val (.ref x0)] [] := by first | (simp [entryFrame, mkF, argsToLocals, Value.category]; done) | rfl
def t4_0 (p1 : Int32) (p2 : Int32) (p3 : Int32) (p4 : Int32) : Int32 := (if p1 = (7 : Int32) then (if (e5_2 p1 p2 p3 p4) = (1 : Int32) then (1 : Int32) else (0 : Int32)) else (0 : Int32))
def Q4 (Z : State) (o0 : Addr) (p1 : Int32) (p2 : Int32) (p3 : Int32) (p4 : Int32) (h0 : Heap) (n0 : Nat) (v : Option Value) (h : Heap) (L : List Loc) : Prop := v = some (.int (t4_0 p1 p2 p3 p4)) ∧ Fr n0 L ∧ Keep h0 h []
set_option maxRecDepth 65536 in
set_option maxHeartbeats 40000000 in
theorem rm4 (l : Launch) (Z : State) (a0 : Array Value) (hw : ∀ d ∈ tables_1, d.before a0 Z = true) (ws : List Jvm.Cond) (o0 : Addr) (p1 : Int32) (p2 : Int32) (p3 : Int32) (p4 : Int32) (h0 : Heap) (n0 : Nat) (Z0 : n0 ≤ h0.size) (F0_o0 : Fld Z h0 o0 "com/example/wallbreak/wallbreak/cardfree/Pattern" "pairs" "I" (.int p1)) (E_o0 : Exa Z h0 o0 "com/example/wallbreak/wallbreak/cardfree/Pattern") (F2_o0 : Fld Z h0 o0 "com/example/wallbreak/wallbreak/cardfree/Pattern" "pungs" "I" (.int p2)) (F3_o0 : Fld Z h0 o0 "com/example/wallbreak/wallbreak/cardfree/Pattern" "kongs" "I" (.int p3)) (F4_o0 : Fld Z h0 o0 "com/example/wallbreak/wallbreak/cardfree/Pattern" "quints" "I" (.int p4)) :
    MetFree l (⟨"com/example/wallbreak/wallbreak/cardfree/Pattern", "sevenPairs", "()Z"⟩ : MethodName) (head1 (Jvm.Cond.code (⟨"com/example/wallbreak/wallbreak/cardfree/Pattern", "sevenPairs", "()Z"⟩ : MethodName) prog_45_method_5_code 1 (some .boolean) :: ws) ({ frames := 2, cells := 1, slots := 4, locals := 29 } : Room)) (fun a U => a = #[(.ref o0)] ∧ Z.Warmed39 U.vm ∧ U.heap = h0) (fun _ _ _ _ _ => True) (fun _ U o U' => ∃ v L, o = .returned v ∧ Q4 Z o0 p1 p2 p3 p4 h0 n0 v U'.heap L ∧ FrameEnd U o U' L ({ frames := 2, cells := 1, slots := 4, locals := 29 } : Room).cells ({ frames := 2, cells := 1, slots := 4, locals := 29 } : Room).slots) := by
  refine MetFree.of_bodySF (plainFor_of_name pn_1) hisR ?_
  intro p e s m args below meth c s₁ Bd hml0 hP hK
  obtain ⟨rfl, hZ, hh⟩ := hP
  have hx := Bd.exec
  have hby := Bd.bytes
  have hml : c.maxLocals = 1 := hml0
  have hown : s.vm.findClass "com/example/wallbreak/wallbreak/cardfree/Pattern" = some m.cls := findClass_of_methodNamed Bd.named
  have hnm := (name_of_methodNamed Bd.named Bd.method).1
  have X0 : Stand p l e ({ frames := 2, cells := 1, slots := 4, locals := 29 } : Room) s m #[(.ref o0)] below meth c s₁ [] 0 0 := Stand.of_body Bd
  have e0 : s₁.heap = h0 := by rw [← hh, Bd.state]; rfl
  have N0 := Fr.nil n0
  refine OGl.start (ef_4 m o0) ?_
  show OGl _ _ _ _ s₁ (mkF m 0 #[.val (.ref o0)] [])
  refine OGl.go (fun t k => XS.aloadN X0.here hx rfl (hb hby d4_0) rfl rfl k) ?_
  show OGl _ _ _ _ s₁ (mkF m 1 #[.val (.ref o0)] [(.ref o0)])
  obtain ⟨T31, X31, e31, st31⟩ := getF X0 hx hZ hown (host := "") (Or.inl (hw _ (List.mem_of_getElem? (i := 15) rfl))) Via.refl e0 F0_o0 (g := (mkF m 1 #[.val (.ref o0)] [(.ref o0)])) rfl rfl (hb hby d4_1)
  refine OGl.go st31 ?_
  show OGl _ _ _ _ T31 (mkF m 4 #[.val (.ref o0)] [(.int p1)])
  refine OGl.go (fun t k => XS.bipush X31.here hx rfl (hb hby d4_4) k) ?_
  show OGl _ _ _ _ T31 (mkF m 6 #[.val (.ref o0)] [(.int (7 : Int32)), (.int p1)])
  by_cases hc32 : p1 = (7 : Int32)
  · refine OGl.go (fun t k => XS.icmpNo X31.here hx rfl (hb hby d4_6) rfl (teq hc32).2 (XS.aloadN X31.here hx rfl (hb hby d4_9) rfl rfl k)) ?_
    show OGl _ _ _ _ T31 (mkF m 10 #[.val (.ref o0)] [(.ref o0)])
    obtain ⟨cq33, kq33, q33a, q33b, q33c⟩ := isOf hZ e31 E_o0
    obtain ⟨_, _, ⟨T33, L33, kk33, n33⟩, -, X33, ⟨Lc33, hQ33, l33, y33, z33⟩, st33⟩ := X31.virtualBack hx (y := (⟨"com/example/wallbreak/wallbreak/cardfree/Pattern", "sizes", "()I"⟩ : MethodName)) (z := (⟨"com/example/wallbreak/wallbreak/cardfree/Pattern", "sizes", "()I"⟩ : MethodName)) hown (mvT hZ (hw _ (List.mem_of_getElem? (i := 28) rfl))) (mvT hZ (hw _ (List.mem_of_getElem? (i := 29) rfl))) (notFace_of_selects (args := #[]) (mvT hZ (hw _ (List.mem_of_getElem? (i := 31) rfl)))) (mvT hZ (hw _ (List.mem_of_getElem? (i := 31) rfl))) (mvT hZ (hw _ (List.mem_of_getElem? (i := 30) rfl))) (by decide) (backOf (W := 0) (rm5 l Z a0 hw [] o0 p1 p2 p3 p4 h0 n0 Z0 E_o0 F0_o0 F2_o0 F3_o0 F4_o0) hZ (hw _ (List.mem_of_getElem? (i := 32) rfl)) (hw _ (List.mem_of_getElem? (i := 3) rfl)) (by decide) (by decide)) q33a q33c (g := (mkF m 10 #[.val (.ref o0)] [(.ref o0)])) rfl (by rw [hml]; rfl) (Steps.refl _) (argsL := []) (rest := []) (lenOf pd_3 rfl) rfl (by show 2 * 0 + _ ≤ _; exact Nat.le_of_eq rfl) (hb hby d4_10) (fun _ _ => ⟨rfl, e31, (by decide : 0 + 1 ≤ _), (by decide : 0 + 4 ≤ _)⟩)
    dsimp only [Pt.U, Pt.locs, Pt.cells, Pt.slots] at X33 l33 y33 z33 st33 hQ33
    subst l33 y33 z33
    obtain ⟨rfl, Nq33, K33⟩ := hQ33
    have KK33 : Keep h0 T33.heap [] := (Keep.refl h0 []).trans K33 all0
    have N33 := Fr.app N0 Nq33
    refine OGl.go (fun t k => st33.trans k) ?_
    show OGl _ _ _ _ T33 (mkF m 13 #[.val (.ref o0)] [(.int (e5_2 p1 p2 p3 p4))])
    refine OGl.go (fun t k => XS.iconst X33.here hx rfl (hb hby d4_13) k) ?_
    show OGl _ _ _ _ T33 (mkF m 14 #[.val (.ref o0)] [(.int (1 : Int32)), (.int (e5_2 p1 p2 p3 p4))])
    by_cases hc57 : (e5_2 p1 p2 p3 p4) = (1 : Int32)
    · refine OGl.go (fun t k => XS.icmpNo X33.here hx rfl (hb hby d4_14) rfl (teq hc57).2 (XS.iconst X33.here hx rfl (hb hby d4_17) (XS.goto X33.here hx rfl (pc0 := 18) (pc' := 22) rfl (hb hby d4_18) (by decide) (by decide) k))) ?_
      show OGl _ _ _ _ T33 (mkF m 22 #[.val (.ref o0)] [(.int (1 : Int32))])
      obtain ⟨fs, hr, hrun, hended, hW, hsame⟩ := X33.leave (v := some (.int (1 : Int32))) (fun h => by rw [Bd.returns] at h; cases h)
      refine ⟨_, _, retN X33 hx (t := .boolean) Bd.returns (by simp) (hb hby d4_22) hr, hrun, hended, _, _, rfl, ?_, ⟨_, rfl⟩, hW, hsame.mono (by decide) (by decide)⟩
      have hv58 : (t4_0 p1 p2 p3 p4) = (1 : Int32) := by unfold t4_0; rw [if_pos hc32, if_pos hc57]
      show Q4 Z o0 p1 p2 p3 p4 h0 n0 _ T33.heap _
      exact ⟨(by rw [hv58]), N33, KK33⟩
    · refine OGl.go (fun t k => XS.icmpYes X33.here hx rfl (pc0 := 14) (pc' := 21) rfl (hb hby d4_14) rfl (feq hc57).2 (by decide) (by decide) (XS.iconst X33.here hx rfl (hb hby d4_21) k)) ?_
      show OGl _ _ _ _ T33 (mkF m 22 #[.val (.ref o0)] [(.int (0 : Int32))])
      obtain ⟨fs, hr, hrun, hended, hW, hsame⟩ := X33.leave (v := some (.int (0 : Int32))) (fun h => by rw [Bd.returns] at h; cases h)
      refine ⟨_, _, retN X33 hx (t := .boolean) Bd.returns (by simp) (hb hby d4_22) hr, hrun, hended, _, _, rfl, ?_, ⟨_, rfl⟩, hW, hsame.mono (by decide) (by decide)⟩
      have hv59 : (t4_0 p1 p2 p3 p4) = (0 : Int32) := by unfold t4_0; rw [if_pos hc32, if_neg hc57]
      show Q4 Z o0 p1 p2 p3 p4 h0 n0 _ T33.heap _
      exact ⟨(by rw [hv59]), N33, KK33⟩
  · refine OGl.go (fun t k => XS.icmpYes X31.here hx rfl (pc0 := 6) (pc' := 21) rfl (hb hby d4_6) rfl (feq hc32).2 (by decide) (by decide) (XS.iconst X31.here hx rfl (hb hby d4_21) k)) ?_
    show OGl _ _ _ _ T31 (mkF m 22 #[.val (.ref o0)] [(.int (0 : Int32))])
    obtain ⟨fs, hr, hrun, hended, hW, hsame⟩ := X31.leave (v := some (.int (0 : Int32))) (fun h => by rw [Bd.returns] at h; cases h)
    refine ⟨_, _, retN X31 hx (t := .boolean) Bd.returns (by simp) (hb hby d4_22) hr, hrun, hended, _, _, rfl, ?_, ⟨_, rfl⟩, hW, hsame.mono (by decide) (by decide)⟩
    have hv60 : (t4_0 p1 p2 p3 p4) = (0 : Int32) := by unfold t4_0; rw [if_neg hc32]
    show Q4 Z o0 p1 p2 p3 p4 h0 n0 _ T31.heap _
    rw [e31]
    exact ⟨(by rw [hv60]), N0, (Keep.refl h0 [])⟩
theorem pd_4 : parseMethodDescriptor "()Z" = some ⟨[], some .boolean⟩ := by decide +kernel
def e0_0 (p0 : Int32) (p4 : Int32) : Int32 := (if (p4 &&& (1 : Int32)) = (0 : Int32) then (p0 &&& (2147483647 : Int32)) else (7 : Int32))
def e0_1 (p1 : Int32) (p4 : Int32) : Int32 := (if (p4 &&& (2 : Int32)) = (0 : Int32) then (p1 &&& (2147483647 : Int32)) else (0 : Int32))
def e0_2 (p2 : Int32) (p4 : Int32) : Int32 := (if (p4 &&& (4 : Int32)) = (0 : Int32) then (p2 &&& (2147483647 : Int32)) else (0 : Int32))
def e0_3 (p3 : Int32) (p4 : Int32) : Int32 := (if (p4 &&& (8 : Int32)) = (0 : Int32) then (p3 &&& (2147483647 : Int32)) else (0 : Int32))
def e0_4 (p2 : Int32) (p3 : Int32) (p4 : Int32) : Int32 := (if (e0_2 p2 p4) = (0 : Int32) then (if (e0_3 p3 p4) = (0 : Int32) then (1 : Int32) else (0 : Int32)) else (0 : Int32))
def e0_5 (p0 : Int32) (p1 : Int32) (p2 : Int32) (p3 : Int32) (p4 : Int32) : Int32 := (if (e0_0 p0 p4) = (7 : Int32) then (if (e0_1 p1 p4) = (0 : Int32) then (e0_4 p2 p3 p4) else (0 : Int32)) else (0 : Int32))
theorem ef_0 (m : MethodId) (x0 : Int32) (x1 : Int32) (x2 : Int32) (x3 : Int32) (x4 : Int32) : entryFrame m #[(.int x0), (.int x1), (.int x2), (.int x3), (.int x4)] maxLocals = mkF m 0 #[.val (.int x0), .val (.int x1), .val (.int x2), .val (.int x3), .val (.int x4), .unset, .unset, .unset, .unset, .unset, .unset] [] := by first | (simp [entryFrame, mkF, argsToLocals, Value.category, maxLocals]; done) | rfl
theorem pn_2 : plainName "com/example/wallbreak/wallbreak/cardfree/PatternSevenPairsPinLaw" = true := by first | (simp [plainName, overriddenIn]; done) | decide +kernel
def t0_0 (p0 : Int32) (p1 : Int32) (p2 : Int32) (p3 : Int32) (p4 : Int32) : Int32 := (if (t4_0 (e0_0 p0 p4) (e0_1 p1 p4) (e0_2 p2 p4) (e0_3 p3 p4)) = (e0_5 p0 p1 p2 p3 p4) then (1 : Int32) else (0 : Int32))
def Q0 (Z : State) (p0 : Int32) (p1 : Int32) (p2 : Int32) (p3 : Int32) (p4 : Int32) (h0 : Heap) (n0 : Nat) (v : Option Value) (h : Heap) (L : List Loc) : Prop := v = some (.int (t0_0 p0 p1 p2 p3 p4)) ∧ Fr n0 L
set_option maxRecDepth 65536 in
set_option maxHeartbeats 40000000 in
theorem rm0 (l : Launch) (Z : State) (a0 : Array Value) (hw : ∀ d ∈ tables_1, d.before a0 Z = true) (ws : List Jvm.Cond) (p0 : Int32) (p1 : Int32) (p2 : Int32) (p3 : Int32) (p4 : Int32) (h0 : Heap) (n0 : Nat) (Z0 : n0 ≤ h0.size) :
    MetFree l x (head1 (Jvm.Cond.code x code maxLocals ret :: ws) room_1) (fun a U => a = #[(.int p0), (.int p1), (.int p2), (.int p3), (.int p4)] ∧ Z.Warmed39 U.vm ∧ U.heap = h0) (fun _ _ _ _ _ => True) (fun _ U o U' => ∃ v L, o = .returned v ∧ Q0 Z p0 p1 p2 p3 p4 h0 n0 v U'.heap L ∧ FrameEnd U o U' L 2 8) := by
  refine MetFree.of_bodySF (plainFor_of_name pn_2) hisR ?_
  intro p e s m args below meth c s₁ Bd hml0 hP hK
  obtain ⟨rfl, hZ, hh⟩ := hP
  have hx := Bd.exec
  have hby := Bd.bytes
  have hml : c.maxLocals = 11 := hml0
  have hown : s.vm.findClass "com/example/wallbreak/wallbreak/cardfree/PatternSevenPairsPinLaw" = some m.cls := findClass_of_methodNamed Bd.named
  have hnm := (name_of_methodNamed Bd.named Bd.method).1
  have X0 : Stand p l e room_1 s m #[(.int p0), (.int p1), (.int p2), (.int p3), (.int p4)] below meth c s₁ [] 0 0 := Stand.of_body Bd
  have e0 : s₁.heap = h0 := by rw [← hh, Bd.state]; rfl
  have N0 := Fr.nil n0
  refine OGl.start (ef_0 m p0 p1 p2 p3 p4) ?_
  show OGl _ _ _ _ s₁ (mkF m 0 #[.val (.int p0), .val (.int p1), .val (.int p2), .val (.int p3), .val (.int p4), .unset, .unset, .unset, .unset, .unset, .unset] [])
  refine OGl.go (fun t k => XS.iload X0.here hx rfl (hb hby at_0) rfl (XS.iconst X0.here hx rfl (hb hby at_2) (XS.iand X0.here hx rfl (hb hby at_3) rfl k))) ?_
  show OGl _ _ _ _ s₁ (mkF m 4 #[.val (.int p0), .val (.int p1), .val (.int p2), .val (.int p3), .val (.int p4), .unset, .unset, .unset, .unset, .unset, .unset] [(.int (p4 &&& (1 : Int32)))])
  have m1 : ∀ t, Steps p.tables e below (s₁.setTop (mkF m 16 #[.val (.int p0), .val (.int p1), .val (.int p2), .val (.int p3), .val (.int p4), .unset, .unset, .unset, .unset, .unset, .unset] [(.int (e0_0 p0 p4))])) t → Steps p.tables e below (s₁.setTop (mkF m 4 #[.val (.int p0), .val (.int p1), .val (.int p2), .val (.int p3), .val (.int p4), .unset, .unset, .unset, .unset, .unset, .unset] [(.int (p4 &&& (1 : Int32)))])) t := by
    intro t k
    by_cases hm1 : (p4 &&& (1 : Int32)) = (0 : Int32)
    · rw [show (e0_0 p0 p4) = (p0 &&& (2147483647 : Int32)) from if_pos hm1] at k
      refine XS.ifYes X0.here hx rfl (pc0 := 4) (pc' := 12) rfl (hb hby at_4) rfl ((if0 _ _).trans (teq hm1).1) (by decide) (by decide) (XS.iloadN X0.here hx rfl (hb hby at_12) rfl (own_ldc X0 hx hown (mvT hZ (hw _ (List.mem_of_getElem? (i := 0) rfl))) rfl (hb hby at_13) (XS.iand X0.here hx rfl (hb hby at_15) rfl ?_)))
      show Steps _ _ _ (s₁.setTop (mkF m 16 #[.val (.int p0), .val (.int p1), .val (.int p2), .val (.int p3), .val (.int p4), .unset, .unset, .unset, .unset, .unset, .unset] [(.int (p0 &&& (2147483647 : Int32)))])) _
      exact k
    · rw [show (e0_0 p0 p4) = (7 : Int32) from if_neg hm1] at k
      refine XS.ifNo X0.here hx rfl (hb hby at_4) rfl ((if0 _ _).trans (feq hm1).1) (XS.bipush X0.here hx rfl (hb hby at_7) (XS.goto X0.here hx rfl (pc0 := 9) (pc' := 16) rfl (hb hby at_9) (by decide) (by decide) ?_))
      show Steps _ _ _ (s₁.setTop (mkF m 16 #[.val (.int p0), .val (.int p1), .val (.int p2), .val (.int p3), .val (.int p4), .unset, .unset, .unset, .unset, .unset, .unset] [(.int (7 : Int32))])) _
      exact k
  refine OGl.go (fun t k => m1 _ (XS.istore X0.here hx rfl (hb hby at_16) rfl (l' := #[.val (.int p0), .val (.int p1), .val (.int p2), .val (.int p3), .val (.int p4), .val (.int (e0_0 p0 p4)), .unset, .unset, .unset, .unset, .unset]) rfl (XS.iload X0.here hx rfl (hb hby at_18) rfl (XS.iconst X0.here hx rfl (hb hby at_20) (XS.iand X0.here hx rfl (hb hby at_21) rfl k))))) ?_
  show OGl _ _ _ _ s₁ (mkF m 22 #[.val (.int p0), .val (.int p1), .val (.int p2), .val (.int p3), .val (.int p4), .val (.int (e0_0 p0 p4)), .unset, .unset, .unset, .unset, .unset] [(.int (p4 &&& (2 : Int32)))])
  have m2 : ∀ t, Steps p.tables e below (s₁.setTop (mkF m 33 #[.val (.int p0), .val (.int p1), .val (.int p2), .val (.int p3), .val (.int p4), .val (.int (e0_0 p0 p4)), .unset, .unset, .unset, .unset, .unset] [(.int (e0_1 p1 p4))])) t → Steps p.tables e below (s₁.setTop (mkF m 22 #[.val (.int p0), .val (.int p1), .val (.int p2), .val (.int p3), .val (.int p4), .val (.int (e0_0 p0 p4)), .unset, .unset, .unset, .unset, .unset] [(.int (p4 &&& (2 : Int32)))])) t := by
    intro t k
    by_cases hm2 : (p4 &&& (2 : Int32)) = (0 : Int32)
    · rw [show (e0_1 p1 p4) = (p1 &&& (2147483647 : Int32)) from if_pos hm2] at k
      refine XS.ifYes X0.here hx rfl (pc0 := 22) (pc' := 29) rfl (hb hby at_22) rfl ((if0 _ _).trans (teq hm2).1) (by decide) (by decide) (XS.iloadN X0.here hx rfl (hb hby at_29) rfl (own_ldc X0 hx hown (mvT hZ (hw _ (List.mem_of_getElem? (i := 0) rfl))) rfl (hb hby at_30) (XS.iand X0.here hx rfl (hb hby at_32) rfl ?_)))
      show Steps _ _ _ (s₁.setTop (mkF m 33 #[.val (.int p0), .val (.int p1), .val (.int p2), .val (.int p3), .val (.int p4), .val (.int (e0_0 p0 p4)), .unset, .unset, .unset, .unset, .unset] [(.int (p1 &&& (2147483647 : Int32)))])) _
      exact k
    · rw [show (e0_1 p1 p4) = (0 : Int32) from if_neg hm2] at k
      refine XS.ifNo X0.here hx rfl (hb hby at_22) rfl ((if0 _ _).trans (feq hm2).1) (XS.iconst X0.here hx rfl (hb hby at_25) (XS.goto X0.here hx rfl (pc0 := 26) (pc' := 33) rfl (hb hby at_26) (by decide) (by decide) ?_))
      show Steps _ _ _ (s₁.setTop (mkF m 33 #[.val (.int p0), .val (.int p1), .val (.int p2), .val (.int p3), .val (.int p4), .val (.int (e0_0 p0 p4)), .unset, .unset, .unset, .unset, .unset] [(.int (0 : Int32))])) _
      exact k
  refine OGl.go (fun t k => m2 _ (XS.istore X0.here hx rfl (hb hby at_33) rfl (l' := #[.val (.int p0), .val (.int p1), .val (.int p2), .val (.int p3), .val (.int p4), .val (.int (e0_0 p0 p4)), .val (.int (e0_1 p1 p4)), .unset, .unset, .unset, .unset]) rfl (XS.iload X0.here hx rfl (hb hby at_35) rfl (XS.iconst X0.here hx rfl (hb hby at_37) (XS.iand X0.here hx rfl (hb hby at_38) rfl k))))) ?_
  show OGl _ _ _ _ s₁ (mkF m 39 #[.val (.int p0), .val (.int p1), .val (.int p2), .val (.int p3), .val (.int p4), .val (.int (e0_0 p0 p4)), .val (.int (e0_1 p1 p4)), .unset, .unset, .unset, .unset] [(.int (p4 &&& (4 : Int32)))])
  have m3 : ∀ t, Steps p.tables e below (s₁.setTop (mkF m 50 #[.val (.int p0), .val (.int p1), .val (.int p2), .val (.int p3), .val (.int p4), .val (.int (e0_0 p0 p4)), .val (.int (e0_1 p1 p4)), .unset, .unset, .unset, .unset] [(.int (e0_2 p2 p4))])) t → Steps p.tables e below (s₁.setTop (mkF m 39 #[.val (.int p0), .val (.int p1), .val (.int p2), .val (.int p3), .val (.int p4), .val (.int (e0_0 p0 p4)), .val (.int (e0_1 p1 p4)), .unset, .unset, .unset, .unset] [(.int (p4 &&& (4 : Int32)))])) t := by
    intro t k
    by_cases hm3 : (p4 &&& (4 : Int32)) = (0 : Int32)
    · rw [show (e0_2 p2 p4) = (p2 &&& (2147483647 : Int32)) from if_pos hm3] at k
      refine XS.ifYes X0.here hx rfl (pc0 := 39) (pc' := 46) rfl (hb hby at_39) rfl ((if0 _ _).trans (teq hm3).1) (by decide) (by decide) (XS.iloadN X0.here hx rfl (hb hby at_46) rfl (own_ldc X0 hx hown (mvT hZ (hw _ (List.mem_of_getElem? (i := 0) rfl))) rfl (hb hby at_47) (XS.iand X0.here hx rfl (hb hby at_49) rfl ?_)))
      show Steps _ _ _ (s₁.setTop (mkF m 50 #[.val (.int p0), .val (.int p1), .val (.int p2), .val (.int p3), .val (.int p4), .val (.int (e0_0 p0 p4)), .val (.int (e0_1 p1 p4)), .unset, .unset, .unset, .unset] [(.int (p2 &&& (2147483647 : Int32)))])) _
      exact k
    · rw [show (e0_2 p2 p4) = (0 : Int32) from if_neg hm3] at k
      refine XS.ifNo X0.here hx rfl (hb hby at_39) rfl ((if0 _ _).trans (feq hm3).1) (XS.iconst X0.here hx rfl (hb hby at_42) (XS.goto X0.here hx rfl (pc0 := 43) (pc' := 50) rfl (hb hby at_43) (by decide) (by decide) ?_))
      show Steps _ _ _ (s₁.setTop (mkF m 50 #[.val (.int p0), .val (.int p1), .val (.int p2), .val (.int p3), .val (.int p4), .val (.int (e0_0 p0 p4)), .val (.int (e0_1 p1 p4)), .unset, .unset, .unset, .unset] [(.int (0 : Int32))])) _
      exact k
  refine OGl.go (fun t k => m3 _ (XS.istore X0.here hx rfl (hb hby at_50) rfl (l' := #[.val (.int p0), .val (.int p1), .val (.int p2), .val (.int p3), .val (.int p4), .val (.int (e0_0 p0 p4)), .val (.int (e0_1 p1 p4)), .val (.int (e0_2 p2 p4)), .unset, .unset, .unset]) rfl (XS.iload X0.here hx rfl (hb hby at_52) rfl (XS.bipush X0.here hx rfl (hb hby at_54) (XS.iand X0.here hx rfl (hb hby at_56) rfl k))))) ?_
  show OGl _ _ _ _ s₁ (mkF m 57 #[.val (.int p0), .val (.int p1), .val (.int p2), .val (.int p3), .val (.int p4), .val (.int (e0_0 p0 p4)), .val (.int (e0_1 p1 p4)), .val (.int (e0_2 p2 p4)), .unset, .unset, .unset] [(.int (p4 &&& (8 : Int32)))])
  have m4 : ∀ t, Steps p.tables e below (s₁.setTop (mkF m 68 #[.val (.int p0), .val (.int p1), .val (.int p2), .val (.int p3), .val (.int p4), .val (.int (e0_0 p0 p4)), .val (.int (e0_1 p1 p4)), .val (.int (e0_2 p2 p4)), .unset, .unset, .unset] [(.int (e0_3 p3 p4))])) t → Steps p.tables e below (s₁.setTop (mkF m 57 #[.val (.int p0), .val (.int p1), .val (.int p2), .val (.int p3), .val (.int p4), .val (.int (e0_0 p0 p4)), .val (.int (e0_1 p1 p4)), .val (.int (e0_2 p2 p4)), .unset, .unset, .unset] [(.int (p4 &&& (8 : Int32)))])) t := by
    intro t k
    by_cases hm4 : (p4 &&& (8 : Int32)) = (0 : Int32)
    · rw [show (e0_3 p3 p4) = (p3 &&& (2147483647 : Int32)) from if_pos hm4] at k
      refine XS.ifYes X0.here hx rfl (pc0 := 57) (pc' := 64) rfl (hb hby at_57) rfl ((if0 _ _).trans (teq hm4).1) (by decide) (by decide) (XS.iloadN X0.here hx rfl (hb hby at_64) rfl (own_ldc X0 hx hown (mvT hZ (hw _ (List.mem_of_getElem? (i := 0) rfl))) rfl (hb hby at_65) (XS.iand X0.here hx rfl (hb hby at_67) rfl ?_)))
      show Steps _ _ _ (s₁.setTop (mkF m 68 #[.val (.int p0), .val (.int p1), .val (.int p2), .val (.int p3), .val (.int p4), .val (.int (e0_0 p0 p4)), .val (.int (e0_1 p1 p4)), .val (.int (e0_2 p2 p4)), .unset, .unset, .unset] [(.int (p3 &&& (2147483647 : Int32)))])) _
      exact k
    · rw [show (e0_3 p3 p4) = (0 : Int32) from if_neg hm4] at k
      refine XS.ifNo X0.here hx rfl (hb hby at_57) rfl ((if0 _ _).trans (feq hm4).1) (XS.iconst X0.here hx rfl (hb hby at_60) (XS.goto X0.here hx rfl (pc0 := 61) (pc' := 68) rfl (hb hby at_61) (by decide) (by decide) ?_))
      show Steps _ _ _ (s₁.setTop (mkF m 68 #[.val (.int p0), .val (.int p1), .val (.int p2), .val (.int p3), .val (.int p4), .val (.int (e0_0 p0 p4)), .val (.int (e0_1 p1 p4)), .val (.int (e0_2 p2 p4)), .unset, .unset, .unset] [(.int (0 : Int32))])) _
      exact k
  refine OGl.go (fun t k => m4 _ (XS.istore X0.here hx rfl (hb hby at_68) rfl (l' := #[.val (.int p0), .val (.int p1), .val (.int p2), .val (.int p3), .val (.int p4), .val (.int (e0_0 p0 p4)), .val (.int (e0_1 p1 p4)), .val (.int (e0_2 p2 p4)), .val (.int (e0_3 p3 p4)), .unset, .unset]) rfl (XS.iload X0.here hx rfl (hb hby at_70) rfl (XS.bipush X0.here hx rfl (hb hby at_72) k)))) ?_
  show OGl _ _ _ _ s₁ (mkF m 74 #[.val (.int p0), .val (.int p1), .val (.int p2), .val (.int p3), .val (.int p4), .val (.int (e0_0 p0 p4)), .val (.int (e0_1 p1 p4)), .val (.int (e0_2 p2 p4)), .val (.int (e0_3 p3 p4)), .unset, .unset] [(.int (7 : Int32)), (.int (e0_0 p0 p4))])
  have m5 : ∀ t, Steps p.tables e below (s₁.setTop (mkF m 97 #[.val (.int p0), .val (.int p1), .val (.int p2), .val (.int p3), .val (.int p4), .val (.int (e0_0 p0 p4)), .val (.int (e0_1 p1 p4)), .val (.int (e0_2 p2 p4)), .val (.int (e0_3 p3 p4)), .unset, .unset] [(.int (e0_5 p0 p1 p2 p3 p4))])) t → Steps p.tables e below (s₁.setTop (mkF m 74 #[.val (.int p0), .val (.int p1), .val (.int p2), .val (.int p3), .val (.int p4), .val (.int (e0_0 p0 p4)), .val (.int (e0_1 p1 p4)), .val (.int (e0_2 p2 p4)), .val (.int (e0_3 p3 p4)), .unset, .unset] [(.int (7 : Int32)), (.int (e0_0 p0 p4))])) t := by
    intro t k
    by_cases hm5 : (e0_0 p0 p4) = (7 : Int32)
    · rw [show (e0_5 p0 p1 p2 p3 p4) = (if (e0_1 p1 p4) = (0 : Int32) then (e0_4 p2 p3 p4) else (0 : Int32)) from if_pos hm5] at k
      refine XS.icmpNo X0.here hx rfl (hb hby at_74) rfl (teq hm5).2 (XS.iload X0.here hx rfl (hb hby at_77) rfl ?_)
      show Steps _ _ _ (s₁.setTop (mkF m 79 #[.val (.int p0), .val (.int p1), .val (.int p2), .val (.int p3), .val (.int p4), .val (.int (e0_0 p0 p4)), .val (.int (e0_1 p1 p4)), .val (.int (e0_2 p2 p4)), .val (.int (e0_3 p3 p4)), .unset, .unset] [(.int (e0_1 p1 p4))])) _
      have m6 : ∀ t, Steps p.tables e below (s₁.setTop (mkF m 97 #[.val (.int p0), .val (.int p1), .val (.int p2), .val (.int p3), .val (.int p4), .val (.int (e0_0 p0 p4)), .val (.int (e0_1 p1 p4)), .val (.int (e0_2 p2 p4)), .val (.int (e0_3 p3 p4)), .unset, .unset] [(.int (if (e0_1 p1 p4) = (0 : Int32) then (e0_4 p2 p3 p4) else (0 : Int32)))])) t → Steps p.tables e below (s₁.setTop (mkF m 79 #[.val (.int p0), .val (.int p1), .val (.int p2), .val (.int p3), .val (.int p4), .val (.int (e0_0 p0 p4)), .val (.int (e0_1 p1 p4)), .val (.int (e0_2 p2 p4)), .val (.int (e0_3 p3 p4)), .unset, .unset] [(.int (e0_1 p1 p4))])) t := by
        intro t k
        by_cases hm6 : (e0_1 p1 p4) = (0 : Int32)
        · rw [show (if (e0_1 p1 p4) = (0 : Int32) then (e0_4 p2 p3 p4) else (0 : Int32)) = (e0_4 p2 p3 p4) from if_pos hm6] at k
          refine XS.ifNo X0.here hx rfl (hb hby at_79) rfl ((if0 _ _).trans (teq hm6).2) (XS.iload X0.here hx rfl (hb hby at_82) rfl ?_)
          show Steps _ _ _ (s₁.setTop (mkF m 84 #[.val (.int p0), .val (.int p1), .val (.int p2), .val (.int p3), .val (.int p4), .val (.int (e0_0 p0 p4)), .val (.int (e0_1 p1 p4)), .val (.int (e0_2 p2 p4)), .val (.int (e0_3 p3 p4)), .unset, .unset] [(.int (e0_2 p2 p4))])) _
          have m7 : ∀ t, Steps p.tables e below (s₁.setTop (mkF m 97 #[.val (.int p0), .val (.int p1), .val (.int p2), .val (.int p3), .val (.int p4), .val (.int (e0_0 p0 p4)), .val (.int (e0_1 p1 p4)), .val (.int (e0_2 p2 p4)), .val (.int (e0_3 p3 p4)), .unset, .unset] [(.int (e0_4 p2 p3 p4))])) t → Steps p.tables e below (s₁.setTop (mkF m 84 #[.val (.int p0), .val (.int p1), .val (.int p2), .val (.int p3), .val (.int p4), .val (.int (e0_0 p0 p4)), .val (.int (e0_1 p1 p4)), .val (.int (e0_2 p2 p4)), .val (.int (e0_3 p3 p4)), .unset, .unset] [(.int (e0_2 p2 p4))])) t := by
            intro t k
            by_cases hm7 : (e0_2 p2 p4) = (0 : Int32)
            · rw [show (e0_4 p2 p3 p4) = (if (e0_3 p3 p4) = (0 : Int32) then (1 : Int32) else (0 : Int32)) from if_pos hm7] at k
              refine XS.ifNo X0.here hx rfl (hb hby at_84) rfl ((if0 _ _).trans (teq hm7).2) (XS.iload X0.here hx rfl (hb hby at_87) rfl ?_)
              show Steps _ _ _ (s₁.setTop (mkF m 89 #[.val (.int p0), .val (.int p1), .val (.int p2), .val (.int p3), .val (.int p4), .val (.int (e0_0 p0 p4)), .val (.int (e0_1 p1 p4)), .val (.int (e0_2 p2 p4)), .val (.int (e0_3 p3 p4)), .unset, .unset] [(.int (e0_3 p3 p4))])) _
              have m8 : ∀ t, Steps p.tables e below (s₁.setTop (mkF m 97 #[.val (.int p0), .val (.int p1), .val (.int p2), .val (.int p3), .val (.int p4), .val (.int (e0_0 p0 p4)), .val (.int (e0_1 p1 p4)), .val (.int (e0_2 p2 p4)), .val (.int (e0_3 p3 p4)), .unset, .unset] [(.int (if (e0_3 p3 p4) = (0 : Int32) then (1 : Int32) else (0 : Int32)))])) t → Steps p.tables e below (s₁.setTop (mkF m 89 #[.val (.int p0), .val (.int p1), .val (.int p2), .val (.int p3), .val (.int p4), .val (.int (e0_0 p0 p4)), .val (.int (e0_1 p1 p4)), .val (.int (e0_2 p2 p4)), .val (.int (e0_3 p3 p4)), .unset, .unset] [(.int (e0_3 p3 p4))])) t := by
                intro t k
                by_cases hm8 : (e0_3 p3 p4) = (0 : Int32)
                · rw [show (if (e0_3 p3 p4) = (0 : Int32) then (1 : Int32) else (0 : Int32)) = (1 : Int32) from if_pos hm8] at k
                  refine XS.ifNo X0.here hx rfl (hb hby at_89) rfl ((if0 _ _).trans (teq hm8).2) (XS.iconst X0.here hx rfl (hb hby at_92) (XS.goto X0.here hx rfl (pc0 := 93) (pc' := 97) rfl (hb hby at_93) (by decide) (by decide) ?_))
                  show Steps _ _ _ (s₁.setTop (mkF m 97 #[.val (.int p0), .val (.int p1), .val (.int p2), .val (.int p3), .val (.int p4), .val (.int (e0_0 p0 p4)), .val (.int (e0_1 p1 p4)), .val (.int (e0_2 p2 p4)), .val (.int (e0_3 p3 p4)), .unset, .unset] [(.int (1 : Int32))])) _
                  exact k
                · rw [show (if (e0_3 p3 p4) = (0 : Int32) then (1 : Int32) else (0 : Int32)) = (0 : Int32) from if_neg hm8] at k
                  refine XS.ifYes X0.here hx rfl (pc0 := 89) (pc' := 96) rfl (hb hby at_89) rfl ((if0 _ _).trans (feq hm8).2) (by decide) (by decide) (XS.iconst X0.here hx rfl (hb hby at_96) ?_)
                  show Steps _ _ _ (s₁.setTop (mkF m 97 #[.val (.int p0), .val (.int p1), .val (.int p2), .val (.int p3), .val (.int p4), .val (.int (e0_0 p0 p4)), .val (.int (e0_1 p1 p4)), .val (.int (e0_2 p2 p4)), .val (.int (e0_3 p3 p4)), .unset, .unset] [(.int (0 : Int32))])) _
                  exact k
              refine m8 _ ?_
              show Steps _ _ _ (s₁.setTop (mkF m 97 #[.val (.int p0), .val (.int p1), .val (.int p2), .val (.int p3), .val (.int p4), .val (.int (e0_0 p0 p4)), .val (.int (e0_1 p1 p4)), .val (.int (e0_2 p2 p4)), .val (.int (e0_3 p3 p4)), .unset, .unset] [(.int (if (e0_3 p3 p4) = (0 : Int32) then (1 : Int32) else (0 : Int32)))])) _
              exact k
            · rw [show (e0_4 p2 p3 p4) = (0 : Int32) from if_neg hm7] at k
              refine XS.ifYes X0.here hx rfl (pc0 := 84) (pc' := 96) rfl (hb hby at_84) rfl ((if0 _ _).trans (feq hm7).2) (by decide) (by decide) (XS.iconst X0.here hx rfl (hb hby at_96) ?_)
              show Steps _ _ _ (s₁.setTop (mkF m 97 #[.val (.int p0), .val (.int p1), .val (.int p2), .val (.int p3), .val (.int p4), .val (.int (e0_0 p0 p4)), .val (.int (e0_1 p1 p4)), .val (.int (e0_2 p2 p4)), .val (.int (e0_3 p3 p4)), .unset, .unset] [(.int (0 : Int32))])) _
              exact k
          refine m7 _ ?_
          show Steps _ _ _ (s₁.setTop (mkF m 97 #[.val (.int p0), .val (.int p1), .val (.int p2), .val (.int p3), .val (.int p4), .val (.int (e0_0 p0 p4)), .val (.int (e0_1 p1 p4)), .val (.int (e0_2 p2 p4)), .val (.int (e0_3 p3 p4)), .unset, .unset] [(.int (e0_4 p2 p3 p4))])) _
          exact k
        · rw [show (if (e0_1 p1 p4) = (0 : Int32) then (e0_4 p2 p3 p4) else (0 : Int32)) = (0 : Int32) from if_neg hm6] at k
          refine XS.ifYes X0.here hx rfl (pc0 := 79) (pc' := 96) rfl (hb hby at_79) rfl ((if0 _ _).trans (feq hm6).2) (by decide) (by decide) (XS.iconst X0.here hx rfl (hb hby at_96) ?_)
          show Steps _ _ _ (s₁.setTop (mkF m 97 #[.val (.int p0), .val (.int p1), .val (.int p2), .val (.int p3), .val (.int p4), .val (.int (e0_0 p0 p4)), .val (.int (e0_1 p1 p4)), .val (.int (e0_2 p2 p4)), .val (.int (e0_3 p3 p4)), .unset, .unset] [(.int (0 : Int32))])) _
          exact k
      refine m6 _ ?_
      show Steps _ _ _ (s₁.setTop (mkF m 97 #[.val (.int p0), .val (.int p1), .val (.int p2), .val (.int p3), .val (.int p4), .val (.int (e0_0 p0 p4)), .val (.int (e0_1 p1 p4)), .val (.int (e0_2 p2 p4)), .val (.int (e0_3 p3 p4)), .unset, .unset] [(.int (if (e0_1 p1 p4) = (0 : Int32) then (e0_4 p2 p3 p4) else (0 : Int32)))])) _
      exact k
    · rw [show (e0_5 p0 p1 p2 p3 p4) = (0 : Int32) from if_neg hm5] at k
      refine XS.icmpYes X0.here hx rfl (pc0 := 74) (pc' := 96) rfl (hb hby at_74) rfl (feq hm5).2 (by decide) (by decide) (XS.iconst X0.here hx rfl (hb hby at_96) ?_)
      show Steps _ _ _ (s₁.setTop (mkF m 97 #[.val (.int p0), .val (.int p1), .val (.int p2), .val (.int p3), .val (.int p4), .val (.int (e0_0 p0 p4)), .val (.int (e0_1 p1 p4)), .val (.int (e0_2 p2 p4)), .val (.int (e0_3 p3 p4)), .unset, .unset] [(.int (0 : Int32))])) _
      exact k
  refine OGl.go (fun t k => m5 _ (XS.istore X0.here hx rfl (hb hby at_97) rfl (l' := #[.val (.int p0), .val (.int p1), .val (.int p2), .val (.int p3), .val (.int p4), .val (.int (e0_0 p0 p4)), .val (.int (e0_1 p1 p4)), .val (.int (e0_2 p2 p4)), .val (.int (e0_3 p3 p4)), .val (.int (e0_5 p0 p1 p2 p3 p4)), .unset]) rfl k)) ?_
  show OGl _ _ _ _ s₁ (mkF m 99 #[.val (.int p0), .val (.int p1), .val (.int p2), .val (.int p3), .val (.int p4), .val (.int (e0_0 p0 p4)), .val (.int (e0_1 p1 p4)), .val (.int (e0_2 p2 p4)), .val (.int (e0_3 p3 p4)), .val (.int (e0_5 p0 p1 p2 p3 p4)), .unset] [])
  obtain ⟨T9, h9, X9, e9, E9, A9, D9, -, st9⟩ := newO X0 hx hZ hown (hw _ (List.mem_of_getElem? (i := 1) rfl)) (hw _ (List.mem_of_getElem? (i := 2) rfl)) (hw _ (List.mem_of_getElem? (i := 3) rfl)) e0 (g := (mkF m 99 #[.val (.int p0), .val (.int p1), .val (.int p2), .val (.int p3), .val (.int p4), .val (.int (e0_0 p0 p4)), .val (.int (e0_1 p1 p4)), .val (.int (e0_2 p2 p4)), .val (.int (e0_3 p3 p4)), .val (.int (e0_5 p0 p1 p2 p3 p4)), .unset] [])) rfl (hb hby at_99) (by decide) (by decide)
  obtain ⟨b9, gb9⟩ : ∃ z, z = h0.size := ⟨_, rfl⟩
  rw [← gb9] at A9 D9 st9
  have sz_b9 : h0.size ≤ b9 := Nat.le_trans (Keep.refl h0 []).1 (Nat.le_of_eq gb9.symm)
  have g_b9 : n0 ≤ b9 := Nat.le_trans Z0 sz_b9
  have F10 : Fld Z h9 b9 "com/example/wallbreak/wallbreak/cardfree/Pattern" "pairs" "I" (.int (0 : Int32)) := D9 (Or.inr (hw _ (List.mem_of_getElem? (i := 16) rfl))) (ty := .int) (by decide)
  have F11 : Fld Z h9 b9 "com/example/wallbreak/wallbreak/cardfree/Pattern" "pungs" "I" (.int (0 : Int32)) := D9 (Or.inr (hw _ (List.mem_of_getElem? (i := 18) rfl))) (ty := .int) (by decide)
  have F12 : Fld Z h9 b9 "com/example/wallbreak/wallbreak/cardfree/Pattern" "kongs" "I" (.int (0 : Int32)) := D9 (Or.inr (hw _ (List.mem_of_getElem? (i := 20) rfl))) (ty := .int) (by decide)
  have F13 : Fld Z h9 b9 "com/example/wallbreak/wallbreak/cardfree/Pattern" "quints" "I" (.int (0 : Int32)) := D9 (Or.inr (hw _ (List.mem_of_getElem? (i := 22) rfl))) (ty := .int) (by decide)
  have KK9 : Keep h0 h9 [] := (Keep.refl h0 []).ext E9
  refine OGl.go st9 ?_
  show OGl _ _ _ _ T9 (mkF m 102 #[.val (.int p0), .val (.int p1), .val (.int p2), .val (.int p3), .val (.int p4), .val (.int (e0_0 p0 p4)), .val (.int (e0_1 p1 p4)), .val (.int (e0_2 p2 p4)), .val (.int (e0_3 p3 p4)), .val (.int (e0_5 p0 p1 p2 p3 p4)), .unset] [(.ref b9)])
  refine OGl.go (fun t k => XS.dup X9.here hx rfl (hb hby at_102) rfl rfl (XS.iload X9.here hx rfl (hb hby at_103) rfl (XS.iload X9.here hx rfl (hb hby at_105) rfl (XS.iload X9.here hx rfl (hb hby at_107) rfl (XS.iload X9.here hx rfl (hb hby at_109) rfl k))))) ?_
  show OGl _ _ _ _ T9 (mkF m 111 #[.val (.int p0), .val (.int p1), .val (.int p2), .val (.int p3), .val (.int p4), .val (.int (e0_0 p0 p4)), .val (.int (e0_1 p1 p4)), .val (.int (e0_2 p2 p4)), .val (.int (e0_3 p3 p4)), .val (.int (e0_5 p0 p1 p2 p3 p4)), .unset] [(.int (e0_3 p3 p4)), (.int (e0_2 p2 p4)), (.int (e0_1 p1 p4)), (.int (e0_0 p0 p4)), (.ref b9), (.ref b9)])
  obtain ⟨_, _, ⟨T14, L14, kk14, n14⟩, -, X14, ⟨Lc14, hQ14, l14, y14, z14⟩, st14⟩ := X9.specialBack hx (y := (⟨"com/example/wallbreak/wallbreak/cardfree/Pattern", "<init>", "(IIII)V"⟩ : MethodName)) rfl hown (mvT hZ (hw _ (List.mem_of_getElem? (i := 4) rfl))) (mvT hZ (hw _ (List.mem_of_getElem? (i := 5) rfl))) (mvT hZ (hw _ (List.mem_of_getElem? (i := 6) rfl))) (by decide) (backOf (W := 1) (rm1 l Z a0 hw [] b9 (e0_0 p0 p4) (e0_1 p1 p4) (e0_2 p2 p4) (e0_3 p3 p4) h9 n0 (Nat.le_trans Z0 KK9.1) A9 F10 F11 F12 F13 g_b9) hZ (hw _ (List.mem_of_getElem? (i := 6) rfl)) (hw _ (List.mem_of_getElem? (i := 3) rfl)) (by decide) (by decide)) (g := (mkF m 111 #[.val (.int p0), .val (.int p1), .val (.int p2), .val (.int p3), .val (.int p4), .val (.int (e0_0 p0 p4)), .val (.int (e0_1 p1 p4)), .val (.int (e0_2 p2 p4)), .val (.int (e0_3 p3 p4)), .val (.int (e0_5 p0 p1 p2 p3 p4)), .unset] [(.int (e0_3 p3 p4)), (.int (e0_2 p2 p4)), (.int (e0_1 p1 p4)), (.int (e0_0 p0 p4)), (.ref b9), (.ref b9)])) rfl (by rw [hml]; rfl) (Steps.refl _) (a := b9) (argsL := [(.int (e0_0 p0 p4)), (.int (e0_1 p1 p4)), (.int (e0_2 p2 p4)), (.int (e0_3 p3 p4))]) (rest := [(.ref b9)]) (lenOf pd_1 rfl) rfl (by show 2 * 0 + _ ≤ _; exact Nat.le_of_eq rfl) (hb hby at_111) (fun _ _ => ⟨rfl, e9, (by decide : 1 + 0 ≤ _), (by decide : 4 + 0 ≤ _)⟩)
  dsimp only [Pt.U, Pt.locs, Pt.cells, Pt.slots] at X14 l14 y14 z14 st14 hQ14
  subst l14 y14 z14
  obtain ⟨rfl, Nq14, K14, Fq14_0, Fq14_1, Fq14_2, Fq14_3⟩ := hQ14
  have KK14 : Keep h0 T14.heap [] := KK9.trans K14 (allS (Or.inr sz_b9) all0)
  have N14 := Fr.app N0 Nq14
  refine OGl.go (fun t k => st14.trans k) ?_
  show OGl _ _ _ _ T14 (mkF m 114 #[.val (.int p0), .val (.int p1), .val (.int p2), .val (.int p3), .val (.int p4), .val (.int (e0_0 p0 p4)), .val (.int (e0_1 p1 p4)), .val (.int (e0_2 p2 p4)), .val (.int (e0_3 p3 p4)), .val (.int (e0_5 p0 p1 p2 p3 p4)), .unset] [(.ref b9)])
  refine OGl.go (fun t k => XS.astore X14.here hx rfl (hb hby at_114) rfl rfl (l' := #[.val (.int p0), .val (.int p1), .val (.int p2), .val (.int p3), .val (.int p4), .val (.int (e0_0 p0 p4)), .val (.int (e0_1 p1 p4)), .val (.int (e0_2 p2 p4)), .val (.int (e0_3 p3 p4)), .val (.int (e0_5 p0 p1 p2 p3 p4)), .val (.ref b9)]) rfl (XS.aload X14.here hx rfl (hb hby at_116) rfl rfl k)) ?_
  show OGl _ _ _ _ T14 (mkF m 118 #[.val (.int p0), .val (.int p1), .val (.int p2), .val (.int p3), .val (.int p4), .val (.int (e0_0 p0 p4)), .val (.int (e0_1 p1 p4)), .val (.int (e0_2 p2 p4)), .val (.int (e0_3 p3 p4)), .val (.int (e0_5 p0 p1 p2 p3 p4)), .val (.ref b9)] [(.ref b9)])
  have F61 := (A9.keep K14)
  obtain ⟨cq30, kq30, q30a, q30b, q30c⟩ := isOf hZ rfl F61
  obtain ⟨_, _, ⟨T30, L30, kk30, n30⟩, -, X30, ⟨Lc30, hQ30, l30, y30, z30⟩, st30⟩ := X14.virtualBack hx (y := (⟨"com/example/wallbreak/wallbreak/cardfree/Pattern", "sevenPairs", "()Z"⟩ : MethodName)) (z := (⟨"com/example/wallbreak/wallbreak/cardfree/Pattern", "sevenPairs", "()Z"⟩ : MethodName)) hown (mvT hZ (hw _ (List.mem_of_getElem? (i := 23) rfl))) (mvT hZ (hw _ (List.mem_of_getElem? (i := 24) rfl))) (notFace_of_selects (args := #[]) (mvT hZ (hw _ (List.mem_of_getElem? (i := 26) rfl)))) (mvT hZ (hw _ (List.mem_of_getElem? (i := 26) rfl))) (mvT hZ (hw _ (List.mem_of_getElem? (i := 25) rfl))) (by decide) (backOf (W := 0) (rm4 l Z a0 hw [] b9 (e0_0 p0 p4) (e0_1 p1 p4) (e0_2 p2 p4) (e0_3 p3 p4) T14.heap n0 (Nat.le_trans Z0 KK14.1) Fq14_1 F61 Fq14_2 Fq14_0 Fq14_3) hZ (hw _ (List.mem_of_getElem? (i := 27) rfl)) (hw _ (List.mem_of_getElem? (i := 3) rfl)) (by decide) (by decide)) q30a q30c (g := (mkF m 118 #[.val (.int p0), .val (.int p1), .val (.int p2), .val (.int p3), .val (.int p4), .val (.int (e0_0 p0 p4)), .val (.int (e0_1 p1 p4)), .val (.int (e0_2 p2 p4)), .val (.int (e0_3 p3 p4)), .val (.int (e0_5 p0 p1 p2 p3 p4)), .val (.ref b9)] [(.ref b9)])) rfl (by rw [hml]; rfl) (Steps.refl _) (argsL := []) (rest := []) (lenOf pd_4 rfl) rfl (by show 2 * 0 + _ ≤ _; exact Nat.le_of_eq rfl) (hb hby at_118) (fun _ _ => ⟨rfl, rfl, (by decide : 1 + 1 ≤ _), (by decide : 4 + 4 ≤ _)⟩)
  dsimp only [Pt.U, Pt.locs, Pt.cells, Pt.slots] at X30 l30 y30 z30 st30 hQ30
  subst l30 y30 z30
  obtain ⟨rfl, Nq30, K30⟩ := hQ30
  have KK30 : Keep h0 T30.heap [] := KK14.trans K30 all0
  have N30 := Fr.app N14 Nq30
  refine OGl.go (fun t k => st30.trans k) ?_
  show OGl _ _ _ _ T30 (mkF m 121 #[.val (.int p0), .val (.int p1), .val (.int p2), .val (.int p3), .val (.int p4), .val (.int (e0_0 p0 p4)), .val (.int (e0_1 p1 p4)), .val (.int (e0_2 p2 p4)), .val (.int (e0_3 p3 p4)), .val (.int (e0_5 p0 p1 p2 p3 p4)), .val (.ref b9)] [(.int (t4_0 (e0_0 p0 p4) (e0_1 p1 p4) (e0_2 p2 p4) (e0_3 p3 p4)))])
  refine OGl.go (fun t k => XS.iload X30.here hx rfl (hb hby at_121) rfl k) ?_
  show OGl _ _ _ _ T30 (mkF m 123 #[.val (.int p0), .val (.int p1), .val (.int p2), .val (.int p3), .val (.int p4), .val (.int (e0_0 p0 p4)), .val (.int (e0_1 p1 p4)), .val (.int (e0_2 p2 p4)), .val (.int (e0_3 p3 p4)), .val (.int (e0_5 p0 p1 p2 p3 p4)), .val (.ref b9)] [(.int (e0_5 p0 p1 p2 p3 p4)), (.int (t4_0 (e0_0 p0 p4) (e0_1 p1 p4) (e0_2 p2 p4) (e0_3 p3 p4)))])
  by_cases hc62 : (t4_0 (e0_0 p0 p4) (e0_1 p1 p4) (e0_2 p2 p4) (e0_3 p3 p4)) = (e0_5 p0 p1 p2 p3 p4)
  · refine OGl.go (fun t k => XS.icmpNo X30.here hx rfl (hb hby at_123) rfl (teq hc62).2 (XS.iconst X30.here hx rfl (hb hby at_126) (XS.goto X30.here hx rfl (pc0 := 127) (pc' := 131) rfl (hb hby at_127) (by decide) (by decide) k))) ?_
    show OGl _ _ _ _ T30 (mkF m 131 #[.val (.int p0), .val (.int p1), .val (.int p2), .val (.int p3), .val (.int p4), .val (.int (e0_0 p0 p4)), .val (.int (e0_1 p1 p4)), .val (.int (e0_2 p2 p4)), .val (.int (e0_3 p3 p4)), .val (.int (e0_5 p0 p1 p2 p3 p4)), .val (.ref b9)] [(.int (1 : Int32))])
    obtain ⟨fs, hr, hrun, hended, hW, hsame⟩ := X30.leave (v := some (.int (1 : Int32))) (fun h => by rw [Bd.returns] at h; cases h)
    refine ⟨_, _, retN X30 hx (t := .boolean) Bd.returns (by simp) (hb hby at_131) hr, hrun, hended, _, _, rfl, ?_, ⟨_, rfl⟩, hW, hsame.mono (by decide) (by decide)⟩
    have hv63 : (t0_0 p0 p1 p2 p3 p4) = (1 : Int32) := by unfold t0_0; rw [if_pos hc62]
    show Q0 Z p0 p1 p2 p3 p4 h0 n0 _ T30.heap _
    exact ⟨(by rw [hv63]), N30⟩
  · refine OGl.go (fun t k => XS.icmpYes X30.here hx rfl (pc0 := 123) (pc' := 130) rfl (hb hby at_123) rfl (feq hc62).2 (by decide) (by decide) (XS.iconst X30.here hx rfl (hb hby at_130) k)) ?_
    show OGl _ _ _ _ T30 (mkF m 131 #[.val (.int p0), .val (.int p1), .val (.int p2), .val (.int p3), .val (.int p4), .val (.int (e0_0 p0 p4)), .val (.int (e0_1 p1 p4)), .val (.int (e0_2 p2 p4)), .val (.int (e0_3 p3 p4)), .val (.int (e0_5 p0 p1 p2 p3 p4)), .val (.ref b9)] [(.int (0 : Int32))])
    obtain ⟨fs, hr, hrun, hended, hW, hsame⟩ := X30.leave (v := some (.int (0 : Int32))) (fun h => by rw [Bd.returns] at h; cases h)
    refine ⟨_, _, retN X30 hx (t := .boolean) Bd.returns (by simp) (hb hby at_131) hr, hrun, hended, _, _, rfl, ?_, ⟨_, rfl⟩, hW, hsame.mono (by decide) (by decide)⟩
    have hv64 : (t0_0 p0 p1 p2 p3 p4) = (0 : Int32) := by unfold t0_0; rw [if_neg hc62]
    show Q0 Z p0 p1 p2 p3 p4 h0 n0 _ T30.heap _
    exact ⟨(by rw [hv64]), N30⟩
theorem own_pos (y : Int32) (h : 0 ≤ y.toInt) : (if (0 : Int32) < y then (1 : Int32) else (0 : Int32)) = if y = (0 : Int32) then (0 : Int32) else (1 : Int32) := by
  have k0 : (0 : Int32).toInt = 0 := by decide
  by_cases p : y = 0
  · rw [if_pos p, p]; rfl
  · rw [if_neg p, if_pos]
    rw [Int32.lt_iff_toInt_lt]
    have : y.toInt ≠ 0 := fun q => p (Int32.toInt_inj.mp (q.trans k0.symm))
    omega
theorem own_m (x : Int32) : 0 ≤ (x &&& 2147483647).toInt := by
  have h := c_mask x 2147483647 31 (by decide) (by decide)
  omega
theorem own_law (a b c d w : Int32) : t0_0 a b c d w = 1 := by
  have h0 : 0 ≤ (e0_0 a w).toInt := by unfold e0_0; split; exact own_m _; decide
  have h1 : 0 ≤ (e0_1 b w).toInt := by unfold e0_1; split; exact own_m _; decide
  have h2 : 0 ≤ (e0_2 c w).toInt := by unfold e0_2; split; exact own_m _; decide
  have h3 : 0 ≤ (e0_3 d w).toInt := by unfold e0_3; split; exact own_m _; decide
  unfold t0_0 t4_0 e5_2 e5_1 e5_0 e0_5 e0_4
  rw [own_pos _ h0, own_pos _ h1, own_pos _ h2, own_pos _ h3]
  generalize e0_0 a w = A at *
  generalize e0_1 b w = B at *
  generalize e0_2 c w = C at *
  generalize e0_3 d w = D at *
  by_cases p0 : A = 7
  · subst p0
    by_cases p2 : B = 0 <;> by_cases p3 : C = 0 <;> by_cases p4 : D = 0 <;> simp only [p2, p3, p4, if_true, if_false] <;> decide
  · simp only [p0, if_false, if_true]
set_option maxRecDepth 65536 in
set_option maxHeartbeats 40000000 in
theorem comes_1 {Post : Tables → Env → Array Value → State → Outcome → State → Prop} (hpost : ∀ tb e args s v u, (limb_1_1.after args s (.returned v) u = true ∧ limb_1_2.after args s (.returned v) u = true ∧ True) → FrameEnd s (.returned v) u (Jvm.fieldLocs frame_1_writes args s ++ Jvm.arrayLocs frame_1_arrays args s ++ Jvm.staticLocs frame_1_statics s) 16 128 → Post tb e args s (.returned v) u) :
    ArmFor flags0 classFile x code maxLocals ret World_1 tables_1 room_1 Calls_1 rest_1 Pre_1 Post := by
  intro l hfl _ _ p e ha hc hk s m args below hf hA hF happ hP
  obtain ⟨hcalls, hrest, hpre⟩ := hP
  obtain ⟨-, -, -, hnamed, -, -, -, hat⟩ := (Spec.applies_iff hf).mp happ
  obtain ⟨hg, hn⟩ := and_e (Cond.before_iff.mp (show (Jvm.Cond.and given_1 narrow_1).before args s = true from hpre))
  obtain ⟨hz, hy0⟩ := and_e hg
  obtain ⟨ha0, hy1⟩ := and_e hy0
  obtain ⟨ha1, hy2⟩ := and_e hy1
  obtain ⟨ha2, hy3⟩ := and_e hy2
  obtain ⟨ha3, hy4⟩ := and_e hy3
  obtain ⟨w0, w1, w2, w3, w4, rfl⟩ : ∃ w0 w1 w2 w3 w4 : Value, args = #[w0, w1, w2, w3, w4] := by
    have hs : args.size = 5 := by simpa [Cond.value, given_1] using hz
    obtain ⟨L⟩ := args
    match L, hs with
    | [w0, w1, w2, w3, w4], _ => exact ⟨w0, w1, w2, w3, w4, rfl⟩
  have hw := fun d (hd : d ∈ tables_1) => atoms_spec (ws := Jvm.Cond.code x code maxLocals ret :: tables_1) hat d (List.mem_cons_of_mem _ hd)
  obtain ⟨i0, ev0⟩ := is_v ha0
  obtain rfl : w0 = (.int i0) := Option.some.inj ev0
  obtain ⟨i1, ev1⟩ := is_v ha1
  obtain rfl : w1 = (.int i1) := Option.some.inj ev1
  obtain ⟨i2, ev2⟩ := is_v ha2
  obtain rfl : w2 = (.int i2) := Option.some.inj ev2
  obtain ⟨i3, ev3⟩ := is_v ha3
  obtain rfl : w3 = (.int i3) := Option.some.inj ev3
  obtain ⟨i4, ev4⟩ := is_v hy4
  obtain rfl : w4 = (.int i4) := Option.some.inj ev4
  obtain ⟨n, o, h1, h2, h3, _, L, rfl, ⟨hv, N⟩, hq⟩ := rm0 l s _ hw tables_1 i0 i1 i2 i3 i4  s.heap s.heap.size (Nat.le_refl _)  p e ha hc hk s m _ below hf ((Spec.applies_iff_loose hf).mp happ).1 ⟨rfl, State.Warmed39.refl s, rfl⟩ trivial
  rw [own_law] at hv
  subst hv
  refine ⟨n, _, h1, h2, h3, hpost _ _ _ _ _ _ ⟨Cond.after_iff.mpr rfl, Cond.after_iff.mpr (eq_i res_at (Term.int_eval (1)) rfl), trivial⟩ ⟨hq.1, hq.2.1, (hq.2.2.sift fun y hy => Or.inr (N y hy)).mono (by decide) (by decide)⟩⟩
theorem main_1_1 : Claimed_1_1 := comes_1 fun _ _ _ _ _ _ h hF => ⟨h.1, hF⟩
theorem main_1_2 : Claimed_1_2 := comes_1 fun _ _ _ _ _ _ h hF => ⟨h.2.1, hF⟩
end Jvm.Pilot.@@N@@
namespace Jvm.Pilot.@@N@@
open Jvm Jvm.ClassFile Sem Op Lib Jvm.Free Jvm.Stand Jvm.Pilot.@@N@@.Jvm.D
/-! MADE BY PROGRAM (witnessworld.py) out of the Statement's table words and the real class files: 10 classes; the members and pool entries that the words name. The judged class is class 1, her method 1. -/
namespace start1
open Jvm.ClassFile
def u (s : String) : CpInfo := .utf8 (stringToUtf16 s)
/-- a pool by its gaps: so many unusable entries, then the entry; so many at the end -/
def gap : Nat → List CpInfo → List CpInfo
  | 0, r => r
  | n + 1, r => .unusable :: gap n r
def poolList (es : List (Nat × CpInfo)) (last : Nat) : List CpInfo := es.foldr (fun e r => gap e.1 (e.2 :: r)) (gap last [])
def pool (es : List (Nat × CpInfo)) (last : Nat) : Array CpInfo := ⟨poolList es last⟩
def fileOf (pool : Array CpInfo) (this : Nat) (attrs : Array Attribute := #[]) (ms : Array MethodInfo := #[]) (fl : Nat := 33) (sup : Nat := 0) (ifs : Array Nat := #[]) (fds : Array FieldInfo := #[]) : ClassFile where
  minorVersion := 0
  majorVersion := 65
  constantPool := pool
  accessFlags := fl
  thisClass := this
  superClass := sup
  interfaces := ifs
  fields := fds
  methods := ms
  attributes := attrs
def plain (name : String) (sup : Option ClassId) : Class where
  name := name
  kind := .ordinary
  loader := none
  accessFlags := 33
  super := sup
  interfaces := #[]
  cf := none
  fields := #[]
  methods := #[]
  instanceTypes := #[]
  staticTypes := #[]
  resolved := #[]
  callSites := []
  init := .initialized
  statics := none
  mirror := none

def pool0 : Array CpInfo := pool [(5, u "<init>"), (0, u "()V"), (1, .class_ 10), (1, u "java/lang/Object")] 113

def k0c0 : Code := { maxStack := 0, maxLocals := 1, code := object_method_1_code, exceptionTable := #[], attributes := #[] }
def k0m0 : Method := { name := "<init>", desc := "()V", sig := { parameters := [], returnType := none }, accessFlags := 1, code := some k0c0 }
/-- java/lang/Object -/
def k0 : Class := { plain "java/lang/Object" none with
  accessFlags := 33
  interfaces := #[]
  cf := some (fileOf pool0 8 #[] #[{ accessFlags := 1, nameIndex := 5, descriptorIndex := 6, attributes := #[] }] 33 0 #[] #[])
  fields := #[]
  methods := #[k0m0]
  instanceTypes := #[]
  staticTypes := #[]
  resolved := Array.replicate 124 none
  statics := none }

def pool1 : Array CpInfo := pool [(2, .class_ 4), (1, u "java/lang/Object"), (0, u "<init>"), (0, u "()V"), (0, .integer 2147483647), (0, .class_ 9), (0, u "com/example/wallbreak/wallbreak/cardfree/Pattern"), (0, .methodref 8 11), (0, .nameAndType 5 12), (0, u "(IIII)V"), (0, .methodref 8 14), (0, .nameAndType 15 16), (0, u "sevenPairs"), (0, u "()Z"), (0, .class_ 18), (0, u "com/example/wallbreak/wallbreak/cardfree/PatternSevenPairsPinLaw"), (2, u "law"), (0, u "(IIIII)Z")] 3

def k1m0 : Method := { name := "<init>", desc := "()V", sig := { parameters := [], returnType := none }, accessFlags := 2, code := none }
def k1c1 : Code := { maxStack := 6, maxLocals := 11, code := code, exceptionTable := #[], attributes := #[] }
def k1m1 : Method := { name := "law", desc := "(IIIII)Z", sig := { parameters := [.int, .int, .int, .int, .int], returnType := some .boolean }, accessFlags := 9, code := some k1c1 }
/-- com/example/wallbreak/wallbreak/cardfree/PatternSevenPairsPinLaw -/
def k1 : Class := { plain "com/example/wallbreak/wallbreak/cardfree/PatternSevenPairsPinLaw" (some 0) with
  accessFlags := 49
  interfaces := #[]
  cf := some (fileOf pool1 17 #[] #[{ accessFlags := 2, nameIndex := 5, descriptorIndex := 6, attributes := #[] }, { accessFlags := 9, nameIndex := 21, descriptorIndex := 22, attributes := #[] }] 49 2 #[] #[])
  fields := #[]
  methods := #[k1m0, k1m1]
  instanceTypes := #[]
  staticTypes := #[]
  resolved := Array.replicate 26 none
  statics := none }

def pool2 : Array CpInfo := pool [(1, .methodref 2 3), (0, .class_ 4), (0, .nameAndType 5 6), (0, u "java/lang/Object"), (0, u "<init>"), (0, u "()V"), (0, .class_ 8), (0, u "java/lang/Record")] 13

def k2c0 : Code := { maxStack := 1, maxLocals := 1, code := jdk_30_method_1_code, exceptionTable := #[], attributes := #[] }
def k2m0 : Method := { name := "<init>", desc := "()V", sig := { parameters := [], returnType := none }, accessFlags := 4, code := some k2c0 }
/-- java/lang/Record -/
def k2 : Class := { plain "java/lang/Record" (some 0) with
  accessFlags := 1057
  interfaces := #[]
  cf := some (fileOf pool2 7 #[] #[{ accessFlags := 4, nameIndex := 5, descriptorIndex := 6, attributes := #[] }] 1057 2 #[] #[])
  fields := #[]
  methods := #[k2m0]
  instanceTypes := #[]
  staticTypes := #[]
  resolved := Array.replicate 22 none
  statics := none }

def pool3 : Array CpInfo := pool [(1, .methodref 2 3), (0, .class_ 4), (0, .nameAndType 5 6), (0, u "java/lang/Record"), (0, u "<init>"), (0, u "()V"), (0, .fieldref 8 9), (0, .class_ 10), (0, .nameAndType 11 12), (0, u "com/example/wallbreak/wallbreak/cardfree/Pattern"), (0, u "pairs"), (0, u "I"), (0, .fieldref 8 14), (0, .nameAndType 15 12), (0, u "pungs"), (0, .fieldref 8 17), (0, .nameAndType 18 12), (0, u "kongs"), (0, .fieldref 8 20), (0, .nameAndType 21 12), (0, u "quints"), (11, u "()Z"), (9, u "()I"), (2, u "(IIII)V"), (0, .methodref 8 48), (0, .nameAndType 49 50), (0, u "bySize"), (0, u "()[I"), (0, .methodref 8 52), (0, .nameAndType 53 43), (0, u "sizes"), (5, u "NAMES"), (0, u "Ljava/util/List;"), (77, u "sevenPairs")] 39

def k3c0 : Code := { maxStack := 2, maxLocals := 5, code := prog_45_method_1_code, exceptionTable := #[], attributes := #[] }
def k3m0 : Method := { name := "<init>", desc := "(IIII)V", sig := { parameters := [.int, .int, .int, .int], returnType := none }, accessFlags := 1, code := some k3c0 }
def k3c1 : Code := { maxStack := 2, maxLocals := 6, code := prog_45_method_3_code, exceptionTable := #[], attributes := #[] }
def k3m1 : Method := { name := "sizes", desc := "()I", sig := { parameters := [], returnType := some .int }, accessFlags := 0, code := some k3c1 }
def k3c2 : Code := { maxStack := 2, maxLocals := 1, code := prog_45_method_5_code, exceptionTable := #[], attributes := #[] }
def k3m2 : Method := { name := "sevenPairs", desc := "()Z", sig := { parameters := [], returnType := some .boolean }, accessFlags := 0, code := some k3c2 }
def k3c3 : Code := { maxStack := 4, maxLocals := 1, code := prog_45_method_8_code, exceptionTable := #[], attributes := #[] }
def k3m3 : Method := { name := "bySize", desc := "()[I", sig := { parameters := [], returnType := some (.array .int) }, accessFlags := 2, code := some k3c3 }
/-- com/example/wallbreak/wallbreak/cardfree/Pattern -/
def k3 : Class := { plain "com/example/wallbreak/wallbreak/cardfree/Pattern" (some 2) with
  accessFlags := 49
  interfaces := #[]
  cf := some (fileOf pool3 8 #[] #[{ accessFlags := 1, nameIndex := 5, descriptorIndex := 46, attributes := #[] }, { accessFlags := 0, nameIndex := 53, descriptorIndex := 43, attributes := #[] }, { accessFlags := 0, nameIndex := 138, descriptorIndex := 33, attributes := #[] }, { accessFlags := 2, nameIndex := 49, descriptorIndex := 50, attributes := #[] }] 49 2 #[] #[{ accessFlags := 18, nameIndex := 11, descriptorIndex := 12, attributes := #[] }, { accessFlags := 18, nameIndex := 15, descriptorIndex := 12, attributes := #[] }, { accessFlags := 18, nameIndex := 18, descriptorIndex := 12, attributes := #[] }, { accessFlags := 18, nameIndex := 21, descriptorIndex := 12, attributes := #[] }, { accessFlags := 26, nameIndex := 59, descriptorIndex := 60, attributes := #[] }])
  fields := #[{ name := "pairs", type := .int, accessFlags := 18, slot := 0, constantValue := 0 }, { name := "pungs", type := .int, accessFlags := 18, slot := 1, constantValue := 0 }, { name := "kongs", type := .int, accessFlags := 18, slot := 2, constantValue := 0 }, { name := "quints", type := .int, accessFlags := 18, slot := 3, constantValue := 0 }, { name := "NAMES", type := (.object "java/util/List"), accessFlags := 26, slot := 0, constantValue := 0 }]
  methods := #[k3m0, k3m1, k3m2, k3m3]
  instanceTypes := #[.int, .int, .int, .int]
  staticTypes := #[(.object "java/util/List")]
  resolved := Array.replicate 178 none
  statics := none }

def pool4 : Array CpInfo := pool [(1, u "java/lang/Cloneable"), (0, .class_ 1), (0, u "java/lang/Object"), (0, .class_ 3)] 3

/-- java/lang/Cloneable -/
def k4 : Class := { plain "java/lang/Cloneable" (some 0) with
  accessFlags := 1537
  interfaces := #[]
  cf := some (fileOf pool4 2 #[] #[] 1537 4 #[] #[])
  fields := #[]
  methods := #[]
  instanceTypes := #[]
  staticTypes := #[]
  resolved := Array.replicate 8 none
  statics := none }

def pool5 : Array CpInfo := pool [(1, u "java/io/Serializable"), (0, .class_ 1), (0, u "java/lang/Object"), (0, .class_ 3)] 3

/-- java/io/Serializable -/
def k5 : Class := { plain "java/io/Serializable" (some 0) with
  accessFlags := 1537
  interfaces := #[]
  cf := some (fileOf pool5 2 #[] #[] 1537 4 #[] #[])
  fields := #[]
  methods := #[]
  instanceTypes := #[]
  staticTypes := #[]
  resolved := Array.replicate 8 none
  statics := none }

/-- the primitive byte -/
def k6 : Class := { plain "byte" none with kind := .primitive 'B', accessFlags := 0x411 }
/-- [B -/
def k7 : Class := { plain "[B" (some 0) with kind := .array 6 .byte, interfaces := #[4, 5], accessFlags := 1041 }

/-- the primitive int -/
def k8 : Class := { plain "int" none with kind := .primitive 'I', accessFlags := 0x411 }
/-- [I -/
def k9 : Class := { plain "[I" (some 0) with kind := .array 8 .int, interfaces := #[4, 5], accessFlags := 1041 }

def heap : Heap := #[]
def classes : Array Class := #[k0, k1, k2, k3, k4, k5, k6, k7, k8, k9]
def interned : List (Array UInt16 × Addr) := []
def slotsUsed : Nat := 0
def theMethod : MethodId := ⟨1, 1⟩
def args0 : Array Value := #[.int 5, .int 5, .int 5, .int 5, .int 5]
def aboutOver (below : List Frame) : State where
  vm := { classes := classes, interned := interned.toArray }
  heap := heap
  slotsUsed := slotsUsed
  threads := #[{ frames := .invoking theMethod args0 :: below }]
def below0 : List Frame := [.native { method := ⟨0, 0⟩, args := #[] }]
def about1 : State := aboutOver below0
def p0 : Program := .bare "" "" ""
def e0 : Env := launch0.env 0 0 0
theorem w_frames : about1.frames = Frame.invoking theMethod args0 :: below0 := rfl
set_option maxRecDepth 65536 in
theorem w_args : argsFit about1.vm theMethod args0 = true := by decide +kernel
set_option maxRecDepth 65536 in
theorem w_heap : heapFits about1 = true := by decide +kernel
set_option maxRecDepth 65536 in
theorem w_runnable : about1.curStatus? = some .runnable := by decide +kernel
set_option maxRecDepth 65536 in
theorem w_alone : about1.alone = true := by decide +kernel
set_option maxRecDepth 65536 in
theorem w_named : about1.methodNamed? x = some theMethod := by decide +kernel
set_option maxRecDepth 65536 in
theorem w_hears : about1.hears theMethod below0 = true := by decide +kernel
set_option maxRecDepth 65536 in
theorem w_ripe : about1.ripe theMethod args0 below0 = true := by decide +kernel
theorem w_running : about1.status = .running := rfl
set_option maxRecDepth 65536 in
theorem w_room : about1.hasRoom e0.platform room_1 = true :=
  launch0.hasRoom_least _ room_1 (by decide +kernel) (by decide +kernel) (by decide +kernel) (by decide +kernel) (by decide +kernel) (by decide +kernel)
theorem allAtoms_all (ts : List Jvm.Cond) (a : Array Jvm.Value) (st : Jvm.State) : (allAtoms ts).before a st = ts.all (fun c => c.before a st) := by
  induction ts with
  | nil => rfl
  | cons c t ih =>
    show (Jvm.Cond.and c (allAtoms t)).before a st = _
    rw [Jvm.Cond.before_and, ih, List.all_cons]
def words1 : List Jvm.Cond := Jvm.Cond.code x code maxLocals ret :: tables_1
/-- a 'code' word, met by the world's own term for the bytes: nothing is compared byte by byte -/
theorem code_word {y : MethodName} {bytes : ByteArray} {mx : Nat} {rt : Option FieldType} {a : Array Value} {s : State} {m : MethodId} {meth : Method} {c : Code} (h1 : s.methodNamed? y = some m) (h2 : s.vm.method? m = some meth) (h3 : meth.code = some c) (h4 : c.code = bytes)
    (h5 : (c.maxLocals == mx && c.exceptionTable.isEmpty && decide (c.maxStack ≤ mostOperands) && decide (meth.sig.returnType = rt) && !meth.locks && decide (parseMethodDescriptor y.desc = some meth.sig)) = true) : (Jvm.Cond.code y bytes mx rt).before a s = true := by
  simp only [Bool.and_eq_true, beq_iff_eq, Bool.not_eq_true', decide_eq_true_eq] at h5
  obtain ⟨⟨⟨⟨⟨g1, g2⟩, g3⟩, g4⟩, g5⟩, g6⟩ := h5
  simp [Cond.before, Cond.holds, Cond.value, h1, h2, h3, h4, g1, g2, g3, g4, g5, g6]
def isCode : Jvm.Cond → Bool
  | .code _ _ _ _ => true
  | _ => false
theorem all_split {L : List Jvm.Cond} {P : Jvm.Cond → Bool} (h1 : L.all (fun c => isCode c || P c) = true) (h2 : ∀ c ∈ L.filter isCode, P c = true) : L.all P = true := by
  refine List.all_eq_true.mpr fun c hc => ?_
  have h := List.all_eq_true.mp h1 c hc
  rcases Bool.eq_false_or_eq_true (isCode c) with hi | hi
  · exact h2 c (List.mem_filter.mpr ⟨hc, hi⟩)
  · simpa [hi] using h
set_option maxRecDepth 65536 in
theorem w_c0 : (Jvm.Cond.code x code maxLocals ret).before args0 about1 = true := code_word (m := ⟨1, 1⟩) (meth := k1m1) (c := k1c1) (by decide +kernel) rfl rfl rfl (by decide +kernel)
set_option maxRecDepth 65536 in
theorem w_c1 : (Jvm.Cond.code ({ cls := "com/example/wallbreak/wallbreak/cardfree/Pattern", name := "<init>", desc := "(IIII)V" } : Jvm.MethodName) prog_45_method_1_code (5 : Nat) (Option.none : Option Jvm.ClassFile.FieldType)).before args0 about1 = true := code_word (m := ⟨3, 0⟩) (meth := k3m0) (c := k3c0) (by decide +kernel) rfl rfl rfl (by decide +kernel)
set_option maxRecDepth 65536 in
theorem w_c2 : (Jvm.Cond.code ({ cls := "java/lang/Record", name := "<init>", desc := "()V" } : Jvm.MethodName) jdk_30_method_1_code (1 : Nat) (Option.none : Option Jvm.ClassFile.FieldType)).before args0 about1 = true := code_word (m := ⟨2, 0⟩) (meth := k2m0) (c := k2c0) (by decide +kernel) rfl rfl rfl (by decide +kernel)
set_option maxRecDepth 65536 in
theorem w_c3 : (Jvm.Cond.code ({ cls := "java/lang/Object", name := "<init>", desc := "()V" } : Jvm.MethodName) object_method_1_code (1 : Nat) (Option.none : Option Jvm.ClassFile.FieldType)).before args0 about1 = true := code_word (m := ⟨0, 0⟩) (meth := k0m0) (c := k0c0) (by decide +kernel) rfl rfl rfl (by decide +kernel)
set_option maxRecDepth 65536 in
theorem w_c4 : (Jvm.Cond.code ({ cls := "com/example/wallbreak/wallbreak/cardfree/Pattern", name := "sevenPairs", desc := "()Z" } : Jvm.MethodName) prog_45_method_5_code (1 : Nat) (Option.some Jvm.ClassFile.FieldType.boolean)).before args0 about1 = true := code_word (m := ⟨3, 2⟩) (meth := k3m2) (c := k3c2) (by decide +kernel) rfl rfl rfl (by decide +kernel)
set_option maxRecDepth 65536 in
theorem w_c5 : (Jvm.Cond.code ({ cls := "com/example/wallbreak/wallbreak/cardfree/Pattern", name := "sizes", desc := "()I" } : Jvm.MethodName) prog_45_method_3_code (6 : Nat) (Option.some Jvm.ClassFile.FieldType.int)).before args0 about1 = true := code_word (m := ⟨3, 1⟩) (meth := k3m1) (c := k3c1) (by decide +kernel) rfl rfl rfl (by decide +kernel)
set_option maxRecDepth 65536 in
theorem w_c6 : (Jvm.Cond.code ({ cls := "com/example/wallbreak/wallbreak/cardfree/Pattern", name := "bySize", desc := "()[I" } : Jvm.MethodName) prog_45_method_8_code (1 : Nat) (Option.some (Jvm.ClassFile.FieldType.array Jvm.ClassFile.FieldType.int))).before args0 about1 = true := code_word (m := ⟨3, 3⟩) (meth := k3m3) (c := k3c3) (by decide +kernel) rfl rfl rfl (by decide +kernel)
def codes1 : List Jvm.Cond := [Jvm.Cond.code x code maxLocals ret, Jvm.Cond.code ({ cls := "com/example/wallbreak/wallbreak/cardfree/Pattern", name := "<init>", desc := "(IIII)V" } : Jvm.MethodName) prog_45_method_1_code (5 : Nat) (Option.none : Option Jvm.ClassFile.FieldType), Jvm.Cond.code ({ cls := "java/lang/Record", name := "<init>", desc := "()V" } : Jvm.MethodName) jdk_30_method_1_code (1 : Nat) (Option.none : Option Jvm.ClassFile.FieldType), Jvm.Cond.code ({ cls := "java/lang/Object", name := "<init>", desc := "()V" } : Jvm.MethodName) object_method_1_code (1 : Nat) (Option.none : Option Jvm.ClassFile.FieldType), Jvm.Cond.code ({ cls := "com/example/wallbreak/wallbreak/cardfree/Pattern", name := "sevenPairs", desc := "()Z" } : Jvm.MethodName) prog_45_method_5_code (1 : Nat) (Option.some Jvm.ClassFile.FieldType.boolean), Jvm.Cond.code ({ cls := "com/example/wallbreak/wallbreak/cardfree/Pattern", name := "sizes", desc := "()I" } : Jvm.MethodName) prog_45_method_3_code (6 : Nat) (Option.some Jvm.ClassFile.FieldType.int), Jvm.Cond.code ({ cls := "com/example/wallbreak/wallbreak/cardfree/Pattern", name := "bySize", desc := "()[I" } : Jvm.MethodName) prog_45_method_8_code (1 : Nat) (Option.some (Jvm.ClassFile.FieldType.array Jvm.ClassFile.FieldType.int))]
set_option maxRecDepth 65536 in
theorem codes_eq : words1.filter isCode = codes1 := rfl
theorem w_codes : ∀ c ∈ words1.filter isCode, c.before args0 about1 = true := by
  rw [codes_eq]
  intro c hc
  simp only [codes1, List.mem_cons, List.not_mem_nil, or_false] at hc
  rcases hc with rfl | rfl | rfl | rfl | rfl | rfl | rfl
  · exact w_c0
  · exact w_c1
  · exact w_c2
  · exact w_c3
  · exact w_c4
  · exact w_c5
  · exact w_c6
set_option maxRecDepth 65536 in
theorem w_t1 : (words1.take 24).all (fun c => isCode c || c.before args0 about1) = true := by decide +kernel
set_option maxRecDepth 65536 in
theorem w_t2 : (words1.drop 24).all (fun c => isCode c || c.before args0 about1) = true := by decide +kernel
theorem w_tables : (allAtoms (Jvm.Cond.code x code maxLocals ret :: tables_1)).before args0 about1 = true := by
  rw [allAtoms_all]
  show words1.all (fun c => c.before args0 about1) = true
  refine all_split ?_ w_codes
  rw [← List.take_append_drop 24 words1, List.all_append, w_t1, w_t2]
  rfl
set_option maxRecDepth 65536 in
theorem w_case : (Jvm.Cond.and given_1 narrow_1).before args0 about1 = true := by decide +kernel
theorem w_applies : (headSpec (Jvm.Cond.code x code maxLocals ret :: tables_1) room_1).applies x e0.platform about1 = true :=
  (Spec.applies_iff w_frames).mpr ⟨w_running, w_runnable, w_alone, w_named, w_hears, w_ripe, w_room, w_tables⟩
theorem atStart : AtStart classFile x code maxLocals ret World_1 tables_1 room_1 Calls_1 rest_1 Pre_1 launch0 p0 e0 about1 theMethod args0 below0 :=
  ⟨lists_1, trivial, launch0.admits_env _ _ _, launch0.least_env, fairChoices_fair.cas, fairChoices_fair.clock, w_frames, w_args, w_heap, w_applies, trivial, trivial, w_case⟩
end start1
theorem witness_1 : WitnessClaimed_1 := ⟨start1.p0, start1.e0, start1.about1, start1.theMethod, start1.args0, start1.below0, start1.atStart⟩
end Jvm.Pilot.@@N@@
