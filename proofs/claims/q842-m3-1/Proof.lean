import JvmDerived
import JvmDerived.Pilot.@@N@@Statement
import JvmDerived.Pilot.@@N@@Code
set_option linter.unusedVariables false
set_option linter.unusedSimpArgs false
namespace Jvm.RoadKit
open Sem ClassFile Op Lib Jvm.Stand Jvm.Free Jvm.LawKit
section New
variable {p : Program} {l : Launch} {e : Env} {R : Room} {s : State} {m : MethodId} {args : Array Value} {below : List Frame} {meth : Method} {c : Code} {T : State} {locs : List Loc} {cells slots : Nat}
theorem retI (X : Stand p l e R s m args below meth c T locs cells slots) (hx : p.tables.exec = Jvm.exec) {pc : Nat} {Ls : Array Slot} {z : Int32} {rest : List Value} (hret : meth.sig.returnType = some .int) (hd : decode c.code pc = .ok (.ireturn, 1)) {fs : List Frame}
    (hl : ∀ (f : JFrame) (acts : List Action), f.method = m → f.locked = none → f.entered = [] → (doReturn e (T.setTop f) acts (some (.int z))).1 = T.setFrames fs) : Steps p.tables e below (T.setTop (mkF m pc Ls (.int z :: rest))) (T.setFrames fs) := by
  have hm' : T.vm.method? m = some meth := X.method'
  have hn : narrow .int (.int z) = .int z := rfl
  show Steps p.tables e below (T.setTop { method := m, pc := pc, locals := Ls, stack := _ :: rest, locked := none }) _
  jvm_step X.here [X.here.top, hx, hd, hm', hret, hn]
  first | (intro acts; rw [hl _ acts rfl rfl rfl]) | rw [hl _ _ rfl rfl rfl]
  exact Steps.refl _
theorem own_ldc {g : JFrame} {target : State} (X : Stand p l e R s m args below meth c T locs cells slots) (hx : p.tables.exec = Jvm.exec) {own : String} {index : Nat} {v : Int32} (hown : s.vm.findClass own = some m.cls) (w : (Cond.constant own index v).before args s = true) (hg : g.method = m) (hd : decode c.code g.pc = .ok (.ldc index, 2))
    (hr : Steps p.tables e below (T.setTop { g with pc := g.pc + 2, stack := .int v :: g.stack }) target) : Steps p.tables e below (T.setTop g) target := X.ldcInt hx hown w hg hd target hr
theorem own_ldc2 {g : JFrame} {target : State} (X : Stand p l e R s m args below meth c T locs cells slots) (hx : p.tables.exec = Jvm.exec) {own : String} {index : Nat} {v : Int64} (hown : s.vm.findClass own = some m.cls) (w : (Cond.constantLong own index v).before args s = true) (hg : g.method = m) (hd : decode c.code g.pc = .ok (.ldc2_w index, 3))
    (hr : Steps p.tables e below (T.setTop { g with pc := g.pc + 3, stack := .long v :: g.stack }) target) : Steps p.tables e below (T.setTop g) target := X.ldc2Long hx hown w hg hd target hr
theorem own_len {g : JFrame} {target : State} (X : Stand p l e R s m args below meth c T locs cells slots) (hx : p.tables.exec = Jvm.exec) {a : Addr} {cell : Cell} {ty : FieldType} {z : Int32} (hcell : T.heap[a]? = some cell) (harr : s.isArrayOf cell ty) (hz : cell.slots.size = z.toNatClampNeg) (hn : ¬ z < 0) (hg : g.method = m) {rest : List Value} (hs : g.stack = .ref a :: rest) (hd : decode c.code g.pc = .ok (.arraylength, 1))
    (hr : Steps p.tables e below (T.setTop { g with pc := g.pc + 1, stack := .int z :: rest }) target) : Steps p.tables e below (T.setTop g) target := X.arraylength hx hcell harr hg hs hd target (by rw [len_of hz hn]; exact hr)
theorem own_iaload {g : JFrame} {target : State} (X : Stand p l e R s m args below meth c T locs cells slots) (hx : p.tables.exec = Jvm.exec) {a : Addr} {cell : Cell} {j : Int32} {v : Value} (hcell : T.heap[a]? = some cell) (harr : s.isArrayOf cell .int) (hk : cell.vm ≠ .unknown) (hin : ¬ (j < 0 ∨ cell.slots.size ≤ j.toNatClampNeg)) (hv : cell.slots[j.toNatClampNeg]? = some v) (hg : g.method = m) {rest : List Value} (hs : g.stack = .int j :: .ref a :: rest) (hd : decode c.code g.pc = .ok (.iaload, 1))
    (hr : Steps p.tables e below (T.setTop { g with pc := g.pc + 1, stack := v :: rest }) target) : Steps p.tables e below (T.setTop g) target := X.iaload hx hcell harr hk hin hv hg hs hd target hr
theorem own_laload {g : JFrame} {target : State} (X : Stand p l e R s m args below meth c T locs cells slots) (hx : p.tables.exec = Jvm.exec) {a : Addr} {cell : Cell} {j : Int32} {v : Value} (hcell : T.heap[a]? = some cell) (harr : s.isArrayOf cell .long) (hk : cell.vm ≠ .unknown) (hin : ¬ (j < 0 ∨ cell.slots.size ≤ j.toNatClampNeg)) (hv : cell.slots[j.toNatClampNeg]? = some v) (hg : g.method = m) {rest : List Value} (hs : g.stack = .int j :: .ref a :: rest) (hd : decode c.code g.pc = .ok (.laload, 1))
    (hr : Steps p.tables e below (T.setTop { g with pc := g.pc + 1, stack := v :: rest }) target) : Steps p.tables e below (T.setTop g) target := X.laload hx hcell harr hk hin hv hg hs hd target hr
theorem own_baload {g : JFrame} {target : State} (X : Stand p l e R s m args below meth c T locs cells slots) (hx : p.tables.exec = Jvm.exec) {a : Addr} {cell : Cell} {j : Int32} {v : Value} (hcell : T.heap[a]? = some cell) (harr : s.isArrayOf cell .byte) (hk : cell.vm ≠ .unknown) (hin : ¬ (j < 0 ∨ cell.slots.size ≤ j.toNatClampNeg)) (hv : cell.slots[j.toNatClampNeg]? = some v) (hg : g.method = m) {rest : List Value} (hs : g.stack = .int j :: .ref a :: rest) (hd : decode c.code g.pc = .ok (.baload, 1))
    (hr : Steps p.tables e below (T.setTop { g with pc := g.pc + 1, stack := v :: rest }) target) : Steps p.tables e below (T.setTop g) target := X.baloadBytes hx hcell harr hk hin hv hg hs hd target hr
theorem own_lrem {g : JFrame} {target : State} (X : Stand p l e R s m args below meth c T locs cells slots) (hx : p.tables.exec = Jvm.exec) (hg : g.method = m) {x y : Int64} {rest : List Value} (hd : decode c.code g.pc = .ok (.lrem, 1)) (hs : g.stack = .long y :: .long x :: rest) (hy : y ≠ 0)
    (hr : Steps p.tables e below (T.setTop { g with pc := g.pc + 1, stack := .long (x % y) :: rest }) target) : Steps p.tables e below (T.setTop g) target :=
  XS.lrem X.here hx hg hd hs hy (by rw [lrem_mod]; exact hr)
theorem own_tltL {x y : Int64} (h : x < y) : ifCond.holds .lt (lcmpW x y) = true ∧ ifCond.holds .ge (lcmpW x y) = false ∧ ifCond.holds .gt (lcmpW y x) = true ∧ ifCond.holds .le (lcmpW y x) = false := by
  have h1 : lcmpW x y < 0 := by rw [lcW]; exact (lc_lt x y).mpr h
  have h2 : 0 < lcmpW y x := by rw [lcW]; exact (lc_gt y x).mpr h
  exact ⟨(if0 _ _).trans (tlt h1).1, (if0 _ _).trans (tlt h1).2.1, (if0 _ _).trans (tlt h2).2.2.1, (if0 _ _).trans (tlt h2).2.2.2⟩
theorem own_fltL {x y : Int64} (h : ¬ x < y) : ifCond.holds .lt (lcmpW x y) = false ∧ ifCond.holds .ge (lcmpW x y) = true ∧ ifCond.holds .gt (lcmpW y x) = false ∧ ifCond.holds .le (lcmpW y x) = true := by
  have h1 : ¬ lcmpW x y < 0 := by rw [lcW, lc_lt]; exact h
  have h2 : ¬ 0 < lcmpW y x := by rw [lcW, lc_gt]; exact h
  exact ⟨(if0 _ _).trans (flt h1).1, (if0 _ _).trans (flt h1).2.1, (if0 _ _).trans (flt h2).2.2.1, (if0 _ _).trans (flt h2).2.2.2⟩
theorem own_teqL {x y : Int64} (h : x = y) : ifCond.holds .eq (lcmpW x y) = true ∧ ifCond.holds .ne (lcmpW x y) = false := by
  have h1 : lcmpW x y = 0 := by rw [lcW, lc_eq]; exact h
  exact ⟨(if0 _ _).trans (teq h1).1, (if0 _ _).trans (teq h1).2⟩
theorem own_feqL {x y : Int64} (h : ¬ x = y) : ifCond.holds .eq (lcmpW x y) = false ∧ ifCond.holds .ne (lcmpW x y) = true := by
  have h1 : ¬ lcmpW x y = 0 := by rw [lcW, lc_eq]; exact h
  exact ⟨(if0 _ _).trans (feq h1).1, (if0 _ _).trans (feq h1).2⟩
end New
end Jvm.RoadKit
namespace Jvm.Pilot.@@N@@
open Jvm Jvm.ClassFile Sem Op Lib Jvm.Free Jvm.Stand Jvm.LawKit Jvm.RoadKit Bundle Jvm.Pilot.@@N@@.Jvm.D
/-- what is left to show from a place of the walk on -/
abbrev OGl (p : Program) (e : Env) (below : List Frame) (Q : Outcome → State → Prop) (T : State) (g : JFrame) : Prop :=
  ∃ s₂ o, Steps p.tables e below (T.setTop g) s₂ ∧ s₂.status = .running ∧ Ended s₂ below o ∧ Q o s₂
theorem OGl.go {p : Program} {e : Env} {below : List Frame} {Q : Outcome → State → Prop} {T T' : State} {g g' : JFrame} (h : ∀ t, Steps p.tables e below (T'.setTop g') t → Steps p.tables e below (T.setTop g) t) (k : OGl p e below Q T' g') : OGl p e below Q T g := by
  obtain ⟨s2, o, h1, h2⟩ := k
  exact ⟨s2, o, h _ h1, h2⟩
theorem OGl.start {p : Program} {e : Env} {below : List Frame} {Q : Outcome → State → Prop} {T : State} {g g' : JFrame} (q : g = g') (k : OGl p e below Q T g') : OGl p e below Q T g := q ▸ k
theorem own_selPriv {s : State} {args : Array Value} {y y' x' : MethodName} {C' : String} (hp : s.PrivateAt y) (hi : (Cond.instanceMethod y).before args s = true) (hs : (Cond.selects C' x' y').before args s = true) (hc : y'.cls = y.cls) (hy : y.cls ≠ "java/lang/invoke/MethodHandle" ∧ y.cls ≠ "java/lang/invoke/VarHandle" := by decide) : (Cond.selects y.cls y y).before args s = true := by
  obtain ⟨mk, meth, hn, hm, -, -⟩ := Cond.instanceMethod_spec hi
  obtain ⟨c2, r2, m2, -, -, q3, -, kP, hkP, hkPi⟩ := Cond.selects_spec hs
  have h1 := findClass_of_methodNamed hn
  have h2 := findClass_of_methodNamed q3
  rw [hc, h1] at h2
  have h3 : mk.cls = m2.cls := Option.some.inj h2
  have hf := State.methodFound?_of_named hn hy
  have hsel : selectMethod {} s.vm mk.cls mk = .method mk := selectMethod_private hm (hp mk meth hn hm)
  rw [← h3] at hkP
  simp [Cond.before, Cond.holds, Cond.value, h1, hf, hn, hsel, hkP, hkPi]
theorem own_weak {Z : State} {h : Heap} {a : Addr} {k : ClassId} {ty : FieldType} {z : Int32} {vs vs' : List Value} {d : Value} (F : Arv Z h a k ty z vs d) (q : ∀ i, i < z.toNatClampNeg → vs'.getD i d = vs.getD i d) : Arv Z h a k ty z vs' d := by
  obtain ⟨c, A, r1, r2, r3, H, G⟩ := F
  exact ⟨c, A, r1, r2, r3, fun i hi => by rw [q i (r2 ▸ hi)]; exact H i hi, fun i hi => by rw [q i (r2 ▸ hi)]; exact G i hi⟩
theorem own_cl {z j : Int32} {k i : Nat} (h : ¬ j < z) (hk : j.toInt = k) (hi : i < z.toNatClampNeg) : i < k := by
  rw [Int32.lt_iff_toInt_lt] at h
  have : z.toNatClampNeg = z.toInt.toNat := rfl
  omega
theorem own_irr {α : Type} [LT α] [Std.Irrefl (α := α) (· < ·)] (x : α) : ¬ x < x := Std.Irrefl.irrefl x
theorem d1_0 : decode prog_35_method_1_code 0 = .ok (.aload_n 0, 1) := by decide +kernel
theorem d1_1 : decode prog_35_method_1_code 1 = .ok (.invokespecial 3, 3) := by decide +kernel
theorem d2_0 : decode jdk_30_method_1_code 0 = .ok (.aload_n 0, 1) := by decide +kernel
theorem d2_1 : decode jdk_30_method_1_code 1 = .ok (.invokespecial 1, 3) := by decide +kernel
theorem d2_4 : decode jdk_30_method_1_code 4 = .ok (.return_, 1) := by decide +kernel
theorem ef_2 (m : MethodId) (x0 : Addr) : entryFrame m #[(.ref x0)] 1 = mkF m 0 #[.val (.ref x0)] [] := by first | (simp [entryFrame, mkF, argsToLocals, Value.category]; done) | rfl
theorem pn_0 : plainName "java/lang/Record" = true := by first | (simp [plainName, overriddenIn]; done) | decide +kernel
def Q2 (Z : State) (o0 : Addr) (h0 : Heap) (n0 : Nat) (v : Option Value) (h : Heap) (L : List Loc) : Prop := v = none ∧ Fr n0 L ∧ h = h0
set_option maxRecDepth 65536 in
set_option maxHeartbeats 40000000 in
theorem rm2 (l : Launch) (Z : State) (a0 : Array Value) (hw : ∀ d ∈ tables_1, d.before a0 Z = true) (ws : List Jvm.Cond) (o0 : Addr) (h0 : Heap) (n0 : Nat) (Z0 : n0 ≤ h0.size) :
    MetFree l (⟨"java/lang/Record", "<init>", "()V"⟩ : MethodName) (head1 (Jvm.Cond.code (⟨"java/lang/Record", "<init>", "()V"⟩ : MethodName) jdk_30_method_1_code 1 none :: ws) ({ frames := 1, cells := 0, slots := 0, locals := 12 } : Room)) (fun a U => a = #[(.ref o0)] ∧ Z.Warmed39 U.vm ∧ U.heap = h0) (fun _ _ _ _ _ => True) (fun _ U o U' => ∃ v L, o = .returned v ∧ Q2 Z o0 h0 n0 v U'.heap L ∧ FrameEnd U o U' L ({ frames := 1, cells := 0, slots := 0, locals := 12 } : Room).cells ({ frames := 1, cells := 0, slots := 0, locals := 12 } : Room).slots) := by
  refine MetFree.of_bodySF (plainFor_of_name pn_0) hisR ?_
  intro p e s m args below meth c s₁ Bd hml0 hP hK
  obtain ⟨rfl, hZ, hh⟩ := hP
  have hx := Bd.exec
  have hby := Bd.bytes
  have hml : c.maxLocals = 1 := hml0
  have hown : s.vm.findClass "java/lang/Record" = some m.cls := findClass_of_methodNamed Bd.named
  have hnm := (name_of_methodNamed Bd.named Bd.method).1
  have X0 : Stand p l e ({ frames := 1, cells := 0, slots := 0, locals := 12 } : Room) s m #[(.ref o0)] below meth c s₁ [] 0 0 := Stand.of_body Bd
  have e0 : s₁.heap = h0 := by rw [← hh, Bd.state]; rfl
  have N0 := Fr.nil n0
  refine OGl.start (ef_2 m o0) ?_
  show OGl _ _ _ _ s₁ (mkF m 0 #[.val (.ref o0)] [])
  refine OGl.go (fun t k => XS.aloadN X0.here hx rfl (hb hby d2_0) rfl rfl k) ?_
  show OGl _ _ _ _ s₁ (mkF m 1 #[.val (.ref o0)] [(.ref o0)])
  obtain ⟨T10, X10, e10, st10⟩ := initO X0 hx hZ hown (hw _ (List.mem_of_getElem? (i := 15) rfl)) (hw _ (List.mem_of_getElem? (i := 16) rfl)) (hw _ (List.mem_of_getElem? (i := 17) rfl)) e0 (g := (mkF m 1 #[.val (.ref o0)] [(.ref o0)])) rfl (by rw [hml]; rfl) rfl (hb hby d2_1) (by decide) (W := 0) (by show 2 * 0 + _ ≤ _; exact Nat.le_of_eq rfl) (by decide)
  refine OGl.go st10 ?_
  show OGl _ _ _ _ T10 (mkF m 4 #[.val (.ref o0)] [])
  obtain ⟨fs, hr, hrun, hended, hW, hsame⟩ := X10.leave (v := none) (fun _ => rfl)
  refine ⟨_, _, X10.returnOut hx Bd.returns (hb hby d2_4) hr, hrun, hended, _, _, rfl, ?_, ⟨_, rfl⟩, hW, hsame.mono (by decide) (by decide)⟩
  show Q2 Z o0 h0 n0 _ T10.heap _
  rw [e10]
  exact ⟨rfl, N0, rfl⟩
theorem pd_0 : parseMethodDescriptor "()V" = some ⟨[], none⟩ := by decide +kernel
theorem d1_4 : decode prog_35_method_1_code 4 = .ok (.aload_n 0, 1) := by decide +kernel
theorem d1_5 : decode prog_35_method_1_code 5 = .ok (.lload_n 1, 1) := by decide +kernel
theorem d1_6 : decode prog_35_method_1_code 6 = .ok (.putfield 9, 3) := by decide +kernel
theorem d1_9 : decode prog_35_method_1_code 9 = .ok (.aload_n 0, 1) := by decide +kernel
theorem d1_10 : decode prog_35_method_1_code 10 = .ok (.lload_n 3, 1) := by decide +kernel
theorem d1_11 : decode prog_35_method_1_code 11 = .ok (.putfield 15, 3) := by decide +kernel
theorem d1_14 : decode prog_35_method_1_code 14 = .ok (.return_, 1) := by decide +kernel
theorem ef_1 (m : MethodId) (x0 : Addr) (x1 : Int64) (x2 : Int64) : entryFrame m #[(.ref x0), (.long x1), (.long x2)] 5 = mkF m 0 #[.val (.ref x0), .val (.long x1), .second, .val (.long x2), .second] [] := by first | (simp [entryFrame, mkF, argsToLocals, Value.category]; done) | rfl
theorem pn_1 : plainName "com/example/nanjing/nanjing/model/Slot" = true := by first | (simp [plainName, overriddenIn]; done) | decide +kernel
def Q1 (Z : State) (o0 : Addr) (q1 : Int64) (q2 : Int64) (h0 : Heap) (n0 : Nat) (v : Option Value) (h : Heap) (L : List Loc) : Prop := v = none ∧ Fr n0 L ∧ Keep h0 h [o0] ∧ Fld Z h o0 "com/example/nanjing/nanjing/model/Slot" "begin" "J" (.long q1) ∧ Fld Z h o0 "com/example/nanjing/nanjing/model/Slot" "end" "J" (.long q2)
set_option maxRecDepth 65536 in
set_option maxHeartbeats 40000000 in
theorem rm1 (l : Launch) (Z : State) (a0 : Array Value) (hw : ∀ d ∈ tables_1, d.before a0 Z = true) (ws : List Jvm.Cond) (o0 : Addr) (q1 : Int64) (q2 : Int64) (h0 : Heap) (n0 : Nat) (Z0 : n0 ≤ h0.size) (E_o0 : Exa Z h0 o0 "com/example/nanjing/nanjing/model/Slot") (F1_o0 : Fld Z h0 o0 "com/example/nanjing/nanjing/model/Slot" "begin" "J" (.long (0 : Int64))) (F2_o0 : Fld Z h0 o0 "com/example/nanjing/nanjing/model/Slot" "end" "J" (.long (0 : Int64))) (g_o0 : n0 ≤ o0) :
    MetFree l (⟨"com/example/nanjing/nanjing/model/Slot", "<init>", "(JJ)V"⟩ : MethodName) (head1 (Jvm.Cond.code (⟨"com/example/nanjing/nanjing/model/Slot", "<init>", "(JJ)V"⟩ : MethodName) prog_35_method_1_code 5 none :: ws) ({ frames := 2, cells := 0, slots := 0, locals := 24 } : Room)) (fun a U => a = #[(.ref o0), (.long q1), (.long q2)] ∧ Z.Warmed39 U.vm ∧ U.heap = h0) (fun _ _ _ _ _ => True) (fun _ U o U' => ∃ v L, o = .returned v ∧ Q1 Z o0 q1 q2 h0 n0 v U'.heap L ∧ FrameEnd U o U' L ({ frames := 2, cells := 0, slots := 0, locals := 24 } : Room).cells ({ frames := 2, cells := 0, slots := 0, locals := 24 } : Room).slots) := by
  refine MetFree.of_bodySF (plainFor_of_name pn_1) hisR ?_
  intro p e s m args below meth c s₁ Bd hml0 hP hK
  obtain ⟨rfl, hZ, hh⟩ := hP
  have hx := Bd.exec
  have hby := Bd.bytes
  have hml : c.maxLocals = 5 := hml0
  have hown : s.vm.findClass "com/example/nanjing/nanjing/model/Slot" = some m.cls := findClass_of_methodNamed Bd.named
  have hnm := (name_of_methodNamed Bd.named Bd.method).1
  have X0 : Stand p l e ({ frames := 2, cells := 0, slots := 0, locals := 24 } : Room) s m #[(.ref o0), (.long q1), (.long q2)] below meth c s₁ [] 0 0 := Stand.of_body Bd
  have e0 : s₁.heap = h0 := by rw [← hh, Bd.state]; rfl
  have N0 := Fr.nil n0
  refine OGl.start (ef_1 m o0 q1 q2) ?_
  show OGl _ _ _ _ s₁ (mkF m 0 #[.val (.ref o0), .val (.long q1), .second, .val (.long q2), .second] [])
  refine OGl.go (fun t k => XS.aloadN X0.here hx rfl (hb hby d1_0) rfl rfl k) ?_
  show OGl _ _ _ _ s₁ (mkF m 1 #[.val (.ref o0), .val (.long q1), .second, .val (.long q2), .second] [(.ref o0)])
  obtain ⟨_, _, ⟨T9, L9, kk9, n9⟩, -, X9, ⟨Lc9, hQ9, l9, y9, z9⟩, st9⟩ := X0.specialBack hx (y := (⟨"java/lang/Record", "<init>", "()V"⟩ : MethodName)) rfl hown (mvT hZ (hw _ (List.mem_of_getElem? (i := 10) rfl))) (mvT hZ (hw _ (List.mem_of_getElem? (i := 11) rfl))) (mvT hZ (hw _ (List.mem_of_getElem? (i := 14) rfl))) (by decide) (backOf (W := 0) (rm2 l Z a0 hw [] o0 h0 n0 Z0 ) hZ (hw _ (List.mem_of_getElem? (i := 14) rfl)) (hw _ (List.mem_of_getElem? (i := 13) rfl)) (by decide) (by decide)) (g := (mkF m 1 #[.val (.ref o0), .val (.long q1), .second, .val (.long q2), .second] [(.ref o0)])) rfl (by rw [hml]; rfl) (Steps.refl _) (a := o0) (argsL := []) (rest := []) (lenOf pd_0 rfl) rfl (by show 2 * 0 + _ ≤ _; exact Nat.le_of_eq rfl) (hb hby d1_1) (fun _ _ => ⟨rfl, e0, (by decide : 0 + 0 ≤ _), (by decide : 0 + 0 ≤ _)⟩)
  dsimp only [Pt.U, Pt.locs, Pt.cells, Pt.slots] at X9 l9 y9 z9 st9 hQ9
  subst l9 y9 z9
  obtain ⟨rfl, Nq9, e9⟩ := hQ9
  have N9 := Fr.app N0 Nq9
  refine OGl.go (fun t k => st9.trans k) ?_
  show OGl _ _ _ _ T9 (mkF m 4 #[.val (.ref o0), .val (.long q1), .second, .val (.long q2), .second] [])
  refine OGl.go (fun t k => XS.aloadN X9.here hx rfl (hb hby d1_4) rfl rfl (XS.lloadN X9.here hx rfl (hb hby d1_5) rfl k)) ?_
  show OGl _ _ _ _ T9 (mkF m 6 #[.val (.ref o0), .val (.long q1), .second, .val (.long q2), .second] [(.long q1), (.ref o0)])
  obtain ⟨T11, h11, X11, e11, W11, st11⟩ := putF X9 hx hZ hown (host := "") (Or.inl (hw _ (List.mem_of_getElem? (i := 18) rfl))) Via.refl e9 F1_o0 E_o0 (Or.inr ⟨(hw _ (List.mem_of_getElem? (i := 19) rfl)), rfl, hnm⟩) (hw _ (List.mem_of_getElem? (i := 5) rfl)) (ty := .long) (by decide) rfl rfl (g := (mkF m 6 #[.val (.ref o0), .val (.long q1), .second, .val (.long q2), .second] [(.long q1), (.ref o0)])) rfl rfl (hb hby d1_6)
  refine OGl.go st11 ?_
  have N11 := Fr.snoc X11 N9 g_o0
  have Fw11 := F1_o0.same W11
  have KK11 : Keep h0 h11 [o0] := (Keep.refl h0 [o0]).wr W11 (Or.inl (List.mem_of_getElem? (i := 0) rfl))
  show OGl _ _ _ _ T11 (mkF m 9 #[.val (.ref o0), .val (.long q1), .second, .val (.long q2), .second] [])
  refine OGl.go (fun t k => XS.aloadN X11.here hx rfl (hb hby d1_9) rfl rfl (XS.lloadN X11.here hx rfl (hb hby d1_10) rfl k)) ?_
  show OGl _ _ _ _ T11 (mkF m 11 #[.val (.ref o0), .val (.long q1), .second, .val (.long q2), .second] [(.long q2), (.ref o0)])
  have F12 := (F2_o0.other W11 (Or.inr (slot_ne (Or.inr (hw _ (List.mem_of_getElem? (i := 21) rfl))) (Or.inr (hw _ (List.mem_of_getElem? (i := 19) rfl))) (by decide) (t := .long) (t' := .long) (by decide) (by decide))))
  have F13 := (E_o0.wr W11)
  obtain ⟨T14, h14, X14, e14, W14, st14⟩ := putF X11 hx hZ hown (host := "") (Or.inl (hw _ (List.mem_of_getElem? (i := 20) rfl))) Via.refl e11 F12 F13 (Or.inr ⟨(hw _ (List.mem_of_getElem? (i := 21) rfl)), rfl, hnm⟩) (hw _ (List.mem_of_getElem? (i := 5) rfl)) (ty := .long) (by decide) rfl rfl (g := (mkF m 11 #[.val (.ref o0), .val (.long q1), .second, .val (.long q2), .second] [(.long q2), (.ref o0)])) rfl rfl (hb hby d1_11)
  refine OGl.go st14 ?_
  have N14 := Fr.snoc X14 N11 g_o0
  have Fw14 := F12.same W14
  have KK14 : Keep h0 h14 [o0] := KK11.wr W14 (Or.inl (List.mem_of_getElem? (i := 0) rfl))
  show OGl _ _ _ _ T14 (mkF m 14 #[.val (.ref o0), .val (.long q1), .second, .val (.long q2), .second] [])
  obtain ⟨fs, hr, hrun, hended, hW, hsame⟩ := X14.leave (v := none) (fun _ => rfl)
  refine ⟨_, _, X14.returnOut hx Bd.returns (hb hby d1_14) hr, hrun, hended, _, _, rfl, ?_, ⟨_, rfl⟩, hW, hsame.mono (by decide) (by decide)⟩
  show Q1 Z o0 q1 q2 h0 n0 _ T14.heap _
  rw [e14]
  have F15 := (Fw11.other W14 (Or.inr (slot_ne (Or.inr (hw _ (List.mem_of_getElem? (i := 19) rfl))) (Or.inr (hw _ (List.mem_of_getElem? (i := 21) rfl))) (by decide) (t := .long) (t' := .long) (by decide) (by decide))))
  exact ⟨rfl, N14, KK14, F15, Fw14⟩
theorem pd_1 : parseMethodDescriptor "(JJ)V" = some ⟨[.long, .long], none⟩ := by decide +kernel
theorem d4_0 : decode prog_35_method_2_code 0 = .ok (.lload_n 1, 1) := by decide +kernel
theorem d4_1 : decode prog_35_method_2_code 1 = .ok (.aload_n 0, 1) := by decide +kernel
theorem d4_2 : decode prog_35_method_2_code 2 = .ok (.getfield 9, 3) := by decide +kernel
theorem d4_5 : decode prog_35_method_2_code 5 = .ok (.lcmp, 1) := by decide +kernel
theorem d4_6 : decode prog_35_method_2_code 6 = .ok (.ifCond .lt 18, 3) := by decide +kernel
theorem d4_24 : decode prog_35_method_2_code 24 = .ok (.iconst 0, 1) := by decide +kernel
theorem d4_25 : decode prog_35_method_2_code 25 = .ok (.ireturn, 1) := by decide +kernel
theorem d4_9 : decode prog_35_method_2_code 9 = .ok (.aload_n 0, 1) := by decide +kernel
theorem d4_10 : decode prog_35_method_2_code 10 = .ok (.getfield 15, 3) := by decide +kernel
theorem d4_13 : decode prog_35_method_2_code 13 = .ok (.lload_n 3, 1) := by decide +kernel
theorem d4_14 : decode prog_35_method_2_code 14 = .ok (.lsub, 1) := by decide +kernel
theorem d4_15 : decode prog_35_method_2_code 15 = .ok (.lload_n 1, 1) := by decide +kernel
theorem d4_16 : decode prog_35_method_2_code 16 = .ok (.lcmp, 1) := by decide +kernel
theorem d4_17 : decode prog_35_method_2_code 17 = .ok (.ifCond .lt 7, 3) := by decide +kernel
theorem d4_20 : decode prog_35_method_2_code 20 = .ok (.iconst 1, 1) := by decide +kernel
theorem d4_21 : decode prog_35_method_2_code 21 = .ok (.goto 4, 3) := by decide +kernel
theorem ef_4 (m : MethodId) (x0 : Addr) (x1 : Int64) (x2 : Int64) : entryFrame m #[(.ref x0), (.long x1), (.long x2)] 5 = mkF m 0 #[.val (.ref x0), .val (.long x1), .second, .val (.long x2), .second] [] := by first | (simp [entryFrame, mkF, argsToLocals, Value.category]; done) | rfl
def t4_0 (q1 : Int64) (q2 : Int64) (q3 : Int64) (q4 : Int64) : Int32 := (if q1 < q3 then (0 : Int32) else (if (q4 - q2) < q1 then (0 : Int32) else (1 : Int32)))
def Q4 (Z : State) (o0 : Addr) (q1 : Int64) (q2 : Int64) (q3 : Int64) (q4 : Int64) (h0 : Heap) (n0 : Nat) (v : Option Value) (h : Heap) (L : List Loc) : Prop := v = some (.int (t4_0 q1 q2 q3 q4)) ∧ Fr n0 L ∧ h = h0
set_option maxRecDepth 65536 in
set_option maxHeartbeats 40000000 in
theorem rm4 (l : Launch) (Z : State) (a0 : Array Value) (hw : ∀ d ∈ tables_1, d.before a0 Z = true) (ws : List Jvm.Cond) (o0 : Addr) (q1 : Int64) (q2 : Int64) (q3 : Int64) (q4 : Int64) (h0 : Heap) (n0 : Nat) (Z0 : n0 ≤ h0.size) (F0_o0 : Fld Z h0 o0 "com/example/nanjing/nanjing/model/Slot" "begin" "J" (.long q3)) (F1_o0 : Fld Z h0 o0 "com/example/nanjing/nanjing/model/Slot" "end" "J" (.long q4)) :
    MetFree l (⟨"com/example/nanjing/nanjing/model/Slot", "holds", "(JJ)Z"⟩ : MethodName) (head1 (Jvm.Cond.code (⟨"com/example/nanjing/nanjing/model/Slot", "holds", "(JJ)Z"⟩ : MethodName) prog_35_method_2_code 5 (some .boolean) :: ws) ({ frames := 0, cells := 0, slots := 0, locals := 0 } : Room)) (fun a U => a = #[(.ref o0), (.long q1), (.long q2)] ∧ Z.Warmed39 U.vm ∧ U.heap = h0) (fun _ _ _ _ _ => True) (fun _ U o U' => ∃ v L, o = .returned v ∧ Q4 Z o0 q1 q2 q3 q4 h0 n0 v U'.heap L ∧ FrameEnd U o U' L ({ frames := 0, cells := 0, slots := 0, locals := 0 } : Room).cells ({ frames := 0, cells := 0, slots := 0, locals := 0 } : Room).slots) := by
  refine MetFree.of_bodySF (plainFor_of_name pn_1) hisR ?_
  intro p e s m args below meth c s₁ Bd hml0 hP hK
  obtain ⟨rfl, hZ, hh⟩ := hP
  have hx := Bd.exec
  have hby := Bd.bytes
  have hml : c.maxLocals = 5 := hml0
  have hown : s.vm.findClass "com/example/nanjing/nanjing/model/Slot" = some m.cls := findClass_of_methodNamed Bd.named
  have hnm := (name_of_methodNamed Bd.named Bd.method).1
  have X0 : Stand p l e ({ frames := 0, cells := 0, slots := 0, locals := 0 } : Room) s m #[(.ref o0), (.long q1), (.long q2)] below meth c s₁ [] 0 0 := Stand.of_body Bd
  have e0 : s₁.heap = h0 := by rw [← hh, Bd.state]; rfl
  have N0 := Fr.nil n0
  refine OGl.start (ef_4 m o0 q1 q2) ?_
  show OGl _ _ _ _ s₁ (mkF m 0 #[.val (.ref o0), .val (.long q1), .second, .val (.long q2), .second] [])
  refine OGl.go (fun t k => XS.lloadN X0.here hx rfl (hb hby d4_0) rfl (XS.aloadN X0.here hx rfl (hb hby d4_1) rfl rfl k)) ?_
  show OGl _ _ _ _ s₁ (mkF m 2 #[.val (.ref o0), .val (.long q1), .second, .val (.long q2), .second] [(.ref o0), (.long q1)])
  obtain ⟨T17, X17, e17, st17⟩ := getF X0 hx hZ hown (host := "") (Or.inl (hw _ (List.mem_of_getElem? (i := 18) rfl))) Via.refl e0 F0_o0 (g := (mkF m 2 #[.val (.ref o0), .val (.long q1), .second, .val (.long q2), .second] [(.ref o0), (.long q1)])) rfl rfl (hb hby d4_2)
  refine OGl.go st17 ?_
  show OGl _ _ _ _ T17 (mkF m 5 #[.val (.ref o0), .val (.long q1), .second, .val (.long q2), .second] [(.long q3), (.long q1)])
  refine OGl.go (fun t k => XS.lcmp X17.here hx rfl (hb hby d4_5) rfl k) ?_
  show OGl _ _ _ _ T17 (mkF m 6 #[.val (.ref o0), .val (.long q1), .second, .val (.long q2), .second] [(.int (lcmpW q1 q3))])
  by_cases hc18 : q1 < q3
  · refine OGl.go (fun t k => XS.ifYes X17.here hx rfl (pc0 := 6) (pc' := 24) rfl (hb hby d4_6) rfl (own_tltL hc18).1 (by decide) (by decide) (XS.iconst X17.here hx rfl (hb hby d4_24) k)) ?_
    show OGl _ _ _ _ T17 (mkF m 25 #[.val (.ref o0), .val (.long q1), .second, .val (.long q2), .second] [(.int (0 : Int32))])
    obtain ⟨fs, hr, hrun, hended, hW, hsame⟩ := X17.leave (v := some (.int (0 : Int32))) (fun h => by rw [Bd.returns] at h; cases h)
    refine ⟨_, _, retN X17 hx (t := .boolean) Bd.returns (by simp) (hb hby d4_25) hr, hrun, hended, _, _, rfl, ?_, ⟨_, rfl⟩, hW, hsame.mono (by decide) (by decide)⟩
    have hv21 : (t4_0 q1 q2 q3 q4) = (0 : Int32) := by unfold t4_0; rw [if_pos hc18]
    show Q4 Z o0 q1 q2 q3 q4 h0 n0 _ T17.heap _
    rw [e17]
    exact ⟨(by rw [hv21]), N0, rfl⟩
  · refine OGl.go (fun t k => XS.ifNo X17.here hx rfl (hb hby d4_6) rfl (own_fltL hc18).1 (XS.aloadN X17.here hx rfl (hb hby d4_9) rfl rfl k)) ?_
    show OGl _ _ _ _ T17 (mkF m 10 #[.val (.ref o0), .val (.long q1), .second, .val (.long q2), .second] [(.ref o0)])
    obtain ⟨T19, X19, e19, st19⟩ := getF X17 hx hZ hown (host := "") (Or.inl (hw _ (List.mem_of_getElem? (i := 20) rfl))) Via.refl e17 F1_o0 (g := (mkF m 10 #[.val (.ref o0), .val (.long q1), .second, .val (.long q2), .second] [(.ref o0)])) rfl rfl (hb hby d4_10)
    refine OGl.go st19 ?_
    show OGl _ _ _ _ T19 (mkF m 13 #[.val (.ref o0), .val (.long q1), .second, .val (.long q2), .second] [(.long q4)])
    refine OGl.go (fun t k => XS.lloadN X19.here hx rfl (hb hby d4_13) rfl (XS.lsub X19.here hx rfl (hb hby d4_14) rfl (XS.lloadN X19.here hx rfl (hb hby d4_15) rfl (XS.lcmp X19.here hx rfl (hb hby d4_16) rfl k)))) ?_
    show OGl _ _ _ _ T19 (mkF m 17 #[.val (.ref o0), .val (.long q1), .second, .val (.long q2), .second] [(.int (lcmpW (q4 - q2) q1))])
    by_cases hc20 : (q4 - q2) < q1
    · refine OGl.go (fun t k => XS.ifYes X19.here hx rfl (pc0 := 17) (pc' := 24) rfl (hb hby d4_17) rfl (own_tltL hc20).1 (by decide) (by decide) (XS.iconst X19.here hx rfl (hb hby d4_24) k)) ?_
      show OGl _ _ _ _ T19 (mkF m 25 #[.val (.ref o0), .val (.long q1), .second, .val (.long q2), .second] [(.int (0 : Int32))])
      obtain ⟨fs, hr, hrun, hended, hW, hsame⟩ := X19.leave (v := some (.int (0 : Int32))) (fun h => by rw [Bd.returns] at h; cases h)
      refine ⟨_, _, retN X19 hx (t := .boolean) Bd.returns (by simp) (hb hby d4_25) hr, hrun, hended, _, _, rfl, ?_, ⟨_, rfl⟩, hW, hsame.mono (by decide) (by decide)⟩
      have hv22 : (t4_0 q1 q2 q3 q4) = (0 : Int32) := by unfold t4_0; rw [if_neg hc18, if_pos hc20]
      show Q4 Z o0 q1 q2 q3 q4 h0 n0 _ T19.heap _
      rw [e19]
      exact ⟨(by rw [hv22]), N0, rfl⟩
    · refine OGl.go (fun t k => XS.ifNo X19.here hx rfl (hb hby d4_17) rfl (own_fltL hc20).1 (XS.iconst X19.here hx rfl (hb hby d4_20) (XS.goto X19.here hx rfl (pc0 := 21) (pc' := 25) rfl (hb hby d4_21) (by decide) (by decide) k))) ?_
      show OGl _ _ _ _ T19 (mkF m 25 #[.val (.ref o0), .val (.long q1), .second, .val (.long q2), .second] [(.int (1 : Int32))])
      obtain ⟨fs, hr, hrun, hended, hW, hsame⟩ := X19.leave (v := some (.int (1 : Int32))) (fun h => by rw [Bd.returns] at h; cases h)
      refine ⟨_, _, retN X19 hx (t := .boolean) Bd.returns (by simp) (hb hby d4_25) hr, hrun, hended, _, _, rfl, ?_, ⟨_, rfl⟩, hW, hsame.mono (by decide) (by decide)⟩
      have hv23 : (t4_0 q1 q2 q3 q4) = (1 : Int32) := by unfold t4_0; rw [if_neg hc18, if_neg hc20]
      show Q4 Z o0 q1 q2 q3 q4 h0 n0 _ T19.heap _
      rw [e19]
      exact ⟨(by rw [hv23]), N0, rfl⟩
theorem pd_2 : parseMethodDescriptor "(JJ)Z" = some ⟨[.long, .long], some .boolean⟩ := by decide +kernel
def e0_0 (q1 : Int64) (p4 : Int32) : Int64 := (if (p4 &&& (4 : Int32)) = (0 : Int32) then (q1 &&& (9223372036854775807 : Int64)) else (9223372036854775807 : Int64))
def e0_1 (q1 : Int64) (q2 : Int64) (q3 : Int64) (p4 : Int32) : Int64 := (((e0_0 q1 p4) - (q2 &&& (9007199254740991 : Int64))) + (q3 % (3 : Int64)))
def e0_2 (q3 : Int64) (p4 : Int32) : Int64 := (if (p4 &&& (3 : Int32)) = (3 : Int32) then ((9223372036854775807 : Int64) - (q3 &&& (7 : Int64))) else q3)
def e0_3 (q1 : Int64) (q2 : Int64) (q3 : Int64) (p4 : Int32) : Int64 := (if (p4 &&& (3 : Int32)) = (2 : Int32) then (e0_1 q1 q2 q3 p4) else (e0_2 q3 p4))
def e0_4 (q0 : Int64) (q1 : Int64) (q2 : Int64) (q3 : Int64) (p4 : Int32) : Int64 := (if (p4 &&& (3 : Int32)) = (1 : Int32) then (q0 + (q3 % (3 : Int64))) else (e0_3 q1 q2 q3 p4))
def e0_5 (q0 : Int64) (q1 : Int64) (q2 : Int64) (q3 : Int64) (p4 : Int32) : Int32 := (t4_0 (e0_4 q0 q1 q2 q3 p4) (q2 &&& (9007199254740991 : Int64)) q0 (e0_0 q1 p4))
def e0_6 (q0 : Int64) (q1 : Int64) (q2 : Int64) (q3 : Int64) (p4 : Int32) : Int32 := (if ((9223372036854775807 : Int64) - (q2 &&& (9007199254740991 : Int64))) < (e0_4 q0 q1 q2 q3 p4) then (1 : Int32) else (0 : Int32))
def e0_7 (q0 : Int64) (q1 : Int64) (q2 : Int64) (q3 : Int64) (p4 : Int32) : Int32 := (if (e0_0 q1 p4) < ((e0_4 q0 q1 q2 q3 p4) + (q2 &&& (9007199254740991 : Int64))) then (0 : Int32) else (1 : Int32))
def e0_8 (q0 : Int64) (q1 : Int64) (q2 : Int64) (q3 : Int64) (p4 : Int32) : Int32 := (if (e0_6 q0 q1 q2 q3 p4) = (0 : Int32) then (e0_7 q0 q1 q2 q3 p4) else (0 : Int32))
def e0_9 (q0 : Int64) (q1 : Int64) (q2 : Int64) (q3 : Int64) (p4 : Int32) : Int32 := (if (e0_8 q0 q1 q2 q3 p4) = (0 : Int32) then (0 : Int32) else (1 : Int32))
def e0_10 (q0 : Int64) (q1 : Int64) (q2 : Int64) (q3 : Int64) (p4 : Int32) : Int32 := (if (if (e0_4 q0 q1 q2 q3 p4) < q0 then (0 : Int32) else (1 : Int32)) = (0 : Int32) then (0 : Int32) else (e0_9 q0 q1 q2 q3 p4))
theorem ef_0 (m : MethodId) (x0 : Int64) (x1 : Int64) (x2 : Int64) (x3 : Int64) (x4 : Int32) : entryFrame m #[(.long x0), (.long x1), (.long x2), (.long x3), (.int x4)] maxLocals = mkF m 0 #[.val (.long x0), .second, .val (.long x1), .second, .val (.long x2), .second, .val (.long x3), .second, .val (.int x4), .unset, .unset, .unset, .unset, .unset, .unset, .unset, .unset, .unset, .unset, .unset, .unset, .unset, .unset, .unset, .unset] [] := by first | (simp [entryFrame, mkF, argsToLocals, Value.category, maxLocals]; done) | rfl
theorem pn_2 : plainName "com/example/nanjing/nanjing/model/SlotHoldsPinLaw" = true := by first | (simp [plainName, overriddenIn]; done) | decide +kernel
def t0_0 (q0 : Int64) (q1 : Int64) (q2 : Int64) (q3 : Int64) (p4 : Int32) : Int32 := (if (e0_5 q0 q1 q2 q3 p4) = (e0_10 q0 q1 q2 q3 p4) then (1 : Int32) else (0 : Int32))
def Q0 (Z : State) (q0 : Int64) (q1 : Int64) (q2 : Int64) (q3 : Int64) (p4 : Int32) (h0 : Heap) (n0 : Nat) (v : Option Value) (h : Heap) (L : List Loc) : Prop := v = some (.int (t0_0 q0 q1 q2 q3 p4)) ∧ Fr n0 L
set_option maxRecDepth 65536 in
set_option maxHeartbeats 40000000 in
theorem rm0 (l : Launch) (Z : State) (a0 : Array Value) (hw : ∀ d ∈ tables_1, d.before a0 Z = true) (ws : List Jvm.Cond) (q0 : Int64) (q1 : Int64) (q2 : Int64) (q3 : Int64) (p4 : Int32) (h0 : Heap) (n0 : Nat) (Z0 : n0 ≤ h0.size) :
    MetFree l x (head1 (Jvm.Cond.code x code maxLocals ret :: ws) room_1) (fun a U => a = #[(.long q0), (.long q1), (.long q2), (.long q3), (.int p4)] ∧ Z.Warmed39 U.vm ∧ U.heap = h0) (fun _ _ _ _ _ => True) (fun _ U o U' => ∃ v L, o = .returned v ∧ Q0 Z q0 q1 q2 q3 p4 h0 n0 v U'.heap L ∧ FrameEnd U o U' L 1 2) := by
  refine MetFree.of_bodySF (plainFor_of_name pn_2) hisR ?_
  intro p e s m args below meth c s₁ Bd hml0 hP hK
  obtain ⟨rfl, hZ, hh⟩ := hP
  have hx := Bd.exec
  have hby := Bd.bytes
  have hml : c.maxLocals = 25 := hml0
  have hown : s.vm.findClass "com/example/nanjing/nanjing/model/SlotHoldsPinLaw" = some m.cls := findClass_of_methodNamed Bd.named
  have hnm := (name_of_methodNamed Bd.named Bd.method).1
  have X0 : Stand p l e room_1 s m #[(.long q0), (.long q1), (.long q2), (.long q3), (.int p4)] below meth c s₁ [] 0 0 := Stand.of_body Bd
  have e0 : s₁.heap = h0 := by rw [← hh, Bd.state]; rfl
  have N0 := Fr.nil n0
  refine OGl.start (ef_0 m q0 q1 q2 q3 p4) ?_
  show OGl _ _ _ _ s₁ (mkF m 0 #[.val (.long q0), .second, .val (.long q1), .second, .val (.long q2), .second, .val (.long q3), .second, .val (.int p4), .unset, .unset, .unset, .unset, .unset, .unset, .unset, .unset, .unset, .unset, .unset, .unset, .unset, .unset, .unset, .unset] [])
  refine OGl.go (fun t k => XS.lloadN X0.here hx rfl (hb hby at_0) rfl (XS.lstore X0.here hx rfl (hb hby at_1) rfl (l' := #[.val (.long q0), .second, .val (.long q1), .second, .val (.long q2), .second, .val (.long q3), .second, .val (.int p4), .val (.long q0), .second, .unset, .unset, .unset, .unset, .unset, .unset, .unset, .unset, .unset, .unset, .unset, .unset, .unset, .unset]) rfl (XS.lloadN X0.here hx rfl (hb hby at_3) rfl (own_ldc2 X0 hx hown (mvT hZ (hw _ (List.mem_of_getElem? (i := 0) rfl))) rfl (hb hby at_4) (XS.land X0.here hx rfl (hb hby at_7) rfl (XS.lstore X0.here hx rfl (hb hby at_8) rfl (l' := #[.val (.long q0), .second, .val (.long q1), .second, .val (.long q2), .second, .val (.long q3), .second, .val (.int p4), .val (.long q0), .second, .val (.long (q1 &&& (9223372036854775807 : Int64))), .second, .unset, .unset, .unset, .unset, .unset, .unset, .unset, .unset, .unset, .unset, .unset, .unset]) rfl (XS.iload X0.here hx rfl (hb hby at_10) rfl (XS.iconst X0.here hx rfl (hb hby at_12) k)))))))) ?_
  show OGl _ _ _ _ s₁ (mkF m 13 #[.val (.long q0), .second, .val (.long q1), .second, .val (.long q2), .second, .val (.long q3), .second, .val (.int p4), .val (.long q0), .second, .val (.long (q1 &&& (9223372036854775807 : Int64))), .second, .unset, .unset, .unset, .unset, .unset, .unset, .unset, .unset, .unset, .unset, .unset, .unset] [(.int (4 : Int32)), (.int p4)])
  refine OGl.go (fun t k => XS.iand X0.here hx rfl (hb hby at_13) rfl k) ?_
  show OGl _ _ _ _ s₁ (mkF m 14 #[.val (.long q0), .second, .val (.long q1), .second, .val (.long q2), .second, .val (.long q3), .second, .val (.int p4), .val (.long q0), .second, .val (.long (q1 &&& (9223372036854775807 : Int64))), .second, .unset, .unset, .unset, .unset, .unset, .unset, .unset, .unset, .unset, .unset, .unset, .unset] [(.int (p4 &&& (4 : Int32)))])
  have m1 : ∀ t, Steps p.tables e below (s₁.setTop (mkF m 22 #[.val (.long q0), .second, .val (.long q1), .second, .val (.long q2), .second, .val (.long q3), .second, .val (.int p4), .val (.long q0), .second, .val (.long (e0_0 q1 p4)), .second, .unset, .unset, .unset, .unset, .unset, .unset, .unset, .unset, .unset, .unset, .unset, .unset] [])) t → Steps p.tables e below (s₁.setTop (mkF m 14 #[.val (.long q0), .second, .val (.long q1), .second, .val (.long q2), .second, .val (.long q3), .second, .val (.int p4), .val (.long q0), .second, .val (.long (q1 &&& (9223372036854775807 : Int64))), .second, .unset, .unset, .unset, .unset, .unset, .unset, .unset, .unset, .unset, .unset, .unset, .unset] [(.int (p4 &&& (4 : Int32)))])) t := by
    intro t k
    by_cases hm1 : (p4 &&& (4 : Int32)) = (0 : Int32)
    · rw [show (e0_0 q1 p4) = (q1 &&& (9223372036854775807 : Int64)) from if_pos hm1] at k
      refine XS.ifYes X0.here hx rfl (pc0 := 14) (pc' := 22) rfl (hb hby at_14) rfl ((if0 _ _).trans (teq hm1).1) (by decide) (by decide) ?_
      show Steps _ _ _ (s₁.setTop (mkF m 22 #[.val (.long q0), .second, .val (.long q1), .second, .val (.long q2), .second, .val (.long q3), .second, .val (.int p4), .val (.long q0), .second, .val (.long (q1 &&& (9223372036854775807 : Int64))), .second, .unset, .unset, .unset, .unset, .unset, .unset, .unset, .unset, .unset, .unset, .unset, .unset] [])) _
      exact k
    · rw [show (e0_0 q1 p4) = (9223372036854775807 : Int64) from if_neg hm1] at k
      refine XS.ifNo X0.here hx rfl (hb hby at_14) rfl ((if0 _ _).trans (feq hm1).1) (own_ldc2 X0 hx hown (mvT hZ (hw _ (List.mem_of_getElem? (i := 0) rfl))) rfl (hb hby at_17) (XS.lstore X0.here hx rfl (hb hby at_20) rfl (l' := #[.val (.long q0), .second, .val (.long q1), .second, .val (.long q2), .second, .val (.long q3), .second, .val (.int p4), .val (.long q0), .second, .val (.long (9223372036854775807 : Int64)), .second, .unset, .unset, .unset, .unset, .unset, .unset, .unset, .unset, .unset, .unset, .unset, .unset]) rfl ?_))
      show Steps _ _ _ (s₁.setTop (mkF m 22 #[.val (.long q0), .second, .val (.long q1), .second, .val (.long q2), .second, .val (.long q3), .second, .val (.int p4), .val (.long q0), .second, .val (.long (9223372036854775807 : Int64)), .second, .unset, .unset, .unset, .unset, .unset, .unset, .unset, .unset, .unset, .unset, .unset, .unset] [])) _
      exact k
  refine OGl.go (fun t k => m1 _ (XS.lload X0.here hx rfl (hb hby at_22) rfl (own_ldc2 X0 hx hown (mvT hZ (hw _ (List.mem_of_getElem? (i := 1) rfl))) rfl (hb hby at_24) (XS.land X0.here hx rfl (hb hby at_27) rfl (XS.lstore X0.here hx rfl (hb hby at_28) rfl (l' := #[.val (.long q0), .second, .val (.long q1), .second, .val (.long q2), .second, .val (.long q3), .second, .val (.int p4), .val (.long q0), .second, .val (.long (e0_0 q1 p4)), .second, .val (.long (q2 &&& (9007199254740991 : Int64))), .second, .unset, .unset, .unset, .unset, .unset, .unset, .unset, .unset, .unset, .unset]) rfl (XS.lload X0.here hx rfl (hb hby at_30) rfl (own_ldc2 X0 hx hown (mvT hZ (hw _ (List.mem_of_getElem? (i := 2) rfl))) rfl (hb hby at_32) (own_lrem X0 hx rfl (hb hby at_35) rfl (by decide) k)))))))) ?_
  show OGl _ _ _ _ s₁ (mkF m 36 #[.val (.long q0), .second, .val (.long q1), .second, .val (.long q2), .second, .val (.long q3), .second, .val (.int p4), .val (.long q0), .second, .val (.long (e0_0 q1 p4)), .second, .val (.long (q2 &&& (9007199254740991 : Int64))), .second, .unset, .unset, .unset, .unset, .unset, .unset, .unset, .unset, .unset, .unset] [(.long (q3 % (3 : Int64)))])
  refine OGl.go (fun t k => XS.lstore X0.here hx rfl (hb hby at_36) rfl (l' := #[.val (.long q0), .second, .val (.long q1), .second, .val (.long q2), .second, .val (.long q3), .second, .val (.int p4), .val (.long q0), .second, .val (.long (e0_0 q1 p4)), .second, .val (.long (q2 &&& (9007199254740991 : Int64))), .second, .val (.long (q3 % (3 : Int64))), .second, .unset, .unset, .unset, .unset, .unset, .unset, .unset, .unset]) rfl (XS.iload X0.here hx rfl (hb hby at_38) rfl (XS.iconst X0.here hx rfl (hb hby at_40) (XS.iand X0.here hx rfl (hb hby at_41) rfl (XS.istore X0.here hx rfl (hb hby at_42) rfl (l' := #[.val (.long q0), .second, .val (.long q1), .second, .val (.long q2), .second, .val (.long q3), .second, .val (.int p4), .val (.long q0), .second, .val (.long (e0_0 q1 p4)), .second, .val (.long (q2 &&& (9007199254740991 : Int64))), .second, .val (.long (q3 % (3 : Int64))), .second, .val (.int (p4 &&& (3 : Int32))), .unset, .unset, .unset, .unset, .unset, .unset, .unset]) rfl (XS.iload X0.here hx rfl (hb hby at_44) rfl (XS.iconst X0.here hx rfl (hb hby at_46) k))))))) ?_
  show OGl _ _ _ _ s₁ (mkF m 47 #[.val (.long q0), .second, .val (.long q1), .second, .val (.long q2), .second, .val (.long q3), .second, .val (.int p4), .val (.long q0), .second, .val (.long (e0_0 q1 p4)), .second, .val (.long (q2 &&& (9007199254740991 : Int64))), .second, .val (.long (q3 % (3 : Int64))), .second, .val (.int (p4 &&& (3 : Int32))), .unset, .unset, .unset, .unset, .unset, .unset, .unset] [(.int (1 : Int32)), (.int (p4 &&& (3 : Int32)))])
  have m2 : ∀ t, Steps p.tables e below (s₁.setTop (mkF m 104 #[.val (.long q0), .second, .val (.long q1), .second, .val (.long q2), .second, .val (.long q3), .second, .val (.int p4), .val (.long q0), .second, .val (.long (e0_0 q1 p4)), .second, .val (.long (q2 &&& (9007199254740991 : Int64))), .second, .val (.long (q3 % (3 : Int64))), .second, .val (.int (p4 &&& (3 : Int32))), .val (.long (e0_4 q0 q1 q2 q3 p4)), .second, .unset, .unset, .unset, .unset, .unset] [])) t → Steps p.tables e below (s₁.setTop (mkF m 47 #[.val (.long q0), .second, .val (.long q1), .second, .val (.long q2), .second, .val (.long q3), .second, .val (.int p4), .val (.long q0), .second, .val (.long (e0_0 q1 p4)), .second, .val (.long (q2 &&& (9007199254740991 : Int64))), .second, .val (.long (q3 % (3 : Int64))), .second, .val (.int (p4 &&& (3 : Int32))), .unset, .unset, .unset, .unset, .unset, .unset, .unset] [(.int (1 : Int32)), (.int (p4 &&& (3 : Int32)))])) t := by
    intro t k
    by_cases hm2 : (p4 &&& (3 : Int32)) = (1 : Int32)
    · rw [show (e0_4 q0 q1 q2 q3 p4) = (q0 + (q3 % (3 : Int64))) from if_pos hm2] at k
      refine XS.icmpNo X0.here hx rfl (hb hby at_47) rfl (teq hm2).2 (XS.lload X0.here hx rfl (hb hby at_50) rfl (XS.lload X0.here hx rfl (hb hby at_52) rfl (XS.ladd X0.here hx rfl (hb hby at_54) rfl (XS.lstore X0.here hx rfl (hb hby at_55) rfl (l' := #[.val (.long q0), .second, .val (.long q1), .second, .val (.long q2), .second, .val (.long q3), .second, .val (.int p4), .val (.long q0), .second, .val (.long (e0_0 q1 p4)), .second, .val (.long (q2 &&& (9007199254740991 : Int64))), .second, .val (.long (q3 % (3 : Int64))), .second, .val (.int (p4 &&& (3 : Int32))), .val (.long (q0 + (q3 % (3 : Int64)))), .second, .unset, .unset, .unset, .unset, .unset]) rfl (XS.goto X0.here hx rfl (pc0 := 57) (pc' := 104) rfl (hb hby at_57) (by decide) (by decide) ?_)))))
      show Steps _ _ _ (s₁.setTop (mkF m 104 #[.val (.long q0), .second, .val (.long q1), .second, .val (.long q2), .second, .val (.long q3), .second, .val (.int p4), .val (.long q0), .second, .val (.long (e0_0 q1 p4)), .second, .val (.long (q2 &&& (9007199254740991 : Int64))), .second, .val (.long (q3 % (3 : Int64))), .second, .val (.int (p4 &&& (3 : Int32))), .val (.long (q0 + (q3 % (3 : Int64)))), .second, .unset, .unset, .unset, .unset, .unset] [])) _
      exact k
    · rw [show (e0_4 q0 q1 q2 q3 p4) = (e0_3 q1 q2 q3 p4) from if_neg hm2] at k
      refine XS.icmpYes X0.here hx rfl (pc0 := 47) (pc' := 60) rfl (hb hby at_47) rfl (feq hm2).2 (by decide) (by decide) (XS.iload X0.here hx rfl (hb hby at_60) rfl (XS.iconst X0.here hx rfl (hb hby at_62) ?_))
      show Steps _ _ _ (s₁.setTop (mkF m 63 #[.val (.long q0), .second, .val (.long q1), .second, .val (.long q2), .second, .val (.long q3), .second, .val (.int p4), .val (.long q0), .second, .val (.long (e0_0 q1 p4)), .second, .val (.long (q2 &&& (9007199254740991 : Int64))), .second, .val (.long (q3 % (3 : Int64))), .second, .val (.int (p4 &&& (3 : Int32))), .unset, .unset, .unset, .unset, .unset, .unset, .unset] [(.int (2 : Int32)), (.int (p4 &&& (3 : Int32)))])) _
      have m3 : ∀ t, Steps p.tables e below (s₁.setTop (mkF m 104 #[.val (.long q0), .second, .val (.long q1), .second, .val (.long q2), .second, .val (.long q3), .second, .val (.int p4), .val (.long q0), .second, .val (.long (e0_0 q1 p4)), .second, .val (.long (q2 &&& (9007199254740991 : Int64))), .second, .val (.long (q3 % (3 : Int64))), .second, .val (.int (p4 &&& (3 : Int32))), .val (.long (e0_3 q1 q2 q3 p4)), .second, .unset, .unset, .unset, .unset, .unset] [])) t → Steps p.tables e below (s₁.setTop (mkF m 63 #[.val (.long q0), .second, .val (.long q1), .second, .val (.long q2), .second, .val (.long q3), .second, .val (.int p4), .val (.long q0), .second, .val (.long (e0_0 q1 p4)), .second, .val (.long (q2 &&& (9007199254740991 : Int64))), .second, .val (.long (q3 % (3 : Int64))), .second, .val (.int (p4 &&& (3 : Int32))), .unset, .unset, .unset, .unset, .unset, .unset, .unset] [(.int (2 : Int32)), (.int (p4 &&& (3 : Int32)))])) t := by
        intro t k
        by_cases hm3 : (p4 &&& (3 : Int32)) = (2 : Int32)
        · rw [show (e0_3 q1 q2 q3 p4) = (e0_1 q1 q2 q3 p4) from if_pos hm3] at k
          refine XS.icmpNo X0.here hx rfl (hb hby at_63) rfl (teq hm3).2 (XS.lload X0.here hx rfl (hb hby at_66) rfl (XS.lload X0.here hx rfl (hb hby at_68) rfl (XS.lsub X0.here hx rfl (hb hby at_70) rfl (XS.lload X0.here hx rfl (hb hby at_71) rfl (XS.ladd X0.here hx rfl (hb hby at_73) rfl (XS.lstore X0.here hx rfl (hb hby at_74) rfl (l' := #[.val (.long q0), .second, .val (.long q1), .second, .val (.long q2), .second, .val (.long q3), .second, .val (.int p4), .val (.long q0), .second, .val (.long (e0_0 q1 p4)), .second, .val (.long (q2 &&& (9007199254740991 : Int64))), .second, .val (.long (q3 % (3 : Int64))), .second, .val (.int (p4 &&& (3 : Int32))), .val (.long (e0_1 q1 q2 q3 p4)), .second, .unset, .unset, .unset, .unset, .unset]) rfl (XS.goto X0.here hx rfl (pc0 := 76) (pc' := 104) rfl (hb hby at_76) (by decide) (by decide) ?_)))))))
          show Steps _ _ _ (s₁.setTop (mkF m 104 #[.val (.long q0), .second, .val (.long q1), .second, .val (.long q2), .second, .val (.long q3), .second, .val (.int p4), .val (.long q0), .second, .val (.long (e0_0 q1 p4)), .second, .val (.long (q2 &&& (9007199254740991 : Int64))), .second, .val (.long (q3 % (3 : Int64))), .second, .val (.int (p4 &&& (3 : Int32))), .val (.long (e0_1 q1 q2 q3 p4)), .second, .unset, .unset, .unset, .unset, .unset] [])) _
          exact k
        · rw [show (e0_3 q1 q2 q3 p4) = (e0_2 q3 p4) from if_neg hm3] at k
          refine XS.icmpYes X0.here hx rfl (pc0 := 63) (pc' := 79) rfl (hb hby at_63) rfl (feq hm3).2 (by decide) (by decide) (XS.iload X0.here hx rfl (hb hby at_79) rfl (XS.iconst X0.here hx rfl (hb hby at_81) ?_))
          show Steps _ _ _ (s₁.setTop (mkF m 82 #[.val (.long q0), .second, .val (.long q1), .second, .val (.long q2), .second, .val (.long q3), .second, .val (.int p4), .val (.long q0), .second, .val (.long (e0_0 q1 p4)), .second, .val (.long (q2 &&& (9007199254740991 : Int64))), .second, .val (.long (q3 % (3 : Int64))), .second, .val (.int (p4 &&& (3 : Int32))), .unset, .unset, .unset, .unset, .unset, .unset, .unset] [(.int (3 : Int32)), (.int (p4 &&& (3 : Int32)))])) _
          have m4 : ∀ t, Steps p.tables e below (s₁.setTop (mkF m 104 #[.val (.long q0), .second, .val (.long q1), .second, .val (.long q2), .second, .val (.long q3), .second, .val (.int p4), .val (.long q0), .second, .val (.long (e0_0 q1 p4)), .second, .val (.long (q2 &&& (9007199254740991 : Int64))), .second, .val (.long (q3 % (3 : Int64))), .second, .val (.int (p4 &&& (3 : Int32))), .val (.long (e0_2 q3 p4)), .second, .unset, .unset, .unset, .unset, .unset] [])) t → Steps p.tables e below (s₁.setTop (mkF m 82 #[.val (.long q0), .second, .val (.long q1), .second, .val (.long q2), .second, .val (.long q3), .second, .val (.int p4), .val (.long q0), .second, .val (.long (e0_0 q1 p4)), .second, .val (.long (q2 &&& (9007199254740991 : Int64))), .second, .val (.long (q3 % (3 : Int64))), .second, .val (.int (p4 &&& (3 : Int32))), .unset, .unset, .unset, .unset, .unset, .unset, .unset] [(.int (3 : Int32)), (.int (p4 &&& (3 : Int32)))])) t := by
            intro t k
            by_cases hm4 : (p4 &&& (3 : Int32)) = (3 : Int32)
            · rw [show (e0_2 q3 p4) = ((9223372036854775807 : Int64) - (q3 &&& (7 : Int64))) from if_pos hm4] at k
              refine XS.icmpNo X0.here hx rfl (hb hby at_82) rfl (teq hm4).2 (own_ldc2 X0 hx hown (mvT hZ (hw _ (List.mem_of_getElem? (i := 0) rfl))) rfl (hb hby at_85) (XS.lload X0.here hx rfl (hb hby at_88) rfl (own_ldc2 X0 hx hown (mvT hZ (hw _ (List.mem_of_getElem? (i := 3) rfl))) rfl (hb hby at_90) (XS.land X0.here hx rfl (hb hby at_93) rfl (XS.lsub X0.here hx rfl (hb hby at_94) rfl (XS.lstore X0.here hx rfl (hb hby at_95) rfl (l' := #[.val (.long q0), .second, .val (.long q1), .second, .val (.long q2), .second, .val (.long q3), .second, .val (.int p4), .val (.long q0), .second, .val (.long (e0_0 q1 p4)), .second, .val (.long (q2 &&& (9007199254740991 : Int64))), .second, .val (.long (q3 % (3 : Int64))), .second, .val (.int (p4 &&& (3 : Int32))), .val (.long ((9223372036854775807 : Int64) - (q3 &&& (7 : Int64)))), .second, .unset, .unset, .unset, .unset, .unset]) rfl (XS.goto X0.here hx rfl (pc0 := 97) (pc' := 104) rfl (hb hby at_97) (by decide) (by decide) ?_)))))))
              show Steps _ _ _ (s₁.setTop (mkF m 104 #[.val (.long q0), .second, .val (.long q1), .second, .val (.long q2), .second, .val (.long q3), .second, .val (.int p4), .val (.long q0), .second, .val (.long (e0_0 q1 p4)), .second, .val (.long (q2 &&& (9007199254740991 : Int64))), .second, .val (.long (q3 % (3 : Int64))), .second, .val (.int (p4 &&& (3 : Int32))), .val (.long ((9223372036854775807 : Int64) - (q3 &&& (7 : Int64)))), .second, .unset, .unset, .unset, .unset, .unset] [])) _
              exact k
            · rw [show (e0_2 q3 p4) = q3 from if_neg hm4] at k
              refine XS.icmpYes X0.here hx rfl (pc0 := 82) (pc' := 100) rfl (hb hby at_82) rfl (feq hm4).2 (by decide) (by decide) (XS.lload X0.here hx rfl (hb hby at_100) rfl (XS.lstore X0.here hx rfl (hb hby at_102) rfl (l' := #[.val (.long q0), .second, .val (.long q1), .second, .val (.long q2), .second, .val (.long q3), .second, .val (.int p4), .val (.long q0), .second, .val (.long (e0_0 q1 p4)), .second, .val (.long (q2 &&& (9007199254740991 : Int64))), .second, .val (.long (q3 % (3 : Int64))), .second, .val (.int (p4 &&& (3 : Int32))), .val (.long q3), .second, .unset, .unset, .unset, .unset, .unset]) rfl ?_))
              show Steps _ _ _ (s₁.setTop (mkF m 104 #[.val (.long q0), .second, .val (.long q1), .second, .val (.long q2), .second, .val (.long q3), .second, .val (.int p4), .val (.long q0), .second, .val (.long (e0_0 q1 p4)), .second, .val (.long (q2 &&& (9007199254740991 : Int64))), .second, .val (.long (q3 % (3 : Int64))), .second, .val (.int (p4 &&& (3 : Int32))), .val (.long q3), .second, .unset, .unset, .unset, .unset, .unset] [])) _
              exact k
          refine m4 _ ?_
          show Steps _ _ _ (s₁.setTop (mkF m 104 #[.val (.long q0), .second, .val (.long q1), .second, .val (.long q2), .second, .val (.long q3), .second, .val (.int p4), .val (.long q0), .second, .val (.long (e0_0 q1 p4)), .second, .val (.long (q2 &&& (9007199254740991 : Int64))), .second, .val (.long (q3 % (3 : Int64))), .second, .val (.int (p4 &&& (3 : Int32))), .val (.long (e0_2 q3 p4)), .second, .unset, .unset, .unset, .unset, .unset] [])) _
          exact k
      refine m3 _ ?_
      show Steps _ _ _ (s₁.setTop (mkF m 104 #[.val (.long q0), .second, .val (.long q1), .second, .val (.long q2), .second, .val (.long q3), .second, .val (.int p4), .val (.long q0), .second, .val (.long (e0_0 q1 p4)), .second, .val (.long (q2 &&& (9007199254740991 : Int64))), .second, .val (.long (q3 % (3 : Int64))), .second, .val (.int (p4 &&& (3 : Int32))), .val (.long (e0_3 q1 q2 q3 p4)), .second, .unset, .unset, .unset, .unset, .unset] [])) _
      exact k
  refine OGl.go (fun t k => m2 _ k) ?_
  show OGl _ _ _ _ s₁ (mkF m 104 #[.val (.long q0), .second, .val (.long q1), .second, .val (.long q2), .second, .val (.long q3), .second, .val (.int p4), .val (.long q0), .second, .val (.long (e0_0 q1 p4)), .second, .val (.long (q2 &&& (9007199254740991 : Int64))), .second, .val (.long (q3 % (3 : Int64))), .second, .val (.int (p4 &&& (3 : Int32))), .val (.long (e0_4 q0 q1 q2 q3 p4)), .second, .unset, .unset, .unset, .unset, .unset] [])
  obtain ⟨T5, h5, X5, e5, E5, A5, D5, -, st5⟩ := newO X0 hx hZ hown (hw _ (List.mem_of_getElem? (i := 4) rfl)) (hw _ (List.mem_of_getElem? (i := 5) rfl)) (hw _ (List.mem_of_getElem? (i := 6) rfl)) e0 (g := (mkF m 104 #[.val (.long q0), .second, .val (.long q1), .second, .val (.long q2), .second, .val (.long q3), .second, .val (.int p4), .val (.long q0), .second, .val (.long (e0_0 q1 p4)), .second, .val (.long (q2 &&& (9007199254740991 : Int64))), .second, .val (.long (q3 % (3 : Int64))), .second, .val (.int (p4 &&& (3 : Int32))), .val (.long (e0_4 q0 q1 q2 q3 p4)), .second, .unset, .unset, .unset, .unset, .unset] [])) rfl (hb hby at_104) (by decide) (by decide)
  obtain ⟨b5, gb5⟩ : ∃ z, z = h0.size := ⟨_, rfl⟩
  rw [← gb5] at A5 D5 st5
  have sz_b5 : h0.size ≤ b5 := Nat.le_trans (Keep.refl h0 []).1 (Nat.le_of_eq gb5.symm)
  have g_b5 : n0 ≤ b5 := Nat.le_trans Z0 sz_b5
  have F6 : Fld Z h5 b5 "com/example/nanjing/nanjing/model/Slot" "begin" "J" (.long (0 : Int64)) := D5 (Or.inr (hw _ (List.mem_of_getElem? (i := 19) rfl))) (ty := .long) (by decide)
  have F7 : Fld Z h5 b5 "com/example/nanjing/nanjing/model/Slot" "end" "J" (.long (0 : Int64)) := D5 (Or.inr (hw _ (List.mem_of_getElem? (i := 21) rfl))) (ty := .long) (by decide)
  have KK5 : Keep h0 h5 [] := (Keep.refl h0 []).ext E5
  refine OGl.go st5 ?_
  show OGl _ _ _ _ T5 (mkF m 107 #[.val (.long q0), .second, .val (.long q1), .second, .val (.long q2), .second, .val (.long q3), .second, .val (.int p4), .val (.long q0), .second, .val (.long (e0_0 q1 p4)), .second, .val (.long (q2 &&& (9007199254740991 : Int64))), .second, .val (.long (q3 % (3 : Int64))), .second, .val (.int (p4 &&& (3 : Int32))), .val (.long (e0_4 q0 q1 q2 q3 p4)), .second, .unset, .unset, .unset, .unset, .unset] [(.ref b5)])
  refine OGl.go (fun t k => XS.dup X5.here hx rfl (hb hby at_107) rfl rfl (XS.lload X5.here hx rfl (hb hby at_108) rfl (XS.lload X5.here hx rfl (hb hby at_110) rfl k))) ?_
  show OGl _ _ _ _ T5 (mkF m 112 #[.val (.long q0), .second, .val (.long q1), .second, .val (.long q2), .second, .val (.long q3), .second, .val (.int p4), .val (.long q0), .second, .val (.long (e0_0 q1 p4)), .second, .val (.long (q2 &&& (9007199254740991 : Int64))), .second, .val (.long (q3 % (3 : Int64))), .second, .val (.int (p4 &&& (3 : Int32))), .val (.long (e0_4 q0 q1 q2 q3 p4)), .second, .unset, .unset, .unset, .unset, .unset] [(.long (e0_0 q1 p4)), (.long q0), (.ref b5), (.ref b5)])
  obtain ⟨_, _, ⟨T8, L8, kk8, n8⟩, -, X8, ⟨Lc8, hQ8, l8, y8, z8⟩, st8⟩ := X5.specialBack hx (y := (⟨"com/example/nanjing/nanjing/model/Slot", "<init>", "(JJ)V"⟩ : MethodName)) rfl hown (mvT hZ (hw _ (List.mem_of_getElem? (i := 7) rfl))) (mvT hZ (hw _ (List.mem_of_getElem? (i := 8) rfl))) (mvT hZ (hw _ (List.mem_of_getElem? (i := 9) rfl))) (by decide) (backOf (W := 1) (rm1 l Z a0 hw [] b5 q0 (e0_0 q1 p4) h5 n0 (Nat.le_trans Z0 KK5.1) A5 F6 F7 g_b5) hZ (hw _ (List.mem_of_getElem? (i := 9) rfl)) (hw _ (List.mem_of_getElem? (i := 6) rfl)) (by decide) (by decide)) (g := (mkF m 112 #[.val (.long q0), .second, .val (.long q1), .second, .val (.long q2), .second, .val (.long q3), .second, .val (.int p4), .val (.long q0), .second, .val (.long (e0_0 q1 p4)), .second, .val (.long (q2 &&& (9007199254740991 : Int64))), .second, .val (.long (q3 % (3 : Int64))), .second, .val (.int (p4 &&& (3 : Int32))), .val (.long (e0_4 q0 q1 q2 q3 p4)), .second, .unset, .unset, .unset, .unset, .unset] [(.long (e0_0 q1 p4)), (.long q0), (.ref b5), (.ref b5)])) rfl (by rw [hml]; rfl) (Steps.refl _) (a := b5) (argsL := [(.long q0), (.long (e0_0 q1 p4))]) (rest := [(.ref b5)]) (lenOf pd_1 rfl) rfl (by show 2 * 0 + _ ≤ _; exact Nat.le_of_eq rfl) (hb hby at_112) (fun _ _ => ⟨rfl, e5, (by decide : 1 + 0 ≤ _), (by decide : 2 + 0 ≤ _)⟩)
  dsimp only [Pt.U, Pt.locs, Pt.cells, Pt.slots] at X8 l8 y8 z8 st8 hQ8
  subst l8 y8 z8
  obtain ⟨rfl, Nq8, K8, Fq8_0, Fq8_1⟩ := hQ8
  have KK8 : Keep h0 T8.heap [] := KK5.trans K8 (allS (Or.inr sz_b5) all0)
  have N8 := Fr.app N0 Nq8
  refine OGl.go (fun t k => st8.trans k) ?_
  show OGl _ _ _ _ T8 (mkF m 115 #[.val (.long q0), .second, .val (.long q1), .second, .val (.long q2), .second, .val (.long q3), .second, .val (.int p4), .val (.long q0), .second, .val (.long (e0_0 q1 p4)), .second, .val (.long (q2 &&& (9007199254740991 : Int64))), .second, .val (.long (q3 % (3 : Int64))), .second, .val (.int (p4 &&& (3 : Int32))), .val (.long (e0_4 q0 q1 q2 q3 p4)), .second, .unset, .unset, .unset, .unset, .unset] [(.ref b5)])
  refine OGl.go (fun t k => XS.astore X8.here hx rfl (hb hby at_115) rfl rfl (l' := #[.val (.long q0), .second, .val (.long q1), .second, .val (.long q2), .second, .val (.long q3), .second, .val (.int p4), .val (.long q0), .second, .val (.long (e0_0 q1 p4)), .second, .val (.long (q2 &&& (9007199254740991 : Int64))), .second, .val (.long (q3 % (3 : Int64))), .second, .val (.int (p4 &&& (3 : Int32))), .val (.long (e0_4 q0 q1 q2 q3 p4)), .second, .val (.ref b5), .unset, .unset, .unset, .unset]) rfl (XS.aload X8.here hx rfl (hb hby at_117) rfl rfl (XS.lload X8.here hx rfl (hb hby at_119) rfl (XS.lload X8.here hx rfl (hb hby at_121) rfl k)))) ?_
  show OGl _ _ _ _ T8 (mkF m 123 #[.val (.long q0), .second, .val (.long q1), .second, .val (.long q2), .second, .val (.long q3), .second, .val (.int p4), .val (.long q0), .second, .val (.long (e0_0 q1 p4)), .second, .val (.long (q2 &&& (9007199254740991 : Int64))), .second, .val (.long (q3 % (3 : Int64))), .second, .val (.int (p4 &&& (3 : Int32))), .val (.long (e0_4 q0 q1 q2 q3 p4)), .second, .val (.ref b5), .unset, .unset, .unset, .unset] [(.long (q2 &&& (9007199254740991 : Int64))), (.long (e0_4 q0 q1 q2 q3 p4)), (.ref b5)])
  have F24 := (A5.keep K8)
  obtain ⟨cq16, kq16, q16a, q16b, q16c⟩ := isOf hZ rfl F24
  obtain ⟨_, _, ⟨T16, L16, kk16, n16⟩, -, X16, ⟨Lc16, hQ16, l16, y16, z16⟩, st16⟩ := X8.virtualBack hx (y := (⟨"com/example/nanjing/nanjing/model/Slot", "holds", "(JJ)Z"⟩ : MethodName)) (z := (⟨"com/example/nanjing/nanjing/model/Slot", "holds", "(JJ)Z"⟩ : MethodName)) hown (mvT hZ (hw _ (List.mem_of_getElem? (i := 22) rfl))) (mvT hZ (hw _ (List.mem_of_getElem? (i := 23) rfl))) (notFace_of_selects (args := #[]) (mvT hZ (hw _ (List.mem_of_getElem? (i := 25) rfl)))) (mvT hZ (hw _ (List.mem_of_getElem? (i := 25) rfl))) (mvT hZ (hw _ (List.mem_of_getElem? (i := 24) rfl))) (by decide) (backOf (W := 0) (rm4 l Z a0 hw [] b5 (e0_4 q0 q1 q2 q3 p4) (q2 &&& (9007199254740991 : Int64)) q0 (e0_0 q1 p4) T8.heap n0 (Nat.le_trans Z0 KK8.1) Fq8_0 Fq8_1) hZ (hw _ (List.mem_of_getElem? (i := 26) rfl)) (hw _ (List.mem_of_getElem? (i := 6) rfl)) (by decide) (by decide)) q16a q16c (g := (mkF m 123 #[.val (.long q0), .second, .val (.long q1), .second, .val (.long q2), .second, .val (.long q3), .second, .val (.int p4), .val (.long q0), .second, .val (.long (e0_0 q1 p4)), .second, .val (.long (q2 &&& (9007199254740991 : Int64))), .second, .val (.long (q3 % (3 : Int64))), .second, .val (.int (p4 &&& (3 : Int32))), .val (.long (e0_4 q0 q1 q2 q3 p4)), .second, .val (.ref b5), .unset, .unset, .unset, .unset] [(.long (q2 &&& (9007199254740991 : Int64))), (.long (e0_4 q0 q1 q2 q3 p4)), (.ref b5)])) rfl (by rw [hml]; rfl) (Steps.refl _) (argsL := [(.long (e0_4 q0 q1 q2 q3 p4)), (.long (q2 &&& (9007199254740991 : Int64)))]) (rest := []) (lenOf pd_2 rfl) rfl (by show 2 * 0 + _ ≤ _; exact Nat.le_of_eq rfl) (hb hby at_123) (fun _ _ => ⟨rfl, rfl, (by decide : 1 + 0 ≤ _), (by decide : 2 + 0 ≤ _)⟩)
  dsimp only [Pt.U, Pt.locs, Pt.cells, Pt.slots] at X16 l16 y16 z16 st16 hQ16
  subst l16 y16 z16
  obtain ⟨rfl, Nq16, e16⟩ := hQ16
  have N16 := Fr.app N8 Nq16
  refine OGl.go (fun t k => st16.trans k) ?_
  show OGl _ _ _ _ T16 (mkF m 126 #[.val (.long q0), .second, .val (.long q1), .second, .val (.long q2), .second, .val (.long q3), .second, .val (.int p4), .val (.long q0), .second, .val (.long (e0_0 q1 p4)), .second, .val (.long (q2 &&& (9007199254740991 : Int64))), .second, .val (.long (q3 % (3 : Int64))), .second, .val (.int (p4 &&& (3 : Int32))), .val (.long (e0_4 q0 q1 q2 q3 p4)), .second, .val (.ref b5), .unset, .unset, .unset, .unset] [(.int (e0_5 q0 q1 q2 q3 p4))])
  refine OGl.go (fun t k => XS.istore X16.here hx rfl (hb hby at_126) rfl (l' := #[.val (.long q0), .second, .val (.long q1), .second, .val (.long q2), .second, .val (.long q3), .second, .val (.int p4), .val (.long q0), .second, .val (.long (e0_0 q1 p4)), .second, .val (.long (q2 &&& (9007199254740991 : Int64))), .second, .val (.long (q3 % (3 : Int64))), .second, .val (.int (p4 &&& (3 : Int32))), .val (.long (e0_4 q0 q1 q2 q3 p4)), .second, .val (.ref b5), .val (.int (e0_5 q0 q1 q2 q3 p4)), .unset, .unset, .unset]) rfl (XS.lload X16.here hx rfl (hb hby at_128) rfl (XS.lload X16.here hx rfl (hb hby at_130) rfl (XS.lcmp X16.here hx rfl (hb hby at_132) rfl k)))) ?_
  show OGl _ _ _ _ T16 (mkF m 133 #[.val (.long q0), .second, .val (.long q1), .second, .val (.long q2), .second, .val (.long q3), .second, .val (.int p4), .val (.long q0), .second, .val (.long (e0_0 q1 p4)), .second, .val (.long (q2 &&& (9007199254740991 : Int64))), .second, .val (.long (q3 % (3 : Int64))), .second, .val (.int (p4 &&& (3 : Int32))), .val (.long (e0_4 q0 q1 q2 q3 p4)), .second, .val (.ref b5), .val (.int (e0_5 q0 q1 q2 q3 p4)), .unset, .unset, .unset] [(.int (lcmpW (e0_4 q0 q1 q2 q3 p4) q0))])
  have m25 : ∀ t, Steps p.tables e below (T16.setTop (mkF m 141 #[.val (.long q0), .second, .val (.long q1), .second, .val (.long q2), .second, .val (.long q3), .second, .val (.int p4), .val (.long q0), .second, .val (.long (e0_0 q1 p4)), .second, .val (.long (q2 &&& (9007199254740991 : Int64))), .second, .val (.long (q3 % (3 : Int64))), .second, .val (.int (p4 &&& (3 : Int32))), .val (.long (e0_4 q0 q1 q2 q3 p4)), .second, .val (.ref b5), .val (.int (e0_5 q0 q1 q2 q3 p4)), .unset, .unset, .unset] [(.int (if (e0_4 q0 q1 q2 q3 p4) < q0 then (0 : Int32) else (1 : Int32)))])) t → Steps p.tables e below (T16.setTop (mkF m 133 #[.val (.long q0), .second, .val (.long q1), .second, .val (.long q2), .second, .val (.long q3), .second, .val (.int p4), .val (.long q0), .second, .val (.long (e0_0 q1 p4)), .second, .val (.long (q2 &&& (9007199254740991 : Int64))), .second, .val (.long (q3 % (3 : Int64))), .second, .val (.int (p4 &&& (3 : Int32))), .val (.long (e0_4 q0 q1 q2 q3 p4)), .second, .val (.ref b5), .val (.int (e0_5 q0 q1 q2 q3 p4)), .unset, .unset, .unset] [(.int (lcmpW (e0_4 q0 q1 q2 q3 p4) q0))])) t := by
    intro t k
    by_cases hm25 : (e0_4 q0 q1 q2 q3 p4) < q0
    · rw [show (if (e0_4 q0 q1 q2 q3 p4) < q0 then (0 : Int32) else (1 : Int32)) = (0 : Int32) from if_pos hm25] at k
      refine XS.ifYes X16.here hx rfl (pc0 := 133) (pc' := 140) rfl (hb hby at_133) rfl (own_tltL hm25).1 (by decide) (by decide) (XS.iconst X16.here hx rfl (hb hby at_140) ?_)
      show Steps _ _ _ (T16.setTop (mkF m 141 #[.val (.long q0), .second, .val (.long q1), .second, .val (.long q2), .second, .val (.long q3), .second, .val (.int p4), .val (.long q0), .second, .val (.long (e0_0 q1 p4)), .second, .val (.long (q2 &&& (9007199254740991 : Int64))), .second, .val (.long (q3 % (3 : Int64))), .second, .val (.int (p4 &&& (3 : Int32))), .val (.long (e0_4 q0 q1 q2 q3 p4)), .second, .val (.ref b5), .val (.int (e0_5 q0 q1 q2 q3 p4)), .unset, .unset, .unset] [(.int (0 : Int32))])) _
      exact k
    · rw [show (if (e0_4 q0 q1 q2 q3 p4) < q0 then (0 : Int32) else (1 : Int32)) = (1 : Int32) from if_neg hm25] at k
      refine XS.ifNo X16.here hx rfl (hb hby at_133) rfl (own_fltL hm25).1 (XS.iconst X16.here hx rfl (hb hby at_136) (XS.goto X16.here hx rfl (pc0 := 137) (pc' := 141) rfl (hb hby at_137) (by decide) (by decide) ?_))
      show Steps _ _ _ (T16.setTop (mkF m 141 #[.val (.long q0), .second, .val (.long q1), .second, .val (.long q2), .second, .val (.long q3), .second, .val (.int p4), .val (.long q0), .second, .val (.long (e0_0 q1 p4)), .second, .val (.long (q2 &&& (9007199254740991 : Int64))), .second, .val (.long (q3 % (3 : Int64))), .second, .val (.int (p4 &&& (3 : Int32))), .val (.long (e0_4 q0 q1 q2 q3 p4)), .second, .val (.ref b5), .val (.int (e0_5 q0 q1 q2 q3 p4)), .unset, .unset, .unset] [(.int (1 : Int32))])) _
      exact k
  refine OGl.go (fun t k => m25 _ (XS.istore X16.here hx rfl (hb hby at_141) rfl (l' := #[.val (.long q0), .second, .val (.long q1), .second, .val (.long q2), .second, .val (.long q3), .second, .val (.int p4), .val (.long q0), .second, .val (.long (e0_0 q1 p4)), .second, .val (.long (q2 &&& (9007199254740991 : Int64))), .second, .val (.long (q3 % (3 : Int64))), .second, .val (.int (p4 &&& (3 : Int32))), .val (.long (e0_4 q0 q1 q2 q3 p4)), .second, .val (.ref b5), .val (.int (e0_5 q0 q1 q2 q3 p4)), .val (.int (if (e0_4 q0 q1 q2 q3 p4) < q0 then (0 : Int32) else (1 : Int32))), .unset, .unset]) rfl (XS.lload X16.here hx rfl (hb hby at_143) rfl (own_ldc2 X16 hx hown (mvT hZ (hw _ (List.mem_of_getElem? (i := 0) rfl))) rfl (hb hby at_145) (XS.lload X16.here hx rfl (hb hby at_148) rfl (XS.lsub X16.here hx rfl (hb hby at_150) rfl (XS.lcmp X16.here hx rfl (hb hby at_151) rfl k))))))) ?_
  show OGl _ _ _ _ T16 (mkF m 152 #[.val (.long q0), .second, .val (.long q1), .second, .val (.long q2), .second, .val (.long q3), .second, .val (.int p4), .val (.long q0), .second, .val (.long (e0_0 q1 p4)), .second, .val (.long (q2 &&& (9007199254740991 : Int64))), .second, .val (.long (q3 % (3 : Int64))), .second, .val (.int (p4 &&& (3 : Int32))), .val (.long (e0_4 q0 q1 q2 q3 p4)), .second, .val (.ref b5), .val (.int (e0_5 q0 q1 q2 q3 p4)), .val (.int (if (e0_4 q0 q1 q2 q3 p4) < q0 then (0 : Int32) else (1 : Int32))), .unset, .unset] [(.int (lcmpW (e0_4 q0 q1 q2 q3 p4) ((9223372036854775807 : Int64) - (q2 &&& (9007199254740991 : Int64)))))])
  have m26 : ∀ t, Steps p.tables e below (T16.setTop (mkF m 160 #[.val (.long q0), .second, .val (.long q1), .second, .val (.long q2), .second, .val (.long q3), .second, .val (.int p4), .val (.long q0), .second, .val (.long (e0_0 q1 p4)), .second, .val (.long (q2 &&& (9007199254740991 : Int64))), .second, .val (.long (q3 % (3 : Int64))), .second, .val (.int (p4 &&& (3 : Int32))), .val (.long (e0_4 q0 q1 q2 q3 p4)), .second, .val (.ref b5), .val (.int (e0_5 q0 q1 q2 q3 p4)), .val (.int (if (e0_4 q0 q1 q2 q3 p4) < q0 then (0 : Int32) else (1 : Int32))), .unset, .unset] [(.int (e0_6 q0 q1 q2 q3 p4))])) t → Steps p.tables e below (T16.setTop (mkF m 152 #[.val (.long q0), .second, .val (.long q1), .second, .val (.long q2), .second, .val (.long q3), .second, .val (.int p4), .val (.long q0), .second, .val (.long (e0_0 q1 p4)), .second, .val (.long (q2 &&& (9007199254740991 : Int64))), .second, .val (.long (q3 % (3 : Int64))), .second, .val (.int (p4 &&& (3 : Int32))), .val (.long (e0_4 q0 q1 q2 q3 p4)), .second, .val (.ref b5), .val (.int (e0_5 q0 q1 q2 q3 p4)), .val (.int (if (e0_4 q0 q1 q2 q3 p4) < q0 then (0 : Int32) else (1 : Int32))), .unset, .unset] [(.int (lcmpW (e0_4 q0 q1 q2 q3 p4) ((9223372036854775807 : Int64) - (q2 &&& (9007199254740991 : Int64)))))])) t := by
    intro t k
    by_cases hm26 : ((9223372036854775807 : Int64) - (q2 &&& (9007199254740991 : Int64))) < (e0_4 q0 q1 q2 q3 p4)
    · rw [show (e0_6 q0 q1 q2 q3 p4) = (1 : Int32) from if_pos hm26] at k
      refine XS.ifNo X16.here hx rfl (hb hby at_152) rfl (own_tltL hm26).2.2.2 (XS.iconst X16.here hx rfl (hb hby at_155) (XS.goto X16.here hx rfl (pc0 := 156) (pc' := 160) rfl (hb hby at_156) (by decide) (by decide) ?_))
      show Steps _ _ _ (T16.setTop (mkF m 160 #[.val (.long q0), .second, .val (.long q1), .second, .val (.long q2), .second, .val (.long q3), .second, .val (.int p4), .val (.long q0), .second, .val (.long (e0_0 q1 p4)), .second, .val (.long (q2 &&& (9007199254740991 : Int64))), .second, .val (.long (q3 % (3 : Int64))), .second, .val (.int (p4 &&& (3 : Int32))), .val (.long (e0_4 q0 q1 q2 q3 p4)), .second, .val (.ref b5), .val (.int (e0_5 q0 q1 q2 q3 p4)), .val (.int (if (e0_4 q0 q1 q2 q3 p4) < q0 then (0 : Int32) else (1 : Int32))), .unset, .unset] [(.int (1 : Int32))])) _
      exact k
    · rw [show (e0_6 q0 q1 q2 q3 p4) = (0 : Int32) from if_neg hm26] at k
      refine XS.ifYes X16.here hx rfl (pc0 := 152) (pc' := 159) rfl (hb hby at_152) rfl (own_fltL hm26).2.2.2 (by decide) (by decide) (XS.iconst X16.here hx rfl (hb hby at_159) ?_)
      show Steps _ _ _ (T16.setTop (mkF m 160 #[.val (.long q0), .second, .val (.long q1), .second, .val (.long q2), .second, .val (.long q3), .second, .val (.int p4), .val (.long q0), .second, .val (.long (e0_0 q1 p4)), .second, .val (.long (q2 &&& (9007199254740991 : Int64))), .second, .val (.long (q3 % (3 : Int64))), .second, .val (.int (p4 &&& (3 : Int32))), .val (.long (e0_4 q0 q1 q2 q3 p4)), .second, .val (.ref b5), .val (.int (e0_5 q0 q1 q2 q3 p4)), .val (.int (if (e0_4 q0 q1 q2 q3 p4) < q0 then (0 : Int32) else (1 : Int32))), .unset, .unset] [(.int (0 : Int32))])) _
      exact k
  refine OGl.go (fun t k => m26 _ (XS.istore X16.here hx rfl (hb hby at_160) rfl (l' := #[.val (.long q0), .second, .val (.long q1), .second, .val (.long q2), .second, .val (.long q3), .second, .val (.int p4), .val (.long q0), .second, .val (.long (e0_0 q1 p4)), .second, .val (.long (q2 &&& (9007199254740991 : Int64))), .second, .val (.long (q3 % (3 : Int64))), .second, .val (.int (p4 &&& (3 : Int32))), .val (.long (e0_4 q0 q1 q2 q3 p4)), .second, .val (.ref b5), .val (.int (e0_5 q0 q1 q2 q3 p4)), .val (.int (if (e0_4 q0 q1 q2 q3 p4) < q0 then (0 : Int32) else (1 : Int32))), .val (.int (e0_6 q0 q1 q2 q3 p4)), .unset]) rfl (XS.iload X16.here hx rfl (hb hby at_162) rfl k))) ?_
  show OGl _ _ _ _ T16 (mkF m 164 #[.val (.long q0), .second, .val (.long q1), .second, .val (.long q2), .second, .val (.long q3), .second, .val (.int p4), .val (.long q0), .second, .val (.long (e0_0 q1 p4)), .second, .val (.long (q2 &&& (9007199254740991 : Int64))), .second, .val (.long (q3 % (3 : Int64))), .second, .val (.int (p4 &&& (3 : Int32))), .val (.long (e0_4 q0 q1 q2 q3 p4)), .second, .val (.ref b5), .val (.int (e0_5 q0 q1 q2 q3 p4)), .val (.int (if (e0_4 q0 q1 q2 q3 p4) < q0 then (0 : Int32) else (1 : Int32))), .val (.int (e0_6 q0 q1 q2 q3 p4)), .unset] [(.int (e0_6 q0 q1 q2 q3 p4))])
  have m27 : ∀ t, Steps p.tables e below (T16.setTop (mkF m 183 #[.val (.long q0), .second, .val (.long q1), .second, .val (.long q2), .second, .val (.long q3), .second, .val (.int p4), .val (.long q0), .second, .val (.long (e0_0 q1 p4)), .second, .val (.long (q2 &&& (9007199254740991 : Int64))), .second, .val (.long (q3 % (3 : Int64))), .second, .val (.int (p4 &&& (3 : Int32))), .val (.long (e0_4 q0 q1 q2 q3 p4)), .second, .val (.ref b5), .val (.int (e0_5 q0 q1 q2 q3 p4)), .val (.int (if (e0_4 q0 q1 q2 q3 p4) < q0 then (0 : Int32) else (1 : Int32))), .val (.int (e0_6 q0 q1 q2 q3 p4)), .unset] [(.int (e0_8 q0 q1 q2 q3 p4))])) t → Steps p.tables e below (T16.setTop (mkF m 164 #[.val (.long q0), .second, .val (.long q1), .second, .val (.long q2), .second, .val (.long q3), .second, .val (.int p4), .val (.long q0), .second, .val (.long (e0_0 q1 p4)), .second, .val (.long (q2 &&& (9007199254740991 : Int64))), .second, .val (.long (q3 % (3 : Int64))), .second, .val (.int (p4 &&& (3 : Int32))), .val (.long (e0_4 q0 q1 q2 q3 p4)), .second, .val (.ref b5), .val (.int (e0_5 q0 q1 q2 q3 p4)), .val (.int (if (e0_4 q0 q1 q2 q3 p4) < q0 then (0 : Int32) else (1 : Int32))), .val (.int (e0_6 q0 q1 q2 q3 p4)), .unset] [(.int (e0_6 q0 q1 q2 q3 p4))])) t := by
    intro t k
    by_cases hm27 : (e0_6 q0 q1 q2 q3 p4) = (0 : Int32)
    · rw [show (e0_8 q0 q1 q2 q3 p4) = (e0_7 q0 q1 q2 q3 p4) from if_pos hm27] at k
      refine XS.ifNo X16.here hx rfl (hb hby at_164) rfl ((if0 _ _).trans (teq hm27).2) (XS.lload X16.here hx rfl (hb hby at_167) rfl (XS.lload X16.here hx rfl (hb hby at_169) rfl (XS.ladd X16.here hx rfl (hb hby at_171) rfl (XS.lload X16.here hx rfl (hb hby at_172) rfl (XS.lcmp X16.here hx rfl (hb hby at_174) rfl ?_)))))
      show Steps _ _ _ (T16.setTop (mkF m 175 #[.val (.long q0), .second, .val (.long q1), .second, .val (.long q2), .second, .val (.long q3), .second, .val (.int p4), .val (.long q0), .second, .val (.long (e0_0 q1 p4)), .second, .val (.long (q2 &&& (9007199254740991 : Int64))), .second, .val (.long (q3 % (3 : Int64))), .second, .val (.int (p4 &&& (3 : Int32))), .val (.long (e0_4 q0 q1 q2 q3 p4)), .second, .val (.ref b5), .val (.int (e0_5 q0 q1 q2 q3 p4)), .val (.int (if (e0_4 q0 q1 q2 q3 p4) < q0 then (0 : Int32) else (1 : Int32))), .val (.int (e0_6 q0 q1 q2 q3 p4)), .unset] [(.int (lcmpW ((e0_4 q0 q1 q2 q3 p4) + (q2 &&& (9007199254740991 : Int64))) (e0_0 q1 p4)))])) _
      have m28 : ∀ t, Steps p.tables e below (T16.setTop (mkF m 183 #[.val (.long q0), .second, .val (.long q1), .second, .val (.long q2), .second, .val (.long q3), .second, .val (.int p4), .val (.long q0), .second, .val (.long (e0_0 q1 p4)), .second, .val (.long (q2 &&& (9007199254740991 : Int64))), .second, .val (.long (q3 % (3 : Int64))), .second, .val (.int (p4 &&& (3 : Int32))), .val (.long (e0_4 q0 q1 q2 q3 p4)), .second, .val (.ref b5), .val (.int (e0_5 q0 q1 q2 q3 p4)), .val (.int (if (e0_4 q0 q1 q2 q3 p4) < q0 then (0 : Int32) else (1 : Int32))), .val (.int (e0_6 q0 q1 q2 q3 p4)), .unset] [(.int (e0_7 q0 q1 q2 q3 p4))])) t → Steps p.tables e below (T16.setTop (mkF m 175 #[.val (.long q0), .second, .val (.long q1), .second, .val (.long q2), .second, .val (.long q3), .second, .val (.int p4), .val (.long q0), .second, .val (.long (e0_0 q1 p4)), .second, .val (.long (q2 &&& (9007199254740991 : Int64))), .second, .val (.long (q3 % (3 : Int64))), .second, .val (.int (p4 &&& (3 : Int32))), .val (.long (e0_4 q0 q1 q2 q3 p4)), .second, .val (.ref b5), .val (.int (e0_5 q0 q1 q2 q3 p4)), .val (.int (if (e0_4 q0 q1 q2 q3 p4) < q0 then (0 : Int32) else (1 : Int32))), .val (.int (e0_6 q0 q1 q2 q3 p4)), .unset] [(.int (lcmpW ((e0_4 q0 q1 q2 q3 p4) + (q2 &&& (9007199254740991 : Int64))) (e0_0 q1 p4)))])) t := by
        intro t k
        by_cases hm28 : (e0_0 q1 p4) < ((e0_4 q0 q1 q2 q3 p4) + (q2 &&& (9007199254740991 : Int64)))
        · rw [show (e0_7 q0 q1 q2 q3 p4) = (0 : Int32) from if_pos hm28] at k
          refine XS.ifYes X16.here hx rfl (pc0 := 175) (pc' := 182) rfl (hb hby at_175) rfl (own_tltL hm28).2.2.1 (by decide) (by decide) (XS.iconst X16.here hx rfl (hb hby at_182) ?_)
          show Steps _ _ _ (T16.setTop (mkF m 183 #[.val (.long q0), .second, .val (.long q1), .second, .val (.long q2), .second, .val (.long q3), .second, .val (.int p4), .val (.long q0), .second, .val (.long (e0_0 q1 p4)), .second, .val (.long (q2 &&& (9007199254740991 : Int64))), .second, .val (.long (q3 % (3 : Int64))), .second, .val (.int (p4 &&& (3 : Int32))), .val (.long (e0_4 q0 q1 q2 q3 p4)), .second, .val (.ref b5), .val (.int (e0_5 q0 q1 q2 q3 p4)), .val (.int (if (e0_4 q0 q1 q2 q3 p4) < q0 then (0 : Int32) else (1 : Int32))), .val (.int (e0_6 q0 q1 q2 q3 p4)), .unset] [(.int (0 : Int32))])) _
          exact k
        · rw [show (e0_7 q0 q1 q2 q3 p4) = (1 : Int32) from if_neg hm28] at k
          refine XS.ifNo X16.here hx rfl (hb hby at_175) rfl (own_fltL hm28).2.2.1 (XS.iconst X16.here hx rfl (hb hby at_178) (XS.goto X16.here hx rfl (pc0 := 179) (pc' := 183) rfl (hb hby at_179) (by decide) (by decide) ?_))
          show Steps _ _ _ (T16.setTop (mkF m 183 #[.val (.long q0), .second, .val (.long q1), .second, .val (.long q2), .second, .val (.long q3), .second, .val (.int p4), .val (.long q0), .second, .val (.long (e0_0 q1 p4)), .second, .val (.long (q2 &&& (9007199254740991 : Int64))), .second, .val (.long (q3 % (3 : Int64))), .second, .val (.int (p4 &&& (3 : Int32))), .val (.long (e0_4 q0 q1 q2 q3 p4)), .second, .val (.ref b5), .val (.int (e0_5 q0 q1 q2 q3 p4)), .val (.int (if (e0_4 q0 q1 q2 q3 p4) < q0 then (0 : Int32) else (1 : Int32))), .val (.int (e0_6 q0 q1 q2 q3 p4)), .unset] [(.int (1 : Int32))])) _
          exact k
      refine m28 _ ?_
      show Steps _ _ _ (T16.setTop (mkF m 183 #[.val (.long q0), .second, .val (.long q1), .second, .val (.long q2), .second, .val (.long q3), .second, .val (.int p4), .val (.long q0), .second, .val (.long (e0_0 q1 p4)), .second, .val (.long (q2 &&& (9007199254740991 : Int64))), .second, .val (.long (q3 % (3 : Int64))), .second, .val (.int (p4 &&& (3 : Int32))), .val (.long (e0_4 q0 q1 q2 q3 p4)), .second, .val (.ref b5), .val (.int (e0_5 q0 q1 q2 q3 p4)), .val (.int (if (e0_4 q0 q1 q2 q3 p4) < q0 then (0 : Int32) else (1 : Int32))), .val (.int (e0_6 q0 q1 q2 q3 p4)), .unset] [(.int (e0_7 q0 q1 q2 q3 p4))])) _
      exact k
    · rw [show (e0_8 q0 q1 q2 q3 p4) = (0 : Int32) from if_neg hm27] at k
      refine XS.ifYes X16.here hx rfl (pc0 := 164) (pc' := 182) rfl (hb hby at_164) rfl ((if0 _ _).trans (feq hm27).2) (by decide) (by decide) (XS.iconst X16.here hx rfl (hb hby at_182) ?_)
      show Steps _ _ _ (T16.setTop (mkF m 183 #[.val (.long q0), .second, .val (.long q1), .second, .val (.long q2), .second, .val (.long q3), .second, .val (.int p4), .val (.long q0), .second, .val (.long (e0_0 q1 p4)), .second, .val (.long (q2 &&& (9007199254740991 : Int64))), .second, .val (.long (q3 % (3 : Int64))), .second, .val (.int (p4 &&& (3 : Int32))), .val (.long (e0_4 q0 q1 q2 q3 p4)), .second, .val (.ref b5), .val (.int (e0_5 q0 q1 q2 q3 p4)), .val (.int (if (e0_4 q0 q1 q2 q3 p4) < q0 then (0 : Int32) else (1 : Int32))), .val (.int (e0_6 q0 q1 q2 q3 p4)), .unset] [(.int (0 : Int32))])) _
      exact k
  refine OGl.go (fun t k => m27 _ (XS.istore X16.here hx rfl (hb hby at_183) rfl (l' := #[.val (.long q0), .second, .val (.long q1), .second, .val (.long q2), .second, .val (.long q3), .second, .val (.int p4), .val (.long q0), .second, .val (.long (e0_0 q1 p4)), .second, .val (.long (q2 &&& (9007199254740991 : Int64))), .second, .val (.long (q3 % (3 : Int64))), .second, .val (.int (p4 &&& (3 : Int32))), .val (.long (e0_4 q0 q1 q2 q3 p4)), .second, .val (.ref b5), .val (.int (e0_5 q0 q1 q2 q3 p4)), .val (.int (if (e0_4 q0 q1 q2 q3 p4) < q0 then (0 : Int32) else (1 : Int32))), .val (.int (e0_6 q0 q1 q2 q3 p4)), .val (.int (e0_8 q0 q1 q2 q3 p4))]) rfl (XS.iload X16.here hx rfl (hb hby at_185) rfl (XS.iload X16.here hx rfl (hb hby at_187) rfl k)))) ?_
  show OGl _ _ _ _ T16 (mkF m 189 #[.val (.long q0), .second, .val (.long q1), .second, .val (.long q2), .second, .val (.long q3), .second, .val (.int p4), .val (.long q0), .second, .val (.long (e0_0 q1 p4)), .second, .val (.long (q2 &&& (9007199254740991 : Int64))), .second, .val (.long (q3 % (3 : Int64))), .second, .val (.int (p4 &&& (3 : Int32))), .val (.long (e0_4 q0 q1 q2 q3 p4)), .second, .val (.ref b5), .val (.int (e0_5 q0 q1 q2 q3 p4)), .val (.int (if (e0_4 q0 q1 q2 q3 p4) < q0 then (0 : Int32) else (1 : Int32))), .val (.int (e0_6 q0 q1 q2 q3 p4)), .val (.int (e0_8 q0 q1 q2 q3 p4))] [(.int (if (e0_4 q0 q1 q2 q3 p4) < q0 then (0 : Int32) else (1 : Int32))), (.int (e0_5 q0 q1 q2 q3 p4))])
  have m29 : ∀ t, Steps p.tables e below (T16.setTop (mkF m 202 #[.val (.long q0), .second, .val (.long q1), .second, .val (.long q2), .second, .val (.long q3), .second, .val (.int p4), .val (.long q0), .second, .val (.long (e0_0 q1 p4)), .second, .val (.long (q2 &&& (9007199254740991 : Int64))), .second, .val (.long (q3 % (3 : Int64))), .second, .val (.int (p4 &&& (3 : Int32))), .val (.long (e0_4 q0 q1 q2 q3 p4)), .second, .val (.ref b5), .val (.int (e0_5 q0 q1 q2 q3 p4)), .val (.int (if (e0_4 q0 q1 q2 q3 p4) < q0 then (0 : Int32) else (1 : Int32))), .val (.int (e0_6 q0 q1 q2 q3 p4)), .val (.int (e0_8 q0 q1 q2 q3 p4))] [(.int (e0_10 q0 q1 q2 q3 p4)), (.int (e0_5 q0 q1 q2 q3 p4))])) t → Steps p.tables e below (T16.setTop (mkF m 189 #[.val (.long q0), .second, .val (.long q1), .second, .val (.long q2), .second, .val (.long q3), .second, .val (.int p4), .val (.long q0), .second, .val (.long (e0_0 q1 p4)), .second, .val (.long (q2 &&& (9007199254740991 : Int64))), .second, .val (.long (q3 % (3 : Int64))), .second, .val (.int (p4 &&& (3 : Int32))), .val (.long (e0_4 q0 q1 q2 q3 p4)), .second, .val (.ref b5), .val (.int (e0_5 q0 q1 q2 q3 p4)), .val (.int (if (e0_4 q0 q1 q2 q3 p4) < q0 then (0 : Int32) else (1 : Int32))), .val (.int (e0_6 q0 q1 q2 q3 p4)), .val (.int (e0_8 q0 q1 q2 q3 p4))] [(.int (if (e0_4 q0 q1 q2 q3 p4) < q0 then (0 : Int32) else (1 : Int32))), (.int (e0_5 q0 q1 q2 q3 p4))])) t := by
    intro t k
    by_cases hm29 : (if (e0_4 q0 q1 q2 q3 p4) < q0 then (0 : Int32) else (1 : Int32)) = (0 : Int32)
    · rw [show (e0_10 q0 q1 q2 q3 p4) = (0 : Int32) from if_pos hm29] at k
      refine XS.ifYes X16.here hx rfl (pc0 := 189) (pc' := 201) rfl (hb hby at_189) rfl ((if0 _ _).trans (teq hm29).1) (by decide) (by decide) (XS.iconst X16.here hx rfl (hb hby at_201) ?_)
      show Steps _ _ _ (T16.setTop (mkF m 202 #[.val (.long q0), .second, .val (.long q1), .second, .val (.long q2), .second, .val (.long q3), .second, .val (.int p4), .val (.long q0), .second, .val (.long (e0_0 q1 p4)), .second, .val (.long (q2 &&& (9007199254740991 : Int64))), .second, .val (.long (q3 % (3 : Int64))), .second, .val (.int (p4 &&& (3 : Int32))), .val (.long (e0_4 q0 q1 q2 q3 p4)), .second, .val (.ref b5), .val (.int (e0_5 q0 q1 q2 q3 p4)), .val (.int (if (e0_4 q0 q1 q2 q3 p4) < q0 then (0 : Int32) else (1 : Int32))), .val (.int (e0_6 q0 q1 q2 q3 p4)), .val (.int (e0_8 q0 q1 q2 q3 p4))] [(.int (0 : Int32)), (.int (e0_5 q0 q1 q2 q3 p4))])) _
      exact k
    · rw [show (e0_10 q0 q1 q2 q3 p4) = (e0_9 q0 q1 q2 q3 p4) from if_neg hm29] at k
      refine XS.ifNo X16.here hx rfl (hb hby at_189) rfl ((if0 _ _).trans (feq hm29).1) (XS.iload X16.here hx rfl (hb hby at_192) rfl ?_)
      show Steps _ _ _ (T16.setTop (mkF m 194 #[.val (.long q0), .second, .val (.long q1), .second, .val (.long q2), .second, .val (.long q3), .second, .val (.int p4), .val (.long q0), .second, .val (.long (e0_0 q1 p4)), .second, .val (.long (q2 &&& (9007199254740991 : Int64))), .second, .val (.long (q3 % (3 : Int64))), .second, .val (.int (p4 &&& (3 : Int32))), .val (.long (e0_4 q0 q1 q2 q3 p4)), .second, .val (.ref b5), .val (.int (e0_5 q0 q1 q2 q3 p4)), .val (.int (if (e0_4 q0 q1 q2 q3 p4) < q0 then (0 : Int32) else (1 : Int32))), .val (.int (e0_6 q0 q1 q2 q3 p4)), .val (.int (e0_8 q0 q1 q2 q3 p4))] [(.int (e0_8 q0 q1 q2 q3 p4)), (.int (e0_5 q0 q1 q2 q3 p4))])) _
      have m30 : ∀ t, Steps p.tables e below (T16.setTop (mkF m 202 #[.val (.long q0), .second, .val (.long q1), .second, .val (.long q2), .second, .val (.long q3), .second, .val (.int p4), .val (.long q0), .second, .val (.long (e0_0 q1 p4)), .second, .val (.long (q2 &&& (9007199254740991 : Int64))), .second, .val (.long (q3 % (3 : Int64))), .second, .val (.int (p4 &&& (3 : Int32))), .val (.long (e0_4 q0 q1 q2 q3 p4)), .second, .val (.ref b5), .val (.int (e0_5 q0 q1 q2 q3 p4)), .val (.int (if (e0_4 q0 q1 q2 q3 p4) < q0 then (0 : Int32) else (1 : Int32))), .val (.int (e0_6 q0 q1 q2 q3 p4)), .val (.int (e0_8 q0 q1 q2 q3 p4))] [(.int (e0_9 q0 q1 q2 q3 p4)), (.int (e0_5 q0 q1 q2 q3 p4))])) t → Steps p.tables e below (T16.setTop (mkF m 194 #[.val (.long q0), .second, .val (.long q1), .second, .val (.long q2), .second, .val (.long q3), .second, .val (.int p4), .val (.long q0), .second, .val (.long (e0_0 q1 p4)), .second, .val (.long (q2 &&& (9007199254740991 : Int64))), .second, .val (.long (q3 % (3 : Int64))), .second, .val (.int (p4 &&& (3 : Int32))), .val (.long (e0_4 q0 q1 q2 q3 p4)), .second, .val (.ref b5), .val (.int (e0_5 q0 q1 q2 q3 p4)), .val (.int (if (e0_4 q0 q1 q2 q3 p4) < q0 then (0 : Int32) else (1 : Int32))), .val (.int (e0_6 q0 q1 q2 q3 p4)), .val (.int (e0_8 q0 q1 q2 q3 p4))] [(.int (e0_8 q0 q1 q2 q3 p4)), (.int (e0_5 q0 q1 q2 q3 p4))])) t := by
        intro t k
        by_cases hm30 : (e0_8 q0 q1 q2 q3 p4) = (0 : Int32)
        · rw [show (e0_9 q0 q1 q2 q3 p4) = (0 : Int32) from if_pos hm30] at k
          refine XS.ifYes X16.here hx rfl (pc0 := 194) (pc' := 201) rfl (hb hby at_194) rfl ((if0 _ _).trans (teq hm30).1) (by decide) (by decide) (XS.iconst X16.here hx rfl (hb hby at_201) ?_)
          show Steps _ _ _ (T16.setTop (mkF m 202 #[.val (.long q0), .second, .val (.long q1), .second, .val (.long q2), .second, .val (.long q3), .second, .val (.int p4), .val (.long q0), .second, .val (.long (e0_0 q1 p4)), .second, .val (.long (q2 &&& (9007199254740991 : Int64))), .second, .val (.long (q3 % (3 : Int64))), .second, .val (.int (p4 &&& (3 : Int32))), .val (.long (e0_4 q0 q1 q2 q3 p4)), .second, .val (.ref b5), .val (.int (e0_5 q0 q1 q2 q3 p4)), .val (.int (if (e0_4 q0 q1 q2 q3 p4) < q0 then (0 : Int32) else (1 : Int32))), .val (.int (e0_6 q0 q1 q2 q3 p4)), .val (.int (e0_8 q0 q1 q2 q3 p4))] [(.int (0 : Int32)), (.int (e0_5 q0 q1 q2 q3 p4))])) _
          exact k
        · rw [show (e0_9 q0 q1 q2 q3 p4) = (1 : Int32) from if_neg hm30] at k
          refine XS.ifNo X16.here hx rfl (hb hby at_194) rfl ((if0 _ _).trans (feq hm30).1) (XS.iconst X16.here hx rfl (hb hby at_197) (XS.goto X16.here hx rfl (pc0 := 198) (pc' := 202) rfl (hb hby at_198) (by decide) (by decide) ?_))
          show Steps _ _ _ (T16.setTop (mkF m 202 #[.val (.long q0), .second, .val (.long q1), .second, .val (.long q2), .second, .val (.long q3), .second, .val (.int p4), .val (.long q0), .second, .val (.long (e0_0 q1 p4)), .second, .val (.long (q2 &&& (9007199254740991 : Int64))), .second, .val (.long (q3 % (3 : Int64))), .second, .val (.int (p4 &&& (3 : Int32))), .val (.long (e0_4 q0 q1 q2 q3 p4)), .second, .val (.ref b5), .val (.int (e0_5 q0 q1 q2 q3 p4)), .val (.int (if (e0_4 q0 q1 q2 q3 p4) < q0 then (0 : Int32) else (1 : Int32))), .val (.int (e0_6 q0 q1 q2 q3 p4)), .val (.int (e0_8 q0 q1 q2 q3 p4))] [(.int (1 : Int32)), (.int (e0_5 q0 q1 q2 q3 p4))])) _
          exact k
      refine m30 _ ?_
      show Steps _ _ _ (T16.setTop (mkF m 202 #[.val (.long q0), .second, .val (.long q1), .second, .val (.long q2), .second, .val (.long q3), .second, .val (.int p4), .val (.long q0), .second, .val (.long (e0_0 q1 p4)), .second, .val (.long (q2 &&& (9007199254740991 : Int64))), .second, .val (.long (q3 % (3 : Int64))), .second, .val (.int (p4 &&& (3 : Int32))), .val (.long (e0_4 q0 q1 q2 q3 p4)), .second, .val (.ref b5), .val (.int (e0_5 q0 q1 q2 q3 p4)), .val (.int (if (e0_4 q0 q1 q2 q3 p4) < q0 then (0 : Int32) else (1 : Int32))), .val (.int (e0_6 q0 q1 q2 q3 p4)), .val (.int (e0_8 q0 q1 q2 q3 p4))] [(.int (e0_9 q0 q1 q2 q3 p4)), (.int (e0_5 q0 q1 q2 q3 p4))])) _
      exact k
  refine OGl.go (fun t k => m29 _ k) ?_
  show OGl _ _ _ _ T16 (mkF m 202 #[.val (.long q0), .second, .val (.long q1), .second, .val (.long q2), .second, .val (.long q3), .second, .val (.int p4), .val (.long q0), .second, .val (.long (e0_0 q1 p4)), .second, .val (.long (q2 &&& (9007199254740991 : Int64))), .second, .val (.long (q3 % (3 : Int64))), .second, .val (.int (p4 &&& (3 : Int32))), .val (.long (e0_4 q0 q1 q2 q3 p4)), .second, .val (.ref b5), .val (.int (e0_5 q0 q1 q2 q3 p4)), .val (.int (if (e0_4 q0 q1 q2 q3 p4) < q0 then (0 : Int32) else (1 : Int32))), .val (.int (e0_6 q0 q1 q2 q3 p4)), .val (.int (e0_8 q0 q1 q2 q3 p4))] [(.int (e0_10 q0 q1 q2 q3 p4)), (.int (e0_5 q0 q1 q2 q3 p4))])
  by_cases hc31 : (e0_5 q0 q1 q2 q3 p4) = (e0_10 q0 q1 q2 q3 p4)
  · refine OGl.go (fun t k => XS.icmpNo X16.here hx rfl (hb hby at_202) rfl (teq hc31).2 (XS.iconst X16.here hx rfl (hb hby at_205) (XS.goto X16.here hx rfl (pc0 := 206) (pc' := 210) rfl (hb hby at_206) (by decide) (by decide) k))) ?_
    show OGl _ _ _ _ T16 (mkF m 210 #[.val (.long q0), .second, .val (.long q1), .second, .val (.long q2), .second, .val (.long q3), .second, .val (.int p4), .val (.long q0), .second, .val (.long (e0_0 q1 p4)), .second, .val (.long (q2 &&& (9007199254740991 : Int64))), .second, .val (.long (q3 % (3 : Int64))), .second, .val (.int (p4 &&& (3 : Int32))), .val (.long (e0_4 q0 q1 q2 q3 p4)), .second, .val (.ref b5), .val (.int (e0_5 q0 q1 q2 q3 p4)), .val (.int (if (e0_4 q0 q1 q2 q3 p4) < q0 then (0 : Int32) else (1 : Int32))), .val (.int (e0_6 q0 q1 q2 q3 p4)), .val (.int (e0_8 q0 q1 q2 q3 p4))] [(.int (1 : Int32))])
    obtain ⟨fs, hr, hrun, hended, hW, hsame⟩ := X16.leave (v := some (.int (1 : Int32))) (fun h => by rw [Bd.returns] at h; cases h)
    refine ⟨_, _, retN X16 hx (t := .boolean) Bd.returns (by simp) (hb hby at_210) hr, hrun, hended, _, _, rfl, ?_, ⟨_, rfl⟩, hW, hsame.mono (by decide) (by decide)⟩
    have hv32 : (t0_0 q0 q1 q2 q3 p4) = (1 : Int32) := by unfold t0_0; rw [if_pos hc31]
    show Q0 Z q0 q1 q2 q3 p4 h0 n0 _ T16.heap _
    rw [e16]
    exact ⟨(by rw [hv32]), N16⟩
  · refine OGl.go (fun t k => XS.icmpYes X16.here hx rfl (pc0 := 202) (pc' := 209) rfl (hb hby at_202) rfl (feq hc31).2 (by decide) (by decide) (XS.iconst X16.here hx rfl (hb hby at_209) k)) ?_
    show OGl _ _ _ _ T16 (mkF m 210 #[.val (.long q0), .second, .val (.long q1), .second, .val (.long q2), .second, .val (.long q3), .second, .val (.int p4), .val (.long q0), .second, .val (.long (e0_0 q1 p4)), .second, .val (.long (q2 &&& (9007199254740991 : Int64))), .second, .val (.long (q3 % (3 : Int64))), .second, .val (.int (p4 &&& (3 : Int32))), .val (.long (e0_4 q0 q1 q2 q3 p4)), .second, .val (.ref b5), .val (.int (e0_5 q0 q1 q2 q3 p4)), .val (.int (if (e0_4 q0 q1 q2 q3 p4) < q0 then (0 : Int32) else (1 : Int32))), .val (.int (e0_6 q0 q1 q2 q3 p4)), .val (.int (e0_8 q0 q1 q2 q3 p4))] [(.int (0 : Int32))])
    obtain ⟨fs, hr, hrun, hended, hW, hsame⟩ := X16.leave (v := some (.int (0 : Int32))) (fun h => by rw [Bd.returns] at h; cases h)
    refine ⟨_, _, retN X16 hx (t := .boolean) Bd.returns (by simp) (hb hby at_210) hr, hrun, hended, _, _, rfl, ?_, ⟨_, rfl⟩, hW, hsame.mono (by decide) (by decide)⟩
    have hv33 : (t0_0 q0 q1 q2 q3 p4) = (0 : Int32) := by unfold t0_0; rw [if_neg hc31]
    show Q0 Z q0 q1 q2 q3 p4 h0 n0 _ T16.heap _
    rw [e16]
    exact ⟨(by rw [hv33]), N16⟩
theorem own_law (a b c d : Int64) (w : Int32) : t0_0 a b c d w = 1 := by
  have hD := c_maskL c 9007199254740991 53 (by decide) (by decide)
  have hE : 0 ≤ (e0_0 b w).toInt := by
    unfold e0_0
    split
    · have h := c_maskL b 9223372036854775807 63 (by decide) (by decide)
      omega
    · decide
  have k0 : (9223372036854775807 : Int64).toInt = 9223372036854775807 := by decide
  unfold t0_0
  rw [if_pos]
  unfold e0_5 e0_10 e0_9 e0_8 e0_7 e0_6 t4_0
  generalize e0_4 a b c d w = S at *
  generalize e0_0 b w = E at *
  generalize (c &&& 9007199254740991) = D at *
  have rE := rng64 E
  have rS := rng64 S
  have a1 := c_lsub E D
  have r1 := rng64 (E - D)
  have a2 := c_lsub 9223372036854775807 D
  have r2 := rng64 (9223372036854775807 - D)
  have a3 := c_ladd S D
  have r3 := rng64 (S + D)
  by_cases p1 : S < a
  · simp only [p1, if_true]
  · simp only [p1, if_false]
    by_cases p2 : (E - D) < S
    · by_cases p3 : (9223372036854775807 - D : Int64) < S
      · simp +decide [p2, p3]
      · by_cases p4 : E < S + D
        · simp only [p2, p3, p4, if_true, if_false]; decide
        · rw [Int64.lt_iff_toInt_lt] at p2 p3 p4
          omega
    · by_cases p3 : (9223372036854775807 - D : Int64) < S
      · rw [Int64.lt_iff_toInt_lt] at p2 p3
        omega
      · by_cases p4 : E < S + D
        · rw [Int64.lt_iff_toInt_lt] at p2 p3 p4
          omega
        · simp only [p2, p3, p4, if_false]; decide
set_option maxRecDepth 65536 in
set_option maxHeartbeats 40000000 in
theorem comes_1 {Post : Tables → Env → Array Value → State → Outcome → State → Prop} (hpost : ∀ tb e args s v u, (limb_1_1.after args s (.returned v) u = true ∧ limb_1_2.after args s (.returned v) u = true ∧ True) → FrameEnd s (.returned v) u (Jvm.fieldLocs frame_1_writes args s ++ Jvm.arrayLocs frame_1_arrays args s ++ Jvm.staticLocs frame_1_statics s) 16 128 → Post tb e args s (.returned v) u) :
    ArmFor flags0 classFile x code maxLocals ret World_1 tables_1 room_1 Calls_1 rest_1 Pre_1 Post := by
  intro l hfl _ _ p e ha hc hk s m args below hf hA hF happ hP
  obtain ⟨hcalls, hrest, hpre⟩ := hP
  obtain ⟨-, -, -, hnamed, -, -, -, hat⟩ := (Spec.applies_iff hf).mp happ
  obtain ⟨hg, hn⟩ := and_e (Cond.before_iff.mp (show (Jvm.Cond.and given_1 narrow_1).before args s = true from hpre))
  obtain ⟨hz, hy0⟩ := and_e hg
  obtain ⟨ha0, hy1⟩ := and_e hy0
  obtain ⟨ha1, hy2⟩ := and_e hy1
  obtain ⟨ha2, hy3⟩ := and_e hy2
  obtain ⟨ha3, hy4⟩ := and_e hy3
  obtain ⟨w0, w1, w2, w3, w4, rfl⟩ : ∃ w0 w1 w2 w3 w4 : Value, args = #[w0, w1, w2, w3, w4] := by
    have hs : args.size = 5 := by simpa [Cond.value, given_1] using hz
    obtain ⟨L⟩ := args
    match L, hs with
    | [w0, w1, w2, w3, w4], _ => exact ⟨w0, w1, w2, w3, w4, rfl⟩
  have hw := fun d (hd : d ∈ tables_1) => atoms_spec (ws := Jvm.Cond.code x code maxLocals ret :: tables_1) hat d (List.mem_cons_of_mem _ hd)
  obtain ⟨i0, ev0⟩ := isL_v ha0
  obtain rfl : w0 = (.long i0) := Option.some.inj ev0
  obtain ⟨i1, ev1⟩ := isL_v ha1
  obtain rfl : w1 = (.long i1) := Option.some.inj ev1
  obtain ⟨i2, ev2⟩ := isL_v ha2
  obtain rfl : w2 = (.long i2) := Option.some.inj ev2
  obtain ⟨i3, ev3⟩ := isL_v ha3
  obtain rfl : w3 = (.long i3) := Option.some.inj ev3
  obtain ⟨i4, ev4⟩ := is_v hy4
  obtain rfl : w4 = (.int i4) := Option.some.inj ev4
  obtain ⟨n, o, h1, h2, h3, _, L, rfl, ⟨hv, N⟩, hq⟩ := rm0 l s _ hw tables_1 i0 i1 i2 i3 i4  s.heap s.heap.size (Nat.le_refl _)  p e ha hc hk s m _ below hf ((Spec.applies_iff_loose hf).mp happ).1 ⟨rfl, State.Warmed39.refl s, rfl⟩ trivial
  rw [own_law] at hv
  subst hv
  refine ⟨n, _, h1, h2, h3, hpost _ _ _ _ _ _ ⟨Cond.after_iff.mpr rfl, Cond.after_iff.mpr (eq_i res_at (Term.int_eval (1)) rfl), trivial⟩ ⟨hq.1, hq.2.1, (hq.2.2.sift fun y hy => Or.inr (N y hy)).mono (by decide) (by decide)⟩⟩
theorem main_1_1 : Claimed_1_1 := comes_1 fun _ _ _ _ _ _ h hF => ⟨h.1, hF⟩
theorem main_1_2 : Claimed_1_2 := comes_1 fun _ _ _ _ _ _ h hF => ⟨h.2.1, hF⟩
end Jvm.Pilot.@@N@@
namespace Jvm.Pilot.@@N@@
open Jvm Jvm.ClassFile Sem Op Lib Jvm.Free Jvm.Stand Jvm.Pilot.@@N@@.Jvm.D
/-! MADE BY PROGRAM (witnessworld.py) out of the Statement's table words and the real class files: 10 classes; the members and pool entries that the words name. The judged class is class 1, her method 1. -/
namespace start1
open Jvm.ClassFile
def u (s : String) : CpInfo := .utf8 (stringToUtf16 s)
/-- a pool by its gaps: so many unusable entries, then the entry; so many at the end -/
def gap : Nat → List CpInfo → List CpInfo
  | 0, r => r
  | n + 1, r => .unusable :: gap n r
def poolList (es : List (Nat × CpInfo)) (last : Nat) : List CpInfo := es.foldr (fun e r => gap e.1 (e.2 :: r)) (gap last [])
def pool (es : List (Nat × CpInfo)) (last : Nat) : Array CpInfo := ⟨poolList es last⟩
def fileOf (pool : Array CpInfo) (this : Nat) (attrs : Array Attribute := #[]) (ms : Array MethodInfo := #[]) (fl : Nat := 33) (sup : Nat := 0) (ifs : Array Nat := #[]) (fds : Array FieldInfo := #[]) : ClassFile where
  minorVersion := 0
  majorVersion := 65
  constantPool := pool
  accessFlags := fl
  thisClass := this
  superClass := sup
  interfaces := ifs
  fields := fds
  methods := ms
  attributes := attrs
def plain (name : String) (sup : Option ClassId) : Class where
  name := name
  kind := .ordinary
  loader := none
  accessFlags := 33
  super := sup
  interfaces := #[]
  cf := none
  fields := #[]
  methods := #[]
  instanceTypes := #[]
  staticTypes := #[]
  resolved := #[]
  callSites := []
  init := .initialized
  statics := none
  mirror := none

def pool0 : Array CpInfo := pool [(5, u "<init>"), (0, u "()V"), (1, .class_ 10), (1, u "java/lang/Object")] 113

def k0c0 : Code := { maxStack := 0, maxLocals := 1, code := object_method_1_code, exceptionTable := #[], attributes := #[] }
def k0m0 : Method := { name := "<init>", desc := "()V", sig := { parameters := [], returnType := none }, accessFlags := 1, code := some k0c0 }
/-- java/lang/Object -/
def k0 : Class := { plain "java/lang/Object" none with
  accessFlags := 33
  interfaces := #[]
  cf := some (fileOf pool0 8 #[] #[{ accessFlags := 1, nameIndex := 5, descriptorIndex := 6, attributes := #[] }] 33 0 #[] #[])
  fields := #[]
  methods := #[k0m0]
  instanceTypes := #[]
  staticTypes := #[]
  resolved := Array.replicate 124 none
  statics := none }

def pool1 : Array CpInfo := pool [(2, .class_ 4), (1, u "java/lang/Object"), (0, u "<init>"), (0, u "()V"), (2, .long 9223372036854775807), (1, .long 9007199254740991), (1, .long 3), (1, .long 7), (1, .class_ 18), (0, u "com/example/nanjing/nanjing/model/Slot"), (0, .methodref 17 20), (0, .nameAndType 5 21), (0, u "(JJ)V"), (0, .methodref 17 23), (0, .nameAndType 24 25), (0, u "holds"), (0, u "(JJ)Z"), (0, .class_ 27), (0, u "com/example/nanjing/nanjing/model/SlotHoldsPinLaw"), (2, u "law"), (0, u "(JJJJI)Z")] 3

def k1m0 : Method := { name := "<init>", desc := "()V", sig := { parameters := [], returnType := none }, accessFlags := 1, code := none }
def k1c1 : Code := { maxStack := 6, maxLocals := 25, code := code, exceptionTable := #[], attributes := #[] }
def k1m1 : Method := { name := "law", desc := "(JJJJI)Z", sig := { parameters := [.long, .long, .long, .long, .int], returnType := some .boolean }, accessFlags := 9, code := some k1c1 }
/-- com/example/nanjing/nanjing/model/SlotHoldsPinLaw -/
def k1 : Class := { plain "com/example/nanjing/nanjing/model/SlotHoldsPinLaw" (some 0) with
  accessFlags := 49
  interfaces := #[]
  cf := some (fileOf pool1 26 #[] #[{ accessFlags := 1, nameIndex := 5, descriptorIndex := 6, attributes := #[] }, { accessFlags := 9, nameIndex := 30, descriptorIndex := 31, attributes := #[] }] 49 2 #[] #[])
  fields := #[]
  methods := #[k1m0, k1m1]
  instanceTypes := #[]
  staticTypes := #[]
  resolved := Array.replicate 35 none
  statics := none }

def pool2 : Array CpInfo := pool [(1, .methodref 2 3), (0, .class_ 4), (0, .nameAndType 5 6), (0, u "java/lang/Object"), (0, u "<init>"), (0, u "()V"), (0, .class_ 8), (0, u "java/lang/Record")] 13

def k2c0 : Code := { maxStack := 1, maxLocals := 1, code := jdk_30_method_1_code, exceptionTable := #[], attributes := #[] }
def k2m0 : Method := { name := "<init>", desc := "()V", sig := { parameters := [], returnType := none }, accessFlags := 4, code := some k2c0 }
/-- java/lang/Record -/
def k2 : Class := { plain "java/lang/Record" (some 0) with
  accessFlags := 1057
  interfaces := #[]
  cf := some (fileOf pool2 7 #[] #[{ accessFlags := 4, nameIndex := 5, descriptorIndex := 6, attributes := #[] }] 1057 2 #[] #[])
  fields := #[]
  methods := #[k2m0]
  instanceTypes := #[]
  staticTypes := #[]
  resolved := Array.replicate 22 none
  statics := none }

def pool3 : Array CpInfo := pool [(3, .methodref 4 5), (0, .class_ 6), (0, .nameAndType 7 8), (0, u "java/lang/Record"), (0, u "<init>"), (0, u "()V"), (0, .fieldref 10 11), (0, .class_ 12), (0, .nameAndType 13 14), (0, u "com/example/nanjing/nanjing/model/Slot"), (0, u "begin"), (0, u "J"), (0, .fieldref 10 16), (0, .nameAndType 17 14), (0, u "end"), (8, u "holds"), (0, u "(JJ)Z"), (31, u "(JJ)V"), (2, u "ALWAYS"), (0, u "Lcom/example/nanjing/nanjing/model/Slot;"), (0, u "NO_END")] 42

def k3c0 : Code := { maxStack := 3, maxLocals := 5, code := prog_35_method_1_code, exceptionTable := #[], attributes := #[] }
def k3m0 : Method := { name := "<init>", desc := "(JJ)V", sig := { parameters := [.long, .long], returnType := none }, accessFlags := 1, code := some k3c0 }
def k3c1 : Code := { maxStack := 4, maxLocals := 5, code := prog_35_method_2_code, exceptionTable := #[], attributes := #[] }
def k3m1 : Method := { name := "holds", desc := "(JJ)Z", sig := { parameters := [.long, .long], returnType := some .boolean }, accessFlags := 1, code := some k3c1 }
/-- com/example/nanjing/nanjing/model/Slot -/
def k3 : Class := { plain "com/example/nanjing/nanjing/model/Slot" (some 2) with
  accessFlags := 49
  interfaces := #[]
  cf := some (fileOf pool3 10 #[] #[{ accessFlags := 1, nameIndex := 7, descriptorIndex := 59, attributes := #[] }, { accessFlags := 1, nameIndex := 26, descriptorIndex := 27, attributes := #[] }] 49 4 #[] #[{ accessFlags := 18, nameIndex := 13, descriptorIndex := 14, attributes := #[] }, { accessFlags := 18, nameIndex := 17, descriptorIndex := 14, attributes := #[] }, { accessFlags := 25, nameIndex := 64, descriptorIndex := 14, attributes := #[] }, { accessFlags := 25, nameIndex := 62, descriptorIndex := 63, attributes := #[] }])
  fields := #[{ name := "begin", type := .long, accessFlags := 18, slot := 0, constantValue := 0 }, { name := "end", type := .long, accessFlags := 18, slot := 1, constantValue := 0 }, { name := "NO_END", type := .long, accessFlags := 25, slot := 0, constantValue := 0 }, { name := "ALWAYS", type := (.object "com/example/nanjing/nanjing/model/Slot"), accessFlags := 25, slot := 1, constantValue := 0 }]
  methods := #[k3m0, k3m1]
  instanceTypes := #[.long, .long]
  staticTypes := #[.long, (.object "com/example/nanjing/nanjing/model/Slot")]
  resolved := Array.replicate 107 none
  statics := none }

def pool4 : Array CpInfo := pool [(1, u "java/lang/Cloneable"), (0, .class_ 1), (0, u "java/lang/Object"), (0, .class_ 3)] 3

/-- java/lang/Cloneable -/
def k4 : Class := { plain "java/lang/Cloneable" (some 0) with
  accessFlags := 1537
  interfaces := #[]
  cf := some (fileOf pool4 2 #[] #[] 1537 4 #[] #[])
  fields := #[]
  methods := #[]
  instanceTypes := #[]
  staticTypes := #[]
  resolved := Array.replicate 8 none
  statics := none }

def pool5 : Array CpInfo := pool [(1, u "java/io/Serializable"), (0, .class_ 1), (0, u "java/lang/Object"), (0, .class_ 3)] 3

/-- java/io/Serializable -/
def k5 : Class := { plain "java/io/Serializable" (some 0) with
  accessFlags := 1537
  interfaces := #[]
  cf := some (fileOf pool5 2 #[] #[] 1537 4 #[] #[])
  fields := #[]
  methods := #[]
  instanceTypes := #[]
  staticTypes := #[]
  resolved := Array.replicate 8 none
  statics := none }

/-- the primitive byte -/
def k6 : Class := { plain "byte" none with kind := .primitive 'B', accessFlags := 0x411 }
/-- [B -/
def k7 : Class := { plain "[B" (some 0) with kind := .array 6 .byte, interfaces := #[4, 5], accessFlags := 1041 }

/-- the primitive int -/
def k8 : Class := { plain "int" none with kind := .primitive 'I', accessFlags := 0x411 }
/-- [I -/
def k9 : Class := { plain "[I" (some 0) with kind := .array 8 .int, interfaces := #[4, 5], accessFlags := 1041 }

def heap : Heap := #[]
def classes : Array Class := #[k0, k1, k2, k3, k4, k5, k6, k7, k8, k9]
def interned : List (Array UInt16 × Addr) := []
def slotsUsed : Nat := 0
def theMethod : MethodId := ⟨1, 1⟩
def args0 : Array Value := #[.long 5, .long 5, .long 5, .long 5, .int 3]
def aboutOver (below : List Frame) : State where
  vm := { classes := classes, interned := interned.toArray }
  heap := heap
  slotsUsed := slotsUsed
  threads := #[{ frames := .invoking theMethod args0 :: below }]
def below0 : List Frame := [.native { method := ⟨0, 0⟩, args := #[] }]
def about1 : State := aboutOver below0
def p0 : Program := .bare "" "" ""
def e0 : Env := launch0.env 0 0 0
theorem w_frames : about1.frames = Frame.invoking theMethod args0 :: below0 := rfl
set_option maxRecDepth 65536 in
theorem w_args : argsFit about1.vm theMethod args0 = true := by decide +kernel
set_option maxRecDepth 65536 in
theorem w_heap : heapFits about1 = true := by decide +kernel
set_option maxRecDepth 65536 in
theorem w_runnable : about1.curStatus? = some .runnable := by decide +kernel
set_option maxRecDepth 65536 in
theorem w_alone : about1.alone = true := by decide +kernel
set_option maxRecDepth 65536 in
theorem w_named : about1.methodNamed? x = some theMethod := by decide +kernel
set_option maxRecDepth 65536 in
theorem w_hears : about1.hears theMethod below0 = true := by decide +kernel
set_option maxRecDepth 65536 in
theorem w_ripe : about1.ripe theMethod args0 below0 = true := by decide +kernel
theorem w_running : about1.status = .running := rfl
set_option maxRecDepth 65536 in
theorem w_room : about1.hasRoom e0.platform room_1 = true :=
  launch0.hasRoom_least _ room_1 (by decide +kernel) (by decide +kernel) (by decide +kernel) (by decide +kernel) (by decide +kernel) (by decide +kernel)
theorem allAtoms_all (ts : List Jvm.Cond) (a : Array Jvm.Value) (st : Jvm.State) : (allAtoms ts).before a st = ts.all (fun c => c.before a st) := by
  induction ts with
  | nil => rfl
  | cons c t ih =>
    show (Jvm.Cond.and c (allAtoms t)).before a st = _
    rw [Jvm.Cond.before_and, ih, List.all_cons]
def words1 : List Jvm.Cond := Jvm.Cond.code x code maxLocals ret :: tables_1
/-- a 'code' word, met by the world's own term for the bytes: nothing is compared byte by byte -/
theorem code_word {y : MethodName} {bytes : ByteArray} {mx : Nat} {rt : Option FieldType} {a : Array Value} {s : State} {m : MethodId} {meth : Method} {c : Code} (h1 : s.methodNamed? y = some m) (h2 : s.vm.method? m = some meth) (h3 : meth.code = some c) (h4 : c.code = bytes)
    (h5 : (c.maxLocals == mx && c.exceptionTable.isEmpty && decide (c.maxStack ≤ mostOperands) && decide (meth.sig.returnType = rt) && !meth.locks && decide (parseMethodDescriptor y.desc = some meth.sig)) = true) : (Jvm.Cond.code y bytes mx rt).before a s = true := by
  simp only [Bool.and_eq_true, beq_iff_eq, Bool.not_eq_true', decide_eq_true_eq] at h5
  obtain ⟨⟨⟨⟨⟨g1, g2⟩, g3⟩, g4⟩, g5⟩, g6⟩ := h5
  simp [Cond.before, Cond.holds, Cond.value, h1, h2, h3, h4, g1, g2, g3, g4, g5, g6]
def isCode : Jvm.Cond → Bool
  | .code _ _ _ _ => true
  | _ => false
theorem all_split {L : List Jvm.Cond} {P : Jvm.Cond → Bool} (h1 : L.all (fun c => isCode c || P c) = true) (h2 : ∀ c ∈ L.filter isCode, P c = true) : L.all P = true := by
  refine List.all_eq_true.mpr fun c hc => ?_
  have h := List.all_eq_true.mp h1 c hc
  rcases Bool.eq_false_or_eq_true (isCode c) with hi | hi
  · exact h2 c (List.mem_filter.mpr ⟨hc, hi⟩)
  · simpa [hi] using h
set_option maxRecDepth 65536 in
theorem w_c0 : (Jvm.Cond.code x code maxLocals ret).before args0 about1 = true := code_word (m := ⟨1, 1⟩) (meth := k1m1) (c := k1c1) (by decide +kernel) rfl rfl rfl (by decide +kernel)
set_option maxRecDepth 65536 in
theorem w_c1 : (Jvm.Cond.code ({ cls := "com/example/nanjing/nanjing/model/Slot", name := "<init>", desc := "(JJ)V" } : Jvm.MethodName) prog_35_method_1_code (5 : Nat) (Option.none : Option Jvm.ClassFile.FieldType)).before args0 about1 = true := code_word (m := ⟨3, 0⟩) (meth := k3m0) (c := k3c0) (by decide +kernel) rfl rfl rfl (by decide +kernel)
set_option maxRecDepth 65536 in
theorem w_c2 : (Jvm.Cond.code ({ cls := "java/lang/Record", name := "<init>", desc := "()V" } : Jvm.MethodName) jdk_30_method_1_code (1 : Nat) (Option.none : Option Jvm.ClassFile.FieldType)).before args0 about1 = true := code_word (m := ⟨2, 0⟩) (meth := k2m0) (c := k2c0) (by decide +kernel) rfl rfl rfl (by decide +kernel)
set_option maxRecDepth 65536 in
theorem w_c3 : (Jvm.Cond.code ({ cls := "java/lang/Object", name := "<init>", desc := "()V" } : Jvm.MethodName) object_method_1_code (1 : Nat) (Option.none : Option Jvm.ClassFile.FieldType)).before args0 about1 = true := code_word (m := ⟨0, 0⟩) (meth := k0m0) (c := k0c0) (by decide +kernel) rfl rfl rfl (by decide +kernel)
set_option maxRecDepth 65536 in
theorem w_c4 : (Jvm.Cond.code ({ cls := "com/example/nanjing/nanjing/model/Slot", name := "holds", desc := "(JJ)Z" } : Jvm.MethodName) prog_35_method_2_code (5 : Nat) (Option.some Jvm.ClassFile.FieldType.boolean)).before args0 about1 = true := code_word (m := ⟨3, 1⟩) (meth := k3m1) (c := k3c1) (by decide +kernel) rfl rfl rfl (by decide +kernel)
def codes1 : List Jvm.Cond := [Jvm.Cond.code x code maxLocals ret, Jvm.Cond.code ({ cls := "com/example/nanjing/nanjing/model/Slot", name := "<init>", desc := "(JJ)V" } : Jvm.MethodName) prog_35_method_1_code (5 : Nat) (Option.none : Option Jvm.ClassFile.FieldType), Jvm.Cond.code ({ cls := "java/lang/Record", name := "<init>", desc := "()V" } : Jvm.MethodName) jdk_30_method_1_code (1 : Nat) (Option.none : Option Jvm.ClassFile.FieldType), Jvm.Cond.code ({ cls := "java/lang/Object", name := "<init>", desc := "()V" } : Jvm.MethodName) object_method_1_code (1 : Nat) (Option.none : Option Jvm.ClassFile.FieldType), Jvm.Cond.code ({ cls := "com/example/nanjing/nanjing/model/Slot", name := "holds", desc := "(JJ)Z" } : Jvm.MethodName) prog_35_method_2_code (5 : Nat) (Option.some Jvm.ClassFile.FieldType.boolean)]
set_option maxRecDepth 65536 in
theorem codes_eq : words1.filter isCode = codes1 := rfl
theorem w_codes : ∀ c ∈ words1.filter isCode, c.before args0 about1 = true := by
  rw [codes_eq]
  intro c hc
  simp only [codes1, List.mem_cons, List.not_mem_nil, or_false] at hc
  rcases hc with rfl | rfl | rfl | rfl | rfl
  · exact w_c0
  · exact w_c1
  · exact w_c2
  · exact w_c3
  · exact w_c4
set_option maxRecDepth 65536 in
theorem w_t1 : (words1.take 24).all (fun c => isCode c || c.before args0 about1) = true := by decide +kernel
set_option maxRecDepth 65536 in
theorem w_t2 : (words1.drop 24).all (fun c => isCode c || c.before args0 about1) = true := by decide +kernel
theorem w_tables : (allAtoms (Jvm.Cond.code x code maxLocals ret :: tables_1)).before args0 about1 = true := by
  rw [allAtoms_all]
  show words1.all (fun c => c.before args0 about1) = true
  refine all_split ?_ w_codes
  rw [← List.take_append_drop 24 words1, List.all_append, w_t1, w_t2]
  rfl
set_option maxRecDepth 65536 in
theorem w_case : (Jvm.Cond.and given_1 narrow_1).before args0 about1 = true := by decide +kernel
theorem w_applies : (headSpec (Jvm.Cond.code x code maxLocals ret :: tables_1) room_1).applies x e0.platform about1 = true :=
  (Spec.applies_iff w_frames).mpr ⟨w_running, w_runnable, w_alone, w_named, w_hears, w_ripe, w_room, w_tables⟩
theorem atStart : AtStart classFile x code maxLocals ret World_1 tables_1 room_1 Calls_1 rest_1 Pre_1 launch0 p0 e0 about1 theMethod args0 below0 :=
  ⟨lists_1, trivial, launch0.admits_env _ _ _, launch0.least_env, fairChoices_fair.cas, fairChoices_fair.clock, w_frames, w_args, w_heap, w_applies, trivial, trivial, w_case⟩
end start1
theorem witness_1 : WitnessClaimed_1 := ⟨start1.p0, start1.e0, start1.about1, start1.theMethod, start1.args0, start1.below0, start1.atStart⟩
end Jvm.Pilot.@@N@@
