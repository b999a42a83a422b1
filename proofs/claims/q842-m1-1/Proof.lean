import JvmDerived
import JvmDerived.Pilot.@@N@@Statement
import JvmDerived.Pilot.@@N@@Code
set_option linter.unusedVariables false
set_option linter.unusedSimpArgs false
namespace Jvm.RoadKit
open Sem ClassFile Op Lib Jvm.Stand Jvm.Free Jvm.LawKit
section New
variable {p : Program} {l : Launch} {e : Env} {R : Room} {s : State} {m : MethodId} {args : Array Value} {below : List Frame} {meth : Method} {c : Code} {T : State} {locs : List Loc} {cells slots : Nat}
theorem retI (X : Stand p l e R s m args below meth c T locs cells slots) (hx : p.tables.exec = Jvm.exec) {pc : Nat} {Ls : Array Slot} {z : Int32} {rest : List Value} (hret : meth.sig.returnType = some .int) (hd : decode c.code pc = .ok (.ireturn, 1)) {fs : List Frame}
    (hl : ∀ (f : JFrame) (acts : List Action), f.method = m → f.locked = none → f.entered = [] → (doReturn e (T.setTop f) acts (some (.int z))).1 = T.setFrames fs) : Steps p.tables e below (T.setTop (mkF m pc Ls (.int z :: rest))) (T.setFrames fs) := by
  have hm' : T.vm.method? m = some meth := X.method'
  have hn : narrow .int (.int z) = .int z := rfl
  show Steps p.tables e below (T.setTop { method := m, pc := pc, locals := Ls, stack := _ :: rest, locked := none }) _
  jvm_step X.here [X.here.top, hx, hd, hm', hret, hn]
  first | (intro acts; rw [hl _ acts rfl rfl rfl]) | rw [hl _ _ rfl rfl rfl]
  exact Steps.refl _
theorem own_ldc {g : JFrame} {target : State} (X : Stand p l e R s m args below meth c T locs cells slots) (hx : p.tables.exec = Jvm.exec) {own : String} {index : Nat} {v : Int32} (hown : s.vm.findClass own = some m.cls) (w : (Cond.constant own index v).before args s = true) (hg : g.method = m) (hd : decode c.code g.pc = .ok (.ldc index, 2))
    (hr : Steps p.tables e below (T.setTop { g with pc := g.pc + 2, stack := .int v :: g.stack }) target) : Steps p.tables e below (T.setTop g) target := X.ldcInt hx hown w hg hd target hr
theorem own_ldc2 {g : JFrame} {target : State} (X : Stand p l e R s m args below meth c T locs cells slots) (hx : p.tables.exec = Jvm.exec) {own : String} {index : Nat} {v : Int64} (hown : s.vm.findClass own = some m.cls) (w : (Cond.constantLong own index v).before args s = true) (hg : g.method = m) (hd : decode c.code g.pc = .ok (.ldc2_w index, 3))
    (hr : Steps p.tables e below (T.setTop { g with pc := g.pc + 3, stack := .long v :: g.stack }) target) : Steps p.tables e below (T.setTop g) target := X.ldc2Long hx hown w hg hd target hr
theorem own_len {g : JFrame} {target : State} (X : Stand p l e R s m args below meth c T locs cells slots) (hx : p.tables.exec = Jvm.exec) {a : Addr} {cell : Cell} {ty : FieldType} {z : Int32} (hcell : T.heap[a]? = some cell) (harr : s.isArrayOf cell ty) (hz : cell.slots.size = z.toNatClampNeg) (hn : ¬ z < 0) (hg : g.method = m) {rest : List Value} (hs : g.stack = .ref a :: rest) (hd : decode c.code g.pc = .ok (.arraylength, 1))
    (hr : Steps p.tables e below (T.setTop { g with pc := g.pc + 1, stack := .int z :: rest }) target) : Steps p.tables e below (T.setTop g) target := X.arraylength hx hcell harr hg hs hd target (by rw [len_of hz hn]; exact hr)
theorem own_iaload {g : JFrame} {target : State} (X : Stand p l e R s m args below meth c T locs cells slots) (hx : p.tables.exec = Jvm.exec) {a : Addr} {cell : Cell} {j : Int32} {v : Value} (hcell : T.heap[a]? = some cell) (harr : s.isArrayOf cell .int) (hk : cell.vm ≠ .unknown) (hin : ¬ (j < 0 ∨ cell.slots.size ≤ j.toNatClampNeg)) (hv : cell.slots[j.toNatClampNeg]? = some v) (hg : g.method = m) {rest : List Value} (hs : g.stack = .int j :: .ref a :: rest) (hd : decode c.code g.pc = .ok (.iaload, 1))
    (hr : Steps p.tables e below (T.setTop { g with pc := g.pc + 1, stack := v :: rest }) target) : Steps p.tables e below (T.setTop g) target := X.iaload hx hcell harr hk hin hv hg hs hd target hr
theorem own_laload {g : JFrame} {target : State} (X : Stand p l e R s m args below meth c T locs cells slots) (hx : p.tables.exec = Jvm.exec) {a : Addr} {cell : Cell} {j : Int32} {v : Value} (hcell : T.heap[a]? = some cell) (harr : s.isArrayOf cell .long) (hk : cell.vm ≠ .unknown) (hin : ¬ (j < 0 ∨ cell.slots.size ≤ j.toNatClampNeg)) (hv : cell.slots[j.toNatClampNeg]? = some v) (hg : g.method = m) {rest : List Value} (hs : g.stack = .int j :: .ref a :: rest) (hd : decode c.code g.pc = .ok (.laload, 1))
    (hr : Steps p.tables e below (T.setTop { g with pc := g.pc + 1, stack := v :: rest }) target) : Steps p.tables e below (T.setTop g) target := X.laload hx hcell harr hk hin hv hg hs hd target hr
theorem own_baload {g : JFrame} {target : State} (X : Stand p l e R s m args below meth c T locs cells slots) (hx : p.tables.exec = Jvm.exec) {a : Addr} {cell : Cell} {j : Int32} {v : Value} (hcell : T.heap[a]? = some cell) (harr : s.isArrayOf cell .byte) (hk : cell.vm ≠ .unknown) (hin : ¬ (j < 0 ∨ cell.slots.size ≤ j.toNatClampNeg)) (hv : cell.slots[j.toNatClampNeg]? = some v) (hg : g.method = m) {rest : List Value} (hs : g.stack = .int j :: .ref a :: rest) (hd : decode c.code g.pc = .ok (.baload, 1))
    (hr : Steps p.tables e below (T.setTop { g with pc := g.pc + 1, stack := v :: rest }) target) : Steps p.tables e below (T.setTop g) target := X.baloadBytes hx hcell harr hk hin hv hg hs hd target hr
theorem own_lrem {g : JFrame} {target : State} (X : Stand p l e R s m args below meth c T locs cells slots) (hx : p.tables.exec = Jvm.exec) (hg : g.method = m) {x y : Int64} {rest : List Value} (hd : decode c.code g.pc = .ok (.lrem, 1)) (hs : g.stack = .long y :: .long x :: rest) (hy : y ≠ 0)
    (hr : Steps p.tables e below (T.setTop { g with pc := g.pc + 1, stack := .long (x % y) :: rest }) target) : Steps p.tables e below (T.setTop g) target :=
  XS.lrem X.here hx hg hd hs hy (by rw [lrem_mod]; exact hr)
theorem own_tltL {x y : Int64} (h : x < y) : ifCond.holds .lt (lcmpW x y) = true ∧ ifCond.holds .ge (lcmpW x y) = false ∧ ifCond.holds .gt (lcmpW y x) = true ∧ ifCond.holds .le (lcmpW y x) = false := by
  have h1 : lcmpW x y < 0 := by rw [lcW]; exact (lc_lt x y).mpr h
  have h2 : 0 < lcmpW y x := by rw [lcW]; exact (lc_gt y x).mpr h
  exact ⟨(if0 _ _).trans (tlt h1).1, (if0 _ _).trans (tlt h1).2.1, (if0 _ _).trans (tlt h2).2.2.1, (if0 _ _).trans (tlt h2).2.2.2⟩
theorem own_fltL {x y : Int64} (h : ¬ x < y) : ifCond.holds .lt (lcmpW x y) = false ∧ ifCond.holds .ge (lcmpW x y) = true ∧ ifCond.holds .gt (lcmpW y x) = false ∧ ifCond.holds .le (lcmpW y x) = true := by
  have h1 : ¬ lcmpW x y < 0 := by rw [lcW, lc_lt]; exact h
  have h2 : ¬ 0 < lcmpW y x := by rw [lcW, lc_gt]; exact h
  exact ⟨(if0 _ _).trans (flt h1).1, (if0 _ _).trans (flt h1).2.1, (if0 _ _).trans (flt h2).2.2.1, (if0 _ _).trans (flt h2).2.2.2⟩
theorem own_teqL {x y : Int64} (h : x = y) : ifCond.holds .eq (lcmpW x y) = true ∧ ifCond.holds .ne (lcmpW x y) = false := by
  have h1 : lcmpW x y = 0 := by rw [lcW, lc_eq]; exact h
  exact ⟨(if0 _ _).trans (teq h1).1, (if0 _ _).trans (teq h1).2⟩
theorem own_feqL {x y : Int64} (h : ¬ x = y) : ifCond.holds .eq (lcmpW x y) = false ∧ ifCond.holds .ne (lcmpW x y) = true := by
  have h1 : ¬ lcmpW x y = 0 := by rw [lcW, lc_eq]; exact h
  exact ⟨(if0 _ _).trans (feq h1).1, (if0 _ _).trans (feq h1).2⟩
end New
end Jvm.RoadKit
namespace Jvm.Pilot.@@N@@
open Jvm Jvm.ClassFile Sem Op Lib Jvm.Free Jvm.Stand Jvm.LawKit Jvm.RoadKit Bundle Jvm.Pilot.@@N@@.Jvm.D
/-- what is left to show from a place of the walk on -/
abbrev OGl (p : Program) (e : Env) (below : List Frame) (Q : Outcome → State → Prop) (T : State) (g : JFrame) : Prop :=
  ∃ s₂ o, Steps p.tables e below (T.setTop g) s₂ ∧ s₂.status = .running ∧ Ended s₂ below o ∧ Q o s₂
theorem OGl.go {p : Program} {e : Env} {below : List Frame} {Q : Outcome → State → Prop} {T T' : State} {g g' : JFrame} (h : ∀ t, Steps p.tables e below (T'.setTop g') t → Steps p.tables e below (T.setTop g) t) (k : OGl p e below Q T' g') : OGl p e below Q T g := by
  obtain ⟨s2, o, h1, h2⟩ := k
  exact ⟨s2, o, h _ h1, h2⟩
theorem OGl.start {p : Program} {e : Env} {below : List Frame} {Q : Outcome → State → Prop} {T : State} {g g' : JFrame} (q : g = g') (k : OGl p e below Q T g') : OGl p e below Q T g := q ▸ k
theorem own_selPriv {s : State} {args : Array Value} {y y' x' : MethodName} {C' : String} (hp : s.PrivateAt y) (hi : (Cond.instanceMethod y).before args s = true) (hc : y'.cls = y.cls) (hs : (Cond.selects C' x' y').before args s = true) (hy : y.cls ≠ "java/lang/invoke/MethodHandle" ∧ y.cls ≠ "java/lang/invoke/VarHandle" := by decide) : (Cond.selects y.cls y y).before args s = true := by
  obtain ⟨mk, meth, hn, hm, -, -⟩ := Cond.instanceMethod_spec hi
  obtain ⟨c2, r2, m2, -, -, q3, -, kP, hkP, hkPi⟩ := Cond.selects_spec hs
  have h1 := findClass_of_methodNamed hn
  have h2 := findClass_of_methodNamed q3
  rw [hc, h1] at h2
  have h3 : mk.cls = m2.cls := Option.some.inj h2
  have hf := State.methodFound?_of_named hn hy
  have hsel : selectMethod {} s.vm mk.cls mk = .method mk := selectMethod_private hm (hp mk meth hn hm)
  rw [← h3] at hkP
  simp [Cond.before, Cond.holds, Cond.value, h1, hf, hn, hsel, hkP, hkPi]
theorem own_weak {Z : State} {h : Heap} {a : Addr} {k : ClassId} {ty : FieldType} {z : Int32} {vs vs' : List Value} {d : Value} (F : Arv Z h a k ty z vs d) (q : ∀ i, i < z.toNatClampNeg → vs'.getD i d = vs.getD i d) : Arv Z h a k ty z vs' d := by
  obtain ⟨c, A, r1, r2, r3, H, G⟩ := F
  exact ⟨c, A, r1, r2, r3, fun i hi => by rw [q i (r2 ▸ hi)]; exact H i hi, fun i hi => by rw [q i (r2 ▸ hi)]; exact G i hi⟩
theorem own_cl {z j : Int32} {k i : Nat} (h : ¬ j < z) (hk : j.toInt = k) (hi : i < z.toNatClampNeg) : i < k := by
  rw [Int32.lt_iff_toInt_lt] at h
  have : z.toNatClampNeg = z.toInt.toNat := rfl
  omega
theorem own_irr {α : Type} [LT α] [Std.Irrefl (α := α) (· < ·)] (x : α) : ¬ x < x := Std.Irrefl.irrefl x
theorem d1_0 : decode prog_23_method_1_code 0 = .ok (.aload_n 0, 1) := by decide +kernel
theorem d1_1 : decode prog_23_method_1_code 1 = .ok (.invokespecial 1, 3) := by decide +kernel
theorem d1_4 : decode prog_23_method_1_code 4 = .ok (.aload_n 0, 1) := by decide +kernel
theorem d1_5 : decode prog_23_method_1_code 5 = .ok (.lload_n 1, 1) := by decide +kernel
theorem d1_6 : decode prog_23_method_1_code 6 = .ok (.putfield 7, 3) := by decide +kernel
theorem d1_9 : decode prog_23_method_1_code 9 = .ok (.return_, 1) := by decide +kernel
theorem ef_1 (m : MethodId) (x0 : Addr) (x1 : Int64) : entryFrame m #[(.ref x0), (.long x1)] 3 = mkF m 0 #[.val (.ref x0), .val (.long x1), .second] [] := by first | (simp [entryFrame, mkF, argsToLocals, Value.category]; done) | rfl
theorem pn_0 : plainName "com/example/nanjing/nanjing/generate/SeededStream" = true := by first | (simp [plainName, overriddenIn]; done) | decide +kernel
def Q1 (Z : State) (a0 : Addr) (q1 : Int64) (h0 : Heap) (n0 : Nat) (v : Option Value) (h : Heap) (L : List Loc) : Prop := v = none ∧ Fr n0 L ∧ Keep h0 h [a0] ∧ Fld Z h a0 "com/example/nanjing/nanjing/generate/SeededStream" "state" "J" (.long q1)
set_option maxRecDepth 65536 in
set_option maxHeartbeats 40000000 in
theorem rm1 (l : Launch) (Z : State) (a0 : Array Value) (hw : ∀ d ∈ tables_1, d.before a0 Z = true) (ws : List Jvm.Cond) (a0 : Addr) (q1 : Int64) (h0 : Heap) (n0 : Nat) (Z0 : n0 ≤ h0.size) (E_a0 : Exa Z h0 a0 "com/example/nanjing/nanjing/generate/SeededStream") (F1_a0 : Fld Z h0 a0 "com/example/nanjing/nanjing/generate/SeededStream" "state" "J" (.long (0 : Int64))) (g_a0 : n0 ≤ a0) :
    MetFree l (⟨"com/example/nanjing/nanjing/generate/SeededStream", "<init>", "(J)V"⟩ : MethodName) (head1 (Jvm.Cond.code (⟨"com/example/nanjing/nanjing/generate/SeededStream", "<init>", "(J)V"⟩ : MethodName) prog_23_method_1_code 3 none :: ws) ({ frames := 1, cells := 0, slots := 0, locals := 12 } : Room)) (fun a U => a = #[(.ref a0), (.long q1)] ∧ Z.Warmed39 U.vm ∧ U.heap = h0) (fun _ _ _ _ _ => True) (fun _ U o U' => ∃ v L, o = .returned v ∧ Q1 Z a0 q1 h0 n0 v U'.heap L ∧ FrameEnd U o U' L ({ frames := 1, cells := 0, slots := 0, locals := 12 } : Room).cells ({ frames := 1, cells := 0, slots := 0, locals := 12 } : Room).slots) := by
  refine MetFree.of_bodySF (plainFor_of_name pn_0) hisR ?_
  intro p e s m args below meth c s₁ Bd hml0 hP hK
  obtain ⟨rfl, hZ, hh⟩ := hP
  have hx := Bd.exec
  have hby := Bd.bytes
  have hml : c.maxLocals = 3 := hml0
  have hown : s.vm.findClass "com/example/nanjing/nanjing/generate/SeededStream" = some m.cls := findClass_of_methodNamed Bd.named
  have hnm := (name_of_methodNamed Bd.named Bd.method).1
  have X0 : Stand p l e ({ frames := 1, cells := 0, slots := 0, locals := 12 } : Room) s m #[(.ref a0), (.long q1)] below meth c s₁ [] 0 0 := Stand.of_body Bd
  have e0 : s₁.heap = h0 := by rw [← hh, Bd.state]; rfl
  have N0 := Fr.nil n0
  refine OGl.start (ef_1 m a0 q1) ?_
  show OGl _ _ _ _ s₁ (mkF m 0 #[.val (.ref a0), .val (.long q1), .second] [])
  refine OGl.go (fun t k => XS.aloadN X0.here hx rfl (hb hby d1_0) rfl rfl k) ?_
  show OGl _ _ _ _ s₁ (mkF m 1 #[.val (.ref a0), .val (.long q1), .second] [(.ref a0)])
  obtain ⟨T4, X4, e4, st4⟩ := initO X0 hx hZ hown (hw _ (List.mem_of_getElem? (i := 7) rfl)) (hw _ (List.mem_of_getElem? (i := 8) rfl)) (hw _ (List.mem_of_getElem? (i := 9) rfl)) e0 (g := (mkF m 1 #[.val (.ref a0), .val (.long q1), .second] [(.ref a0)])) rfl (by rw [hml]; rfl) rfl (hb hby d1_1) (by decide) (W := 0) (by show 2 * 0 + _ ≤ _; exact Nat.le_of_eq rfl) (by decide)
  refine OGl.go st4 ?_
  show OGl _ _ _ _ T4 (mkF m 4 #[.val (.ref a0), .val (.long q1), .second] [])
  refine OGl.go (fun t k => XS.aloadN X4.here hx rfl (hb hby d1_4) rfl rfl (XS.lloadN X4.here hx rfl (hb hby d1_5) rfl k)) ?_
  show OGl _ _ _ _ T4 (mkF m 6 #[.val (.ref a0), .val (.long q1), .second] [(.long q1), (.ref a0)])
  obtain ⟨T5, h5, X5, e5, W5, st5⟩ := putF X4 hx hZ hown (host := "") (Or.inl (hw _ (List.mem_of_getElem? (i := 10) rfl))) Via.refl e4 F1_a0 E_a0 (Or.inl (hw _ (List.mem_of_getElem? (i := 11) rfl))) (hw _ (List.mem_of_getElem? (i := 2) rfl)) (ty := .long) (by decide) rfl rfl (g := (mkF m 6 #[.val (.ref a0), .val (.long q1), .second] [(.long q1), (.ref a0)])) rfl rfl (hb hby d1_6)
  refine OGl.go st5 ?_
  have N5 := Fr.snoc X5 N0 g_a0
  have Fw5 := F1_a0.same W5
  have KK5 : Keep h0 h5 [a0] := (Keep.refl h0 [a0]).wr W5 (Or.inl (List.mem_of_getElem? (i := 0) rfl))
  show OGl _ _ _ _ T5 (mkF m 9 #[.val (.ref a0), .val (.long q1), .second] [])
  obtain ⟨fs, hr, hrun, hended, hW, hsame⟩ := X5.leave (v := none) (fun _ => rfl)
  refine ⟨_, _, X5.returnOut hx Bd.returns (hb hby d1_9) hr, hrun, hended, _, _, rfl, ?_, ⟨_, rfl⟩, hW, hsame.mono (by decide) (by decide)⟩
  show Q1 Z a0 q1 h0 n0 _ T5.heap _
  rw [e5]
  exact ⟨rfl, N5, KK5, Fw5⟩
theorem pd_0 : parseMethodDescriptor "(J)V" = some ⟨[.long], none⟩ := by decide +kernel
theorem d3_0 : decode prog_23_method_3_code 0 = .ok (.aload_n 0, 1) := by decide +kernel
theorem d3_1 : decode prog_23_method_3_code 1 = .ok (.dup, 1) := by decide +kernel
theorem d3_2 : decode prog_23_method_3_code 2 = .ok (.getfield 7, 3) := by decide +kernel
theorem d3_5 : decode prog_23_method_3_code 5 = .ok (.ldc2_w 59, 3) := by decide +kernel
theorem d3_8 : decode prog_23_method_3_code 8 = .ok (.ladd, 1) := by decide +kernel
theorem d3_9 : decode prog_23_method_3_code 9 = .ok (.putfield 7, 3) := by decide +kernel
theorem d3_12 : decode prog_23_method_3_code 12 = .ok (.aload_n 0, 1) := by decide +kernel
theorem d3_13 : decode prog_23_method_3_code 13 = .ok (.getfield 7, 3) := by decide +kernel
theorem d3_16 : decode prog_23_method_3_code 16 = .ok (.aload_n 0, 1) := by decide +kernel
theorem d3_17 : decode prog_23_method_3_code 17 = .ok (.getfield 7, 3) := by decide +kernel
theorem d3_20 : decode prog_23_method_3_code 20 = .ok (.bipush 30, 2) := by decide +kernel
theorem d3_22 : decode prog_23_method_3_code 22 = .ok (.lushr, 1) := by decide +kernel
theorem d3_23 : decode prog_23_method_3_code 23 = .ok (.lxor, 1) := by decide +kernel
theorem d3_24 : decode prog_23_method_3_code 24 = .ok (.ldc2_w 61, 3) := by decide +kernel
theorem d3_27 : decode prog_23_method_3_code 27 = .ok (.lmul, 1) := by decide +kernel
theorem d3_28 : decode prog_23_method_3_code 28 = .ok (.lstore_n 1, 1) := by decide +kernel
theorem d3_29 : decode prog_23_method_3_code 29 = .ok (.lload_n 1, 1) := by decide +kernel
theorem d3_30 : decode prog_23_method_3_code 30 = .ok (.lload_n 1, 1) := by decide +kernel
theorem d3_31 : decode prog_23_method_3_code 31 = .ok (.bipush 27, 2) := by decide +kernel
theorem d3_33 : decode prog_23_method_3_code 33 = .ok (.lushr, 1) := by decide +kernel
theorem d3_34 : decode prog_23_method_3_code 34 = .ok (.lxor, 1) := by decide +kernel
theorem d3_35 : decode prog_23_method_3_code 35 = .ok (.ldc2_w 63, 3) := by decide +kernel
theorem d3_38 : decode prog_23_method_3_code 38 = .ok (.lmul, 1) := by decide +kernel
theorem d3_39 : decode prog_23_method_3_code 39 = .ok (.lstore_n 1, 1) := by decide +kernel
theorem d3_40 : decode prog_23_method_3_code 40 = .ok (.lload_n 1, 1) := by decide +kernel
theorem d3_41 : decode prog_23_method_3_code 41 = .ok (.lload_n 1, 1) := by decide +kernel
theorem d3_42 : decode prog_23_method_3_code 42 = .ok (.bipush 31, 2) := by decide +kernel
theorem d3_44 : decode prog_23_method_3_code 44 = .ok (.lushr, 1) := by decide +kernel
theorem d3_45 : decode prog_23_method_3_code 45 = .ok (.lxor, 1) := by decide +kernel
theorem d3_46 : decode prog_23_method_3_code 46 = .ok (.lreturn, 1) := by decide +kernel
def e3_0 (q1 : Int64) : Int64 := (((q1 + (-7046029254386353131 : Int64)).toUInt64 >>> ((30 : Int32) &&& 0x3f).toInt64.toUInt64).toInt64)
def e3_1 (q1 : Int64) : Int64 := (((q1 + (-7046029254386353131 : Int64)) ^^^ (e3_0 q1)) * (-4658895280553007687 : Int64))
def e3_2 (q1 : Int64) : Int64 := (((e3_1 q1).toUInt64 >>> ((27 : Int32) &&& 0x3f).toInt64.toUInt64).toInt64)
def e3_3 (q1 : Int64) : Int64 := (((((e3_1 q1) ^^^ (e3_2 q1)) * (-7723592293110705685 : Int64)).toUInt64 >>> ((31 : Int32) &&& 0x3f).toInt64.toUInt64).toInt64)
def e3_4 (q1 : Int64) : Int64 := ((((e3_1 q1) ^^^ (e3_2 q1)) * (-7723592293110705685 : Int64)) ^^^ (e3_3 q1))
theorem ef_3 (m : MethodId) (x0 : Addr) : entryFrame m #[(.ref x0)] 3 = mkF m 0 #[.val (.ref x0), .unset, .unset] [] := by first | (simp [entryFrame, mkF, argsToLocals, Value.category]; done) | rfl
def Q3 (Z : State) (a0 : Addr) (q1 : Int64) (h0 : Heap) (n0 : Nat) (v : Option Value) (h : Heap) (L : List Loc) : Prop := v = some (.long (e3_4 q1)) ∧ Fr n0 L ∧ Keep h0 h [a0] ∧ Fld Z h a0 "com/example/nanjing/nanjing/generate/SeededStream" "state" "J" (.long (q1 + (-7046029254386353131 : Int64)))
set_option maxRecDepth 65536 in
set_option maxHeartbeats 40000000 in
theorem rm3 (l : Launch) (Z : State) (a0 : Array Value) (hw : ∀ d ∈ tables_1, d.before a0 Z = true) (ws : List Jvm.Cond) (a0 : Addr) (q1 : Int64) (h0 : Heap) (n0 : Nat) (Z0 : n0 ≤ h0.size) (F0_a0 : Fld Z h0 a0 "com/example/nanjing/nanjing/generate/SeededStream" "state" "J" (.long q1)) (E_a0 : Exa Z h0 a0 "com/example/nanjing/nanjing/generate/SeededStream") (g_a0 : n0 ≤ a0) :
    MetFree l (⟨"com/example/nanjing/nanjing/generate/SeededStream", "nextLong", "()J"⟩ : MethodName) (head1 (Jvm.Cond.code (⟨"com/example/nanjing/nanjing/generate/SeededStream", "nextLong", "()J"⟩ : MethodName) prog_23_method_3_code 3 (some .long) :: ws) ({ frames := 0, cells := 0, slots := 0, locals := 0 } : Room)) (fun a U => a = #[(.ref a0)] ∧ Z.Warmed39 U.vm ∧ U.heap = h0) (fun _ _ _ _ _ => True) (fun _ U o U' => ∃ v L, o = .returned v ∧ Q3 Z a0 q1 h0 n0 v U'.heap L ∧ FrameEnd U o U' L ({ frames := 0, cells := 0, slots := 0, locals := 0 } : Room).cells ({ frames := 0, cells := 0, slots := 0, locals := 0 } : Room).slots) := by
  refine MetFree.of_bodySF (plainFor_of_name pn_0) hisR ?_
  intro p e s m args below meth c s₁ Bd hml0 hP hK
  obtain ⟨rfl, hZ, hh⟩ := hP
  have hx := Bd.exec
  have hby := Bd.bytes
  have hml : c.maxLocals = 3 := hml0
  have hown : s.vm.findClass "com/example/nanjing/nanjing/generate/SeededStream" = some m.cls := findClass_of_methodNamed Bd.named
  have hnm := (name_of_methodNamed Bd.named Bd.method).1
  have X0 : Stand p l e ({ frames := 0, cells := 0, slots := 0, locals := 0 } : Room) s m #[(.ref a0)] below meth c s₁ [] 0 0 := Stand.of_body Bd
  have e0 : s₁.heap = h0 := by rw [← hh, Bd.state]; rfl
  have N0 := Fr.nil n0
  refine OGl.start (ef_3 m a0) ?_
  show OGl _ _ _ _ s₁ (mkF m 0 #[.val (.ref a0), .unset, .unset] [])
  refine OGl.go (fun t k => XS.aloadN X0.here hx rfl (hb hby d3_0) rfl rfl (XS.dup X0.here hx rfl (hb hby d3_1) rfl rfl k)) ?_
  show OGl _ _ _ _ s₁ (mkF m 2 #[.val (.ref a0), .unset, .unset] [(.ref a0), (.ref a0)])
  obtain ⟨T7, X7, e7, st7⟩ := getF X0 hx hZ hown (host := "") (Or.inl (hw _ (List.mem_of_getElem? (i := 10) rfl))) Via.refl e0 F0_a0 (g := (mkF m 2 #[.val (.ref a0), .unset, .unset] [(.ref a0), (.ref a0)])) rfl rfl (hb hby d3_2)
  refine OGl.go st7 ?_
  show OGl _ _ _ _ T7 (mkF m 5 #[.val (.ref a0), .unset, .unset] [(.long q1), (.ref a0)])
  refine OGl.go (fun t k => own_ldc2 X7 hx hown (mvT hZ (hw _ (List.mem_of_getElem? (i := 17) rfl))) rfl (hb hby d3_5) (XS.ladd X7.here hx rfl (hb hby d3_8) rfl k)) ?_
  show OGl _ _ _ _ T7 (mkF m 9 #[.val (.ref a0), .unset, .unset] [(.long (q1 + (-7046029254386353131 : Int64))), (.ref a0)])
  obtain ⟨T8, h8, X8, e8, W8, st8⟩ := putF X7 hx hZ hown (host := "") (Or.inl (hw _ (List.mem_of_getElem? (i := 10) rfl))) Via.refl e7 F0_a0 E_a0 (Or.inl (hw _ (List.mem_of_getElem? (i := 11) rfl))) (hw _ (List.mem_of_getElem? (i := 2) rfl)) (ty := .long) (by decide) rfl rfl (g := (mkF m 9 #[.val (.ref a0), .unset, .unset] [(.long (q1 + (-7046029254386353131 : Int64))), (.ref a0)])) rfl rfl (hb hby d3_9)
  refine OGl.go st8 ?_
  have N8 := Fr.snoc X8 N0 g_a0
  have Fw8 := F0_a0.same W8
  have KK8 : Keep h0 h8 [a0] := (Keep.refl h0 [a0]).wr W8 (Or.inl (List.mem_of_getElem? (i := 0) rfl))
  show OGl _ _ _ _ T8 (mkF m 12 #[.val (.ref a0), .unset, .unset] [])
  refine OGl.go (fun t k => XS.aloadN X8.here hx rfl (hb hby d3_12) rfl rfl k) ?_
  show OGl _ _ _ _ T8 (mkF m 13 #[.val (.ref a0), .unset, .unset] [(.ref a0)])
  obtain ⟨T9, X9, e9, st9⟩ := getF X8 hx hZ hown (host := "") (Or.inl (hw _ (List.mem_of_getElem? (i := 10) rfl))) Via.refl e8 Fw8 (g := (mkF m 13 #[.val (.ref a0), .unset, .unset] [(.ref a0)])) rfl rfl (hb hby d3_13)
  refine OGl.go st9 ?_
  show OGl _ _ _ _ T9 (mkF m 16 #[.val (.ref a0), .unset, .unset] [(.long (q1 + (-7046029254386353131 : Int64)))])
  refine OGl.go (fun t k => XS.aloadN X9.here hx rfl (hb hby d3_16) rfl rfl k) ?_
  show OGl _ _ _ _ T9 (mkF m 17 #[.val (.ref a0), .unset, .unset] [(.ref a0), (.long (q1 + (-7046029254386353131 : Int64)))])
  obtain ⟨T10, X10, e10, st10⟩ := getF X9 hx hZ hown (host := "") (Or.inl (hw _ (List.mem_of_getElem? (i := 10) rfl))) Via.refl e9 Fw8 (g := (mkF m 17 #[.val (.ref a0), .unset, .unset] [(.ref a0), (.long (q1 + (-7046029254386353131 : Int64)))])) rfl rfl (hb hby d3_17)
  refine OGl.go st10 ?_
  show OGl _ _ _ _ T10 (mkF m 20 #[.val (.ref a0), .unset, .unset] [(.long (q1 + (-7046029254386353131 : Int64))), (.long (q1 + (-7046029254386353131 : Int64)))])
  refine OGl.go (fun t k => XS.bipush X10.here hx rfl (hb hby d3_20) (XS.lushr X10.here hx rfl (hb hby d3_22) rfl (XS.lxor X10.here hx rfl (hb hby d3_23) rfl (own_ldc2 X10 hx hown (mvT hZ (hw _ (List.mem_of_getElem? (i := 18) rfl))) rfl (hb hby d3_24) (XS.lmul X10.here hx rfl (hb hby d3_27) rfl (XS.lstoreN X10.here hx rfl (hb hby d3_28) rfl (l' := #[.val (.ref a0), .val (.long (e3_1 q1)), .second]) rfl (XS.lloadN X10.here hx rfl (hb hby d3_29) rfl (XS.lloadN X10.here hx rfl (hb hby d3_30) rfl k)))))))) ?_
  show OGl _ _ _ _ T10 (mkF m 31 #[.val (.ref a0), .val (.long (e3_1 q1)), .second] [(.long (e3_1 q1)), (.long (e3_1 q1))])
  refine OGl.go (fun t k => XS.bipush X10.here hx rfl (hb hby d3_31) (XS.lushr X10.here hx rfl (hb hby d3_33) rfl (XS.lxor X10.here hx rfl (hb hby d3_34) rfl (own_ldc2 X10 hx hown (mvT hZ (hw _ (List.mem_of_getElem? (i := 19) rfl))) rfl (hb hby d3_35) (XS.lmul X10.here hx rfl (hb hby d3_38) rfl (XS.lstoreN X10.here hx rfl (hb hby d3_39) rfl (l' := #[.val (.ref a0), .val (.long (((e3_1 q1) ^^^ (e3_2 q1)) * (-7723592293110705685 : Int64))), .second]) rfl (XS.lloadN X10.here hx rfl (hb hby d3_40) rfl (XS.lloadN X10.here hx rfl (hb hby d3_41) rfl k)))))))) ?_
  show OGl _ _ _ _ T10 (mkF m 42 #[.val (.ref a0), .val (.long (((e3_1 q1) ^^^ (e3_2 q1)) * (-7723592293110705685 : Int64))), .second] [(.long (((e3_1 q1) ^^^ (e3_2 q1)) * (-7723592293110705685 : Int64))), (.long (((e3_1 q1) ^^^ (e3_2 q1)) * (-7723592293110705685 : Int64)))])
  refine OGl.go (fun t k => XS.bipush X10.here hx rfl (hb hby d3_42) (XS.lushr X10.here hx rfl (hb hby d3_44) rfl (XS.lxor X10.here hx rfl (hb hby d3_45) rfl k))) ?_
  show OGl _ _ _ _ T10 (mkF m 46 #[.val (.ref a0), .val (.long (((e3_1 q1) ^^^ (e3_2 q1)) * (-7723592293110705685 : Int64))), .second] [(.long (e3_4 q1))])
  obtain ⟨fs, hr, hrun, hended, hW, hsame⟩ := X10.leave (v := some (.long (e3_4 q1))) (fun h => by rw [Bd.returns] at h; cases h)
  refine ⟨_, _, X10.lreturnOut hx Bd.returns (hb hby d3_46) hr, hrun, hended, _, _, rfl, ?_, ⟨_, rfl⟩, hW, hsame.mono (by decide) (by decide)⟩
  show Q3 Z a0 q1 h0 n0 _ T10.heap _
  rw [e10]
  exact ⟨rfl, N8, KK8, Fw8⟩
theorem pd_1 : parseMethodDescriptor "()J" = some ⟨[], some .long⟩ := by decide +kernel
theorem d4_0 : decode method_3_code 0 = .ok (.lload_n 0, 1) := by decide +kernel
theorem d4_1 : decode method_3_code 1 = .ok (.lload_n 0, 1) := by decide +kernel
theorem d4_2 : decode method_3_code 2 = .ok (.bipush 31, 2) := by decide +kernel
theorem d4_4 : decode method_3_code 4 = .ok (.lushr, 1) := by decide +kernel
theorem d4_5 : decode method_3_code 5 = .ok (.lxor, 1) := by decide +kernel
theorem d4_6 : decode method_3_code 6 = .ok (.lload_n 0, 1) := by decide +kernel
theorem d4_7 : decode method_3_code 7 = .ok (.bipush 62, 2) := by decide +kernel
theorem d4_9 : decode method_3_code 9 = .ok (.lushr, 1) := by decide +kernel
theorem d4_10 : decode method_3_code 10 = .ok (.lxor, 1) := by decide +kernel
theorem d4_11 : decode method_3_code 11 = .ok (.lstore_n 0, 1) := by decide +kernel
theorem d4_12 : decode method_3_code 12 = .ok (.lload_n 0, 1) := by decide +kernel
theorem d4_13 : decode method_3_code 13 = .ok (.ldc2_w 9, 3) := by decide +kernel
theorem d4_16 : decode method_3_code 16 = .ok (.invokestatic 11, 3) := by decide +kernel
theorem d5_0 : decode method_2_code 0 = .ok (.lload_n 0, 1) := by decide +kernel
theorem d5_1 : decode method_2_code 1 = .ok (.lstore_n 2, 1) := by decide +kernel
theorem d5_2 : decode method_2_code 2 = .ok (.lload_n 2, 1) := by decide +kernel
theorem d5_3 : decode method_2_code 3 = .ok (.ldc2_w 7, 3) := by decide +kernel
theorem d5_6 : decode method_2_code 6 = .ok (.lload_n 0, 1) := by decide +kernel
theorem d5_7 : decode method_2_code 7 = .ok (.lload_n 2, 1) := by decide +kernel
theorem d5_8 : decode method_2_code 8 = .ok (.lmul, 1) := by decide +kernel
theorem d5_9 : decode method_2_code 9 = .ok (.lsub, 1) := by decide +kernel
theorem d5_10 : decode method_2_code 10 = .ok (.lmul, 1) := by decide +kernel
theorem d5_11 : decode method_2_code 11 = .ok (.lstore_n 2, 1) := by decide +kernel
theorem d5_12 : decode method_2_code 12 = .ok (.lload_n 2, 1) := by decide +kernel
theorem d5_13 : decode method_2_code 13 = .ok (.ldc2_w 7, 3) := by decide +kernel
theorem d5_16 : decode method_2_code 16 = .ok (.lload_n 0, 1) := by decide +kernel
theorem d5_17 : decode method_2_code 17 = .ok (.lload_n 2, 1) := by decide +kernel
theorem d5_18 : decode method_2_code 18 = .ok (.lmul, 1) := by decide +kernel
theorem d5_19 : decode method_2_code 19 = .ok (.lsub, 1) := by decide +kernel
theorem d5_20 : decode method_2_code 20 = .ok (.lmul, 1) := by decide +kernel
theorem d5_21 : decode method_2_code 21 = .ok (.lstore_n 2, 1) := by decide +kernel
theorem d5_22 : decode method_2_code 22 = .ok (.lload_n 2, 1) := by decide +kernel
theorem d5_23 : decode method_2_code 23 = .ok (.ldc2_w 7, 3) := by decide +kernel
theorem d5_26 : decode method_2_code 26 = .ok (.lload_n 0, 1) := by decide +kernel
theorem d5_27 : decode method_2_code 27 = .ok (.lload_n 2, 1) := by decide +kernel
theorem d5_28 : decode method_2_code 28 = .ok (.lmul, 1) := by decide +kernel
theorem d5_29 : decode method_2_code 29 = .ok (.lsub, 1) := by decide +kernel
theorem d5_30 : decode method_2_code 30 = .ok (.lmul, 1) := by decide +kernel
theorem d5_31 : decode method_2_code 31 = .ok (.lstore_n 2, 1) := by decide +kernel
theorem d5_32 : decode method_2_code 32 = .ok (.lload_n 2, 1) := by decide +kernel
theorem d5_33 : decode method_2_code 33 = .ok (.ldc2_w 7, 3) := by decide +kernel
theorem d5_36 : decode method_2_code 36 = .ok (.lload_n 0, 1) := by decide +kernel
theorem d5_37 : decode method_2_code 37 = .ok (.lload_n 2, 1) := by decide +kernel
theorem d5_38 : decode method_2_code 38 = .ok (.lmul, 1) := by decide +kernel
theorem d5_39 : decode method_2_code 39 = .ok (.lsub, 1) := by decide +kernel
theorem d5_40 : decode method_2_code 40 = .ok (.lmul, 1) := by decide +kernel
theorem d5_41 : decode method_2_code 41 = .ok (.lstore_n 2, 1) := by decide +kernel
theorem d5_42 : decode method_2_code 42 = .ok (.lload_n 2, 1) := by decide +kernel
theorem d5_43 : decode method_2_code 43 = .ok (.ldc2_w 7, 3) := by decide +kernel
theorem d5_46 : decode method_2_code 46 = .ok (.lload_n 0, 1) := by decide +kernel
theorem d5_47 : decode method_2_code 47 = .ok (.lload_n 2, 1) := by decide +kernel
theorem d5_48 : decode method_2_code 48 = .ok (.lmul, 1) := by decide +kernel
theorem d5_49 : decode method_2_code 49 = .ok (.lsub, 1) := by decide +kernel
theorem d5_50 : decode method_2_code 50 = .ok (.lmul, 1) := by decide +kernel
theorem d5_51 : decode method_2_code 51 = .ok (.lstore_n 2, 1) := by decide +kernel
theorem d5_52 : decode method_2_code 52 = .ok (.lload_n 2, 1) := by decide +kernel
theorem d5_53 : decode method_2_code 53 = .ok (.lreturn, 1) := by decide +kernel
theorem ef_5 (m : MethodId) (x0 : Int64) : entryFrame m #[(.long x0)] 4 = mkF m 0 #[.val (.long x0), .second, .unset, .unset] [] := by first | (simp [entryFrame, mkF, argsToLocals, Value.category]; done) | rfl
theorem pn_1 : plainName "com/example/nanjing/nanjing/generate/SeededStreamNextLongPinLaw" = true := by first | (simp [plainName, overriddenIn]; done) | decide +kernel
def Q5 (Z : State)  (h0 : Heap) (n0 : Nat) (v : Option Value) (h : Heap) (L : List Loc) : Prop := v = some (.long (3573116690164977347 : Int64)) ∧ Fr n0 L ∧ h = h0
set_option maxRecDepth 65536 in
set_option maxHeartbeats 40000000 in
theorem rm5 (l : Launch) (Z : State) (a0 : Array Value) (hw : ∀ d ∈ tables_1, d.before a0 Z = true) (ws : List Jvm.Cond)  (h0 : Heap) (n0 : Nat) (Z0 : n0 ≤ h0.size) :
    MetFree l (⟨"com/example/nanjing/nanjing/generate/SeededStreamNextLongPinLaw", "inverse", "(J)J"⟩ : MethodName) (head1 (Jvm.Cond.code (⟨"com/example/nanjing/nanjing/generate/SeededStreamNextLongPinLaw", "inverse", "(J)J"⟩ : MethodName) method_2_code 4 (some .long) :: ws) ({ frames := 0, cells := 0, slots := 0, locals := 0 } : Room)) (fun a U => a = #[(.long (-7723592293110705685 : Int64))] ∧ Z.Warmed39 U.vm ∧ U.heap = h0) (fun _ _ _ _ _ => True) (fun _ U o U' => ∃ v L, o = .returned v ∧ Q5 Z  h0 n0 v U'.heap L ∧ FrameEnd U o U' L ({ frames := 0, cells := 0, slots := 0, locals := 0 } : Room).cells ({ frames := 0, cells := 0, slots := 0, locals := 0 } : Room).slots) := by
  refine MetFree.of_bodySF (plainFor_of_name pn_1) hisR ?_
  intro p e s m args below meth c s₁ Bd hml0 hP hK
  obtain ⟨rfl, hZ, hh⟩ := hP
  have hx := Bd.exec
  have hby := Bd.bytes
  have hml : c.maxLocals = 4 := hml0
  have hown : s.vm.findClass "com/example/nanjing/nanjing/generate/SeededStreamNextLongPinLaw" = some m.cls := findClass_of_methodNamed Bd.named
  have hnm := (name_of_methodNamed Bd.named Bd.method).1
  have X0 : Stand p l e ({ frames := 0, cells := 0, slots := 0, locals := 0 } : Room) s m #[(.long (-7723592293110705685 : Int64))] below meth c s₁ [] 0 0 := Stand.of_body Bd
  have e0 : s₁.heap = h0 := by rw [← hh, Bd.state]; rfl
  have N0 := Fr.nil n0
  refine OGl.start (ef_5 m (-7723592293110705685 : Int64)) ?_
  show OGl _ _ _ _ s₁ (mkF m 0 #[.val (.long (-7723592293110705685 : Int64)), .second, .unset, .unset] [])
  refine OGl.go (fun t k => XS.lloadN X0.here hx rfl (hb hby d5_0) rfl (XS.lstoreN X0.here hx rfl (hb hby d5_1) rfl (l' := #[.val (.long (-7723592293110705685 : Int64)), .second, .val (.long (-7723592293110705685 : Int64)), .second]) rfl (XS.lloadN X0.here hx rfl (hb hby d5_2) rfl (own_ldc2 X0 hx hown (mvT hZ (hw _ (List.mem_of_getElem? (i := 28) rfl))) rfl (hb hby d5_3) (XS.lloadN X0.here hx rfl (hb hby d5_6) rfl (XS.lloadN X0.here hx rfl (hb hby d5_7) rfl (XS.lmul X0.here hx rfl (hb hby d5_8) rfl (XS.lsub X0.here hx rfl (hb hby d5_9) rfl k)))))))) ?_
  show OGl _ _ _ _ s₁ (mkF m 10 #[.val (.long (-7723592293110705685 : Int64)), .second, .val (.long (-7723592293110705685 : Int64)), .second] [(.long (2506106533470335561 : Int64)), (.long (-7723592293110705685 : Int64))])
  refine OGl.go (fun t k => XS.lmul X0.here hx rfl (hb hby d5_10) rfl (XS.lstoreN X0.here hx rfl (hb hby d5_11) rfl (l' := #[.val (.long (-7723592293110705685 : Int64)), .second, .val (.long (-46693593342655997 : Int64)), .second]) rfl (XS.lloadN X0.here hx rfl (hb hby d5_12) rfl (own_ldc2 X0 hx hown (mvT hZ (hw _ (List.mem_of_getElem? (i := 28) rfl))) rfl (hb hby d5_13) (XS.lloadN X0.here hx rfl (hb hby d5_16) rfl (XS.lloadN X0.here hx rfl (hb hby d5_17) rfl (XS.lmul X0.here hx rfl (hb hby d5_18) rfl (XS.lsub X0.here hx rfl (hb hby d5_19) rfl k)))))))) ?_
  show OGl _ _ _ _ s₁ (mkF m 20 #[.val (.long (-7723592293110705685 : Int64)), .second, .val (.long (-46693593342655997 : Int64)), .second] [(.long (-2757642028831722431 : Int64)), (.long (-46693593342655997 : Int64))])
  refine OGl.go (fun t k => XS.lmul X0.here hx rfl (hb hby d5_20) rfl (XS.lstoreN X0.here hx rfl (hb hby d5_21) rfl (l' := #[.val (.long (-7723592293110705685 : Int64)), .second, .val (.long (-8600650570905985341 : Int64)), .second]) rfl (XS.lloadN X0.here hx rfl (hb hby d5_22) rfl (own_ldc2 X0 hx hown (mvT hZ (hw _ (List.mem_of_getElem? (i := 28) rfl))) rfl (hb hby d5_23) (XS.lloadN X0.here hx rfl (hb hby d5_26) rfl (XS.lloadN X0.here hx rfl (hb hby d5_27) rfl (XS.lmul X0.here hx rfl (hb hby d5_28) rfl (XS.lsub X0.here hx rfl (hb hby d5_29) rfl k)))))))) ?_
  show OGl _ _ _ _ s₁ (mkF m 30 #[.val (.long (-7723592293110705685 : Int64)), .second, .val (.long (-8600650570905985341 : Int64)), .second] [(.long (637534387594465281 : Int64)), (.long (-8600650570905985341 : Int64))])
  refine OGl.go (fun t k => XS.lmul X0.here hx rfl (hb hby d5_30) rfl (XS.lstoreN X0.here hx rfl (hb hby d5_31) rfl (l' := #[.val (.long (-7723592293110705685 : Int64)), .second, .val (.long (-8904469923522310461 : Int64)), .second]) rfl (XS.lloadN X0.here hx rfl (hb hby d5_32) rfl (own_ldc2 X0 hx hown (mvT hZ (hw _ (List.mem_of_getElem? (i := 28) rfl))) rfl (hb hby d5_33) (XS.lloadN X0.here hx rfl (hb hby d5_36) rfl (XS.lloadN X0.here hx rfl (hb hby d5_37) rfl (XS.lmul X0.here hx rfl (hb hby d5_38) rfl (XS.lsub X0.here hx rfl (hb hby d5_39) rfl k)))))))) ?_
  show OGl _ _ _ _ s₁ (mkF m 40 #[.val (.long (-7723592293110705685 : Int64)), .second, .val (.long (-8904469923522310461 : Int64)), .second] [(.long (2485260188148301825 : Int64)), (.long (-8904469923522310461 : Int64))])
  refine OGl.go (fun t k => XS.lmul X0.here hx rfl (hb hby d5_40) rfl (XS.lstoreN X0.here hx rfl (hb hby d5_41) rfl (l' := #[.val (.long (-7723592293110705685 : Int64)), .second, .val (.long (4274833807104642755 : Int64)), .second]) rfl (XS.lloadN X0.here hx rfl (hb hby d5_42) rfl (own_ldc2 X0 hx hown (mvT hZ (hw _ (List.mem_of_getElem? (i := 28) rfl))) rfl (hb hby d5_43) (XS.lloadN X0.here hx rfl (hb hby d5_46) rfl (XS.lloadN X0.here hx rfl (hb hby d5_47) rfl (XS.lmul X0.here hx rfl (hb hby d5_48) rfl (XS.lsub X0.here hx rfl (hb hby d5_49) rfl k)))))))) ?_
  show OGl _ _ _ _ s₁ (mkF m 50 #[.val (.long (-7723592293110705685 : Int64)), .second, .val (.long (4274833807104642755 : Int64)), .second] [(.long (-9042946576783245311 : Int64)), (.long (4274833807104642755 : Int64))])
  refine OGl.go (fun t k => XS.lmul X0.here hx rfl (hb hby d5_50) rfl (XS.lstoreN X0.here hx rfl (hb hby d5_51) rfl (l' := #[.val (.long (-7723592293110705685 : Int64)), .second, .val (.long (3573116690164977347 : Int64)), .second]) rfl (XS.lloadN X0.here hx rfl (hb hby d5_52) rfl k))) ?_
  show OGl _ _ _ _ s₁ (mkF m 53 #[.val (.long (-7723592293110705685 : Int64)), .second, .val (.long (3573116690164977347 : Int64)), .second] [(.long (3573116690164977347 : Int64))])
  obtain ⟨fs, hr, hrun, hended, hW, hsame⟩ := X0.leave (v := some (.long (3573116690164977347 : Int64))) (fun h => by rw [Bd.returns] at h; cases h)
  refine ⟨_, _, X0.lreturnOut hx Bd.returns (hb hby d5_53) hr, hrun, hended, _, _, rfl, ?_, ⟨_, rfl⟩, hW, hsame.mono (by decide) (by decide)⟩
  show Q5 Z  h0 n0 _ s₁.heap _
  rw [e0]
  exact ⟨rfl, N0, rfl⟩
theorem pd_2 : parseMethodDescriptor "(J)J" = some ⟨[.long], some .long⟩ := by decide +kernel
theorem d4_19 : decode method_3_code 19 = .ok (.lmul, 1) := by decide +kernel
theorem d4_20 : decode method_3_code 20 = .ok (.lstore_n 0, 1) := by decide +kernel
theorem d4_21 : decode method_3_code 21 = .ok (.lload_n 0, 1) := by decide +kernel
theorem d4_22 : decode method_3_code 22 = .ok (.lload_n 0, 1) := by decide +kernel
theorem d4_23 : decode method_3_code 23 = .ok (.bipush 27, 2) := by decide +kernel
theorem d4_25 : decode method_3_code 25 = .ok (.lushr, 1) := by decide +kernel
theorem d4_26 : decode method_3_code 26 = .ok (.lxor, 1) := by decide +kernel
theorem d4_27 : decode method_3_code 27 = .ok (.lload_n 0, 1) := by decide +kernel
theorem d4_28 : decode method_3_code 28 = .ok (.bipush 54, 2) := by decide +kernel
theorem d4_30 : decode method_3_code 30 = .ok (.lushr, 1) := by decide +kernel
theorem d4_31 : decode method_3_code 31 = .ok (.lxor, 1) := by decide +kernel
theorem d4_32 : decode method_3_code 32 = .ok (.lstore_n 0, 1) := by decide +kernel
theorem d4_33 : decode method_3_code 33 = .ok (.lload_n 0, 1) := by decide +kernel
theorem d4_34 : decode method_3_code 34 = .ok (.ldc2_w 17, 3) := by decide +kernel
theorem d4_37 : decode method_3_code 37 = .ok (.invokestatic 11, 3) := by decide +kernel
def Q5a (Z : State)  (h0 : Heap) (n0 : Nat) (v : Option Value) (h : Heap) (L : List Loc) : Prop := v = some (.long (-7575587736534282103 : Int64)) ∧ Fr n0 L ∧ h = h0
set_option maxRecDepth 65536 in
set_option maxHeartbeats 40000000 in
theorem rm5a (l : Launch) (Z : State) (a0 : Array Value) (hw : ∀ d ∈ tables_1, d.before a0 Z = true) (ws : List Jvm.Cond)  (h0 : Heap) (n0 : Nat) (Z0 : n0 ≤ h0.size) :
    MetFree l (⟨"com/example/nanjing/nanjing/generate/SeededStreamNextLongPinLaw", "inverse", "(J)J"⟩ : MethodName) (head1 (Jvm.Cond.code (⟨"com/example/nanjing/nanjing/generate/SeededStreamNextLongPinLaw", "inverse", "(J)J"⟩ : MethodName) method_2_code 4 (some .long) :: ws) ({ frames := 0, cells := 0, slots := 0, locals := 0 } : Room)) (fun a U => a = #[(.long (-4658895280553007687 : Int64))] ∧ Z.Warmed39 U.vm ∧ U.heap = h0) (fun _ _ _ _ _ => True) (fun _ U o U' => ∃ v L, o = .returned v ∧ Q5a Z  h0 n0 v U'.heap L ∧ FrameEnd U o U' L ({ frames := 0, cells := 0, slots := 0, locals := 0 } : Room).cells ({ frames := 0, cells := 0, slots := 0, locals := 0 } : Room).slots) := by
  refine MetFree.of_bodySF (plainFor_of_name pn_1) hisR ?_
  intro p e s m args below meth c s₁ Bd hml0 hP hK
  obtain ⟨rfl, hZ, hh⟩ := hP
  have hx := Bd.exec
  have hby := Bd.bytes
  have hml : c.maxLocals = 4 := hml0
  have hown : s.vm.findClass "com/example/nanjing/nanjing/generate/SeededStreamNextLongPinLaw" = some m.cls := findClass_of_methodNamed Bd.named
  have hnm := (name_of_methodNamed Bd.named Bd.method).1
  have X0 : Stand p l e ({ frames := 0, cells := 0, slots := 0, locals := 0 } : Room) s m #[(.long (-4658895280553007687 : Int64))] below meth c s₁ [] 0 0 := Stand.of_body Bd
  have e0 : s₁.heap = h0 := by rw [← hh, Bd.state]; rfl
  have N0 := Fr.nil n0
  refine OGl.start (ef_5 m (-4658895280553007687 : Int64)) ?_
  show OGl _ _ _ _ s₁ (mkF m 0 #[.val (.long (-4658895280553007687 : Int64)), .second, .unset, .unset] [])
  refine OGl.go (fun t k => XS.lloadN X0.here hx rfl (hb hby d5_0) rfl (XS.lstoreN X0.here hx rfl (hb hby d5_1) rfl (l' := #[.val (.long (-4658895280553007687 : Int64)), .second, .val (.long (-4658895280553007687 : Int64)), .second]) rfl (XS.lloadN X0.here hx rfl (hb hby d5_2) rfl (own_ldc2 X0 hx hown (mvT hZ (hw _ (List.mem_of_getElem? (i := 28) rfl))) rfl (hb hby d5_3) (XS.lloadN X0.here hx rfl (hb hby d5_6) rfl (XS.lloadN X0.here hx rfl (hb hby d5_7) rfl (XS.lmul X0.here hx rfl (hb hby d5_8) rfl (XS.lsub X0.here hx rfl (hb hby d5_9) rfl k)))))))) ?_
  show OGl _ _ _ _ s₁ (mkF m 10 #[.val (.long (-4658895280553007687 : Int64)), .second, .val (.long (-4658895280553007687 : Int64)), .second] [(.long (7869164637350232145 : Int64)), (.long (-4658895280553007687 : Int64))])
  refine OGl.go (fun t k => XS.lmul X0.here hx rfl (hb hby d5_10) rfl (XS.lstoreN X0.here hx rfl (hb hby d5_11) rfl (l' := #[.val (.long (-4658895280553007687 : Int64)), .second, .val (.long (-1950367960681664631 : Int64)), .second]) rfl (XS.lloadN X0.here hx rfl (hb hby d5_12) rfl (own_ldc2 X0 hx hown (mvT hZ (hw _ (List.mem_of_getElem? (i := 28) rfl))) rfl (hb hby d5_13) (XS.lloadN X0.here hx rfl (hb hby d5_16) rfl (XS.lloadN X0.here hx rfl (hb hby d5_17) rfl (XS.lmul X0.here hx rfl (hb hby d5_18) rfl (XS.lsub X0.here hx rfl (hb hby d5_19) rfl k)))))))) ?_
  show OGl _ _ _ _ s₁ (mkF m 20 #[.val (.long (-4658895280553007687 : Int64)), .second, .val (.long (-1950367960681664631 : Int64)), .second] [(.long (-6245355300859143935 : Int64)), (.long (-1950367960681664631 : Int64))])
  refine OGl.go (fun t k => XS.lmul X0.here hx rfl (hb hby d5_20) rfl (XS.lstoreN X0.here hx rfl (hb hby d5_21) rfl (l' := #[.val (.long (-4658895280553007687 : Int64)), .second, .val (.long (2203917495349842057 : Int64)), .second]) rfl (XS.lloadN X0.here hx rfl (hb hby d5_22) rfl (own_ldc2 X0 hx hown (mvT hZ (hw _ (List.mem_of_getElem? (i := 28) rfl))) rfl (hb hby d5_23) (XS.lloadN X0.here hx rfl (hb hby d5_26) rfl (XS.lloadN X0.here hx rfl (hb hby d5_27) rfl (XS.lmul X0.here hx rfl (hb hby d5_28) rfl (XS.lsub X0.here hx rfl (hb hby d5_29) rfl k)))))))) ?_
  show OGl _ _ _ _ s₁ (mkF m 30 #[.val (.long (-4658895280553007687 : Int64)), .second, .val (.long (2203917495349842057 : Int64)), .second] [(.long (-1070253961011724287 : Int64)), (.long (2203917495349842057 : Int64))])
  refine OGl.go (fun t k => XS.lmul X0.here hx rfl (hb hby d5_30) rfl (XS.lstoreN X0.here hx rfl (hb hby d5_31) rfl (l' := #[.val (.long (-4658895280553007687 : Int64)), .second, .val (.long (2756543469426151561 : Int64)), .second]) rfl (XS.lloadN X0.here hx rfl (hb hby d5_32) rfl (own_ldc2 X0 hx hown (mvT hZ (hw _ (List.mem_of_getElem? (i := 28) rfl))) rfl (hb hby d5_33) (XS.lloadN X0.here hx rfl (hb hby d5_36) rfl (XS.lloadN X0.here hx rfl (hb hby d5_37) rfl (XS.lmul X0.here hx rfl (hb hby d5_38) rfl (XS.lsub X0.here hx rfl (hb hby d5_39) rfl k)))))))) ?_
  show OGl _ _ _ _ s₁ (mkF m 40 #[.val (.long (-4658895280553007687 : Int64)), .second, .val (.long (2756543469426151561 : Int64)), .second] [(.long (-8638830007231184895 : Int64)), (.long (2756543469426151561 : Int64))])
  refine OGl.go (fun t k => XS.lmul X0.here hx rfl (hb hby d5_40) rfl (XS.lstoreN X0.here hx rfl (hb hby d5_41) rfl (l' := #[.val (.long (-4658895280553007687 : Int64)), .second, .val (.long (-7575587736534282103 : Int64)), .second]) rfl (XS.lloadN X0.here hx rfl (hb hby d5_42) rfl (own_ldc2 X0 hx hown (mvT hZ (hw _ (List.mem_of_getElem? (i := 28) rfl))) rfl (hb hby d5_43) (XS.lloadN X0.here hx rfl (hb hby d5_46) rfl (XS.lloadN X0.here hx rfl (hb hby d5_47) rfl (XS.lmul X0.here hx rfl (hb hby d5_48) rfl (XS.lsub X0.here hx rfl (hb hby d5_49) rfl k)))))))) ?_
  show OGl _ _ _ _ s₁ (mkF m 50 #[.val (.long (-4658895280553007687 : Int64)), .second, .val (.long (-7575587736534282103 : Int64)), .second] [(.long (1 : Int64)), (.long (-7575587736534282103 : Int64))])
  refine OGl.go (fun t k => XS.lmul X0.here hx rfl (hb hby d5_50) rfl (XS.lstoreN X0.here hx rfl (hb hby d5_51) rfl (l' := #[.val (.long (-4658895280553007687 : Int64)), .second, .val (.long (-7575587736534282103 : Int64)), .second]) rfl (XS.lloadN X0.here hx rfl (hb hby d5_52) rfl k))) ?_
  show OGl _ _ _ _ s₁ (mkF m 53 #[.val (.long (-4658895280553007687 : Int64)), .second, .val (.long (-7575587736534282103 : Int64)), .second] [(.long (-7575587736534282103 : Int64))])
  obtain ⟨fs, hr, hrun, hended, hW, hsame⟩ := X0.leave (v := some (.long (-7575587736534282103 : Int64))) (fun h => by rw [Bd.returns] at h; cases h)
  refine ⟨_, _, X0.lreturnOut hx Bd.returns (hb hby d5_53) hr, hrun, hended, _, _, rfl, ?_, ⟨_, rfl⟩, hW, hsame.mono (by decide) (by decide)⟩
  show Q5a Z  h0 n0 _ s₁.heap _
  rw [e0]
  exact ⟨rfl, N0, rfl⟩
theorem d4_40 : decode method_3_code 40 = .ok (.lmul, 1) := by decide +kernel
theorem d4_41 : decode method_3_code 41 = .ok (.lstore_n 0, 1) := by decide +kernel
theorem d4_42 : decode method_3_code 42 = .ok (.lload_n 0, 1) := by decide +kernel
theorem d4_43 : decode method_3_code 43 = .ok (.lload_n 0, 1) := by decide +kernel
theorem d4_44 : decode method_3_code 44 = .ok (.bipush 30, 2) := by decide +kernel
theorem d4_46 : decode method_3_code 46 = .ok (.lushr, 1) := by decide +kernel
theorem d4_47 : decode method_3_code 47 = .ok (.lxor, 1) := by decide +kernel
theorem d4_48 : decode method_3_code 48 = .ok (.lload_n 0, 1) := by decide +kernel
theorem d4_49 : decode method_3_code 49 = .ok (.bipush 60, 2) := by decide +kernel
theorem d4_51 : decode method_3_code 51 = .ok (.lushr, 1) := by decide +kernel
theorem d4_52 : decode method_3_code 52 = .ok (.lxor, 1) := by decide +kernel
theorem d4_53 : decode method_3_code 53 = .ok (.lstore_n 0, 1) := by decide +kernel
theorem d4_54 : decode method_3_code 54 = .ok (.lload_n 0, 1) := by decide +kernel
theorem d4_55 : decode method_3_code 55 = .ok (.lreturn, 1) := by decide +kernel
def e4_0 (q0 : Int64) : Int64 := (q0 ^^^ ((q0.toUInt64 >>> ((31 : Int32) &&& 0x3f).toInt64.toUInt64).toInt64))
def e4_1 (q0 : Int64) : Int64 := ((e4_0 q0) ^^^ ((q0.toUInt64 >>> ((62 : Int32) &&& 0x3f).toInt64.toUInt64).toInt64))
def e4_2 (q0 : Int64) : Int64 := ((((e4_1 q0) * (3573116690164977347 : Int64)).toUInt64 >>> ((27 : Int32) &&& 0x3f).toInt64.toUInt64).toInt64)
def e4_3 (q0 : Int64) : Int64 := ((((e4_1 q0) * (3573116690164977347 : Int64)).toUInt64 >>> ((54 : Int32) &&& 0x3f).toInt64.toUInt64).toInt64)
def e4_4 (q0 : Int64) : Int64 := ((((e4_1 q0) * (3573116690164977347 : Int64)) ^^^ (e4_2 q0)) ^^^ (e4_3 q0))
def e4_5 (q0 : Int64) : Int64 := ((((e4_4 q0) * (-7575587736534282103 : Int64)).toUInt64 >>> ((30 : Int32) &&& 0x3f).toInt64.toUInt64).toInt64)
def e4_6 (q0 : Int64) : Int64 := ((((e4_4 q0) * (-7575587736534282103 : Int64)).toUInt64 >>> ((60 : Int32) &&& 0x3f).toInt64.toUInt64).toInt64)
def e4_7 (q0 : Int64) : Int64 := ((((e4_4 q0) * (-7575587736534282103 : Int64)) ^^^ (e4_5 q0)) ^^^ (e4_6 q0))
theorem ef_4 (m : MethodId) (x0 : Int64) : entryFrame m #[(.long x0)] 2 = mkF m 0 #[.val (.long x0), .second] [] := by first | (simp [entryFrame, mkF, argsToLocals, Value.category]; done) | rfl
def Q4 (Z : State) (q0 : Int64) (h0 : Heap) (n0 : Nat) (v : Option Value) (h : Heap) (L : List Loc) : Prop := v = some (.long (e4_7 q0)) ∧ Fr n0 L ∧ h = h0
set_option maxRecDepth 65536 in
set_option maxHeartbeats 40000000 in
theorem rm4 (l : Launch) (Z : State) (a0 : Array Value) (hw : ∀ d ∈ tables_1, d.before a0 Z = true) (ws : List Jvm.Cond) (q0 : Int64) (h0 : Heap) (n0 : Nat) (Z0 : n0 ≤ h0.size) :
    MetFree l (⟨"com/example/nanjing/nanjing/generate/SeededStreamNextLongPinLaw", "unmix", "(J)J"⟩ : MethodName) (head1 (Jvm.Cond.code (⟨"com/example/nanjing/nanjing/generate/SeededStreamNextLongPinLaw", "unmix", "(J)J"⟩ : MethodName) method_3_code 2 (some .long) :: ws) ({ frames := 1, cells := 0, slots := 0, locals := 17 } : Room)) (fun a U => a = #[(.long q0)] ∧ Z.Warmed39 U.vm ∧ U.heap = h0) (fun _ _ _ _ _ => True) (fun _ U o U' => ∃ v L, o = .returned v ∧ Q4 Z q0 h0 n0 v U'.heap L ∧ FrameEnd U o U' L ({ frames := 1, cells := 0, slots := 0, locals := 17 } : Room).cells ({ frames := 1, cells := 0, slots := 0, locals := 17 } : Room).slots) := by
  refine MetFree.of_bodySF (plainFor_of_name pn_1) hisR ?_
  intro p e s m args below meth c s₁ Bd hml0 hP hK
  obtain ⟨rfl, hZ, hh⟩ := hP
  have hx := Bd.exec
  have hby := Bd.bytes
  have hml : c.maxLocals = 2 := hml0
  have hown : s.vm.findClass "com/example/nanjing/nanjing/generate/SeededStreamNextLongPinLaw" = some m.cls := findClass_of_methodNamed Bd.named
  have hnm := (name_of_methodNamed Bd.named Bd.method).1
  have X0 : Stand p l e ({ frames := 1, cells := 0, slots := 0, locals := 17 } : Room) s m #[(.long q0)] below meth c s₁ [] 0 0 := Stand.of_body Bd
  have e0 : s₁.heap = h0 := by rw [← hh, Bd.state]; rfl
  have N0 := Fr.nil n0
  refine OGl.start (ef_4 m q0) ?_
  show OGl _ _ _ _ s₁ (mkF m 0 #[.val (.long q0), .second] [])
  refine OGl.go (fun t k => XS.lloadN X0.here hx rfl (hb hby d4_0) rfl (XS.lloadN X0.here hx rfl (hb hby d4_1) rfl (XS.bipush X0.here hx rfl (hb hby d4_2) (XS.lushr X0.here hx rfl (hb hby d4_4) rfl (XS.lxor X0.here hx rfl (hb hby d4_5) rfl (XS.lloadN X0.here hx rfl (hb hby d4_6) rfl (XS.bipush X0.here hx rfl (hb hby d4_7) (XS.lushr X0.here hx rfl (hb hby d4_9) rfl k)))))))) ?_
  show OGl _ _ _ _ s₁ (mkF m 10 #[.val (.long q0), .second] [(.long ((q0.toUInt64 >>> ((62 : Int32) &&& 0x3f).toInt64.toUInt64).toInt64)), (.long (e4_0 q0))])
  refine OGl.go (fun t k => XS.lxor X0.here hx rfl (hb hby d4_10) rfl (XS.lstoreN X0.here hx rfl (hb hby d4_11) rfl (l' := #[.val (.long (e4_1 q0)), .second]) rfl (XS.lloadN X0.here hx rfl (hb hby d4_12) rfl (own_ldc2 X0 hx hown (mvT hZ (hw _ (List.mem_of_getElem? (i := 24) rfl))) rfl (hb hby d4_13) k)))) ?_
  show OGl _ _ _ _ s₁ (mkF m 16 #[.val (.long (e4_1 q0)), .second] [(.long (-7723592293110705685 : Int64)), (.long (e4_1 q0))])
  obtain ⟨_, _, ⟨T17, L17, kk17, n17⟩, -, X17, ⟨Lc17, hQ17, l17, y17, z17⟩, st17⟩ := Jvm.LawKit.callS X0 hx (y := (⟨"com/example/nanjing/nanjing/generate/SeededStreamNextLongPinLaw", "inverse", "(J)J"⟩ : MethodName)) hown (mvT hZ (hw _ (List.mem_of_getElem? (i := 25) rfl))) (mvT hZ (hw _ (List.mem_of_getElem? (i := 26) rfl))) (mvT hZ (hw _ (List.mem_of_getElem? (i := 22) rfl))) (mvT hZ (hw _ (List.mem_of_getElem? (i := 27) rfl))) (by decide) (backOf (W := 2) (rm5 l Z a0 hw []  h0 n0 Z0 ) hZ (hw _ (List.mem_of_getElem? (i := 27) rfl)) (hw _ (List.mem_of_getElem? (i := 22) rfl)) (by decide) (by decide)) (g := (mkF m 16 #[.val (.long (e4_1 q0)), .second] [(.long (-7723592293110705685 : Int64)), (.long (e4_1 q0))])) rfl (by rw [hml]; rfl) (argsL := [(.long (-7723592293110705685 : Int64))]) (rest := [(.long (e4_1 q0))]) (lenOf pd_2 rfl) rfl (by show 2 * 0 + _ ≤ _; exact Nat.le_of_eq rfl) (hb hby d4_16) (fun _ _ => ⟨rfl, e0, (by decide : 0 + 0 ≤ _), (by decide : 0 + 0 ≤ _)⟩)
  dsimp only [Pt.U, Pt.locs, Pt.cells, Pt.slots] at X17 l17 y17 z17 st17 hQ17
  subst l17 y17 z17
  obtain ⟨rfl, Nq17, e17⟩ := hQ17
  have N17 := Fr.app N0 Nq17
  refine OGl.go st17 ?_
  show OGl _ _ _ _ T17 (mkF m 19 #[.val (.long (e4_1 q0)), .second] [(.long (3573116690164977347 : Int64)), (.long (e4_1 q0))])
  refine OGl.go (fun t k => XS.lmul X17.here hx rfl (hb hby d4_19) rfl (XS.lstoreN X17.here hx rfl (hb hby d4_20) rfl (l' := #[.val (.long ((e4_1 q0) * (3573116690164977347 : Int64))), .second]) rfl (XS.lloadN X17.here hx rfl (hb hby d4_21) rfl (XS.lloadN X17.here hx rfl (hb hby d4_22) rfl (XS.bipush X17.here hx rfl (hb hby d4_23) (XS.lushr X17.here hx rfl (hb hby d4_25) rfl (XS.lxor X17.here hx rfl (hb hby d4_26) rfl (XS.lloadN X17.here hx rfl (hb hby d4_27) rfl k)))))))) ?_
  show OGl _ _ _ _ T17 (mkF m 28 #[.val (.long ((e4_1 q0) * (3573116690164977347 : Int64))), .second] [(.long ((e4_1 q0) * (3573116690164977347 : Int64))), (.long (((e4_1 q0) * (3573116690164977347 : Int64)) ^^^ (e4_2 q0)))])
  refine OGl.go (fun t k => XS.bipush X17.here hx rfl (hb hby d4_28) (XS.lushr X17.here hx rfl (hb hby d4_30) rfl (XS.lxor X17.here hx rfl (hb hby d4_31) rfl (XS.lstoreN X17.here hx rfl (hb hby d4_32) rfl (l' := #[.val (.long (e4_4 q0)), .second]) rfl (XS.lloadN X17.here hx rfl (hb hby d4_33) rfl (own_ldc2 X17 hx hown (mvT hZ (hw _ (List.mem_of_getElem? (i := 29) rfl))) rfl (hb hby d4_34) k)))))) ?_
  show OGl _ _ _ _ T17 (mkF m 37 #[.val (.long (e4_4 q0)), .second] [(.long (-4658895280553007687 : Int64)), (.long (e4_4 q0))])
  obtain ⟨_, _, ⟨T18, L18, kk18, n18⟩, -, X18, ⟨Lc18, hQ18, l18, y18, z18⟩, st18⟩ := Jvm.LawKit.callS X17 hx (y := (⟨"com/example/nanjing/nanjing/generate/SeededStreamNextLongPinLaw", "inverse", "(J)J"⟩ : MethodName)) hown (mvT hZ (hw _ (List.mem_of_getElem? (i := 25) rfl))) (mvT hZ (hw _ (List.mem_of_getElem? (i := 26) rfl))) (mvT hZ (hw _ (List.mem_of_getElem? (i := 22) rfl))) (mvT hZ (hw _ (List.mem_of_getElem? (i := 27) rfl))) (by decide) (backOf (W := 2) (rm5a l Z a0 hw []  h0 n0 Z0 ) hZ (hw _ (List.mem_of_getElem? (i := 27) rfl)) (hw _ (List.mem_of_getElem? (i := 22) rfl)) (by decide) (by decide)) (g := (mkF m 37 #[.val (.long (e4_4 q0)), .second] [(.long (-4658895280553007687 : Int64)), (.long (e4_4 q0))])) rfl (by rw [hml]; rfl) (argsL := [(.long (-4658895280553007687 : Int64))]) (rest := [(.long (e4_4 q0))]) (lenOf pd_2 rfl) rfl (by show 2 * 0 + _ ≤ _; exact Nat.le_of_eq rfl) (hb hby d4_37) (fun _ _ => ⟨rfl, e17, (by decide : 0 + 0 ≤ _), (by decide : 0 + 0 ≤ _)⟩)
  dsimp only [Pt.U, Pt.locs, Pt.cells, Pt.slots] at X18 l18 y18 z18 st18 hQ18
  subst l18 y18 z18
  obtain ⟨rfl, Nq18, e18⟩ := hQ18
  have N18 := Fr.app N17 Nq18
  refine OGl.go st18 ?_
  show OGl _ _ _ _ T18 (mkF m 40 #[.val (.long (e4_4 q0)), .second] [(.long (-7575587736534282103 : Int64)), (.long (e4_4 q0))])
  refine OGl.go (fun t k => XS.lmul X18.here hx rfl (hb hby d4_40) rfl (XS.lstoreN X18.here hx rfl (hb hby d4_41) rfl (l' := #[.val (.long ((e4_4 q0) * (-7575587736534282103 : Int64))), .second]) rfl (XS.lloadN X18.here hx rfl (hb hby d4_42) rfl (XS.lloadN X18.here hx rfl (hb hby d4_43) rfl (XS.bipush X18.here hx rfl (hb hby d4_44) (XS.lushr X18.here hx rfl (hb hby d4_46) rfl (XS.lxor X18.here hx rfl (hb hby d4_47) rfl (XS.lloadN X18.here hx rfl (hb hby d4_48) rfl k)))))))) ?_
  show OGl _ _ _ _ T18 (mkF m 49 #[.val (.long ((e4_4 q0) * (-7575587736534282103 : Int64))), .second] [(.long ((e4_4 q0) * (-7575587736534282103 : Int64))), (.long (((e4_4 q0) * (-7575587736534282103 : Int64)) ^^^ (e4_5 q0)))])
  refine OGl.go (fun t k => XS.bipush X18.here hx rfl (hb hby d4_49) (XS.lushr X18.here hx rfl (hb hby d4_51) rfl (XS.lxor X18.here hx rfl (hb hby d4_52) rfl (XS.lstoreN X18.here hx rfl (hb hby d4_53) rfl (l' := #[.val (.long (e4_7 q0)), .second]) rfl (XS.lloadN X18.here hx rfl (hb hby d4_54) rfl k))))) ?_
  show OGl _ _ _ _ T18 (mkF m 55 #[.val (.long (e4_7 q0)), .second] [(.long (e4_7 q0))])
  obtain ⟨fs, hr, hrun, hended, hW, hsame⟩ := X18.leave (v := some (.long (e4_7 q0))) (fun h => by rw [Bd.returns] at h; cases h)
  refine ⟨_, _, X18.lreturnOut hx Bd.returns (hb hby d4_55) hr, hrun, hended, _, _, rfl, ?_, ⟨_, rfl⟩, hW, hsame.mono (by decide) (by decide)⟩
  show Q4 Z q0 h0 n0 _ T18.heap _
  rw [e18]
  exact ⟨rfl, N18, rfl⟩
def e0_0 (q0 : Int64) : Int64 := (e3_4 ((q0 + (-7046029254386353131 : Int64)) + (-7046029254386353131 : Int64)))
theorem ef_0 (m : MethodId) (x0 : Int64) : entryFrame m #[(.long x0)] maxLocals = mkF m 0 #[.val (.long x0), .second, .unset, .unset, .unset, .unset, .unset, .unset, .unset, .unset, .unset] [] := by first | (simp [entryFrame, mkF, argsToLocals, Value.category, maxLocals]; done) | rfl
def t0_0 (q0 : Int64) : Int32 := (if (e4_7 (e3_4 q0)) = (q0 + (-7046029254386353131 : Int64)) then (if (e4_7 (e3_4 (q0 + (-7046029254386353131 : Int64)))) = (q0 + (4354685564936845354 : Int64)) then (if (e4_7 (e0_0 q0)) = (q0 + (-2691343689449507777 : Int64)) then (1 : Int32) else (0 : Int32)) else (0 : Int32)) else (0 : Int32))
def Q0 (Z : State) (q0 : Int64) (h0 : Heap) (n0 : Nat) (v : Option Value) (h : Heap) (L : List Loc) : Prop := v = some (.int (t0_0 q0)) ∧ Fr n0 L
set_option maxRecDepth 65536 in
set_option maxHeartbeats 40000000 in
theorem rm0 (l : Launch) (Z : State) (a0 : Array Value) (hw : ∀ d ∈ tables_1, d.before a0 Z = true) (ws : List Jvm.Cond) (q0 : Int64) (h0 : Heap) (n0 : Nat) (Z0 : n0 ≤ h0.size) :
    MetFree l x (head1 (Jvm.Cond.code x code maxLocals ret :: ws) room_1) (fun a U => a = #[(.long q0)] ∧ Z.Warmed39 U.vm ∧ U.heap = h0) (fun _ _ _ _ _ => True) (fun _ U o U' => ∃ v L, o = .returned v ∧ Q0 Z q0 h0 n0 v U'.heap L ∧ FrameEnd U o U' L 1 1) := by
  refine MetFree.of_bodySF (plainFor_of_name pn_1) hisR ?_
  intro p e s m args below meth c s₁ Bd hml0 hP hK
  obtain ⟨rfl, hZ, hh⟩ := hP
  have hx := Bd.exec
  have hby := Bd.bytes
  have hml : c.maxLocals = 11 := hml0
  have hown : s.vm.findClass "com/example/nanjing/nanjing/generate/SeededStreamNextLongPinLaw" = some m.cls := findClass_of_methodNamed Bd.named
  have hnm := (name_of_methodNamed Bd.named Bd.method).1
  have X0 : Stand p l e room_1 s m #[(.long q0)] below meth c s₁ [] 0 0 := Stand.of_body Bd
  have e0 : s₁.heap = h0 := by rw [← hh, Bd.state]; rfl
  have N0 := Fr.nil n0
  refine OGl.start (ef_0 m q0) ?_
  show OGl _ _ _ _ s₁ (mkF m 0 #[.val (.long q0), .second, .unset, .unset, .unset, .unset, .unset, .unset, .unset, .unset, .unset] [])
  refine OGl.go (fun t k => own_ldc2 X0 hx hown (mvT hZ (hw _ (List.mem_of_getElem? (i := 0) rfl))) rfl (hb hby at_0) (XS.lstoreN X0.here hx rfl (hb hby at_3) rfl (l' := #[.val (.long q0), .second, .val (.long (-7046029254386353131 : Int64)), .second, .unset, .unset, .unset, .unset, .unset, .unset, .unset]) rfl k)) ?_
  show OGl _ _ _ _ s₁ (mkF m 4 #[.val (.long q0), .second, .val (.long (-7046029254386353131 : Int64)), .second, .unset, .unset, .unset, .unset, .unset, .unset, .unset] [])
  obtain ⟨T1, h1, X1, e1, E1, A1, D1, -, st1⟩ := newO X0 hx hZ hown (hw _ (List.mem_of_getElem? (i := 1) rfl)) (hw _ (List.mem_of_getElem? (i := 2) rfl)) (hw _ (List.mem_of_getElem? (i := 3) rfl)) e0 (g := (mkF m 4 #[.val (.long q0), .second, .val (.long (-7046029254386353131 : Int64)), .second, .unset, .unset, .unset, .unset, .unset, .unset, .unset] [])) rfl (hb hby at_4) (by decide) (by decide)
  obtain ⟨b1, gb1⟩ : ∃ z, z = h0.size := ⟨_, rfl⟩
  rw [← gb1] at A1 D1 st1
  have sz_b1 : h0.size ≤ b1 := Nat.le_trans (Keep.refl h0 []).1 (Nat.le_of_eq gb1.symm)
  have g_b1 : n0 ≤ b1 := Nat.le_trans Z0 sz_b1
  have F2 : Fld Z h1 b1 "com/example/nanjing/nanjing/generate/SeededStream" "state" "J" (.long (0 : Int64)) := D1 (Or.inl (hw _ (List.mem_of_getElem? (i := 11) rfl))) (ty := .long) (by decide)
  have KK1 : Keep h0 h1 [] := (Keep.refl h0 []).ext E1
  refine OGl.go st1 ?_
  show OGl _ _ _ _ T1 (mkF m 7 #[.val (.long q0), .second, .val (.long (-7046029254386353131 : Int64)), .second, .unset, .unset, .unset, .unset, .unset, .unset, .unset] [(.ref b1)])
  refine OGl.go (fun t k => XS.dup X1.here hx rfl (hb hby at_7) rfl rfl (XS.lloadN X1.here hx rfl (hb hby at_8) rfl k)) ?_
  show OGl _ _ _ _ T1 (mkF m 9 #[.val (.long q0), .second, .val (.long (-7046029254386353131 : Int64)), .second, .unset, .unset, .unset, .unset, .unset, .unset, .unset] [(.long q0), (.ref b1), (.ref b1)])
  obtain ⟨_, _, ⟨T3, L3, kk3, n3⟩, -, X3, ⟨Lc3, hQ3, l3, y3, z3⟩, st3⟩ := X1.specialBack hx (y := (⟨"com/example/nanjing/nanjing/generate/SeededStream", "<init>", "(J)V"⟩ : MethodName)) rfl hown (mvT hZ (hw _ (List.mem_of_getElem? (i := 4) rfl))) (mvT hZ (hw _ (List.mem_of_getElem? (i := 5) rfl))) (mvT hZ (hw _ (List.mem_of_getElem? (i := 6) rfl))) (by decide) (backOf (W := 1) (rm1 l Z a0 hw [] b1 q0 h1 n0 (Nat.le_trans Z0 KK1.1) A1 F2 g_b1) hZ (hw _ (List.mem_of_getElem? (i := 6) rfl)) (hw _ (List.mem_of_getElem? (i := 3) rfl)) (by decide) (by decide)) (g := (mkF m 9 #[.val (.long q0), .second, .val (.long (-7046029254386353131 : Int64)), .second, .unset, .unset, .unset, .unset, .unset, .unset, .unset] [(.long q0), (.ref b1), (.ref b1)])) rfl (by rw [hml]; rfl) (Steps.refl _) (a := b1) (argsL := [(.long q0)]) (rest := [(.ref b1)]) (lenOf pd_0 rfl) rfl (by show 2 * 0 + _ ≤ _; exact Nat.le_of_eq rfl) (hb hby at_9) (fun _ _ => ⟨rfl, e1, (by decide : 1 + 0 ≤ _), (by decide : 1 + 0 ≤ _)⟩)
  dsimp only [Pt.U, Pt.locs, Pt.cells, Pt.slots] at X3 l3 y3 z3 st3 hQ3
  subst l3 y3 z3
  obtain ⟨rfl, Nq3, K3, Fq3_0⟩ := hQ3
  have KK3 : Keep h0 T3.heap [] := KK1.trans K3 (allS (Or.inr sz_b1) all0)
  have N3 := Fr.app N0 Nq3
  refine OGl.go (fun t k => st3.trans k) ?_
  show OGl _ _ _ _ T3 (mkF m 12 #[.val (.long q0), .second, .val (.long (-7046029254386353131 : Int64)), .second, .unset, .unset, .unset, .unset, .unset, .unset, .unset] [(.ref b1)])
  refine OGl.go (fun t k => XS.astore X3.here hx rfl (hb hby at_12) rfl rfl (l' := #[.val (.long q0), .second, .val (.long (-7046029254386353131 : Int64)), .second, .val (.ref b1), .unset, .unset, .unset, .unset, .unset, .unset]) rfl (XS.aload X3.here hx rfl (hb hby at_14) rfl rfl k)) ?_
  show OGl _ _ _ _ T3 (mkF m 16 #[.val (.long q0), .second, .val (.long (-7046029254386353131 : Int64)), .second, .val (.ref b1), .unset, .unset, .unset, .unset, .unset, .unset] [(.ref b1)])
  have F11 := (A1.keep K3)
  obtain ⟨cq6, kq6, q6a, q6b, q6c⟩ := isOf hZ rfl F11
  obtain ⟨_, _, ⟨T6, L6, kk6, n6⟩, -, X6, ⟨Lc6, hQ6, l6, y6, z6⟩, st6⟩ := X3.virtualBack hx (y := (⟨"com/example/nanjing/nanjing/generate/SeededStream", "nextLong", "()J"⟩ : MethodName)) (z := (⟨"com/example/nanjing/nanjing/generate/SeededStream", "nextLong", "()J"⟩ : MethodName)) hown (mvT hZ (hw _ (List.mem_of_getElem? (i := 12) rfl))) (mvT hZ (hw _ (List.mem_of_getElem? (i := 13) rfl))) (notFace_of_selects (args := #[]) (mvT hZ (hw _ (List.mem_of_getElem? (i := 15) rfl)))) (mvT hZ (hw _ (List.mem_of_getElem? (i := 15) rfl))) (mvT hZ (hw _ (List.mem_of_getElem? (i := 14) rfl))) (by decide) (backOf (W := 0) (rm3 l Z a0 hw [] b1 q0 T3.heap n0 (Nat.le_trans Z0 KK3.1) Fq3_0 F11 g_b1) hZ (hw _ (List.mem_of_getElem? (i := 16) rfl)) (hw _ (List.mem_of_getElem? (i := 3) rfl)) (by decide) (by decide)) q6a q6c (g := (mkF m 16 #[.val (.long q0), .second, .val (.long (-7046029254386353131 : Int64)), .second, .val (.ref b1), .unset, .unset, .unset, .unset, .unset, .unset] [(.ref b1)])) rfl (by rw [hml]; rfl) (Steps.refl _) (argsL := []) (rest := []) (lenOf pd_1 rfl) rfl (by show 2 * 0 + _ ≤ _; exact Nat.le_of_eq rfl) (hb hby at_16) (fun _ _ => ⟨rfl, rfl, (by decide : 1 + 0 ≤ _), (by decide : 1 + 0 ≤ _)⟩)
  dsimp only [Pt.U, Pt.locs, Pt.cells, Pt.slots] at X6 l6 y6 z6 st6 hQ6
  subst l6 y6 z6
  obtain ⟨rfl, Nq6, K6, Fq6_0⟩ := hQ6
  have KK6 : Keep h0 T6.heap [] := KK3.trans K6 (allS (Or.inr sz_b1) all0)
  have N6 := Fr.app N3 Nq6
  refine OGl.go (fun t k => st6.trans k) ?_
  show OGl _ _ _ _ T6 (mkF m 19 #[.val (.long q0), .second, .val (.long (-7046029254386353131 : Int64)), .second, .val (.ref b1), .unset, .unset, .unset, .unset, .unset, .unset] [(.long (e3_4 q0))])
  refine OGl.go (fun t k => XS.lstore X6.here hx rfl (hb hby at_19) rfl (l' := #[.val (.long q0), .second, .val (.long (-7046029254386353131 : Int64)), .second, .val (.ref b1), .val (.long (e3_4 q0)), .second, .unset, .unset, .unset, .unset]) rfl (XS.aload X6.here hx rfl (hb hby at_21) rfl rfl k)) ?_
  show OGl _ _ _ _ T6 (mkF m 23 #[.val (.long q0), .second, .val (.long (-7046029254386353131 : Int64)), .second, .val (.ref b1), .val (.long (e3_4 q0)), .second, .unset, .unset, .unset, .unset] [(.ref b1)])
  have F13 := (F11.keep K6)
  obtain ⟨cq12, kq12, q12a, q12b, q12c⟩ := isOf hZ rfl F13
  obtain ⟨_, _, ⟨T12, L12, kk12, n12⟩, -, X12, ⟨Lc12, hQ12, l12, y12, z12⟩, st12⟩ := X6.virtualBack hx (y := (⟨"com/example/nanjing/nanjing/generate/SeededStream", "nextLong", "()J"⟩ : MethodName)) (z := (⟨"com/example/nanjing/nanjing/generate/SeededStream", "nextLong", "()J"⟩ : MethodName)) hown (mvT hZ (hw _ (List.mem_of_getElem? (i := 12) rfl))) (mvT hZ (hw _ (List.mem_of_getElem? (i := 13) rfl))) (notFace_of_selects (args := #[]) (mvT hZ (hw _ (List.mem_of_getElem? (i := 15) rfl)))) (mvT hZ (hw _ (List.mem_of_getElem? (i := 15) rfl))) (mvT hZ (hw _ (List.mem_of_getElem? (i := 14) rfl))) (by decide) (backOf (W := 0) (rm3 l Z a0 hw [] b1 (q0 + (-7046029254386353131 : Int64)) T6.heap n0 (Nat.le_trans Z0 KK6.1) Fq6_0 F13 g_b1) hZ (hw _ (List.mem_of_getElem? (i := 16) rfl)) (hw _ (List.mem_of_getElem? (i := 3) rfl)) (by decide) (by decide)) q12a q12c (g := (mkF m 23 #[.val (.long q0), .second, .val (.long (-7046029254386353131 : Int64)), .second, .val (.ref b1), .val (.long (e3_4 q0)), .second, .unset, .unset, .unset, .unset] [(.ref b1)])) rfl (by rw [hml]; rfl) (Steps.refl _) (argsL := []) (rest := []) (lenOf pd_1 rfl) rfl (by show 2 * 0 + _ ≤ _; exact Nat.le_of_eq rfl) (hb hby at_23) (fun _ _ => ⟨rfl, rfl, (by decide : 1 + 0 ≤ _), (by decide : 1 + 0 ≤ _)⟩)
  dsimp only [Pt.U, Pt.locs, Pt.cells, Pt.slots] at X12 l12 y12 z12 st12 hQ12
  subst l12 y12 z12
  obtain ⟨rfl, Nq12, K12, Fq12_0⟩ := hQ12
  have KK12 : Keep h0 T12.heap [] := KK6.trans K12 (allS (Or.inr sz_b1) all0)
  have N12 := Fr.app N6 Nq12
  refine OGl.go (fun t k => st12.trans k) ?_
  show OGl _ _ _ _ T12 (mkF m 26 #[.val (.long q0), .second, .val (.long (-7046029254386353131 : Int64)), .second, .val (.ref b1), .val (.long (e3_4 q0)), .second, .unset, .unset, .unset, .unset] [(.long (e3_4 (q0 + (-7046029254386353131 : Int64))))])
  refine OGl.go (fun t k => XS.lstore X12.here hx rfl (hb hby at_26) rfl (l' := #[.val (.long q0), .second, .val (.long (-7046029254386353131 : Int64)), .second, .val (.ref b1), .val (.long (e3_4 q0)), .second, .val (.long (e3_4 (q0 + (-7046029254386353131 : Int64)))), .second, .unset, .unset]) rfl (XS.aload X12.here hx rfl (hb hby at_28) rfl rfl k)) ?_
  show OGl _ _ _ _ T12 (mkF m 30 #[.val (.long q0), .second, .val (.long (-7046029254386353131 : Int64)), .second, .val (.ref b1), .val (.long (e3_4 q0)), .second, .val (.long (e3_4 (q0 + (-7046029254386353131 : Int64)))), .second, .unset, .unset] [(.ref b1)])
  have F15 := (F13.keep K12)
  obtain ⟨cq14, kq14, q14a, q14b, q14c⟩ := isOf hZ rfl F15
  obtain ⟨_, _, ⟨T14, L14, kk14, n14⟩, -, X14, ⟨Lc14, hQ14, l14, y14, z14⟩, st14⟩ := X12.virtualBack hx (y := (⟨"com/example/nanjing/nanjing/generate/SeededStream", "nextLong", "()J"⟩ : MethodName)) (z := (⟨"com/example/nanjing/nanjing/generate/SeededStream", "nextLong", "()J"⟩ : MethodName)) hown (mvT hZ (hw _ (List.mem_of_getElem? (i := 12) rfl))) (mvT hZ (hw _ (List.mem_of_getElem? (i := 13) rfl))) (notFace_of_selects (args := #[]) (mvT hZ (hw _ (List.mem_of_getElem? (i := 15) rfl)))) (mvT hZ (hw _ (List.mem_of_getElem? (i := 15) rfl))) (mvT hZ (hw _ (List.mem_of_getElem? (i := 14) rfl))) (by decide) (backOf (W := 0) (rm3 l Z a0 hw [] b1 ((q0 + (-7046029254386353131 : Int64)) + (-7046029254386353131 : Int64)) T12.heap n0 (Nat.le_trans Z0 KK12.1) Fq12_0 F15 g_b1) hZ (hw _ (List.mem_of_getElem? (i := 16) rfl)) (hw _ (List.mem_of_getElem? (i := 3) rfl)) (by decide) (by decide)) q14a q14c (g := (mkF m 30 #[.val (.long q0), .second, .val (.long (-7046029254386353131 : Int64)), .second, .val (.ref b1), .val (.long (e3_4 q0)), .second, .val (.long (e3_4 (q0 + (-7046029254386353131 : Int64)))), .second, .unset, .unset] [(.ref b1)])) rfl (by rw [hml]; rfl) (Steps.refl _) (argsL := []) (rest := []) (lenOf pd_1 rfl) rfl (by show 2 * 0 + _ ≤ _; exact Nat.le_of_eq rfl) (hb hby at_30) (fun _ _ => ⟨rfl, rfl, (by decide : 1 + 0 ≤ _), (by decide : 1 + 0 ≤ _)⟩)
  dsimp only [Pt.U, Pt.locs, Pt.cells, Pt.slots] at X14 l14 y14 z14 st14 hQ14
  subst l14 y14 z14
  obtain ⟨rfl, Nq14, K14, Fq14_0⟩ := hQ14
  have KK14 : Keep h0 T14.heap [] := KK12.trans K14 (allS (Or.inr sz_b1) all0)
  have N14 := Fr.app N12 Nq14
  refine OGl.go (fun t k => st14.trans k) ?_
  show OGl _ _ _ _ T14 (mkF m 33 #[.val (.long q0), .second, .val (.long (-7046029254386353131 : Int64)), .second, .val (.ref b1), .val (.long (e3_4 q0)), .second, .val (.long (e3_4 (q0 + (-7046029254386353131 : Int64)))), .second, .unset, .unset] [(.long (e0_0 q0))])
  refine OGl.go (fun t k => XS.lstore X14.here hx rfl (hb hby at_33) rfl (l' := #[.val (.long q0), .second, .val (.long (-7046029254386353131 : Int64)), .second, .val (.ref b1), .val (.long (e3_4 q0)), .second, .val (.long (e3_4 (q0 + (-7046029254386353131 : Int64)))), .second, .val (.long (e0_0 q0)), .second]) rfl (XS.lload X14.here hx rfl (hb hby at_35) rfl k)) ?_
  show OGl _ _ _ _ T14 (mkF m 37 #[.val (.long q0), .second, .val (.long (-7046029254386353131 : Int64)), .second, .val (.ref b1), .val (.long (e3_4 q0)), .second, .val (.long (e3_4 (q0 + (-7046029254386353131 : Int64)))), .second, .val (.long (e0_0 q0)), .second] [(.long (e3_4 q0))])
  obtain ⟨_, _, ⟨T16, L16, kk16, n16⟩, -, X16, ⟨Lc16, hQ16, l16, y16, z16⟩, st16⟩ := Jvm.LawKit.callS X14 hx (y := (⟨"com/example/nanjing/nanjing/generate/SeededStreamNextLongPinLaw", "unmix", "(J)J"⟩ : MethodName)) hown (mvT hZ (hw _ (List.mem_of_getElem? (i := 20) rfl))) (mvT hZ (hw _ (List.mem_of_getElem? (i := 21) rfl))) (mvT hZ (hw _ (List.mem_of_getElem? (i := 22) rfl))) (mvT hZ (hw _ (List.mem_of_getElem? (i := 23) rfl))) (by decide) (backOf (W := 0) (rm4 l Z a0 hw [] (e3_4 q0) T14.heap n0 (Nat.le_trans Z0 KK14.1) ) hZ (hw _ (List.mem_of_getElem? (i := 23) rfl)) (hw _ (List.mem_of_getElem? (i := 22) rfl)) (by decide) (by decide)) (g := (mkF m 37 #[.val (.long q0), .second, .val (.long (-7046029254386353131 : Int64)), .second, .val (.ref b1), .val (.long (e3_4 q0)), .second, .val (.long (e3_4 (q0 + (-7046029254386353131 : Int64)))), .second, .val (.long (e0_0 q0)), .second] [(.long (e3_4 q0))])) rfl (by rw [hml]; rfl) (argsL := [(.long (e3_4 q0))]) (rest := []) (lenOf pd_2 rfl) rfl (by show 2 * 0 + _ ≤ _; exact Nat.le_of_eq rfl) (hb hby at_37) (fun _ _ => ⟨rfl, rfl, (by decide : 1 + 0 ≤ _), (by decide : 1 + 0 ≤ _)⟩)
  dsimp only [Pt.U, Pt.locs, Pt.cells, Pt.slots] at X16 l16 y16 z16 st16 hQ16
  subst l16 y16 z16
  obtain ⟨rfl, Nq16, e16⟩ := hQ16
  have N16 := Fr.app N14 Nq16
  refine OGl.go st16 ?_
  show OGl _ _ _ _ T16 (mkF m 40 #[.val (.long q0), .second, .val (.long (-7046029254386353131 : Int64)), .second, .val (.ref b1), .val (.long (e3_4 q0)), .second, .val (.long (e3_4 (q0 + (-7046029254386353131 : Int64)))), .second, .val (.long (e0_0 q0)), .second] [(.long (e4_7 (e3_4 q0)))])
  refine OGl.go (fun t k => XS.lloadN X16.here hx rfl (hb hby at_40) rfl (XS.lloadN X16.here hx rfl (hb hby at_41) rfl (XS.ladd X16.here hx rfl (hb hby at_42) rfl (XS.lcmp X16.here hx rfl (hb hby at_43) rfl k)))) ?_
  show OGl _ _ _ _ T16 (mkF m 44 #[.val (.long q0), .second, .val (.long (-7046029254386353131 : Int64)), .second, .val (.ref b1), .val (.long (e3_4 q0)), .second, .val (.long (e3_4 (q0 + (-7046029254386353131 : Int64)))), .second, .val (.long (e0_0 q0)), .second] [(.int (lcmpW (e4_7 (e3_4 q0)) (q0 + (-7046029254386353131 : Int64))))])
  by_cases hc19 : (e4_7 (e3_4 q0)) = (q0 + (-7046029254386353131 : Int64))
  · refine OGl.go (fun t k => XS.ifNo X16.here hx rfl (hb hby at_44) rfl (own_teqL hc19).2 (XS.lload X16.here hx rfl (hb hby at_47) rfl k)) ?_
    show OGl _ _ _ _ T16 (mkF m 49 #[.val (.long q0), .second, .val (.long (-7046029254386353131 : Int64)), .second, .val (.ref b1), .val (.long (e3_4 q0)), .second, .val (.long (e3_4 (q0 + (-7046029254386353131 : Int64)))), .second, .val (.long (e0_0 q0)), .second] [(.long (e3_4 (q0 + (-7046029254386353131 : Int64))))])
    obtain ⟨_, _, ⟨T20, L20, kk20, n20⟩, -, X20, ⟨Lc20, hQ20, l20, y20, z20⟩, st20⟩ := Jvm.LawKit.callS X16 hx (y := (⟨"com/example/nanjing/nanjing/generate/SeededStreamNextLongPinLaw", "unmix", "(J)J"⟩ : MethodName)) hown (mvT hZ (hw _ (List.mem_of_getElem? (i := 20) rfl))) (mvT hZ (hw _ (List.mem_of_getElem? (i := 21) rfl))) (mvT hZ (hw _ (List.mem_of_getElem? (i := 22) rfl))) (mvT hZ (hw _ (List.mem_of_getElem? (i := 23) rfl))) (by decide) (backOf (W := 0) (rm4 l Z a0 hw [] (e3_4 (q0 + (-7046029254386353131 : Int64))) T14.heap n0 (Nat.le_trans Z0 KK14.1) ) hZ (hw _ (List.mem_of_getElem? (i := 23) rfl)) (hw _ (List.mem_of_getElem? (i := 22) rfl)) (by decide) (by decide)) (g := (mkF m 49 #[.val (.long q0), .second, .val (.long (-7046029254386353131 : Int64)), .second, .val (.ref b1), .val (.long (e3_4 q0)), .second, .val (.long (e3_4 (q0 + (-7046029254386353131 : Int64)))), .second, .val (.long (e0_0 q0)), .second] [(.long (e3_4 (q0 + (-7046029254386353131 : Int64))))])) rfl (by rw [hml]; rfl) (argsL := [(.long (e3_4 (q0 + (-7046029254386353131 : Int64))))]) (rest := []) (lenOf pd_2 rfl) rfl (by show 2 * 0 + _ ≤ _; exact Nat.le_of_eq rfl) (hb hby at_49) (fun _ _ => ⟨rfl, e16, (by decide : 1 + 0 ≤ _), (by decide : 1 + 0 ≤ _)⟩)
    dsimp only [Pt.U, Pt.locs, Pt.cells, Pt.slots] at X20 l20 y20 z20 st20 hQ20
    subst l20 y20 z20
    obtain ⟨rfl, Nq20, e20⟩ := hQ20
    have N20 := Fr.app N16 Nq20
    refine OGl.go st20 ?_
    show OGl _ _ _ _ T20 (mkF m 52 #[.val (.long q0), .second, .val (.long (-7046029254386353131 : Int64)), .second, .val (.ref b1), .val (.long (e3_4 q0)), .second, .val (.long (e3_4 (q0 + (-7046029254386353131 : Int64)))), .second, .val (.long (e0_0 q0)), .second] [(.long (e4_7 (e3_4 (q0 + (-7046029254386353131 : Int64)))))])
    refine OGl.go (fun t k => XS.lloadN X20.here hx rfl (hb hby at_52) rfl (own_ldc2 X20 hx hown (mvT hZ (hw _ (List.mem_of_getElem? (i := 28) rfl))) rfl (hb hby at_53) (XS.lloadN X20.here hx rfl (hb hby at_56) rfl (XS.lmul X20.here hx rfl (hb hby at_57) rfl (XS.ladd X20.here hx rfl (hb hby at_58) rfl (XS.lcmp X20.here hx rfl (hb hby at_59) rfl k)))))) ?_
    show OGl _ _ _ _ T20 (mkF m 60 #[.val (.long q0), .second, .val (.long (-7046029254386353131 : Int64)), .second, .val (.ref b1), .val (.long (e3_4 q0)), .second, .val (.long (e3_4 (q0 + (-7046029254386353131 : Int64)))), .second, .val (.long (e0_0 q0)), .second] [(.int (lcmpW (e4_7 (e3_4 (q0 + (-7046029254386353131 : Int64)))) (q0 + (4354685564936845354 : Int64))))])
    by_cases hc21 : (e4_7 (e3_4 (q0 + (-7046029254386353131 : Int64)))) = (q0 + (4354685564936845354 : Int64))
    · refine OGl.go (fun t k => XS.ifNo X20.here hx rfl (hb hby at_60) rfl (own_teqL hc21).2 (XS.lload X20.here hx rfl (hb hby at_63) rfl k)) ?_
      show OGl _ _ _ _ T20 (mkF m 65 #[.val (.long q0), .second, .val (.long (-7046029254386353131 : Int64)), .second, .val (.ref b1), .val (.long (e3_4 q0)), .second, .val (.long (e3_4 (q0 + (-7046029254386353131 : Int64)))), .second, .val (.long (e0_0 q0)), .second] [(.long (e0_0 q0))])
      obtain ⟨_, _, ⟨T22, L22, kk22, n22⟩, -, X22, ⟨Lc22, hQ22, l22, y22, z22⟩, st22⟩ := Jvm.LawKit.callS X20 hx (y := (⟨"com/example/nanjing/nanjing/generate/SeededStreamNextLongPinLaw", "unmix", "(J)J"⟩ : MethodName)) hown (mvT hZ (hw _ (List.mem_of_getElem? (i := 20) rfl))) (mvT hZ (hw _ (List.mem_of_getElem? (i := 21) rfl))) (mvT hZ (hw _ (List.mem_of_getElem? (i := 22) rfl))) (mvT hZ (hw _ (List.mem_of_getElem? (i := 23) rfl))) (by decide) (backOf (W := 0) (rm4 l Z a0 hw [] (e0_0 q0) T14.heap n0 (Nat.le_trans Z0 KK14.1) ) hZ (hw _ (List.mem_of_getElem? (i := 23) rfl)) (hw _ (List.mem_of_getElem? (i := 22) rfl)) (by decide) (by decide)) (g := (mkF m 65 #[.val (.long q0), .second, .val (.long (-7046029254386353131 : Int64)), .second, .val (.ref b1), .val (.long (e3_4 q0)), .second, .val (.long (e3_4 (q0 + (-7046029254386353131 : Int64)))), .second, .val (.long (e0_0 q0)), .second] [(.long (e0_0 q0))])) rfl (by rw [hml]; rfl) (argsL := [(.long (e0_0 q0))]) (rest := []) (lenOf pd_2 rfl) rfl (by show 2 * 0 + _ ≤ _; exact Nat.le_of_eq rfl) (hb hby at_65) (fun _ _ => ⟨rfl, e20, (by decide : 1 + 0 ≤ _), (by decide : 1 + 0 ≤ _)⟩)
      dsimp only [Pt.U, Pt.locs, Pt.cells, Pt.slots] at X22 l22 y22 z22 st22 hQ22
      subst l22 y22 z22
      obtain ⟨rfl, Nq22, e22⟩ := hQ22
      have N22 := Fr.app N20 Nq22
      refine OGl.go st22 ?_
      show OGl _ _ _ _ T22 (mkF m 68 #[.val (.long q0), .second, .val (.long (-7046029254386353131 : Int64)), .second, .val (.ref b1), .val (.long (e3_4 q0)), .second, .val (.long (e3_4 (q0 + (-7046029254386353131 : Int64)))), .second, .val (.long (e0_0 q0)), .second] [(.long (e4_7 (e0_0 q0)))])
      refine OGl.go (fun t k => XS.lloadN X22.here hx rfl (hb hby at_68) rfl (own_ldc2 X22 hx hown (mvT hZ (hw _ (List.mem_of_getElem? (i := 30) rfl))) rfl (hb hby at_69) (XS.lloadN X22.here hx rfl (hb hby at_72) rfl (XS.lmul X22.here hx rfl (hb hby at_73) rfl (XS.ladd X22.here hx rfl (hb hby at_74) rfl (XS.lcmp X22.here hx rfl (hb hby at_75) rfl k)))))) ?_
      show OGl _ _ _ _ T22 (mkF m 76 #[.val (.long q0), .second, .val (.long (-7046029254386353131 : Int64)), .second, .val (.ref b1), .val (.long (e3_4 q0)), .second, .val (.long (e3_4 (q0 + (-7046029254386353131 : Int64)))), .second, .val (.long (e0_0 q0)), .second] [(.int (lcmpW (e4_7 (e0_0 q0)) (q0 + (-2691343689449507777 : Int64))))])
      by_cases hc23 : (e4_7 (e0_0 q0)) = (q0 + (-2691343689449507777 : Int64))
      · refine OGl.go (fun t k => XS.ifNo X22.here hx rfl (hb hby at_76) rfl (own_teqL hc23).2 (XS.iconst X22.here hx rfl (hb hby at_79) (XS.goto X22.here hx rfl (pc0 := 80) (pc' := 84) rfl (hb hby at_80) (by decide) (by decide) k))) ?_
        show OGl _ _ _ _ T22 (mkF m 84 #[.val (.long q0), .second, .val (.long (-7046029254386353131 : Int64)), .second, .val (.ref b1), .val (.long (e3_4 q0)), .second, .val (.long (e3_4 (q0 + (-7046029254386353131 : Int64)))), .second, .val (.long (e0_0 q0)), .second] [(.int (1 : Int32))])
        obtain ⟨fs, hr, hrun, hended, hW, hsame⟩ := X22.leave (v := some (.int (1 : Int32))) (fun h => by rw [Bd.returns] at h; cases h)
        refine ⟨_, _, retN X22 hx (t := .boolean) Bd.returns (by simp) (hb hby at_84) hr, hrun, hended, _, _, rfl, ?_, ⟨_, rfl⟩, hW, hsame.mono (by decide) (by decide)⟩
        have hv24 : (t0_0 q0) = (1 : Int32) := by unfold t0_0; rw [if_pos hc19, if_pos hc21, if_pos hc23]
        show Q0 Z q0 h0 n0 _ T22.heap _
        rw [e22]
        exact ⟨(by rw [hv24]), N22⟩
      · refine OGl.go (fun t k => XS.ifYes X22.here hx rfl (pc0 := 76) (pc' := 83) rfl (hb hby at_76) rfl (own_feqL hc23).2 (by decide) (by decide) (XS.iconst X22.here hx rfl (hb hby at_83) k)) ?_
        show OGl _ _ _ _ T22 (mkF m 84 #[.val (.long q0), .second, .val (.long (-7046029254386353131 : Int64)), .second, .val (.ref b1), .val (.long (e3_4 q0)), .second, .val (.long (e3_4 (q0 + (-7046029254386353131 : Int64)))), .second, .val (.long (e0_0 q0)), .second] [(.int (0 : Int32))])
        obtain ⟨fs, hr, hrun, hended, hW, hsame⟩ := X22.leave (v := some (.int (0 : Int32))) (fun h => by rw [Bd.returns] at h; cases h)
        refine ⟨_, _, retN X22 hx (t := .boolean) Bd.returns (by simp) (hb hby at_84) hr, hrun, hended, _, _, rfl, ?_, ⟨_, rfl⟩, hW, hsame.mono (by decide) (by decide)⟩
        have hv25 : (t0_0 q0) = (0 : Int32) := by unfold t0_0; rw [if_pos hc19, if_pos hc21, if_neg hc23]
        show Q0 Z q0 h0 n0 _ T22.heap _
        rw [e22]
        exact ⟨(by rw [hv25]), N22⟩
    · refine OGl.go (fun t k => XS.ifYes X20.here hx rfl (pc0 := 60) (pc' := 83) rfl (hb hby at_60) rfl (own_feqL hc21).2 (by decide) (by decide) (XS.iconst X20.here hx rfl (hb hby at_83) k)) ?_
      show OGl _ _ _ _ T20 (mkF m 84 #[.val (.long q0), .second, .val (.long (-7046029254386353131 : Int64)), .second, .val (.ref b1), .val (.long (e3_4 q0)), .second, .val (.long (e3_4 (q0 + (-7046029254386353131 : Int64)))), .second, .val (.long (e0_0 q0)), .second] [(.int (0 : Int32))])
      obtain ⟨fs, hr, hrun, hended, hW, hsame⟩ := X20.leave (v := some (.int (0 : Int32))) (fun h => by rw [Bd.returns] at h; cases h)
      refine ⟨_, _, retN X20 hx (t := .boolean) Bd.returns (by simp) (hb hby at_84) hr, hrun, hended, _, _, rfl, ?_, ⟨_, rfl⟩, hW, hsame.mono (by decide) (by decide)⟩
      have hv26 : (t0_0 q0) = (0 : Int32) := by unfold t0_0; rw [if_pos hc19, if_neg hc21]
      show Q0 Z q0 h0 n0 _ T20.heap _
      rw [e20]
      exact ⟨(by rw [hv26]), N20⟩
  · refine OGl.go (fun t k => XS.ifYes X16.here hx rfl (pc0 := 44) (pc' := 83) rfl (hb hby at_44) rfl (own_feqL hc19).2 (by decide) (by decide) (XS.iconst X16.here hx rfl (hb hby at_83) k)) ?_
    show OGl _ _ _ _ T16 (mkF m 84 #[.val (.long q0), .second, .val (.long (-7046029254386353131 : Int64)), .second, .val (.ref b1), .val (.long (e3_4 q0)), .second, .val (.long (e3_4 (q0 + (-7046029254386353131 : Int64)))), .second, .val (.long (e0_0 q0)), .second] [(.int (0 : Int32))])
    obtain ⟨fs, hr, hrun, hended, hW, hsame⟩ := X16.leave (v := some (.int (0 : Int32))) (fun h => by rw [Bd.returns] at h; cases h)
    refine ⟨_, _, retN X16 hx (t := .boolean) Bd.returns (by simp) (hb hby at_84) hr, hrun, hended, _, _, rfl, ?_, ⟨_, rfl⟩, hW, hsame.mono (by decide) (by decide)⟩
    have hv27 : (t0_0 q0) = (0 : Int32) := by unfold t0_0; rw [if_neg hc19]
    show Q0 Z q0 h0 n0 _ T16.heap _
    rw [e16]
    exact ⟨(by rw [hv27]), N16⟩
theorem own_xs (b : BitVec 64) (k m : Nat) (h : 64 ≤ 3 * k) (hm : m = 2 * k) : ((b ^^^ b >>> k) ^^^ (b ^^^ b >>> k) >>> k) ^^^ (b ^^^ b >>> k) >>> m = b := by
  subst hm
  apply BitVec.eq_of_getLsbD_eq
  intro i hi
  simp only [BitVec.getLsbD_xor, BitVec.getLsbD_ushiftRight]
  have e1 : k + (k + i) = 2 * k + i := by omega
  have e2 : b.getLsbD (k + (2 * k + i)) = false := BitVec.getLsbD_of_ge _ _ (by omega)
  rw [e1, e2]
  cases b.getLsbD i <;> cases b.getLsbD (k + i) <;> cases b.getLsbD (2 * k + i) <;> rfl
theorem own_x31 (z : Int64) : (((z ^^^ ((z.toUInt64 >>> ((31 : Int32) &&& 0x3f).toInt64.toUInt64).toInt64)) ^^^ (((z ^^^ ((z.toUInt64 >>> ((31 : Int32) &&& 0x3f).toInt64.toUInt64).toInt64)).toUInt64 >>> ((31 : Int32) &&& 0x3f).toInt64.toUInt64).toInt64)) ^^^ (((z ^^^ ((z.toUInt64 >>> ((31 : Int32) &&& 0x3f).toInt64.toUInt64).toInt64)).toUInt64 >>> ((62 : Int32) &&& 0x3f).toInt64.toUInt64).toInt64)) = z :=
  Int64.toBitVec_inj.mp (own_xs z.toBitVec 31 62 (by decide) (by decide))
theorem own_x27 (z : Int64) : (((z ^^^ ((z.toUInt64 >>> ((27 : Int32) &&& 0x3f).toInt64.toUInt64).toInt64)) ^^^ (((z ^^^ ((z.toUInt64 >>> ((27 : Int32) &&& 0x3f).toInt64.toUInt64).toInt64)).toUInt64 >>> ((27 : Int32) &&& 0x3f).toInt64.toUInt64).toInt64)) ^^^ (((z ^^^ ((z.toUInt64 >>> ((27 : Int32) &&& 0x3f).toInt64.toUInt64).toInt64)).toUInt64 >>> ((54 : Int32) &&& 0x3f).toInt64.toUInt64).toInt64)) = z :=
  Int64.toBitVec_inj.mp (own_xs z.toBitVec 27 54 (by decide) (by decide))
theorem own_x30 (z : Int64) : (((z ^^^ ((z.toUInt64 >>> ((30 : Int32) &&& 0x3f).toInt64.toUInt64).toInt64)) ^^^ (((z ^^^ ((z.toUInt64 >>> ((30 : Int32) &&& 0x3f).toInt64.toUInt64).toInt64)).toUInt64 >>> ((30 : Int32) &&& 0x3f).toInt64.toUInt64).toInt64)) ^^^ (((z ^^^ ((z.toUInt64 >>> ((30 : Int32) &&& 0x3f).toInt64.toUInt64).toInt64)).toUInt64 >>> ((60 : Int32) &&& 0x3f).toInt64.toUInt64).toInt64)) = z :=
  Int64.toBitVec_inj.mp (own_xs z.toBitVec 30 60 (by decide) (by decide))
theorem own_inv (x m n : Int64) (h : m * n = 1) : (x * m) * n = x := by rw [Int64.mul_assoc, h, Int64.mul_one]
theorem own_un (q : Int64) : e4_7 (e3_4 q) = q + (-7046029254386353131 : Int64) := by
  have h1 : e4_1 (e3_4 q) = ((e3_1 q) ^^^ (e3_2 q)) * (-7723592293110705685 : Int64) := own_x31 _
  have h2 : e4_1 (e3_4 q) * (3573116690164977347 : Int64) = (e3_1 q) ^^^ (e3_2 q) := by rw [h1]; exact own_inv _ _ _ (by decide)
  have h3 : e4_4 (e3_4 q) = e3_1 q := by
    unfold e4_4 e4_2 e4_3
    rw [h2]
    exact own_x27 _
  have h4 : e4_4 (e3_4 q) * (-7575587736534282103 : Int64) = (q + (-7046029254386353131 : Int64)) ^^^ (e3_0 q) := by rw [h3]; exact own_inv _ _ _ (by decide)
  unfold e4_7 e4_5 e4_6
  rw [h4]
  exact own_x30 _
theorem own_law (q : Int64) : t0_0 q = 1 := by
  have e1 : ((q + (-7046029254386353131 : Int64)) + (-7046029254386353131 : Int64)) = q + (4354685564936845354 : Int64) := by rw [Int64.add_assoc]; rfl
  have e2 : ((q + (-7046029254386353131 : Int64)) + (-7046029254386353131 : Int64)) + (-7046029254386353131 : Int64) = q + (-2691343689449507777 : Int64) := by rw [e1, Int64.add_assoc]; rfl
  unfold t0_0 e0_0
  rw [if_pos (own_un _), if_pos ((own_un _).trans e1), if_pos ((own_un _).trans e2)]
set_option maxRecDepth 65536 in
set_option maxHeartbeats 40000000 in
theorem comes_1 {Post : Tables → Env → Array Value → State → Outcome → State → Prop} (hpost : ∀ tb e args s v u, (limb_1_1.after args s (.returned v) u = true ∧ limb_1_2.after args s (.returned v) u = true ∧ True) → FrameEnd s (.returned v) u (Jvm.fieldLocs frame_1_writes args s ++ Jvm.arrayLocs frame_1_arrays args s ++ Jvm.staticLocs frame_1_statics s) 16 128 → Post tb e args s (.returned v) u) :
    ArmFor flags0 classFile x code maxLocals ret World_1 tables_1 room_1 Calls_1 rest_1 Pre_1 Post := by
  intro l hfl _ _ p e ha hc hk s m args below hf hA hF happ hP
  obtain ⟨hcalls, hrest, hpre⟩ := hP
  obtain ⟨-, -, -, hnamed, -, -, -, hat⟩ := (Spec.applies_iff hf).mp happ
  obtain ⟨hg, hn⟩ := and_e (Cond.before_iff.mp (show (Jvm.Cond.and given_1 narrow_1).before args s = true from hpre))
  obtain ⟨hz, hy0⟩ := and_e hg
  obtain ⟨w0, rfl⟩ : ∃ w0 : Value, args = #[w0] := by
    have hs : args.size = 1 := by simpa [Cond.value, given_1] using hz
    obtain ⟨L⟩ := args
    match L, hs with
    | [w0], _ => exact ⟨w0, rfl⟩
  have hw := fun d (hd : d ∈ tables_1) => atoms_spec (ws := Jvm.Cond.code x code maxLocals ret :: tables_1) hat d (List.mem_cons_of_mem _ hd)
  obtain ⟨i0, ev0⟩ := isL_v hy0
  obtain rfl : w0 = (.long i0) := Option.some.inj ev0
  obtain ⟨n, o, h1, h2, h3, _, L, rfl, ⟨hv, N⟩, hq⟩ := rm0 l s _ hw tables_1 i0  s.heap s.heap.size (Nat.le_refl _)  p e ha hc hk s m _ below hf ((Spec.applies_iff_loose hf).mp happ).1 ⟨rfl, State.Warmed39.refl s, rfl⟩ trivial
  rw [own_law] at hv
  subst hv
  refine ⟨n, _, h1, h2, h3, hpost _ _ _ _ _ _ ⟨Cond.after_iff.mpr rfl, Cond.after_iff.mpr (eq_i res_at (Term.int_eval (1)) rfl), trivial⟩ ⟨hq.1, hq.2.1, (hq.2.2.sift fun y hy => Or.inr (N y hy)).mono (by decide) (by decide)⟩⟩
theorem main_1_1 : Claimed_1_1 := comes_1 fun _ _ _ _ _ _ h hF => ⟨h.1, hF⟩
theorem main_1_2 : Claimed_1_2 := comes_1 fun _ _ _ _ _ _ h hF => ⟨h.2.1, hF⟩
end Jvm.Pilot.@@N@@
namespace Jvm.Pilot.@@N@@
open Jvm Jvm.ClassFile Sem Op Lib Jvm.Free Jvm.Stand Jvm.Pilot.@@N@@.Jvm.D
/-! MADE BY PROGRAM (witnessworld.py) out of the Statement's table words and the real class files: 9 classes; the members and pool entries that the words name. The judged class is class 1, her method 3. -/
namespace start1
open Jvm.ClassFile
def u (s : String) : CpInfo := .utf8 (stringToUtf16 s)
/-- a pool by its gaps: so many unusable entries, then the entry; so many at the end -/
def gap : Nat → List CpInfo → List CpInfo
  | 0, r => r
  | n + 1, r => .unusable :: gap n r
def poolList (es : List (Nat × CpInfo)) (last : Nat) : List CpInfo := es.foldr (fun e r => gap e.1 (e.2 :: r)) (gap last [])
def pool (es : List (Nat × CpInfo)) (last : Nat) : Array CpInfo := ⟨poolList es last⟩
def fileOf (pool : Array CpInfo) (this : Nat) (attrs : Array Attribute := #[]) (ms : Array MethodInfo := #[]) (fl : Nat := 33) (sup : Nat := 0) (ifs : Array Nat := #[]) (fds : Array FieldInfo := #[]) : ClassFile where
  minorVersion := 0
  majorVersion := 65
  constantPool := pool
  accessFlags := fl
  thisClass := this
  superClass := sup
  interfaces := ifs
  fields := fds
  methods := ms
  attributes := attrs
def plain (name : String) (sup : Option ClassId) : Class where
  name := name
  kind := .ordinary
  loader := none
  accessFlags := 33
  super := sup
  interfaces := #[]
  cf := none
  fields := #[]
  methods := #[]
  instanceTypes := #[]
  staticTypes := #[]
  resolved := #[]
  callSites := []
  init := .initialized
  statics := none
  mirror := none

def pool0 : Array CpInfo := pool [(5, u "<init>"), (0, u "()V"), (1, .class_ 10), (1, u "java/lang/Object")] 113

def k0c0 : Code := { maxStack := 0, maxLocals := 1, code := object_method_1_code, exceptionTable := #[], attributes := #[] }
def k0m0 : Method := { name := "<init>", desc := "()V", sig := { parameters := [], returnType := none }, accessFlags := 1, code := some k0c0 }
/-- java/lang/Object -/
def k0 : Class := { plain "java/lang/Object" none with
  accessFlags := 33
  interfaces := #[]
  cf := some (fileOf pool0 8 #[] #[{ accessFlags := 1, nameIndex := 5, descriptorIndex := 6, attributes := #[] }] 33 0 #[] #[])
  fields := #[]
  methods := #[k0m0]
  instanceTypes := #[]
  staticTypes := #[]
  resolved := Array.replicate 124 none
  statics := none }

def pool1 : Array CpInfo := pool [(2, .class_ 4), (1, u "java/lang/Object"), (0, u "<init>"), (0, u "()V"), (0, .long 2), (1, .long 10723151780598845931), (1, .methodref 12 13), (0, .class_ 14), (0, .nameAndType 15 16), (0, u "com/example/nanjing/nanjing/generate/SeededStreamNextLongPinLaw"), (0, u "inverse"), (0, u "(J)J"), (0, .long 13787848793156543929), (1, .long 11400714819323198485), (1, .class_ 22), (0, u "com/example/nanjing/nanjing/generate/SeededStream"), (0, .methodref 21 24), (0, .nameAndType 5 25), (0, u "(J)V"), (0, .methodref 21 27), (0, .nameAndType 28 29), (0, u "nextLong"), (0, u "()J"), (0, .methodref 12 31), (0, .nameAndType 32 16), (0, u "unmix"), (0, .long 3), (3, u "law"), (0, u "(J)Z")] 3

def k1m0 : Method := { name := "<init>", desc := "()V", sig := { parameters := [], returnType := none }, accessFlags := 1, code := none }
def k1c1 : Code := { maxStack := 8, maxLocals := 4, code := method_2_code, exceptionTable := #[], attributes := #[] }
def k1m1 : Method := { name := "inverse", desc := "(J)J", sig := { parameters := [.long], returnType := some .long }, accessFlags := 10, code := some k1c1 }
def k1c2 : Code := { maxStack := 5, maxLocals := 2, code := method_3_code, exceptionTable := #[], attributes := #[] }
def k1m2 : Method := { name := "unmix", desc := "(J)J", sig := { parameters := [.long], returnType := some .long }, accessFlags := 10, code := some k1c2 }
def k1c3 : Code := { maxStack := 8, maxLocals := 11, code := code, exceptionTable := #[], attributes := #[] }
def k1m3 : Method := { name := "law", desc := "(J)Z", sig := { parameters := [.long], returnType := some .boolean }, accessFlags := 9, code := some k1c3 }
/-- com/example/nanjing/nanjing/generate/SeededStreamNextLongPinLaw -/
def k1 : Class := { plain "com/example/nanjing/nanjing/generate/SeededStreamNextLongPinLaw" (some 0) with
  accessFlags := 49
  interfaces := #[]
  cf := some (fileOf pool1 12 #[] #[{ accessFlags := 1, nameIndex := 5, descriptorIndex := 6, attributes := #[] }, { accessFlags := 10, nameIndex := 15, descriptorIndex := 16, attributes := #[] }, { accessFlags := 10, nameIndex := 32, descriptorIndex := 16, attributes := #[] }, { accessFlags := 9, nameIndex := 37, descriptorIndex := 38, attributes := #[] }] 49 2 #[] #[])
  fields := #[]
  methods := #[k1m0, k1m1, k1m2, k1m3]
  instanceTypes := #[]
  staticTypes := #[]
  resolved := Array.replicate 42 none
  statics := none }

def pool2 : Array CpInfo := pool [(1, .methodref 2 3), (0, .class_ 4), (0, .nameAndType 5 6), (0, u "java/lang/Object"), (0, u "<init>"), (0, u "()V"), (0, .fieldref 8 9), (0, .class_ 10), (0, .nameAndType 11 12), (0, u "com/example/nanjing/nanjing/generate/SeededStream"), (0, u "state"), (0, u "J"), (33, u "()J"), (2, u "(J)V"), (9, .long 11400714819323198485), (1, .long 13787848793156543929), (1, .long 10723151780598845931), (7, u "nextLong"), (28, u "GAMMA"), (1, u "UNIT"), (0, u "D")] 14

def k2c0 : Code := { maxStack := 3, maxLocals := 3, code := prog_23_method_1_code, exceptionTable := #[], attributes := #[] }
def k2m0 : Method := { name := "<init>", desc := "(J)V", sig := { parameters := [.long], returnType := none }, accessFlags := 0, code := some k2c0 }
def k2c1 : Code := { maxStack := 5, maxLocals := 3, code := prog_23_method_3_code, exceptionTable := #[], attributes := #[] }
def k2m1 : Method := { name := "nextLong", desc := "()J", sig := { parameters := [], returnType := some .long }, accessFlags := 0, code := some k2c1 }
/-- com/example/nanjing/nanjing/generate/SeededStream -/
def k2 : Class := { plain "com/example/nanjing/nanjing/generate/SeededStream" (some 0) with
  accessFlags := 32
  interfaces := #[]
  cf := some (fileOf pool2 8 #[] #[{ accessFlags := 0, nameIndex := 5, descriptorIndex := 49, attributes := #[] }, { accessFlags := 0, nameIndex := 71, descriptorIndex := 46, attributes := #[] }] 32 2 #[] #[{ accessFlags := 26, nameIndex := 100, descriptorIndex := 12, attributes := #[] }, { accessFlags := 26, nameIndex := 102, descriptorIndex := 103, attributes := #[] }, { accessFlags := 2, nameIndex := 11, descriptorIndex := 12, attributes := #[] }])
  fields := #[{ name := "GAMMA", type := .long, accessFlags := 26, slot := 0, constantValue := 0 }, { name := "UNIT", type := .double, accessFlags := 26, slot := 1, constantValue := 0 }, { name := "state", type := .long, accessFlags := 2, slot := 0, constantValue := 0 }]
  methods := #[k2m0, k2m1]
  instanceTypes := #[.long]
  staticTypes := #[.long, .double]
  resolved := Array.replicate 118 none
  statics := none }

def pool3 : Array CpInfo := pool [(1, u "java/lang/Cloneable"), (0, .class_ 1), (0, u "java/lang/Object"), (0, .class_ 3)] 3

/-- java/lang/Cloneable -/
def k3 : Class := { plain "java/lang/Cloneable" (some 0) with
  accessFlags := 1537
  interfaces := #[]
  cf := some (fileOf pool3 2 #[] #[] 1537 4 #[] #[])
  fields := #[]
  methods := #[]
  instanceTypes := #[]
  staticTypes := #[]
  resolved := Array.replicate 8 none
  statics := none }

def pool4 : Array CpInfo := pool [(1, u "java/io/Serializable"), (0, .class_ 1), (0, u "java/lang/Object"), (0, .class_ 3)] 3

/-- java/io/Serializable -/
def k4 : Class := { plain "java/io/Serializable" (some 0) with
  accessFlags := 1537
  interfaces := #[]
  cf := some (fileOf pool4 2 #[] #[] 1537 4 #[] #[])
  fields := #[]
  methods := #[]
  instanceTypes := #[]
  staticTypes := #[]
  resolved := Array.replicate 8 none
  statics := none }

/-- the primitive byte -/
def k5 : Class := { plain "byte" none with kind := .primitive 'B', accessFlags := 0x411 }
/-- [B -/
def k6 : Class := { plain "[B" (some 0) with kind := .array 5 .byte, interfaces := #[3, 4], accessFlags := 1041 }

/-- the primitive int -/
def k7 : Class := { plain "int" none with kind := .primitive 'I', accessFlags := 0x411 }
/-- [I -/
def k8 : Class := { plain "[I" (some 0) with kind := .array 7 .int, interfaces := #[3, 4], accessFlags := 1041 }

def heap : Heap := #[]
def classes : Array Class := #[k0, k1, k2, k3, k4, k5, k6, k7, k8]
def interned : List (Array UInt16 × Addr) := []
def slotsUsed : Nat := 0
def theMethod : MethodId := ⟨1, 3⟩
def args0 : Array Value := #[.long 5]
def aboutOver (below : List Frame) : State where
  vm := { classes := classes, interned := interned.toArray }
  heap := heap
  slotsUsed := slotsUsed
  threads := #[{ frames := .invoking theMethod args0 :: below }]
def below0 : List Frame := [.native { method := ⟨0, 0⟩, args := #[] }]
def about1 : State := aboutOver below0
def p0 : Program := .bare "" "" ""
def e0 : Env := launch0.env 0 0 0
theorem w_frames : about1.frames = Frame.invoking theMethod args0 :: below0 := rfl
set_option maxRecDepth 65536 in
theorem w_args : argsFit about1.vm theMethod args0 = true := by decide +kernel
set_option maxRecDepth 65536 in
theorem w_heap : heapFits about1 = true := by decide +kernel
set_option maxRecDepth 65536 in
theorem w_runnable : about1.curStatus? = some .runnable := by decide +kernel
set_option maxRecDepth 65536 in
theorem w_alone : about1.alone = true := by decide +kernel
set_option maxRecDepth 65536 in
theorem w_named : about1.methodNamed? x = some theMethod := by decide +kernel
set_option maxRecDepth 65536 in
theorem w_hears : about1.hears theMethod below0 = true := by decide +kernel
set_option maxRecDepth 65536 in
theorem w_ripe : about1.ripe theMethod args0 below0 = true := by decide +kernel
theorem w_running : about1.status = .running := rfl
set_option maxRecDepth 65536 in
theorem w_room : about1.hasRoom e0.platform room_1 = true :=
  launch0.hasRoom_least _ room_1 (by decide +kernel) (by decide +kernel) (by decide +kernel) (by decide +kernel) (by decide +kernel) (by decide +kernel)
theorem allAtoms_all (ts : List Jvm.Cond) (a : Array Jvm.Value) (st : Jvm.State) : (allAtoms ts).before a st = ts.all (fun c => c.before a st) := by
  induction ts with
  | nil => rfl
  | cons c t ih =>
    show (Jvm.Cond.and c (allAtoms t)).before a st = _
    rw [Jvm.Cond.before_and, ih, List.all_cons]
def words1 : List Jvm.Cond := Jvm.Cond.code x code maxLocals ret :: tables_1
/-- a 'code' word, met by the world's own term for the bytes: nothing is compared byte by byte -/
theorem code_word {y : MethodName} {bytes : ByteArray} {mx : Nat} {rt : Option FieldType} {a : Array Value} {s : State} {m : MethodId} {meth : Method} {c : Code} (h1 : s.methodNamed? y = some m) (h2 : s.vm.method? m = some meth) (h3 : meth.code = some c) (h4 : c.code = bytes)
    (h5 : (c.maxLocals == mx && c.exceptionTable.isEmpty && decide (c.maxStack ≤ mostOperands) && decide (meth.sig.returnType = rt) && !meth.locks && decide (parseMethodDescriptor y.desc = some meth.sig)) = true) : (Jvm.Cond.code y bytes mx rt).before a s = true := by
  simp only [Bool.and_eq_true, beq_iff_eq, Bool.not_eq_true', decide_eq_true_eq] at h5
  obtain ⟨⟨⟨⟨⟨g1, g2⟩, g3⟩, g4⟩, g5⟩, g6⟩ := h5
  simp [Cond.before, Cond.holds, Cond.value, h1, h2, h3, h4, g1, g2, g3, g4, g5, g6]
def isCode : Jvm.Cond → Bool
  | .code _ _ _ _ => true
  | _ => false
theorem all_split {L : List Jvm.Cond} {P : Jvm.Cond → Bool} (h1 : L.all (fun c => isCode c || P c) = true) (h2 : ∀ c ∈ L.filter isCode, P c = true) : L.all P = true := by
  refine List.all_eq_true.mpr fun c hc => ?_
  have h := List.all_eq_true.mp h1 c hc
  rcases Bool.eq_false_or_eq_true (isCode c) with hi | hi
  · exact h2 c (List.mem_filter.mpr ⟨hc, hi⟩)
  · simpa [hi] using h
set_option maxRecDepth 65536 in
theorem w_c0 : (Jvm.Cond.code x code maxLocals ret).before args0 about1 = true := code_word (m := ⟨1, 3⟩) (meth := k1m3) (c := k1c3) (by decide +kernel) rfl rfl rfl (by decide +kernel)
set_option maxRecDepth 65536 in
theorem w_c1 : (Jvm.Cond.code ({ cls := "com/example/nanjing/nanjing/generate/SeededStream", name := "<init>", desc := "(J)V" } : Jvm.MethodName) prog_23_method_1_code (3 : Nat) (Option.none : Option Jvm.ClassFile.FieldType)).before args0 about1 = true := code_word (m := ⟨2, 0⟩) (meth := k2m0) (c := k2c0) (by decide +kernel) rfl rfl rfl (by decide +kernel)
set_option maxRecDepth 65536 in
theorem w_c2 : (Jvm.Cond.code ({ cls := "java/lang/Object", name := "<init>", desc := "()V" } : Jvm.MethodName) object_method_1_code (1 : Nat) (Option.none : Option Jvm.ClassFile.FieldType)).before args0 about1 = true := code_word (m := ⟨0, 0⟩) (meth := k0m0) (c := k0c0) (by decide +kernel) rfl rfl rfl (by decide +kernel)
set_option maxRecDepth 65536 in
theorem w_c3 : (Jvm.Cond.code ({ cls := "com/example/nanjing/nanjing/generate/SeededStream", name := "nextLong", desc := "()J" } : Jvm.MethodName) prog_23_method_3_code (3 : Nat) (Option.some Jvm.ClassFile.FieldType.long)).before args0 about1 = true := code_word (m := ⟨2, 1⟩) (meth := k2m1) (c := k2c1) (by decide +kernel) rfl rfl rfl (by decide +kernel)
set_option maxRecDepth 65536 in
theorem w_c4 : (Jvm.Cond.code ({ cls := "com/example/nanjing/nanjing/generate/SeededStreamNextLongPinLaw", name := "unmix", desc := "(J)J" } : Jvm.MethodName) method_3_code (2 : Nat) (Option.some Jvm.ClassFile.FieldType.long)).before args0 about1 = true := code_word (m := ⟨1, 2⟩) (meth := k1m2) (c := k1c2) (by decide +kernel) rfl rfl rfl (by decide +kernel)
set_option maxRecDepth 65536 in
theorem w_c5 : (Jvm.Cond.code ({ cls := "com/example/nanjing/nanjing/generate/SeededStreamNextLongPinLaw", name := "inverse", desc := "(J)J" } : Jvm.MethodName) method_2_code (4 : Nat) (Option.some Jvm.ClassFile.FieldType.long)).before args0 about1 = true := code_word (m := ⟨1, 1⟩) (meth := k1m1) (c := k1c1) (by decide +kernel) rfl rfl rfl (by decide +kernel)
def codes1 : List Jvm.Cond := [Jvm.Cond.code x code maxLocals ret, Jvm.Cond.code ({ cls := "com/example/nanjing/nanjing/generate/SeededStream", name := "<init>", desc := "(J)V" } : Jvm.MethodName) prog_23_method_1_code (3 : Nat) (Option.none : Option Jvm.ClassFile.FieldType), Jvm.Cond.code ({ cls := "java/lang/Object", name := "<init>", desc := "()V" } : Jvm.MethodName) object_method_1_code (1 : Nat) (Option.none : Option Jvm.ClassFile.FieldType), Jvm.Cond.code ({ cls := "com/example/nanjing/nanjing/generate/SeededStream", name := "nextLong", desc := "()J" } : Jvm.MethodName) prog_23_method_3_code (3 : Nat) (Option.some Jvm.ClassFile.FieldType.long), Jvm.Cond.code ({ cls := "com/example/nanjing/nanjing/generate/SeededStreamNextLongPinLaw", name := "unmix", desc := "(J)J" } : Jvm.MethodName) method_3_code (2 : Nat) (Option.some Jvm.ClassFile.FieldType.long), Jvm.Cond.code ({ cls := "com/example/nanjing/nanjing/generate/SeededStreamNextLongPinLaw", name := "inverse", desc := "(J)J" } : Jvm.MethodName) method_2_code (4 : Nat) (Option.some Jvm.ClassFile.FieldType.long)]
set_option maxRecDepth 65536 in
theorem codes_eq : words1.filter isCode = codes1 := rfl
theorem w_codes : ∀ c ∈ words1.filter isCode, c.before args0 about1 = true := by
  rw [codes_eq]
  intro c hc
  simp only [codes1, List.mem_cons, List.not_mem_nil, or_false] at hc
  rcases hc with rfl | rfl | rfl | rfl | rfl | rfl
  · exact w_c0
  · exact w_c1
  · exact w_c2
  · exact w_c3
  · exact w_c4
  · exact w_c5
set_option maxRecDepth 65536 in
theorem w_t1 : (words1.take 24).all (fun c => isCode c || c.before args0 about1) = true := by decide +kernel
set_option maxRecDepth 65536 in
theorem w_t2 : (words1.drop 24).all (fun c => isCode c || c.before args0 about1) = true := by decide +kernel
theorem w_tables : (allAtoms (Jvm.Cond.code x code maxLocals ret :: tables_1)).before args0 about1 = true := by
  rw [allAtoms_all]
  show words1.all (fun c => c.before args0 about1) = true
  refine all_split ?_ w_codes
  rw [← List.take_append_drop 24 words1, List.all_append, w_t1, w_t2]
  rfl
set_option maxRecDepth 65536 in
theorem w_case : (Jvm.Cond.and given_1 narrow_1).before args0 about1 = true := by decide +kernel
theorem w_applies : (headSpec (Jvm.Cond.code x code maxLocals ret :: tables_1) room_1).applies x e0.platform about1 = true :=
  (Spec.applies_iff w_frames).mpr ⟨w_running, w_runnable, w_alone, w_named, w_hears, w_ripe, w_room, w_tables⟩
theorem atStart : AtStart classFile x code maxLocals ret World_1 tables_1 room_1 Calls_1 rest_1 Pre_1 launch0 p0 e0 about1 theMethod args0 below0 :=
  ⟨lists_1, trivial, launch0.admits_env _ _ _, launch0.least_env, fairChoices_fair.cas, fairChoices_fair.clock, w_frames, w_args, w_heap, w_applies, trivial, trivial, w_case⟩
end start1
theorem witness_1 : WitnessClaimed_1 := ⟨start1.p0, start1.e0, start1.about1, start1.theMethod, start1.args0, start1.below0, start1.atStart⟩
end Jvm.Pilot.@@N@@
