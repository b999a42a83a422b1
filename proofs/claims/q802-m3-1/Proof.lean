import JvmDerived
import JvmDerived.Pilot.@@N@@Statement
import JvmDerived.Pilot.@@N@@Code
set_option linter.unusedVariables false
set_option linter.unusedSimpArgs false
namespace Jvm.RoadKit
open Sem ClassFile Op Lib Jvm.Stand Jvm.Free Jvm.LawKit
section New
variable {p : Program} {l : Launch} {e : Env} {R : Room} {s : State} {m : MethodId} {args : Array Value} {below : List Frame} {meth : Method} {c : Code} {T : State} {locs : List Loc} {cells slots : Nat}
theorem retI (X : Stand p l e R s m args below meth c T locs cells slots) (hx : p.tables.exec = Jvm.exec) {pc : Nat} {Ls : Array Slot} {z : Int32} {rest : List Value} (hret : meth.sig.returnType = some .int) (hd : decode c.code pc = .ok (.ireturn, 1)) {fs : List Frame}
    (hl : ∀ (f : JFrame) (acts : List Action), f.method = m → f.locked = none → f.entered = [] → (doReturn e (T.setTop f) acts (some (.int z))).1 = T.setFrames fs) : Steps p.tables e below (T.setTop (mkF m pc Ls (.int z :: rest))) (T.setFrames fs) := by
  have hm' : T.vm.method? m = some meth := X.method'
  have hn : narrow .int (.int z) = .int z := rfl
  show Steps p.tables e below (T.setTop { method := m, pc := pc, locals := Ls, stack := _ :: rest, locked := none }) _
  jvm_step X.here [X.here.top, hx, hd, hm', hret, hn]
  first | (intro acts; rw [hl _ acts rfl rfl rfl]) | rw [hl _ _ rfl rfl rfl]
  exact Steps.refl _
theorem own_ldc {g : JFrame} {target : State} (X : Stand p l e R s m args below meth c T locs cells slots) (hx : p.tables.exec = Jvm.exec) {own : String} {index : Nat} {v : Int32} (hown : s.vm.findClass own = some m.cls) (w : (Cond.constant own index v).before args s = true) (hg : g.method = m) (hd : decode c.code g.pc = .ok (.ldc index, 2))
    (hr : Steps p.tables e below (T.setTop { g with pc := g.pc + 2, stack := .int v :: g.stack }) target) : Steps p.tables e below (T.setTop g) target := X.ldcInt hx hown w hg hd target hr
theorem own_ldc2 {g : JFrame} {target : State} (X : Stand p l e R s m args below meth c T locs cells slots) (hx : p.tables.exec = Jvm.exec) {own : String} {index : Nat} {v : Int64} (hown : s.vm.findClass own = some m.cls) (w : (Cond.constantLong own index v).before args s = true) (hg : g.method = m) (hd : decode c.code g.pc = .ok (.ldc2_w index, 3))
    (hr : Steps p.tables e below (T.setTop { g with pc := g.pc + 3, stack := .long v :: g.stack }) target) : Steps p.tables e below (T.setTop g) target := X.ldc2Long hx hown w hg hd target hr
theorem own_len {g : JFrame} {target : State} (X : Stand p l e R s m args below meth c T locs cells slots) (hx : p.tables.exec = Jvm.exec) {a : Addr} {cell : Cell} {ty : FieldType} {z : Int32} (hcell : T.heap[a]? = some cell) (harr : s.isArrayOf cell ty) (hz : cell.slots.size = z.toNatClampNeg) (hn : ¬ z < 0) (hg : g.method = m) {rest : List Value} (hs : g.stack = .ref a :: rest) (hd : decode c.code g.pc = .ok (.arraylength, 1))
    (hr : Steps p.tables e below (T.setTop { g with pc := g.pc + 1, stack := .int z :: rest }) target) : Steps p.tables e below (T.setTop g) target := X.arraylength hx hcell harr hg hs hd target (by rw [len_of hz hn]; exact hr)
theorem own_iaload {g : JFrame} {target : State} (X : Stand p l e R s m args below meth c T locs cells slots) (hx : p.tables.exec = Jvm.exec) {a : Addr} {cell : Cell} {j : Int32} {v : Value} (hcell : T.heap[a]? = some cell) (harr : s.isArrayOf cell .int) (hk : cell.vm ≠ .unknown) (hin : ¬ (j < 0 ∨ cell.slots.size ≤ j.toNatClampNeg)) (hv : cell.slots[j.toNatClampNeg]? = some v) (hg : g.method = m) {rest : List Value} (hs : g.stack = .int j :: .ref a :: rest) (hd : decode c.code g.pc = .ok (.iaload, 1))
    (hr : Steps p.tables e below (T.setTop { g with pc := g.pc + 1, stack := v :: rest }) target) : Steps p.tables e below (T.setTop g) target := X.iaload hx hcell harr hk hin hv hg hs hd target hr
theorem own_laload {g : JFrame} {target : State} (X : Stand p l e R s m args below meth c T locs cells slots) (hx : p.tables.exec = Jvm.exec) {a : Addr} {cell : Cell} {j : Int32} {v : Value} (hcell : T.heap[a]? = some cell) (harr : s.isArrayOf cell .long) (hk : cell.vm ≠ .unknown) (hin : ¬ (j < 0 ∨ cell.slots.size ≤ j.toNatClampNeg)) (hv : cell.slots[j.toNatClampNeg]? = some v) (hg : g.method = m) {rest : List Value} (hs : g.stack = .int j :: .ref a :: rest) (hd : decode c.code g.pc = .ok (.laload, 1))
    (hr : Steps p.tables e below (T.setTop { g with pc := g.pc + 1, stack := v :: rest }) target) : Steps p.tables e below (T.setTop g) target := X.laload hx hcell harr hk hin hv hg hs hd target hr
theorem own_baload {g : JFrame} {target : State} (X : Stand p l e R s m args below meth c T locs cells slots) (hx : p.tables.exec = Jvm.exec) {a : Addr} {cell : Cell} {j : Int32} {v : Value} (hcell : T.heap[a]? = some cell) (harr : s.isArrayOf cell .byte) (hk : cell.vm ≠ .unknown) (hin : ¬ (j < 0 ∨ cell.slots.size ≤ j.toNatClampNeg)) (hv : cell.slots[j.toNatClampNeg]? = some v) (hg : g.method = m) {rest : List Value} (hs : g.stack = .int j :: .ref a :: rest) (hd : decode c.code g.pc = .ok (.baload, 1))
    (hr : Steps p.tables e below (T.setTop { g with pc := g.pc + 1, stack := v :: rest }) target) : Steps p.tables e below (T.setTop g) target := X.baloadBytes hx hcell harr hk hin hv hg hs hd target hr
theorem own_lrem {g : JFrame} {target : State} (X : Stand p l e R s m args below meth c T locs cells slots) (hx : p.tables.exec = Jvm.exec) (hg : g.method = m) {x y : Int64} {rest : List Value} (hd : decode c.code g.pc = .ok (.lrem, 1)) (hs : g.stack = .long y :: .long x :: rest) (hy : y ≠ 0)
    (hr : Steps p.tables e below (T.setTop { g with pc := g.pc + 1, stack := .long (x % y) :: rest }) target) : Steps p.tables e below (T.setTop g) target :=
  XS.lrem X.here hx hg hd hs hy (by rw [lrem_mod]; exact hr)
theorem own_tltL {x y : Int64} (h : x < y) : ifCond.holds .lt (lcmpW x y) = true ∧ ifCond.holds .ge (lcmpW x y) = false ∧ ifCond.holds .gt (lcmpW y x) = true ∧ ifCond.holds .le (lcmpW y x) = false := by
  have h1 : lcmpW x y < 0 := by rw [lcW]; exact (lc_lt x y).mpr h
  have h2 : 0 < lcmpW y x := by rw [lcW]; exact (lc_gt y x).mpr h
  exact ⟨(if0 _ _).trans (tlt h1).1, (if0 _ _).trans (tlt h1).2.1, (if0 _ _).trans (tlt h2).2.2.1, (if0 _ _).trans (tlt h2).2.2.2⟩
theorem own_fltL {x y : Int64} (h : ¬ x < y) : ifCond.holds .lt (lcmpW x y) = false ∧ ifCond.holds .ge (lcmpW x y) = true ∧ ifCond.holds .gt (lcmpW y x) = false ∧ ifCond.holds .le (lcmpW y x) = true := by
  have h1 : ¬ lcmpW x y < 0 := by rw [lcW, lc_lt]; exact h
  have h2 : ¬ 0 < lcmpW y x := by rw [lcW, lc_gt]; exact h
  exact ⟨(if0 _ _).trans (flt h1).1, (if0 _ _).trans (flt h1).2.1, (if0 _ _).trans (flt h2).2.2.1, (if0 _ _).trans (flt h2).2.2.2⟩
theorem own_teqL {x y : Int64} (h : x = y) : ifCond.holds .eq (lcmpW x y) = true ∧ ifCond.holds .ne (lcmpW x y) = false := by
  have h1 : lcmpW x y = 0 := by rw [lcW, lc_eq]; exact h
  exact ⟨(if0 _ _).trans (teq h1).1, (if0 _ _).trans (teq h1).2⟩
theorem own_feqL {x y : Int64} (h : ¬ x = y) : ifCond.holds .eq (lcmpW x y) = false ∧ ifCond.holds .ne (lcmpW x y) = true := by
  have h1 : ¬ lcmpW x y = 0 := by rw [lcW, lc_eq]; exact h
  exact ⟨(if0 _ _).trans (feq h1).1, (if0 _ _).trans (feq h1).2⟩
end New
end Jvm.RoadKit
namespace Jvm.Pilot.@@N@@
open Jvm Jvm.ClassFile Sem Op Lib Jvm.Free Jvm.Stand Jvm.LawKit Jvm.RoadKit Bundle Jvm.Pilot.@@N@@.Jvm.D
/-- what is left to show from a place of the walk on -/
abbrev OGl (p : Program) (e : Env) (below : List Frame) (Q : Outcome → State → Prop) (T : State) (g : JFrame) : Prop :=
  ∃ s₂ o, Steps p.tables e below (T.setTop g) s₂ ∧ s₂.status = .running ∧ Ended s₂ below o ∧ Q o s₂
theorem OGl.go {p : Program} {e : Env} {below : List Frame} {Q : Outcome → State → Prop} {T T' : State} {g g' : JFrame} (h : ∀ t, Steps p.tables e below (T'.setTop g') t → Steps p.tables e below (T.setTop g) t) (k : OGl p e below Q T' g') : OGl p e below Q T g := by
  obtain ⟨s2, o, h1, h2⟩ := k
  exact ⟨s2, o, h _ h1, h2⟩
theorem OGl.start {p : Program} {e : Env} {below : List Frame} {Q : Outcome → State → Prop} {T : State} {g g' : JFrame} (q : g = g') (k : OGl p e below Q T g') : OGl p e below Q T g := q ▸ k
theorem own_selPriv {s : State} {args : Array Value} {y y' x' : MethodName} {C' : String} (hp : s.PrivateAt y) (hi : (Cond.instanceMethod y).before args s = true) (hc : y'.cls = y.cls) (hs : (Cond.selects C' x' y').before args s = true) (hy : y.cls ≠ "java/lang/invoke/MethodHandle" ∧ y.cls ≠ "java/lang/invoke/VarHandle" := by decide) : (Cond.selects y.cls y y).before args s = true := by
  obtain ⟨mk, meth, hn, hm, -, -⟩ := Cond.instanceMethod_spec hi
  obtain ⟨c2, r2, m2, -, -, q3, -, kP, hkP, hkPi⟩ := Cond.selects_spec hs
  have h1 := findClass_of_methodNamed hn
  have h2 := findClass_of_methodNamed q3
  rw [hc, h1] at h2
  have h3 : mk.cls = m2.cls := Option.some.inj h2
  have hf := State.methodFound?_of_named hn hy
  have hsel : selectMethod {} s.vm mk.cls mk = .method mk := selectMethod_private hm (hp mk meth hn hm)
  rw [← h3] at hkP
  simp [Cond.before, Cond.holds, Cond.value, h1, hf, hn, hsel, hkP, hkPi]
theorem own_weak {Z : State} {h : Heap} {a : Addr} {k : ClassId} {ty : FieldType} {z : Int32} {vs vs' : List Value} {d : Value} (F : Arv Z h a k ty z vs d) (q : ∀ i, i < z.toNatClampNeg → vs'.getD i d = vs.getD i d) : Arv Z h a k ty z vs' d := by
  obtain ⟨c, A, r1, r2, r3, H, G⟩ := F
  exact ⟨c, A, r1, r2, r3, fun i hi => by rw [q i (r2 ▸ hi)]; exact H i hi, fun i hi => by rw [q i (r2 ▸ hi)]; exact G i hi⟩
theorem own_cl {z j : Int32} {k i : Nat} (h : ¬ j < z) (hk : j.toInt = k) (hi : i < z.toNatClampNeg) : i < k := by
  rw [Int32.lt_iff_toInt_lt] at h
  have : z.toNatClampNeg = z.toInt.toNat := rfl
  omega
theorem own_irr {α : Type} [LT α] [Std.Irrefl (α := α) (· < ·)] (x : α) : ¬ x < x := Std.Irrefl.irrefl x
theorem d1_0 : decode jdk_29_method_70_code 0 = .ok (.lload_n 0, 1) := by decide +kernel
theorem d1_1 : decode jdk_29_method_70_code 1 = .ok (.lload_n 2, 1) := by decide +kernel
theorem d1_2 : decode jdk_29_method_70_code 2 = .ok (.lcmp, 1) := by decide +kernel
theorem d1_3 : decode jdk_29_method_70_code 3 = .ok (.ifCond .gt 7, 3) := by decide +kernel
theorem d1_10 : decode jdk_29_method_70_code 10 = .ok (.lload_n 2, 1) := by decide +kernel
theorem d1_11 : decode jdk_29_method_70_code 11 = .ok (.lreturn, 1) := by decide +kernel
theorem d1_6 : decode jdk_29_method_70_code 6 = .ok (.lload_n 0, 1) := by decide +kernel
theorem d1_7 : decode jdk_29_method_70_code 7 = .ok (.goto 4, 3) := by decide +kernel
theorem ef_1 (m : MethodId) (x0 : Int64) (x1 : Int64) : entryFrame m #[(.long x0), (.long x1)] 4 = mkF m 0 #[.val (.long x0), .second, .val (.long x1), .second] [] := by first | (simp [entryFrame, mkF, argsToLocals, Value.category]; done) | rfl
def t1_0 (q0 : Int64) (q1 : Int64) : Int64 := (if q1 < q0 then q1 else q0)
def Q1 (Z : State) (q0 : Int64) (q1 : Int64) (h0 : Heap) (n0 : Nat) (v : Option Value) (h : Heap) (L : List Loc) : Prop := v = some (.long (t1_0 q0 q1)) ∧ Fr n0 L ∧ h = h0
set_option maxRecDepth 65536 in
set_option maxHeartbeats 40000000 in
theorem rm1 (l : Launch) (Z : State) (a0 : Array Value) (hw : ∀ d ∈ tables_1, d.before a0 Z = true) (ws : List Jvm.Cond) (q0 : Int64) (q1 : Int64) (h0 : Heap) (n0 : Nat) (Z0 : n0 ≤ h0.size) :
    MetFree l (⟨"java/lang/Math", "min", "(JJ)J"⟩ : MethodName) (head1 (Jvm.Cond.code (⟨"java/lang/Math", "min", "(JJ)J"⟩ : MethodName) jdk_29_method_70_code 4 (some .long) :: ws) ({ frames := 0, cells := 0, slots := 0, locals := 0 } : Room)) (fun a U => a = #[(.long q0), (.long q1)] ∧ Z.Warmed39 U.vm ∧ U.heap = h0) (fun _ _ _ _ _ => True) (fun _ U o U' => ∃ v L, o = .returned v ∧ Q1 Z q0 q1 h0 n0 v U'.heap L ∧ FrameEnd U o U' L ({ frames := 0, cells := 0, slots := 0, locals := 0 } : Room).cells ({ frames := 0, cells := 0, slots := 0, locals := 0 } : Room).slots) := by
  refine MetFree.of_bodySF (Jvm.Free.JP.mathPlain rfl (by decide +kernel)) hisR ?_
  intro p e s m args below meth c s₁ Bd hml0 hP hK
  obtain ⟨rfl, hZ, hh⟩ := hP
  have hx := Bd.exec
  have hby := Bd.bytes
  have hml : c.maxLocals = 4 := hml0
  have hown : s.vm.findClass "java/lang/Math" = some m.cls := findClass_of_methodNamed Bd.named
  have hnm := (name_of_methodNamed Bd.named Bd.method).1
  have X0 : Stand p l e ({ frames := 0, cells := 0, slots := 0, locals := 0 } : Room) s m #[(.long q0), (.long q1)] below meth c s₁ [] 0 0 := Stand.of_body Bd
  have e0 : s₁.heap = h0 := by rw [← hh, Bd.state]; rfl
  have N0 := Fr.nil n0
  refine OGl.start (ef_1 m q0 q1) ?_
  show OGl _ _ _ _ s₁ (mkF m 0 #[.val (.long q0), .second, .val (.long q1), .second] [])
  refine OGl.go (fun t k => XS.lloadN X0.here hx rfl (hb hby d1_0) rfl (XS.lloadN X0.here hx rfl (hb hby d1_1) rfl (XS.lcmp X0.here hx rfl (hb hby d1_2) rfl k))) ?_
  show OGl _ _ _ _ s₁ (mkF m 3 #[.val (.long q0), .second, .val (.long q1), .second] [(.int (lcmpW q0 q1))])
  by_cases hc5 : q1 < q0
  · refine OGl.go (fun t k => XS.ifYes X0.here hx rfl (pc0 := 3) (pc' := 10) rfl (hb hby d1_3) rfl (own_tltL hc5).2.2.1 (by decide) (by decide) (XS.lloadN X0.here hx rfl (hb hby d1_10) rfl k)) ?_
    show OGl _ _ _ _ s₁ (mkF m 11 #[.val (.long q0), .second, .val (.long q1), .second] [(.long q1)])
    obtain ⟨fs, hr, hrun, hended, hW, hsame⟩ := X0.leave (v := some (.long q1)) (fun h => by rw [Bd.returns] at h; cases h)
    refine ⟨_, _, X0.lreturnOut hx Bd.returns (hb hby d1_11) hr, hrun, hended, _, _, rfl, ?_, ⟨_, rfl⟩, hW, hsame.mono (by decide) (by decide)⟩
    have hv6 : (t1_0 q0 q1) = q1 := by unfold t1_0; rw [if_pos hc5]
    show Q1 Z q0 q1 h0 n0 _ s₁.heap _
    rw [e0]
    exact ⟨(by rw [hv6]), N0, rfl⟩
  · refine OGl.go (fun t k => XS.ifNo X0.here hx rfl (hb hby d1_3) rfl (own_fltL hc5).2.2.1 (XS.lloadN X0.here hx rfl (hb hby d1_6) rfl (XS.goto X0.here hx rfl (pc0 := 7) (pc' := 11) rfl (hb hby d1_7) (by decide) (by decide) k))) ?_
    show OGl _ _ _ _ s₁ (mkF m 11 #[.val (.long q0), .second, .val (.long q1), .second] [(.long q0)])
    obtain ⟨fs, hr, hrun, hended, hW, hsame⟩ := X0.leave (v := some (.long q0)) (fun h => by rw [Bd.returns] at h; cases h)
    refine ⟨_, _, X0.lreturnOut hx Bd.returns (hb hby d1_11) hr, hrun, hended, _, _, rfl, ?_, ⟨_, rfl⟩, hW, hsame.mono (by decide) (by decide)⟩
    have hv7 : (t1_0 q0 q1) = q0 := by unfold t1_0; rw [if_neg hc5]
    show Q1 Z q0 q1 h0 n0 _ s₁.heap _
    rw [e0]
    exact ⟨(by rw [hv7]), N0, rfl⟩
theorem pd_0 : parseMethodDescriptor "(JJ)J" = some ⟨[.long, .long], some .long⟩ := by decide +kernel
theorem d2_0 : decode prog_10_method_19_code 0 = .ok (.iload_n 0, 1) := by decide +kernel
theorem d2_1 : decode prog_10_method_19_code 1 = .ok (.iload_n 1, 1) := by decide +kernel
theorem d2_2 : decode prog_10_method_19_code 2 = .ok (.bipush 16, 2) := by decide +kernel
theorem d2_4 : decode prog_10_method_19_code 4 = .ok (.isub, 1) := by decide +kernel
theorem d2_5 : decode prog_10_method_19_code 5 = .ok (.if_icmp .le 9, 3) := by decide +kernel
theorem d2_8 : decode prog_10_method_19_code 8 = .ok (.iload_n 1, 1) := by decide +kernel
theorem d2_9 : decode prog_10_method_19_code 9 = .ok (.iconst 1, 1) := by decide +kernel
theorem d2_10 : decode prog_10_method_19_code 10 = .ok (.iadd, 1) := by decide +kernel
theorem d2_11 : decode prog_10_method_19_code 11 = .ok (.goto 7, 3) := by decide +kernel
theorem d2_18 : decode prog_10_method_19_code 18 = .ok (.ireturn, 1) := by decide +kernel
theorem d2_14 : decode prog_10_method_19_code 14 = .ok (.iload_n 0, 1) := by decide +kernel
theorem d2_15 : decode prog_10_method_19_code 15 = .ok (.bipush 16, 2) := by decide +kernel
theorem d2_17 : decode prog_10_method_19_code 17 = .ok (.iadd, 1) := by decide +kernel
theorem ef_2 (m : MethodId) (x0 : Int32) (x1 : Int32) : entryFrame m #[(.int x0), (.int x1)] 2 = mkF m 0 #[.val (.int x0), .val (.int x1)] [] := by first | (simp [entryFrame, mkF, argsToLocals, Value.category]; done) | rfl
theorem pn_1 : plainName "com/example/skipscan/skipscan/ByteScan" = true := by first | (simp [plainName, overriddenIn]; done) | decide +kernel
def t2_0 (p0 : Int32) (p1 : Int32) : Int32 := (if (p1 - (16 : Int32)) < p0 then (p1 + (1 : Int32)) else (p0 + (16 : Int32)))
def Q2 (Z : State) (p0 : Int32) (p1 : Int32) (h0 : Heap) (n0 : Nat) (v : Option Value) (h : Heap) (L : List Loc) : Prop := v = some (.int (t2_0 p0 p1)) ∧ Fr n0 L ∧ h = h0
set_option maxRecDepth 65536 in
set_option maxHeartbeats 40000000 in
theorem rm2 (l : Launch) (Z : State) (a0 : Array Value) (hw : ∀ d ∈ tables_1, d.before a0 Z = true) (ws : List Jvm.Cond) (p0 : Int32) (p1 : Int32) (h0 : Heap) (n0 : Nat) (Z0 : n0 ≤ h0.size) :
    MetFree l (⟨"com/example/skipscan/skipscan/ByteScan", "after", "(II)I"⟩ : MethodName) (head1 (Jvm.Cond.code (⟨"com/example/skipscan/skipscan/ByteScan", "after", "(II)I"⟩ : MethodName) prog_10_method_19_code 2 (some .int) :: ws) ({ frames := 0, cells := 0, slots := 0, locals := 0 } : Room)) (fun a U => a = #[(.int p0), (.int p1)] ∧ Z.Warmed39 U.vm ∧ U.heap = h0) (fun _ _ _ _ _ => True) (fun _ U o U' => ∃ v L, o = .returned v ∧ Q2 Z p0 p1 h0 n0 v U'.heap L ∧ FrameEnd U o U' L ({ frames := 0, cells := 0, slots := 0, locals := 0 } : Room).cells ({ frames := 0, cells := 0, slots := 0, locals := 0 } : Room).slots) := by
  refine MetFree.of_bodySF (plainFor_of_name pn_1) hisR ?_
  intro p e s m args below meth c s₁ Bd hml0 hP hK
  obtain ⟨rfl, hZ, hh⟩ := hP
  have hx := Bd.exec
  have hby := Bd.bytes
  have hml : c.maxLocals = 2 := hml0
  have hown : s.vm.findClass "com/example/skipscan/skipscan/ByteScan" = some m.cls := findClass_of_methodNamed Bd.named
  have hnm := (name_of_methodNamed Bd.named Bd.method).1
  have X0 : Stand p l e ({ frames := 0, cells := 0, slots := 0, locals := 0 } : Room) s m #[(.int p0), (.int p1)] below meth c s₁ [] 0 0 := Stand.of_body Bd
  have e0 : s₁.heap = h0 := by rw [← hh, Bd.state]; rfl
  have N0 := Fr.nil n0
  refine OGl.start (ef_2 m p0 p1) ?_
  show OGl _ _ _ _ s₁ (mkF m 0 #[.val (.int p0), .val (.int p1)] [])
  refine OGl.go (fun t k => XS.iloadN X0.here hx rfl (hb hby d2_0) rfl (XS.iloadN X0.here hx rfl (hb hby d2_1) rfl (XS.bipush X0.here hx rfl (hb hby d2_2) (XS.isub X0.here hx rfl (hb hby d2_4) rfl k)))) ?_
  show OGl _ _ _ _ s₁ (mkF m 5 #[.val (.int p0), .val (.int p1)] [(.int (p1 - (16 : Int32))), (.int p0)])
  by_cases hc9 : (p1 - (16 : Int32)) < p0
  · refine OGl.go (fun t k => XS.icmpNo X0.here hx rfl (hb hby d2_5) rfl (tlt hc9).2.2.2 (XS.iloadN X0.here hx rfl (hb hby d2_8) rfl (XS.iconst X0.here hx rfl (hb hby d2_9) (XS.iadd X0.here hx rfl (hb hby d2_10) rfl (XS.goto X0.here hx rfl (pc0 := 11) (pc' := 18) rfl (hb hby d2_11) (by decide) (by decide) k))))) ?_
    show OGl _ _ _ _ s₁ (mkF m 18 #[.val (.int p0), .val (.int p1)] [(.int (p1 + (1 : Int32)))])
    obtain ⟨fs, hr, hrun, hended, hW, hsame⟩ := X0.leave (v := some (.int (p1 + (1 : Int32)))) (fun h => by rw [Bd.returns] at h; cases h)
    refine ⟨_, _, retI X0 hx Bd.returns (hb hby d2_18) hr, hrun, hended, _, _, rfl, ?_, ⟨_, rfl⟩, hW, hsame.mono (by decide) (by decide)⟩
    have hv10 : (t2_0 p0 p1) = (p1 + (1 : Int32)) := by unfold t2_0; rw [if_pos hc9]
    show Q2 Z p0 p1 h0 n0 _ s₁.heap _
    rw [e0]
    exact ⟨(by rw [hv10]), N0, rfl⟩
  · refine OGl.go (fun t k => XS.icmpYes X0.here hx rfl (pc0 := 5) (pc' := 14) rfl (hb hby d2_5) rfl (flt hc9).2.2.2 (by decide) (by decide) (XS.iloadN X0.here hx rfl (hb hby d2_14) rfl (XS.bipush X0.here hx rfl (hb hby d2_15) (XS.iadd X0.here hx rfl (hb hby d2_17) rfl k)))) ?_
    show OGl _ _ _ _ s₁ (mkF m 18 #[.val (.int p0), .val (.int p1)] [(.int (p0 + (16 : Int32)))])
    obtain ⟨fs, hr, hrun, hended, hW, hsame⟩ := X0.leave (v := some (.int (p0 + (16 : Int32)))) (fun h => by rw [Bd.returns] at h; cases h)
    refine ⟨_, _, retI X0 hx Bd.returns (hb hby d2_18) hr, hrun, hended, _, _, rfl, ?_, ⟨_, rfl⟩, hW, hsame.mono (by decide) (by decide)⟩
    have hv11 : (t2_0 p0 p1) = (p0 + (16 : Int32)) := by unfold t2_0; rw [if_neg hc9]
    show Q2 Z p0 p1 h0 n0 _ s₁.heap _
    rw [e0]
    exact ⟨(by rw [hv11]), N0, rfl⟩
theorem pd_1 : parseMethodDescriptor "(II)I" = some ⟨[.int, .int], some .int⟩ := by decide +kernel
def e0_0 (p1 : Int32) : Int32 := (if p1 = (2147483647 : Int32) then (p1 >>> ((1 : Int32) &&& 31)) else p1)
def e0_1 (p1 : Int32) : Int32 := (if p1 < (-2147483632 : Int32) then (p1 >>> ((1 : Int32) &&& 31)) else (e0_0 p1))
def e0_2 (p2 : Int32) : Int32 := (((p2.toUInt32 >>> ((1 : Int32) &&& 31).toUInt32).toInt32) &&& (31 : Int32))
def e0_3 (p0 : Int32) (p1 : Int32) (p2 : Int32) : Int32 := (if (p2 &&& (1 : Int32)) = (0 : Int32) then p0 else (((e0_1 p1) + (e0_2 p2)) - (24 : Int32)))
def e0_4 (p0 : Int32) (p1 : Int32) (p2 : Int32) : Int64 := (t1_0 ((((e0_3 p0 p1 p2)).toInt64) + (16 : Int64)) ((((e0_1 p1)).toInt64) + (1 : Int64)))
theorem ef_0 (m : MethodId) (x0 : Int32) (x1 : Int32) (x2 : Int32) : entryFrame m #[(.int x0), (.int x1), (.int x2)] maxLocals = mkF m 0 #[.val (.int x0), .val (.int x1), .val (.int x2), .unset, .unset, .unset, .unset, .unset] [] := by first | (simp [entryFrame, mkF, argsToLocals, Value.category, maxLocals]; done) | rfl
theorem pn_2 : plainName "com/example/skipscan/skipscan/ByteScanAfterPinLaw" = true := by first | (simp [plainName, overriddenIn]; done) | decide +kernel
def t0_0 (p0 : Int32) (p1 : Int32) (p2 : Int32) : Int32 := (if (((t2_0 (e0_3 p0 p1 p2) (e0_1 p1))).toInt64) = (e0_4 p0 p1 p2) then (1 : Int32) else (0 : Int32))
def Q0 (Z : State) (p0 : Int32) (p1 : Int32) (p2 : Int32) (h0 : Heap) (n0 : Nat) (v : Option Value) (h : Heap) (L : List Loc) : Prop := v = some (.int (t0_0 p0 p1 p2)) ∧ Fr n0 L
set_option maxRecDepth 65536 in
set_option maxHeartbeats 40000000 in
theorem rm0 (l : Launch) (Z : State) (a0 : Array Value) (hw : ∀ d ∈ tables_1, d.before a0 Z = true) (ws : List Jvm.Cond) (p0 : Int32) (p1 : Int32) (p2 : Int32) (h0 : Heap) (n0 : Nat) (Z0 : n0 ≤ h0.size) :
    MetFree l x (head1 (Jvm.Cond.code x code maxLocals ret :: ws) room_1) (fun a U => a = #[(.int p0), (.int p1), (.int p2)] ∧ Z.Warmed39 U.vm ∧ U.heap = h0) (fun _ _ _ _ _ => True) (fun _ U o U' => ∃ v L, o = .returned v ∧ Q0 Z p0 p1 p2 h0 n0 v U'.heap L ∧ FrameEnd U o U' L 0 0) := by
  refine MetFree.of_bodySF (plainFor_of_name pn_2) hisR ?_
  intro p e s m args below meth c s₁ Bd hml0 hP hK
  obtain ⟨rfl, hZ, hh⟩ := hP
  have hx := Bd.exec
  have hby := Bd.bytes
  have hml : c.maxLocals = 8 := hml0
  have hown : s.vm.findClass "com/example/skipscan/skipscan/ByteScanAfterPinLaw" = some m.cls := findClass_of_methodNamed Bd.named
  have hnm := (name_of_methodNamed Bd.named Bd.method).1
  have X0 : Stand p l e room_1 s m #[(.int p0), (.int p1), (.int p2)] below meth c s₁ [] 0 0 := Stand.of_body Bd
  have e0 : s₁.heap = h0 := by rw [← hh, Bd.state]; rfl
  have N0 := Fr.nil n0
  refine OGl.start (ef_0 m p0 p1 p2) ?_
  show OGl _ _ _ _ s₁ (mkF m 0 #[.val (.int p0), .val (.int p1), .val (.int p2), .unset, .unset, .unset, .unset, .unset] [])
  refine OGl.go (fun t k => XS.iloadN X0.here hx rfl (hb hby at_0) rfl (own_ldc X0 hx hown (mvT hZ (hw _ (List.mem_of_getElem? (i := 0) rfl))) rfl (hb hby at_1) k)) ?_
  show OGl _ _ _ _ s₁ (mkF m 3 #[.val (.int p0), .val (.int p1), .val (.int p2), .unset, .unset, .unset, .unset, .unset] [(.int (-2147483632 : Int32)), (.int p1)])
  have m1 : ∀ t, Steps p.tables e below (s₁.setTop (mkF m 19 #[.val (.int p0), .val (.int p1), .val (.int p2), .unset, .unset, .unset, .unset, .unset] [(.int (e0_1 p1))])) t → Steps p.tables e below (s₁.setTop (mkF m 3 #[.val (.int p0), .val (.int p1), .val (.int p2), .unset, .unset, .unset, .unset, .unset] [(.int (-2147483632 : Int32)), (.int p1)])) t := by
    intro t k
    by_cases hm1 : p1 < (-2147483632 : Int32)
    · rw [show (e0_1 p1) = (p1 >>> ((1 : Int32) &&& 31)) from if_pos hm1] at k
      refine XS.icmpYes X0.here hx rfl (pc0 := 3) (pc' := 12) rfl (hb hby at_3) rfl (tlt hm1).1 (by decide) (by decide) (XS.iloadN X0.here hx rfl (hb hby at_12) rfl (XS.iconst X0.here hx rfl (hb hby at_13) (XS.ishr X0.here hx rfl (hb hby at_14) rfl (XS.goto X0.here hx rfl (pc0 := 15) (pc' := 19) rfl (hb hby at_15) (by decide) (by decide) ?_))))
      show Steps _ _ _ (s₁.setTop (mkF m 19 #[.val (.int p0), .val (.int p1), .val (.int p2), .unset, .unset, .unset, .unset, .unset] [(.int (p1 >>> ((1 : Int32) &&& 31)))])) _
      exact k
    · rw [show (e0_1 p1) = (e0_0 p1) from if_neg hm1] at k
      refine XS.icmpNo X0.here hx rfl (hb hby at_3) rfl (flt hm1).1 (XS.iloadN X0.here hx rfl (hb hby at_6) rfl (own_ldc X0 hx hown (mvT hZ (hw _ (List.mem_of_getElem? (i := 1) rfl))) rfl (hb hby at_7) ?_))
      show Steps _ _ _ (s₁.setTop (mkF m 9 #[.val (.int p0), .val (.int p1), .val (.int p2), .unset, .unset, .unset, .unset, .unset] [(.int (2147483647 : Int32)), (.int p1)])) _
      have m2 : ∀ t, Steps p.tables e below (s₁.setTop (mkF m 19 #[.val (.int p0), .val (.int p1), .val (.int p2), .unset, .unset, .unset, .unset, .unset] [(.int (e0_0 p1))])) t → Steps p.tables e below (s₁.setTop (mkF m 9 #[.val (.int p0), .val (.int p1), .val (.int p2), .unset, .unset, .unset, .unset, .unset] [(.int (2147483647 : Int32)), (.int p1)])) t := by
        intro t k
        by_cases hm2 : p1 = (2147483647 : Int32)
        · rw [show (e0_0 p1) = (p1 >>> ((1 : Int32) &&& 31)) from if_pos hm2] at k
          refine XS.icmpNo X0.here hx rfl (hb hby at_9) rfl (teq hm2).2 (XS.iloadN X0.here hx rfl (hb hby at_12) rfl (XS.iconst X0.here hx rfl (hb hby at_13) (XS.ishr X0.here hx rfl (hb hby at_14) rfl (XS.goto X0.here hx rfl (pc0 := 15) (pc' := 19) rfl (hb hby at_15) (by decide) (by decide) ?_))))
          show Steps _ _ _ (s₁.setTop (mkF m 19 #[.val (.int p0), .val (.int p1), .val (.int p2), .unset, .unset, .unset, .unset, .unset] [(.int (p1 >>> ((1 : Int32) &&& 31)))])) _
          exact k
        · rw [show (e0_0 p1) = p1 from if_neg hm2] at k
          refine XS.icmpYes X0.here hx rfl (pc0 := 9) (pc' := 18) rfl (hb hby at_9) rfl (feq hm2).2 (by decide) (by decide) (XS.iloadN X0.here hx rfl (hb hby at_18) rfl ?_)
          show Steps _ _ _ (s₁.setTop (mkF m 19 #[.val (.int p0), .val (.int p1), .val (.int p2), .unset, .unset, .unset, .unset, .unset] [(.int p1)])) _
          exact k
      refine m2 _ ?_
      show Steps _ _ _ (s₁.setTop (mkF m 19 #[.val (.int p0), .val (.int p1), .val (.int p2), .unset, .unset, .unset, .unset, .unset] [(.int (e0_0 p1))])) _
      exact k
  refine OGl.go (fun t k => m1 _ (XS.istoreN X0.here hx rfl (hb hby at_19) rfl (l' := #[.val (.int p0), .val (.int p1), .val (.int p2), .val (.int (e0_1 p1)), .unset, .unset, .unset, .unset]) rfl (XS.iloadN X0.here hx rfl (hb hby at_20) rfl (XS.iconst X0.here hx rfl (hb hby at_21) (XS.iand X0.here hx rfl (hb hby at_22) rfl k))))) ?_
  show OGl _ _ _ _ s₁ (mkF m 23 #[.val (.int p0), .val (.int p1), .val (.int p2), .val (.int (e0_1 p1)), .unset, .unset, .unset, .unset] [(.int (p2 &&& (1 : Int32)))])
  have m3 : ∀ t, Steps p.tables e below (s₁.setTop (mkF m 41 #[.val (.int p0), .val (.int p1), .val (.int p2), .val (.int (e0_1 p1)), .unset, .unset, .unset, .unset] [(.int (e0_3 p0 p1 p2))])) t → Steps p.tables e below (s₁.setTop (mkF m 23 #[.val (.int p0), .val (.int p1), .val (.int p2), .val (.int (e0_1 p1)), .unset, .unset, .unset, .unset] [(.int (p2 &&& (1 : Int32)))])) t := by
    intro t k
    by_cases hm3 : (p2 &&& (1 : Int32)) = (0 : Int32)
    · rw [show (e0_3 p0 p1 p2) = p0 from if_pos hm3] at k
      refine XS.ifYes X0.here hx rfl (pc0 := 23) (pc' := 40) rfl (hb hby at_23) rfl ((if0 _ _).trans (teq hm3).1) (by decide) (by decide) (XS.iloadN X0.here hx rfl (hb hby at_40) rfl ?_)
      show Steps _ _ _ (s₁.setTop (mkF m 41 #[.val (.int p0), .val (.int p1), .val (.int p2), .val (.int (e0_1 p1)), .unset, .unset, .unset, .unset] [(.int p0)])) _
      exact k
    · rw [show (e0_3 p0 p1 p2) = (((e0_1 p1) + (e0_2 p2)) - (24 : Int32)) from if_neg hm3] at k
      refine XS.ifNo X0.here hx rfl (hb hby at_23) rfl ((if0 _ _).trans (feq hm3).1) (XS.iloadN X0.here hx rfl (hb hby at_26) rfl (XS.iloadN X0.here hx rfl (hb hby at_27) rfl (XS.iconst X0.here hx rfl (hb hby at_28) (XS.iushr X0.here hx rfl (hb hby at_29) rfl (XS.bipush X0.here hx rfl (hb hby at_30) (XS.iand X0.here hx rfl (hb hby at_32) rfl (XS.iadd X0.here hx rfl (hb hby at_33) rfl ?_)))))))
      show Steps _ _ _ (s₁.setTop (mkF m 34 #[.val (.int p0), .val (.int p1), .val (.int p2), .val (.int (e0_1 p1)), .unset, .unset, .unset, .unset] [(.int ((e0_1 p1) + (e0_2 p2)))])) _
      refine XS.bipush X0.here hx rfl (hb hby at_34) (XS.isub X0.here hx rfl (hb hby at_36) rfl (XS.goto X0.here hx rfl (pc0 := 37) (pc' := 41) rfl (hb hby at_37) (by decide) (by decide) ?_))
      show Steps _ _ _ (s₁.setTop (mkF m 41 #[.val (.int p0), .val (.int p1), .val (.int p2), .val (.int (e0_1 p1)), .unset, .unset, .unset, .unset] [(.int (((e0_1 p1) + (e0_2 p2)) - (24 : Int32)))])) _
      exact k
  refine OGl.go (fun t k => m3 _ (XS.istore X0.here hx rfl (hb hby at_41) rfl (l' := #[.val (.int p0), .val (.int p1), .val (.int p2), .val (.int (e0_1 p1)), .val (.int (e0_3 p0 p1 p2)), .unset, .unset, .unset]) rfl (XS.iload X0.here hx rfl (hb hby at_43) rfl (XS.i2l X0.here hx rfl (hb hby at_45) rfl (own_ldc2 X0 hx hown (mvT hZ (hw _ (List.mem_of_getElem? (i := 2) rfl))) rfl (hb hby at_46) (XS.ladd X0.here hx rfl (hb hby at_49) rfl (XS.iloadN X0.here hx rfl (hb hby at_50) rfl (XS.i2l X0.here hx rfl (hb hby at_51) rfl k)))))))) ?_
  show OGl _ _ _ _ s₁ (mkF m 52 #[.val (.int p0), .val (.int p1), .val (.int p2), .val (.int (e0_1 p1)), .val (.int (e0_3 p0 p1 p2)), .unset, .unset, .unset] [(.long (((e0_1 p1)).toInt64)), (.long ((((e0_3 p0 p1 p2)).toInt64) + (16 : Int64)))])
  refine OGl.go (fun t k => XS.lconst X0.here hx rfl (hb hby at_52) (XS.ladd X0.here hx rfl (hb hby at_53) rfl k)) ?_
  show OGl _ _ _ _ s₁ (mkF m 54 #[.val (.int p0), .val (.int p1), .val (.int p2), .val (.int (e0_1 p1)), .val (.int (e0_3 p0 p1 p2)), .unset, .unset, .unset] [(.long ((((e0_1 p1)).toInt64) + (1 : Int64))), (.long ((((e0_3 p0 p1 p2)).toInt64) + (16 : Int64)))])
  obtain ⟨_, _, ⟨T4, L4, kk4, n4⟩, -, X4, ⟨Lc4, hQ4, l4, y4, z4⟩, st4⟩ := Jvm.LawKit.callS X0 hx (y := (⟨"java/lang/Math", "min", "(JJ)J"⟩ : MethodName)) hown (mvT hZ (hw _ (List.mem_of_getElem? (i := 3) rfl))) (mvT hZ (hw _ (List.mem_of_getElem? (i := 4) rfl))) (mvT hZ (hw _ (List.mem_of_getElem? (i := 5) rfl))) (mvT hZ (hw _ (List.mem_of_getElem? (i := 6) rfl))) (by decide) (backOf (W := 0) (rm1 l Z a0 hw [] ((((e0_3 p0 p1 p2)).toInt64) + (16 : Int64)) ((((e0_1 p1)).toInt64) + (1 : Int64)) h0 n0 Z0 ) hZ (hw _ (List.mem_of_getElem? (i := 6) rfl)) (hw _ (List.mem_of_getElem? (i := 5) rfl)) (by decide) (by decide)) (g := (mkF m 54 #[.val (.int p0), .val (.int p1), .val (.int p2), .val (.int (e0_1 p1)), .val (.int (e0_3 p0 p1 p2)), .unset, .unset, .unset] [(.long ((((e0_1 p1)).toInt64) + (1 : Int64))), (.long ((((e0_3 p0 p1 p2)).toInt64) + (16 : Int64)))])) rfl (by rw [hml]; rfl) (argsL := [(.long ((((e0_3 p0 p1 p2)).toInt64) + (16 : Int64))), (.long ((((e0_1 p1)).toInt64) + (1 : Int64)))]) (rest := []) (lenOf pd_0 rfl) rfl (by show 2 * 0 + _ ≤ _; exact Nat.le_of_eq rfl) (hb hby at_54) (fun _ _ => ⟨rfl, e0, (by decide : 0 + 0 ≤ _), (by decide : 0 + 0 ≤ _)⟩)
  dsimp only [Pt.U, Pt.locs, Pt.cells, Pt.slots] at X4 l4 y4 z4 st4 hQ4
  subst l4 y4 z4
  obtain ⟨rfl, Nq4, e4⟩ := hQ4
  have N4 := Fr.app N0 Nq4
  refine OGl.go st4 ?_
  show OGl _ _ _ _ T4 (mkF m 57 #[.val (.int p0), .val (.int p1), .val (.int p2), .val (.int (e0_1 p1)), .val (.int (e0_3 p0 p1 p2)), .unset, .unset, .unset] [(.long (e0_4 p0 p1 p2))])
  refine OGl.go (fun t k => XS.lstore X4.here hx rfl (hb hby at_57) rfl (l' := #[.val (.int p0), .val (.int p1), .val (.int p2), .val (.int (e0_1 p1)), .val (.int (e0_3 p0 p1 p2)), .val (.long (e0_4 p0 p1 p2)), .second, .unset]) rfl (XS.iload X4.here hx rfl (hb hby at_59) rfl (XS.iloadN X4.here hx rfl (hb hby at_61) rfl k))) ?_
  show OGl _ _ _ _ T4 (mkF m 62 #[.val (.int p0), .val (.int p1), .val (.int p2), .val (.int (e0_1 p1)), .val (.int (e0_3 p0 p1 p2)), .val (.long (e0_4 p0 p1 p2)), .second, .unset] [(.int (e0_1 p1)), (.int (e0_3 p0 p1 p2))])
  obtain ⟨_, _, ⟨T8, L8, kk8, n8⟩, -, X8, ⟨Lc8, hQ8, l8, y8, z8⟩, st8⟩ := Jvm.LawKit.callS X4 hx (y := (⟨"com/example/skipscan/skipscan/ByteScan", "after", "(II)I"⟩ : MethodName)) hown (mvT hZ (hw _ (List.mem_of_getElem? (i := 7) rfl))) (mvT hZ (hw _ (List.mem_of_getElem? (i := 8) rfl))) (mvT hZ (hw _ (List.mem_of_getElem? (i := 9) rfl))) (mvT hZ (hw _ (List.mem_of_getElem? (i := 10) rfl))) (by decide) (backOf (W := 0) (rm2 l Z a0 hw [] (e0_3 p0 p1 p2) (e0_1 p1) h0 n0 Z0 ) hZ (hw _ (List.mem_of_getElem? (i := 10) rfl)) (hw _ (List.mem_of_getElem? (i := 9) rfl)) (by decide) (by decide)) (g := (mkF m 62 #[.val (.int p0), .val (.int p1), .val (.int p2), .val (.int (e0_1 p1)), .val (.int (e0_3 p0 p1 p2)), .val (.long (e0_4 p0 p1 p2)), .second, .unset] [(.int (e0_1 p1)), (.int (e0_3 p0 p1 p2))])) rfl (by rw [hml]; rfl) (argsL := [(.int (e0_3 p0 p1 p2)), (.int (e0_1 p1))]) (rest := []) (lenOf pd_1 rfl) rfl (by show 2 * 0 + _ ≤ _; exact Nat.le_of_eq rfl) (hb hby at_62) (fun _ _ => ⟨rfl, e4, (by decide : 0 + 0 ≤ _), (by decide : 0 + 0 ≤ _)⟩)
  dsimp only [Pt.U, Pt.locs, Pt.cells, Pt.slots] at X8 l8 y8 z8 st8 hQ8
  subst l8 y8 z8
  obtain ⟨rfl, Nq8, e8⟩ := hQ8
  have N8 := Fr.app N4 Nq8
  refine OGl.go st8 ?_
  show OGl _ _ _ _ T8 (mkF m 65 #[.val (.int p0), .val (.int p1), .val (.int p2), .val (.int (e0_1 p1)), .val (.int (e0_3 p0 p1 p2)), .val (.long (e0_4 p0 p1 p2)), .second, .unset] [(.int (t2_0 (e0_3 p0 p1 p2) (e0_1 p1)))])
  refine OGl.go (fun t k => XS.istore X8.here hx rfl (hb hby at_65) rfl (l' := #[.val (.int p0), .val (.int p1), .val (.int p2), .val (.int (e0_1 p1)), .val (.int (e0_3 p0 p1 p2)), .val (.long (e0_4 p0 p1 p2)), .second, .val (.int (t2_0 (e0_3 p0 p1 p2) (e0_1 p1)))]) rfl (XS.iload X8.here hx rfl (hb hby at_67) rfl (XS.i2l X8.here hx rfl (hb hby at_69) rfl (XS.lload X8.here hx rfl (hb hby at_70) rfl (XS.lcmp X8.here hx rfl (hb hby at_72) rfl k))))) ?_
  show OGl _ _ _ _ T8 (mkF m 73 #[.val (.int p0), .val (.int p1), .val (.int p2), .val (.int (e0_1 p1)), .val (.int (e0_3 p0 p1 p2)), .val (.long (e0_4 p0 p1 p2)), .second, .val (.int (t2_0 (e0_3 p0 p1 p2) (e0_1 p1)))] [(.int (lcmpW (((t2_0 (e0_3 p0 p1 p2) (e0_1 p1))).toInt64) (e0_4 p0 p1 p2)))])
  by_cases hc12 : (((t2_0 (e0_3 p0 p1 p2) (e0_1 p1))).toInt64) = (e0_4 p0 p1 p2)
  · refine OGl.go (fun t k => XS.ifNo X8.here hx rfl (hb hby at_73) rfl (own_teqL hc12).2 (XS.iconst X8.here hx rfl (hb hby at_76) (XS.goto X8.here hx rfl (pc0 := 77) (pc' := 81) rfl (hb hby at_77) (by decide) (by decide) k))) ?_
    show OGl _ _ _ _ T8 (mkF m 81 #[.val (.int p0), .val (.int p1), .val (.int p2), .val (.int (e0_1 p1)), .val (.int (e0_3 p0 p1 p2)), .val (.long (e0_4 p0 p1 p2)), .second, .val (.int (t2_0 (e0_3 p0 p1 p2) (e0_1 p1)))] [(.int (1 : Int32))])
    obtain ⟨fs, hr, hrun, hended, hW, hsame⟩ := X8.leave (v := some (.int (1 : Int32))) (fun h => by rw [Bd.returns] at h; cases h)
    refine ⟨_, _, retN X8 hx (t := .boolean) Bd.returns (by simp) (hb hby at_81) hr, hrun, hended, _, _, rfl, ?_, ⟨_, rfl⟩, hW, hsame.mono (by decide) (by decide)⟩
    have hv13 : (t0_0 p0 p1 p2) = (1 : Int32) := by unfold t0_0; rw [if_pos hc12]
    show Q0 Z p0 p1 p2 h0 n0 _ T8.heap _
    rw [e8]
    exact ⟨(by rw [hv13]), N8⟩
  · refine OGl.go (fun t k => XS.ifYes X8.here hx rfl (pc0 := 73) (pc' := 80) rfl (hb hby at_73) rfl (own_feqL hc12).2 (by decide) (by decide) (XS.iconst X8.here hx rfl (hb hby at_80) k)) ?_
    show OGl _ _ _ _ T8 (mkF m 81 #[.val (.int p0), .val (.int p1), .val (.int p2), .val (.int (e0_1 p1)), .val (.int (e0_3 p0 p1 p2)), .val (.long (e0_4 p0 p1 p2)), .second, .val (.int (t2_0 (e0_3 p0 p1 p2) (e0_1 p1)))] [(.int (0 : Int32))])
    obtain ⟨fs, hr, hrun, hended, hW, hsame⟩ := X8.leave (v := some (.int (0 : Int32))) (fun h => by rw [Bd.returns] at h; cases h)
    refine ⟨_, _, retN X8 hx (t := .boolean) Bd.returns (by simp) (hb hby at_81) hr, hrun, hended, _, _, rfl, ?_, ⟨_, rfl⟩, hW, hsame.mono (by decide) (by decide)⟩
    have hv14 : (t0_0 p0 p1 p2) = (0 : Int32) := by unfold t0_0; rw [if_neg hc12]
    show Q0 Z p0 p1 p2 h0 n0 _ T8.heap _
    rw [e8]
    exact ⟨(by rw [hv14]), N8⟩
theorem own_last (b : Int32) : -2147483632 ≤ (e0_1 b).toInt ∧ (e0_1 b).toInt < 2147483647 := by
  have h := c_ishr b 1 1 (by decide)
  have r := rng32 b
  have k1 : (-2147483632 : Int32).toInt = -2147483632 := by decide
  have k2 : (2147483647 : Int32).toInt = 2147483647 := by decide
  unfold e0_1 e0_0
  by_cases p1 : b < -2147483632
  · rw [if_pos p1]
    rw [Int32.lt_iff_toInt_lt] at p1
    omega
  · rw [if_neg p1]
    rw [Int32.lt_iff_toInt_lt] at p1
    by_cases p2 : b = 2147483647
    · rw [if_pos p2]
      subst p2
      omega
    · rw [if_neg p2]
      have : b.toInt ≠ 2147483647 := fun q => p2 (Int32.toInt_inj.mp (q.trans k2.symm))
      omega
theorem own_law (a b c : Int32) : t0_0 a b c = 1 := by
  have hl := own_last b
  unfold t0_0
  rw [if_pos]
  unfold e0_4
  generalize e0_3 a b c = x at *
  generalize e0_1 b = l at *
  have r := rng32 x
  have k16 : (16 : Int32).toInt = 16 := by decide
  have k1 : (1 : Int32).toInt = 1 := by decide
  have K16 : (16 : Int64).toInt = 16 := by decide
  have K1 : (1 : Int64).toInt = 1 := by decide
  have a1 := c_isub l 16
  have r1 := rng32 (l - 16)
  have a2 := c_iadd l 1
  have r2 := rng32 (l + 1)
  have a3 := c_iadd x 16
  have r3 := rng32 (x + 16)
  have a4 := c_ladd x.toInt64 16
  have r4 := rng64 (x.toInt64 + 16)
  have a5 := c_ladd l.toInt64 1
  have r5 := rng64 (l.toInt64 + 1)
  have b1 := c_i2l x
  have b2 := c_i2l l
  have b3 := c_i2l (l + 1)
  have b4 := c_i2l (x + 16)
  unfold t2_0 t1_0
  apply Int64.toInt_inj.mp
  by_cases p1 : l - 16 < x
  · rw [if_pos p1]
    rw [Int32.lt_iff_toInt_lt] at p1
    by_cases p2 : l.toInt64 + 1 < x.toInt64 + 16
    · rw [if_pos p2]; omega
    · rw [if_neg p2]
      rw [Int64.lt_iff_toInt_lt] at p2
      omega
  · rw [if_neg p1]
    rw [Int32.lt_iff_toInt_lt] at p1
    by_cases p2 : l.toInt64 + 1 < x.toInt64 + 16
    · rw [if_pos p2]
      rw [Int64.lt_iff_toInt_lt] at p2
      omega
    · rw [if_neg p2]; omega
set_option maxRecDepth 65536 in
set_option maxHeartbeats 40000000 in
theorem comes_1 {Post : Tables → Env → Array Value → State → Outcome → State → Prop} (hpost : ∀ tb e args s v u, (limb_1_1.after args s (.returned v) u = true ∧ limb_1_2.after args s (.returned v) u = true ∧ True) → FrameEnd s (.returned v) u (Jvm.fieldLocs frame_1_writes args s ++ Jvm.arrayLocs frame_1_arrays args s ++ Jvm.staticLocs frame_1_statics s) 0 0 → Post tb e args s (.returned v) u) :
    ArmFor flags0 classFile x code maxLocals ret World_1 tables_1 room_1 Calls_1 rest_1 Pre_1 Post := by
  intro l hfl _ _ p e ha hc hk s m args below hf hA hF happ hP
  obtain ⟨hcalls, hrest, hpre⟩ := hP
  obtain ⟨-, -, -, hnamed, -, -, -, hat⟩ := (Spec.applies_iff hf).mp happ
  obtain ⟨hg, hn⟩ := and_e (Cond.before_iff.mp (show (Jvm.Cond.and given_1 narrow_1).before args s = true from hpre))
  obtain ⟨hz, hy0⟩ := and_e hg
  obtain ⟨ha0, hy1⟩ := and_e hy0
  obtain ⟨ha1, hy2⟩ := and_e hy1
  obtain ⟨w0, w1, w2, rfl⟩ : ∃ w0 w1 w2 : Value, args = #[w0, w1, w2] := by
    have hs : args.size = 3 := by simpa [Cond.value, given_1] using hz
    obtain ⟨L⟩ := args
    match L, hs with
    | [w0, w1, w2], _ => exact ⟨w0, w1, w2, rfl⟩
  have hw := fun d (hd : d ∈ tables_1) => atoms_spec (ws := Jvm.Cond.code x code maxLocals ret :: tables_1) hat d (List.mem_cons_of_mem _ hd)
  obtain ⟨i0, ev0⟩ := is_v ha0
  obtain rfl : w0 = (.int i0) := Option.some.inj ev0
  obtain ⟨i1, ev1⟩ := is_v ha1
  obtain rfl : w1 = (.int i1) := Option.some.inj ev1
  obtain ⟨i2, ev2⟩ := is_v hy2
  obtain rfl : w2 = (.int i2) := Option.some.inj ev2
  obtain ⟨n, o, h1, h2, h3, _, L, rfl, ⟨hv, N⟩, hq⟩ := rm0 l s _ hw tables_1 i0 i1 i2  s.heap s.heap.size (Nat.le_refl _)  p e ha hc hk s m _ below hf ((Spec.applies_iff_loose hf).mp happ).1 ⟨rfl, State.Warmed39.refl s, rfl⟩ trivial
  rw [own_law] at hv
  subst hv
  refine ⟨n, _, h1, h2, h3, hpost _ _ _ _ _ _ ⟨Cond.after_iff.mpr rfl, Cond.after_iff.mpr (eq_i res_at (Term.int_eval (1)) rfl), trivial⟩ ⟨hq.1, hq.2.1, (hq.2.2.sift fun y hy => Or.inr (N y hy)).mono (by decide) (by decide)⟩⟩
theorem main_1_1 : Claimed_1_1 := comes_1 fun _ _ _ _ _ _ h hF => ⟨h.1, hF⟩
theorem main_1_2 : Claimed_1_2 := comes_1 fun _ _ _ _ _ _ h hF => ⟨h.2.1, hF⟩
end Jvm.Pilot.@@N@@
namespace Jvm.Pilot.@@N@@
open Jvm Jvm.ClassFile Sem Op Lib Jvm.Free Jvm.Stand Jvm.Pilot.@@N@@.Jvm.D
/-! MADE BY PROGRAM (witnessworld.py) out of the Statement's table words and the real class files: 10 classes; the members and pool entries that the words name. The judged class is class 1, her method 1. -/
namespace start1
open Jvm.ClassFile
def u (s : String) : CpInfo := .utf8 (stringToUtf16 s)
/-- a pool by its gaps: so many unusable entries, then the entry; so many at the end -/
def gap : Nat → List CpInfo → List CpInfo
  | 0, r => r
  | n + 1, r => .unusable :: gap n r
def poolList (es : List (Nat × CpInfo)) (last : Nat) : List CpInfo := es.foldr (fun e r => gap e.1 (e.2 :: r)) (gap last [])
def pool (es : List (Nat × CpInfo)) (last : Nat) : Array CpInfo := ⟨poolList es last⟩
def fileOf (pool : Array CpInfo) (this : Nat) (attrs : Array Attribute := #[]) (ms : Array MethodInfo := #[]) (fl : Nat := 33) (sup : Nat := 0) (ifs : Array Nat := #[]) (fds : Array FieldInfo := #[]) : ClassFile where
  minorVersion := 0
  majorVersion := 65
  constantPool := pool
  accessFlags := fl
  thisClass := this
  superClass := sup
  interfaces := ifs
  fields := fds
  methods := ms
  attributes := attrs
def plain (name : String) (sup : Option ClassId) : Class where
  name := name
  kind := .ordinary
  loader := none
  accessFlags := 33
  super := sup
  interfaces := #[]
  cf := none
  fields := #[]
  methods := #[]
  instanceTypes := #[]
  staticTypes := #[]
  resolved := #[]
  callSites := []
  init := .initialized
  statics := none
  mirror := none

def pool0 : Array CpInfo := pool [(5, u "<init>"), (0, u "()V"), (1, .class_ 10), (1, u "java/lang/Object")] 113

def k0m0 : Method := { name := "<init>", desc := "()V", sig := { parameters := [], returnType := none }, accessFlags := 1, code := none }
/-- java/lang/Object -/
def k0 : Class := { plain "java/lang/Object" none with
  accessFlags := 33
  interfaces := #[]
  cf := some (fileOf pool0 8 #[] #[{ accessFlags := 1, nameIndex := 5, descriptorIndex := 6, attributes := #[] }] 33 0 #[] #[])
  fields := #[]
  methods := #[k0m0]
  instanceTypes := #[]
  staticTypes := #[]
  resolved := Array.replicate 124 none
  statics := none }

def pool1 : Array CpInfo := pool [(2, .class_ 4), (1, u "java/lang/Object"), (0, u "<init>"), (0, u "()V"), (2, .integer 2147483664), (0, .integer 2147483647), (0, .long 16), (1, .methodref 14 15), (0, .class_ 16), (0, .nameAndType 17 18), (0, u "java/lang/Math"), (0, u "min"), (0, u "(JJ)J"), (0, .methodref 20 21), (0, .class_ 22), (0, .nameAndType 23 24), (0, u "com/example/skipscan/skipscan/ByteScan"), (0, u "after"), (0, u "(II)I"), (0, .class_ 26), (0, u "com/example/skipscan/skipscan/ByteScanAfterPinLaw"), (2, u "law"), (0, u "(III)Z")] 3

def k1m0 : Method := { name := "<init>", desc := "()V", sig := { parameters := [], returnType := none }, accessFlags := 1, code := none }
def k1c1 : Code := { maxStack := 6, maxLocals := 8, code := code, exceptionTable := #[], attributes := #[] }
def k1m1 : Method := { name := "law", desc := "(III)Z", sig := { parameters := [.int, .int, .int], returnType := some .boolean }, accessFlags := 9, code := some k1c1 }
/-- com/example/skipscan/skipscan/ByteScanAfterPinLaw -/
def k1 : Class := { plain "com/example/skipscan/skipscan/ByteScanAfterPinLaw" (some 0) with
  accessFlags := 49
  interfaces := #[]
  cf := some (fileOf pool1 25 #[] #[{ accessFlags := 1, nameIndex := 5, descriptorIndex := 6, attributes := #[] }, { accessFlags := 9, nameIndex := 29, descriptorIndex := 30, attributes := #[] }] 49 2 #[] #[])
  fields := #[]
  methods := #[k1m0, k1m1]
  instanceTypes := #[]
  staticTypes := #[]
  resolved := Array.replicate 34 none
  statics := none }

def pool2 : Array CpInfo := pool [(1, .class_ 2), (0, u "java/lang/Math"), (1, .class_ 6), (1, u "java/lang/Object"), (0, u "<init>"), (0, u "()V"), (89, .class_ 100), (1, u "java/lang/Math$RandomNumberGeneratorHolder"), (20, u "(JJ)J"), (50, u "negativeZeroFloatBits"), (0, u "J"), (2, u "negativeZeroDoubleBits"), (24, u "min"), (43, u "$assertionsDisabled"), (0, u "Z"), (91, u "twoToTheDoubleScaleDown"), (0, u "D"), (4, u "twoToTheDoubleScaleUp"), (9, u "E"), (3, u "PI"), (2, u "TAU"), (2, u "DEGREES_TO_RADIANS"), (0, u "RADIANS_TO_DEGREES")] 94

def k2m0 : Method := { name := "<init>", desc := "()V", sig := { parameters := [], returnType := none }, accessFlags := 2, code := none }
def k2c1 : Code := { maxStack := 4, maxLocals := 4, code := jdk_29_method_70_code, exceptionTable := #[], attributes := #[] }
def k2m1 : Method := { name := "min", desc := "(JJ)J", sig := { parameters := [.long, .long], returnType := some .long }, accessFlags := 9, code := some k2c1 }
/-- java/lang/Math -/
def k2 : Class := { plain "java/lang/Math" (some 0) with
  accessFlags := 49
  interfaces := #[]
  cf := some (fileOf pool2 1 #[.nestMembers #[98]] #[{ accessFlags := 2, nameIndex := 7, descriptorIndex := 8, attributes := #[] }, { accessFlags := 9, nameIndex := 201, descriptorIndex := 121, attributes := #[] }] 49 4 #[] #[{ accessFlags := 25, nameIndex := 354, descriptorIndex := 339, attributes := #[] }, { accessFlags := 25, nameIndex := 358, descriptorIndex := 339, attributes := #[] }, { accessFlags := 25, nameIndex := 361, descriptorIndex := 339, attributes := #[] }, { accessFlags := 26, nameIndex := 364, descriptorIndex := 339, attributes := #[] }, { accessFlags := 26, nameIndex := 365, descriptorIndex := 339, attributes := #[] }, { accessFlags := 26, nameIndex := 172, descriptorIndex := 173, attributes := #[] }, { accessFlags := 26, nameIndex := 176, descriptorIndex := 173, attributes := #[] }, { accessFlags := 8, nameIndex := 344, descriptorIndex := 339, attributes := #[] }, { accessFlags := 8, nameIndex := 338, descriptorIndex := 339, attributes := #[] }, { accessFlags := 4120, nameIndex := 245, descriptorIndex := 246, attributes := #[] }])
  fields := #[{ name := "E", type := .double, accessFlags := 25, slot := 0, constantValue := 0 }, { name := "PI", type := .double, accessFlags := 25, slot := 1, constantValue := 0 }, { name := "TAU", type := .double, accessFlags := 25, slot := 2, constantValue := 0 }, { name := "DEGREES_TO_RADIANS", type := .double, accessFlags := 26, slot := 3, constantValue := 0 }, { name := "RADIANS_TO_DEGREES", type := .double, accessFlags := 26, slot := 4, constantValue := 0 }, { name := "negativeZeroFloatBits", type := .long, accessFlags := 26, slot := 5, constantValue := 0 }, { name := "negativeZeroDoubleBits", type := .long, accessFlags := 26, slot := 6, constantValue := 0 }, { name := "twoToTheDoubleScaleUp", type := .double, accessFlags := 8, slot := 7, constantValue := 0 }, { name := "twoToTheDoubleScaleDown", type := .double, accessFlags := 8, slot := 8, constantValue := 0 }, { name := "$assertionsDisabled", type := .boolean, accessFlags := 4120, slot := 9, constantValue := 0 }]
  methods := #[k2m0, k2m1]
  instanceTypes := #[]
  staticTypes := #[.double, .double, .double, .double, .double, .long, .long, .double, .double, .boolean]
  resolved := Array.replicate 460 none
  statics := none }

def pool3 : Array CpInfo := pool [(2, .class_ 4), (1, u "java/lang/Object"), (0, u "<init>"), (0, u "()V"), (1, .class_ 10), (1, u "com/example/skipscan/skipscan/ByteScan"), (13, u "(II)I"), (13, .class_ 40), (1, u "com/example/skipscan/skipscan/ByteScan$Place"), (1, u "I"), (3, u "J"), (22, u "after"), (64, u "LONGS"), (0, u "Ljava/lang/invoke/VarHandle;"), (101, u "ONES"), (1, u "HIGHS"), (0, u "LOWS"), (0, u "BLOCK"), (1, u "MOST_WHOLE"), (1, u "GATHER"), (0, u "HASH")] 21

def k3m0 : Method := { name := "<init>", desc := "()V", sig := { parameters := [], returnType := none }, accessFlags := 2, code := none }
def k3c1 : Code := { maxStack := 3, maxLocals := 2, code := prog_10_method_19_code, exceptionTable := #[], attributes := #[] }
def k3m1 : Method := { name := "after", desc := "(II)I", sig := { parameters := [.int, .int], returnType := some .int }, accessFlags := 8, code := some k3c1 }
/-- com/example/skipscan/skipscan/ByteScan -/
def k3 : Class := { plain "com/example/skipscan/skipscan/ByteScan" (some 0) with
  accessFlags := 32
  interfaces := #[]
  cf := some (fileOf pool3 8 #[.nestMembers #[38]] #[{ accessFlags := 2, nameIndex := 5, descriptorIndex := 6, attributes := #[] }, { accessFlags := 8, nameIndex := 69, descriptorIndex := 24, attributes := #[] }] 32 2 #[] #[{ accessFlags := 26, nameIndex := 134, descriptorIndex := 135, attributes := #[] }, { accessFlags := 24, nameIndex := 237, descriptorIndex := 46, attributes := #[] }, { accessFlags := 26, nameIndex := 239, descriptorIndex := 46, attributes := #[] }, { accessFlags := 26, nameIndex := 240, descriptorIndex := 46, attributes := #[] }, { accessFlags := 24, nameIndex := 241, descriptorIndex := 42, attributes := #[] }, { accessFlags := 24, nameIndex := 243, descriptorIndex := 42, attributes := #[] }, { accessFlags := 26, nameIndex := 245, descriptorIndex := 46, attributes := #[] }, { accessFlags := 26, nameIndex := 246, descriptorIndex := 46, attributes := #[] }])
  fields := #[{ name := "LONGS", type := (.object "java/lang/invoke/VarHandle"), accessFlags := 26, slot := 0, constantValue := 0 }, { name := "ONES", type := .long, accessFlags := 24, slot := 1, constantValue := 0 }, { name := "HIGHS", type := .long, accessFlags := 26, slot := 2, constantValue := 0 }, { name := "LOWS", type := .long, accessFlags := 26, slot := 3, constantValue := 0 }, { name := "BLOCK", type := .int, accessFlags := 24, slot := 4, constantValue := 0 }, { name := "MOST_WHOLE", type := .int, accessFlags := 24, slot := 5, constantValue := 0 }, { name := "GATHER", type := .long, accessFlags := 26, slot := 6, constantValue := 0 }, { name := "HASH", type := .long, accessFlags := 26, slot := 7, constantValue := 0 }]
  methods := #[k3m0, k3m1]
  instanceTypes := #[]
  staticTypes := #[(.object "java/lang/invoke/VarHandle"), .long, .long, .long, .int, .int, .long, .long]
  resolved := Array.replicate 268 none
  statics := none }

def pool4 : Array CpInfo := pool [(1, u "java/lang/Cloneable"), (0, .class_ 1), (0, u "java/lang/Object"), (0, .class_ 3)] 3

/-- java/lang/Cloneable -/
def k4 : Class := { plain "java/lang/Cloneable" (some 0) with
  accessFlags := 1537
  interfaces := #[]
  cf := some (fileOf pool4 2 #[] #[] 1537 4 #[] #[])
  fields := #[]
  methods := #[]
  instanceTypes := #[]
  staticTypes := #[]
  resolved := Array.replicate 8 none
  statics := none }

def pool5 : Array CpInfo := pool [(1, u "java/io/Serializable"), (0, .class_ 1), (0, u "java/lang/Object"), (0, .class_ 3)] 3

/-- java/io/Serializable -/
def k5 : Class := { plain "java/io/Serializable" (some 0) with
  accessFlags := 1537
  interfaces := #[]
  cf := some (fileOf pool5 2 #[] #[] 1537 4 #[] #[])
  fields := #[]
  methods := #[]
  instanceTypes := #[]
  staticTypes := #[]
  resolved := Array.replicate 8 none
  statics := none }

/-- the primitive byte -/
def k6 : Class := { plain "byte" none with kind := .primitive 'B', accessFlags := 0x411 }
/-- [B -/
def k7 : Class := { plain "[B" (some 0) with kind := .array 6 .byte, interfaces := #[4, 5], accessFlags := 1041 }

/-- the primitive int -/
def k8 : Class := { plain "int" none with kind := .primitive 'I', accessFlags := 0x411 }
/-- [I -/
def k9 : Class := { plain "[I" (some 0) with kind := .array 8 .int, interfaces := #[4, 5], accessFlags := 1041 }

def heap : Heap := #[]
def classes : Array Class := #[k0, k1, k2, k3, k4, k5, k6, k7, k8, k9]
def interned : List (Array UInt16 × Addr) := []
def slotsUsed : Nat := 0
def theMethod : MethodId := ⟨1, 1⟩
def args0 : Array Value := #[.int 5, .int 9, .int 3]
def aboutOver (below : List Frame) : State where
  vm := { classes := classes, interned := interned.toArray }
  heap := heap
  slotsUsed := slotsUsed
  threads := #[{ frames := .invoking theMethod args0 :: below }]
def below0 : List Frame := [.native { method := ⟨0, 0⟩, args := #[] }]
def about1 : State := aboutOver below0
def p0 : Program := .bare "" "" ""
def e0 : Env := launch0.env 0 0 0
theorem w_frames : about1.frames = Frame.invoking theMethod args0 :: below0 := rfl
set_option maxRecDepth 65536 in
theorem w_args : argsFit about1.vm theMethod args0 = true := by decide +kernel
set_option maxRecDepth 65536 in
theorem w_heap : heapFits about1 = true := by decide +kernel
set_option maxRecDepth 65536 in
theorem w_runnable : about1.curStatus? = some .runnable := by decide +kernel
set_option maxRecDepth 65536 in
theorem w_alone : about1.alone = true := by decide +kernel
set_option maxRecDepth 65536 in
theorem w_named : about1.methodNamed? x = some theMethod := by decide +kernel
set_option maxRecDepth 65536 in
theorem w_hears : about1.hears theMethod below0 = true := by decide +kernel
set_option maxRecDepth 65536 in
theorem w_ripe : about1.ripe theMethod args0 below0 = true := by decide +kernel
theorem w_running : about1.status = .running := rfl
set_option maxRecDepth 65536 in
theorem w_room : about1.hasRoom e0.platform room_1 = true :=
  launch0.hasRoom_least _ room_1 (by decide +kernel) (by decide +kernel) (by decide +kernel) (by decide +kernel) (by decide +kernel) (by decide +kernel)
theorem allAtoms_all (ts : List Jvm.Cond) (a : Array Jvm.Value) (st : Jvm.State) : (allAtoms ts).before a st = ts.all (fun c => c.before a st) := by
  induction ts with
  | nil => rfl
  | cons c t ih =>
    show (Jvm.Cond.and c (allAtoms t)).before a st = _
    rw [Jvm.Cond.before_and, ih, List.all_cons]
def words1 : List Jvm.Cond := Jvm.Cond.code x code maxLocals ret :: tables_1
/-- a 'code' word, met by the world's own term for the bytes: nothing is compared byte by byte -/
theorem code_word {y : MethodName} {bytes : ByteArray} {mx : Nat} {rt : Option FieldType} {a : Array Value} {s : State} {m : MethodId} {meth : Method} {c : Code} (h1 : s.methodNamed? y = some m) (h2 : s.vm.method? m = some meth) (h3 : meth.code = some c) (h4 : c.code = bytes)
    (h5 : (c.maxLocals == mx && c.exceptionTable.isEmpty && decide (c.maxStack ≤ mostOperands) && decide (meth.sig.returnType = rt) && !meth.locks && decide (parseMethodDescriptor y.desc = some meth.sig)) = true) : (Jvm.Cond.code y bytes mx rt).before a s = true := by
  simp only [Bool.and_eq_true, beq_iff_eq, Bool.not_eq_true', decide_eq_true_eq] at h5
  obtain ⟨⟨⟨⟨⟨g1, g2⟩, g3⟩, g4⟩, g5⟩, g6⟩ := h5
  simp [Cond.before, Cond.holds, Cond.value, h1, h2, h3, h4, g1, g2, g3, g4, g5, g6]
def isCode : Jvm.Cond → Bool
  | .code _ _ _ _ => true
  | _ => false
theorem all_split {L : List Jvm.Cond} {P : Jvm.Cond → Bool} (h1 : L.all (fun c => isCode c || P c) = true) (h2 : ∀ c ∈ L.filter isCode, P c = true) : L.all P = true := by
  refine List.all_eq_true.mpr fun c hc => ?_
  have h := List.all_eq_true.mp h1 c hc
  rcases Bool.eq_false_or_eq_true (isCode c) with hi | hi
  · exact h2 c (List.mem_filter.mpr ⟨hc, hi⟩)
  · simpa [hi] using h
set_option maxRecDepth 65536 in
theorem w_c0 : (Jvm.Cond.code x code maxLocals ret).before args0 about1 = true := code_word (m := ⟨1, 1⟩) (meth := k1m1) (c := k1c1) (by decide +kernel) rfl rfl rfl (by decide +kernel)
set_option maxRecDepth 65536 in
theorem w_c1 : (Jvm.Cond.code ({ cls := "java/lang/Math", name := "min", desc := "(JJ)J" } : Jvm.MethodName) jdk_29_method_70_code (4 : Nat) (Option.some Jvm.ClassFile.FieldType.long)).before args0 about1 = true := code_word (m := ⟨2, 1⟩) (meth := k2m1) (c := k2c1) (by decide +kernel) rfl rfl rfl (by decide +kernel)
set_option maxRecDepth 65536 in
theorem w_c2 : (Jvm.Cond.code ({ cls := "com/example/skipscan/skipscan/ByteScan", name := "after", desc := "(II)I" } : Jvm.MethodName) prog_10_method_19_code (2 : Nat) (Option.some Jvm.ClassFile.FieldType.int)).before args0 about1 = true := code_word (m := ⟨3, 1⟩) (meth := k3m1) (c := k3c1) (by decide +kernel) rfl rfl rfl (by decide +kernel)
def codes1 : List Jvm.Cond := [Jvm.Cond.code x code maxLocals ret, Jvm.Cond.code ({ cls := "java/lang/Math", name := "min", desc := "(JJ)J" } : Jvm.MethodName) jdk_29_method_70_code (4 : Nat) (Option.some Jvm.ClassFile.FieldType.long), Jvm.Cond.code ({ cls := "com/example/skipscan/skipscan/ByteScan", name := "after", desc := "(II)I" } : Jvm.MethodName) prog_10_method_19_code (2 : Nat) (Option.some Jvm.ClassFile.FieldType.int)]
set_option maxRecDepth 65536 in
theorem codes_eq : words1.filter isCode = codes1 := rfl
theorem w_codes : ∀ c ∈ words1.filter isCode, c.before args0 about1 = true := by
  rw [codes_eq]
  intro c hc
  simp only [codes1, List.mem_cons, List.not_mem_nil, or_false] at hc
  rcases hc with rfl | rfl | rfl
  · exact w_c0
  · exact w_c1
  · exact w_c2
set_option maxRecDepth 65536 in
theorem w_t1 : words1.all (fun c => isCode c || c.before args0 about1) = true := by decide +kernel
theorem w_tables : (allAtoms (Jvm.Cond.code x code maxLocals ret :: tables_1)).before args0 about1 = true := by
  rw [allAtoms_all]
  show words1.all (fun c => c.before args0 about1) = true
  refine all_split ?_ w_codes
  rw [w_t1]
set_option maxRecDepth 65536 in
theorem w_case : (Jvm.Cond.and given_1 narrow_1).before args0 about1 = true := by decide +kernel
theorem w_applies : (headSpec (Jvm.Cond.code x code maxLocals ret :: tables_1) room_1).applies x e0.platform about1 = true :=
  (Spec.applies_iff w_frames).mpr ⟨w_running, w_runnable, w_alone, w_named, w_hears, w_ripe, w_room, w_tables⟩
theorem atStart : AtStart classFile x code maxLocals ret World_1 tables_1 room_1 Calls_1 rest_1 Pre_1 launch0 p0 e0 about1 theMethod args0 below0 :=
  ⟨lists_1, trivial, launch0.admits_env _ _ _, launch0.least_env, fairChoices_fair.cas, fairChoices_fair.clock, w_frames, w_args, w_heap, w_applies, trivial, trivial, w_case⟩
end start1
theorem witness_1 : WitnessClaimed_1 := ⟨start1.p0, start1.e0, start1.about1, start1.theMethod, start1.args0, start1.below0, start1.atStart⟩
end Jvm.Pilot.@@N@@
