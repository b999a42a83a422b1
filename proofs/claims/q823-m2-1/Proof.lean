import JvmDerived
import JvmDerived.Pilot.@@N@@Statement
import JvmDerived.Pilot.@@N@@Code
set_option linter.unusedVariables false
set_option linter.unusedSimpArgs false
namespace Jvm.RoadKit
open Sem ClassFile Op Lib Jvm.Stand Jvm.Free Jvm.LawKit
section New
variable {p : Program} {l : Launch} {e : Env} {R : Room} {s : State} {m : MethodId} {args : Array Value} {below : List Frame} {meth : Method} {c : Code} {T : State} {locs : List Loc} {cells slots : Nat}
theorem retI (X : Stand p l e R s m args below meth c T locs cells slots) (hx : p.tables.exec = Jvm.exec) {pc : Nat} {Ls : Array Slot} {z : Int32} {rest : List Value} (hret : meth.sig.returnType = some .int) (hd : decode c.code pc = .ok (.ireturn, 1)) {fs : List Frame}
    (hl : ∀ (f : JFrame) (acts : List Action), f.method = m → f.locked = none → f.entered = [] → (doReturn e (T.setTop f) acts (some (.int z))).1 = T.setFrames fs) : Steps p.tables e below (T.setTop (mkF m pc Ls (.int z :: rest))) (T.setFrames fs) := by
  have hm' : T.vm.method? m = some meth := X.method'
  have hn : narrow .int (.int z) = .int z := rfl
  show Steps p.tables e below (T.setTop { method := m, pc := pc, locals := Ls, stack := _ :: rest, locked := none }) _
  jvm_step X.here [X.here.top, hx, hd, hm', hret, hn]
  first | (intro acts; rw [hl _ acts rfl rfl rfl]) | rw [hl _ _ rfl rfl rfl]
  exact Steps.refl _
theorem own_ldc {g : JFrame} {target : State} (X : Stand p l e R s m args below meth c T locs cells slots) (hx : p.tables.exec = Jvm.exec) {own : String} {index : Nat} {v : Int32} (hown : s.vm.findClass own = some m.cls) (w : (Cond.constant own index v).before args s = true) (hg : g.method = m) (hd : decode c.code g.pc = .ok (.ldc index, 2))
    (hr : Steps p.tables e below (T.setTop { g with pc := g.pc + 2, stack := .int v :: g.stack }) target) : Steps p.tables e below (T.setTop g) target := X.ldcInt hx hown w hg hd target hr
theorem own_ldc2 {g : JFrame} {target : State} (X : Stand p l e R s m args below meth c T locs cells slots) (hx : p.tables.exec = Jvm.exec) {own : String} {index : Nat} {v : Int64} (hown : s.vm.findClass own = some m.cls) (w : (Cond.constantLong own index v).before args s = true) (hg : g.method = m) (hd : decode c.code g.pc = .ok (.ldc2_w index, 3))
    (hr : Steps p.tables e below (T.setTop { g with pc := g.pc + 3, stack := .long v :: g.stack }) target) : Steps p.tables e below (T.setTop g) target := X.ldc2Long hx hown w hg hd target hr
theorem own_len {g : JFrame} {target : State} (X : Stand p l e R s m args below meth c T locs cells slots) (hx : p.tables.exec = Jvm.exec) {a : Addr} {cell : Cell} {ty : FieldType} {z : Int32} (hcell : T.heap[a]? = some cell) (harr : s.isArrayOf cell ty) (hz : cell.slots.size = z.toNatClampNeg) (hn : ¬ z < 0) (hg : g.method = m) {rest : List Value} (hs : g.stack = .ref a :: rest) (hd : decode c.code g.pc = .ok (.arraylength, 1))
    (hr : Steps p.tables e below (T.setTop { g with pc := g.pc + 1, stack := .int z :: rest }) target) : Steps p.tables e below (T.setTop g) target := X.arraylength hx hcell harr hg hs hd target (by rw [len_of hz hn]; exact hr)
theorem own_iaload {g : JFrame} {target : State} (X : Stand p l e R s m args below meth c T locs cells slots) (hx : p.tables.exec = Jvm.exec) {a : Addr} {cell : Cell} {j : Int32} {v : Value} (hcell : T.heap[a]? = some cell) (harr : s.isArrayOf cell .int) (hk : cell.vm ≠ .unknown) (hin : ¬ (j < 0 ∨ cell.slots.size ≤ j.toNatClampNeg)) (hv : cell.slots[j.toNatClampNeg]? = some v) (hg : g.method = m) {rest : List Value} (hs : g.stack = .int j :: .ref a :: rest) (hd : decode c.code g.pc = .ok (.iaload, 1))
    (hr : Steps p.tables e below (T.setTop { g with pc := g.pc + 1, stack := v :: rest }) target) : Steps p.tables e below (T.setTop g) target := X.iaload hx hcell harr hk hin hv hg hs hd target hr
theorem own_laload {g : JFrame} {target : State} (X : Stand p l e R s m args below meth c T locs cells slots) (hx : p.tables.exec = Jvm.exec) {a : Addr} {cell : Cell} {j : Int32} {v : Value} (hcell : T.heap[a]? = some cell) (harr : s.isArrayOf cell .long) (hk : cell.vm ≠ .unknown) (hin : ¬ (j < 0 ∨ cell.slots.size ≤ j.toNatClampNeg)) (hv : cell.slots[j.toNatClampNeg]? = some v) (hg : g.method = m) {rest : List Value} (hs : g.stack = .int j :: .ref a :: rest) (hd : decode c.code g.pc = .ok (.laload, 1))
    (hr : Steps p.tables e below (T.setTop { g with pc := g.pc + 1, stack := v :: rest }) target) : Steps p.tables e below (T.setTop g) target := X.laload hx hcell harr hk hin hv hg hs hd target hr
theorem own_baload {g : JFrame} {target : State} (X : Stand p l e R s m args below meth c T locs cells slots) (hx : p.tables.exec = Jvm.exec) {a : Addr} {cell : Cell} {j : Int32} {v : Value} (hcell : T.heap[a]? = some cell) (harr : s.isArrayOf cell .byte) (hk : cell.vm ≠ .unknown) (hin : ¬ (j < 0 ∨ cell.slots.size ≤ j.toNatClampNeg)) (hv : cell.slots[j.toNatClampNeg]? = some v) (hg : g.method = m) {rest : List Value} (hs : g.stack = .int j :: .ref a :: rest) (hd : decode c.code g.pc = .ok (.baload, 1))
    (hr : Steps p.tables e below (T.setTop { g with pc := g.pc + 1, stack := v :: rest }) target) : Steps p.tables e below (T.setTop g) target := X.baloadBytes hx hcell harr hk hin hv hg hs hd target hr
theorem own_lrem {g : JFrame} {target : State} (X : Stand p l e R s m args below meth c T locs cells slots) (hx : p.tables.exec = Jvm.exec) (hg : g.method = m) {x y : Int64} {rest : List Value} (hd : decode c.code g.pc = .ok (.lrem, 1)) (hs : g.stack = .long y :: .long x :: rest) (hy : y ≠ 0)
    (hr : Steps p.tables e below (T.setTop { g with pc := g.pc + 1, stack := .long (x % y) :: rest }) target) : Steps p.tables e below (T.setTop g) target :=
  XS.lrem X.here hx hg hd hs hy (by rw [lrem_mod]; exact hr)
theorem own_tltL {x y : Int64} (h : x < y) : ifCond.holds .lt (lcmpW x y) = true ∧ ifCond.holds .ge (lcmpW x y) = false ∧ ifCond.holds .gt (lcmpW y x) = true ∧ ifCond.holds .le (lcmpW y x) = false := by
  have h1 : lcmpW x y < 0 := by rw [lcW]; exact (lc_lt x y).mpr h
  have h2 : 0 < lcmpW y x := by rw [lcW]; exact (lc_gt y x).mpr h
  exact ⟨(if0 _ _).trans (tlt h1).1, (if0 _ _).trans (tlt h1).2.1, (if0 _ _).trans (tlt h2).2.2.1, (if0 _ _).trans (tlt h2).2.2.2⟩
theorem own_fltL {x y : Int64} (h : ¬ x < y) : ifCond.holds .lt (lcmpW x y) = false ∧ ifCond.holds .ge (lcmpW x y) = true ∧ ifCond.holds .gt (lcmpW y x) = false ∧ ifCond.holds .le (lcmpW y x) = true := by
  have h1 : ¬ lcmpW x y < 0 := by rw [lcW, lc_lt]; exact h
  have h2 : ¬ 0 < lcmpW y x := by rw [lcW, lc_gt]; exact h
  exact ⟨(if0 _ _).trans (flt h1).1, (if0 _ _).trans (flt h1).2.1, (if0 _ _).trans (flt h2).2.2.1, (if0 _ _).trans (flt h2).2.2.2⟩
theorem own_teqL {x y : Int64} (h : x = y) : ifCond.holds .eq (lcmpW x y) = true ∧ ifCond.holds .ne (lcmpW x y) = false := by
  have h1 : lcmpW x y = 0 := by rw [lcW, lc_eq]; exact h
  exact ⟨(if0 _ _).trans (teq h1).1, (if0 _ _).trans (teq h1).2⟩
theorem own_feqL {x y : Int64} (h : ¬ x = y) : ifCond.holds .eq (lcmpW x y) = false ∧ ifCond.holds .ne (lcmpW x y) = true := by
  have h1 : ¬ lcmpW x y = 0 := by rw [lcW, lc_eq]; exact h
  exact ⟨(if0 _ _).trans (feq h1).1, (if0 _ _).trans (feq h1).2⟩
end New
end Jvm.RoadKit
namespace Jvm.Pilot.@@N@@
open Jvm Jvm.ClassFile Sem Op Lib Jvm.Free Jvm.Stand Jvm.LawKit Jvm.RoadKit Bundle Jvm.Pilot.@@N@@.Jvm.D
/-- what is left to show from a place of the walk on -/
abbrev OGl (p : Program) (e : Env) (below : List Frame) (Q : Outcome → State → Prop) (T : State) (g : JFrame) : Prop :=
  ∃ s₂ o, Steps p.tables e below (T.setTop g) s₂ ∧ s₂.status = .running ∧ Ended s₂ below o ∧ Q o s₂
theorem OGl.go {p : Program} {e : Env} {below : List Frame} {Q : Outcome → State → Prop} {T T' : State} {g g' : JFrame} (h : ∀ t, Steps p.tables e below (T'.setTop g') t → Steps p.tables e below (T.setTop g) t) (k : OGl p e below Q T' g') : OGl p e below Q T g := by
  obtain ⟨s2, o, h1, h2⟩ := k
  exact ⟨s2, o, h _ h1, h2⟩
theorem OGl.start {p : Program} {e : Env} {below : List Frame} {Q : Outcome → State → Prop} {T : State} {g g' : JFrame} (q : g = g') (k : OGl p e below Q T g') : OGl p e below Q T g := q ▸ k
theorem own_selPriv {s : State} {args : Array Value} {y y' x' : MethodName} {C' : String} (hp : s.PrivateAt y) (hi : (Cond.instanceMethod y).before args s = true) (hc : y'.cls = y.cls) (hs : (Cond.selects C' x' y').before args s = true) (hy : y.cls ≠ "java/lang/invoke/MethodHandle" ∧ y.cls ≠ "java/lang/invoke/VarHandle" := by decide) : (Cond.selects y.cls y y).before args s = true := by
  obtain ⟨mk, meth, hn, hm, -, -⟩ := Cond.instanceMethod_spec hi
  obtain ⟨c2, r2, m2, -, -, q3, -, kP, hkP, hkPi⟩ := Cond.selects_spec hs
  have h1 := findClass_of_methodNamed hn
  have h2 := findClass_of_methodNamed q3
  rw [hc, h1] at h2
  have h3 : mk.cls = m2.cls := Option.some.inj h2
  have hf := State.methodFound?_of_named hn hy
  have hsel : selectMethod {} s.vm mk.cls mk = .method mk := selectMethod_private hm (hp mk meth hn hm)
  rw [← h3] at hkP
  simp [Cond.before, Cond.holds, Cond.value, h1, hf, hn, hsel, hkP, hkPi]
theorem own_weak {Z : State} {h : Heap} {a : Addr} {k : ClassId} {ty : FieldType} {z : Int32} {vs vs' : List Value} {d : Value} (F : Arv Z h a k ty z vs d) (q : ∀ i, i < z.toNatClampNeg → vs'.getD i d = vs.getD i d) : Arv Z h a k ty z vs' d := by
  obtain ⟨c, A, r1, r2, r3, H, G⟩ := F
  exact ⟨c, A, r1, r2, r3, fun i hi => by rw [q i (r2 ▸ hi)]; exact H i hi, fun i hi => by rw [q i (r2 ▸ hi)]; exact G i hi⟩
theorem own_cl {z j : Int32} {k i : Nat} (h : ¬ j < z) (hk : j.toInt = k) (hi : i < z.toNatClampNeg) : i < k := by
  rw [Int32.lt_iff_toInt_lt] at h
  have : z.toNatClampNeg = z.toInt.toNat := rfl
  omega
theorem own_irr {α : Type} [LT α] [Std.Irrefl (α := α) (· < ·)] (x : α) : ¬ x < x := Std.Irrefl.irrefl x
theorem d1_0 : decode prog_42_method_12_code 0 = .ok (.iload_n 0, 1) := by decide +kernel
theorem d1_1 : decode prog_42_method_12_code 1 = .ok (.bipush 48, 2) := by decide +kernel
theorem d1_3 : decode prog_42_method_12_code 3 = .ok (.if_icmp .lt 13, 3) := by decide +kernel
theorem d1_16 : decode prog_42_method_12_code 16 = .ok (.iconst 0, 1) := by decide +kernel
theorem d1_17 : decode prog_42_method_12_code 17 = .ok (.ireturn, 1) := by decide +kernel
theorem d1_6 : decode prog_42_method_12_code 6 = .ok (.iload_n 0, 1) := by decide +kernel
theorem d1_7 : decode prog_42_method_12_code 7 = .ok (.bipush 57, 2) := by decide +kernel
theorem d1_9 : decode prog_42_method_12_code 9 = .ok (.if_icmp .gt 7, 3) := by decide +kernel
theorem d1_12 : decode prog_42_method_12_code 12 = .ok (.iconst 1, 1) := by decide +kernel
theorem d1_13 : decode prog_42_method_12_code 13 = .ok (.goto 4, 3) := by decide +kernel
theorem ef_1 (m : MethodId) (x0 : Int32) : entryFrame m #[(.int x0)] 1 = mkF m 0 #[.val (.int x0)] [] := by first | (simp [entryFrame, mkF, argsToLocals, Value.category]; done) | rfl
theorem pn_0 : plainName "com/example/gramsmith/gramsmith/grammar/GrammarLexer" = true := by first | (simp [plainName, overriddenIn]; done) | decide +kernel
def t1_0 (p0 : Int32) : Int32 := (if p0 < (48 : Int32) then (0 : Int32) else (if (57 : Int32) < p0 then (0 : Int32) else (1 : Int32)))
def Q1 (Z : State) (p0 : Int32) (h0 : Heap) (n0 : Nat) (v : Option Value) (h : Heap) (L : List Loc) : Prop := v = some (.int (t1_0 p0)) ∧ Fr n0 L ∧ h = h0
set_option maxRecDepth 65536 in
set_option maxHeartbeats 40000000 in
theorem rm1 (l : Launch) (Z : State) (a0 : Array Value) (hw : ∀ d ∈ tables_1, d.before a0 Z = true) (ws : List Jvm.Cond) (p0 : Int32) (h0 : Heap) (n0 : Nat) (Z0 : n0 ≤ h0.size) :
    MetFree l (⟨"com/example/gramsmith/gramsmith/grammar/GrammarLexer", "isDigit", "(I)Z"⟩ : MethodName) (head1 (Jvm.Cond.code (⟨"com/example/gramsmith/gramsmith/grammar/GrammarLexer", "isDigit", "(I)Z"⟩ : MethodName) prog_42_method_12_code 1 (some .boolean) :: ws) ({ frames := 0, cells := 0, slots := 0, locals := 0 } : Room)) (fun a U => a = #[(.int p0)] ∧ Z.Warmed39 U.vm ∧ U.heap = h0) (fun _ _ _ _ _ => True) (fun _ U o U' => ∃ v L, o = .returned v ∧ Q1 Z p0 h0 n0 v U'.heap L ∧ FrameEnd U o U' L ({ frames := 0, cells := 0, slots := 0, locals := 0 } : Room).cells ({ frames := 0, cells := 0, slots := 0, locals := 0 } : Room).slots) := by
  refine MetFree.of_bodySF (plainFor_of_name pn_0) hisR ?_
  intro p e s m args below meth c s₁ Bd hml0 hP hK
  obtain ⟨rfl, hZ, hh⟩ := hP
  have hx := Bd.exec
  have hby := Bd.bytes
  have hml : c.maxLocals = 1 := hml0
  have hown : s.vm.findClass "com/example/gramsmith/gramsmith/grammar/GrammarLexer" = some m.cls := findClass_of_methodNamed Bd.named
  have hnm := (name_of_methodNamed Bd.named Bd.method).1
  have X0 : Stand p l e ({ frames := 0, cells := 0, slots := 0, locals := 0 } : Room) s m #[(.int p0)] below meth c s₁ [] 0 0 := Stand.of_body Bd
  have e0 : s₁.heap = h0 := by rw [← hh, Bd.state]; rfl
  have N0 := Fr.nil n0
  refine OGl.start (ef_1 m p0) ?_
  show OGl _ _ _ _ s₁ (mkF m 0 #[.val (.int p0)] [])
  refine OGl.go (fun t k => XS.iloadN X0.here hx rfl (hb hby d1_0) rfl (XS.bipush X0.here hx rfl (hb hby d1_1) k)) ?_
  show OGl _ _ _ _ s₁ (mkF m 3 #[.val (.int p0)] [(.int (48 : Int32)), (.int p0)])
  by_cases hc2 : p0 < (48 : Int32)
  · refine OGl.go (fun t k => XS.icmpYes X0.here hx rfl (pc0 := 3) (pc' := 16) rfl (hb hby d1_3) rfl (tlt hc2).1 (by decide) (by decide) (XS.iconst X0.here hx rfl (hb hby d1_16) k)) ?_
    show OGl _ _ _ _ s₁ (mkF m 17 #[.val (.int p0)] [(.int (0 : Int32))])
    obtain ⟨fs, hr, hrun, hended, hW, hsame⟩ := X0.leave (v := some (.int (0 : Int32))) (fun h => by rw [Bd.returns] at h; cases h)
    refine ⟨_, _, retN X0 hx (t := .boolean) Bd.returns (by simp) (hb hby d1_17) hr, hrun, hended, _, _, rfl, ?_, ⟨_, rfl⟩, hW, hsame.mono (by decide) (by decide)⟩
    have hv4 : (t1_0 p0) = (0 : Int32) := by unfold t1_0; rw [if_pos hc2]
    show Q1 Z p0 h0 n0 _ s₁.heap _
    rw [e0]
    exact ⟨(by rw [hv4]), N0, rfl⟩
  · refine OGl.go (fun t k => XS.icmpNo X0.here hx rfl (hb hby d1_3) rfl (flt hc2).1 (XS.iloadN X0.here hx rfl (hb hby d1_6) rfl (XS.bipush X0.here hx rfl (hb hby d1_7) k))) ?_
    show OGl _ _ _ _ s₁ (mkF m 9 #[.val (.int p0)] [(.int (57 : Int32)), (.int p0)])
    by_cases hc3 : (57 : Int32) < p0
    · refine OGl.go (fun t k => XS.icmpYes X0.here hx rfl (pc0 := 9) (pc' := 16) rfl (hb hby d1_9) rfl (tlt hc3).2.2.1 (by decide) (by decide) (XS.iconst X0.here hx rfl (hb hby d1_16) k)) ?_
      show OGl _ _ _ _ s₁ (mkF m 17 #[.val (.int p0)] [(.int (0 : Int32))])
      obtain ⟨fs, hr, hrun, hended, hW, hsame⟩ := X0.leave (v := some (.int (0 : Int32))) (fun h => by rw [Bd.returns] at h; cases h)
      refine ⟨_, _, retN X0 hx (t := .boolean) Bd.returns (by simp) (hb hby d1_17) hr, hrun, hended, _, _, rfl, ?_, ⟨_, rfl⟩, hW, hsame.mono (by decide) (by decide)⟩
      have hv5 : (t1_0 p0) = (0 : Int32) := by unfold t1_0; rw [if_neg hc2, if_pos hc3]
      show Q1 Z p0 h0 n0 _ s₁.heap _
      rw [e0]
      exact ⟨(by rw [hv5]), N0, rfl⟩
    · refine OGl.go (fun t k => XS.icmpNo X0.here hx rfl (hb hby d1_9) rfl (flt hc3).2.2.1 (XS.iconst X0.here hx rfl (hb hby d1_12) (XS.goto X0.here hx rfl (pc0 := 13) (pc' := 17) rfl (hb hby d1_13) (by decide) (by decide) k))) ?_
      show OGl _ _ _ _ s₁ (mkF m 17 #[.val (.int p0)] [(.int (1 : Int32))])
      obtain ⟨fs, hr, hrun, hended, hW, hsame⟩ := X0.leave (v := some (.int (1 : Int32))) (fun h => by rw [Bd.returns] at h; cases h)
      refine ⟨_, _, retN X0 hx (t := .boolean) Bd.returns (by simp) (hb hby d1_17) hr, hrun, hended, _, _, rfl, ?_, ⟨_, rfl⟩, hW, hsame.mono (by decide) (by decide)⟩
      have hv6 : (t1_0 p0) = (1 : Int32) := by unfold t1_0; rw [if_neg hc2, if_neg hc3]
      show Q1 Z p0 h0 n0 _ s₁.heap _
      rw [e0]
      exact ⟨(by rw [hv6]), N0, rfl⟩
theorem pd_0 : parseMethodDescriptor "(I)Z" = some ⟨[.int], some .boolean⟩ := by decide +kernel
theorem d2_0 : decode method_2_code 0 = .ok (.iload_n 0, 1) := by decide +kernel
theorem d2_1 : decode method_2_code 1 = .ok (.bipush 48, 2) := by decide +kernel
theorem d2_3 : decode method_2_code 3 = .ok (.if_icmp .eq 57, 3) := by decide +kernel
theorem d2_60 : decode method_2_code 60 = .ok (.iconst 1, 1) := by decide +kernel
theorem d2_61 : decode method_2_code 61 = .ok (.goto 4, 3) := by decide +kernel
theorem d2_65 : decode method_2_code 65 = .ok (.ireturn, 1) := by decide +kernel
theorem d2_6 : decode method_2_code 6 = .ok (.iload_n 0, 1) := by decide +kernel
theorem d2_7 : decode method_2_code 7 = .ok (.bipush 49, 2) := by decide +kernel
theorem d2_9 : decode method_2_code 9 = .ok (.if_icmp .eq 51, 3) := by decide +kernel
theorem d2_12 : decode method_2_code 12 = .ok (.iload_n 0, 1) := by decide +kernel
theorem d2_13 : decode method_2_code 13 = .ok (.bipush 50, 2) := by decide +kernel
theorem d2_15 : decode method_2_code 15 = .ok (.if_icmp .eq 45, 3) := by decide +kernel
theorem d2_18 : decode method_2_code 18 = .ok (.iload_n 0, 1) := by decide +kernel
theorem d2_19 : decode method_2_code 19 = .ok (.bipush 51, 2) := by decide +kernel
theorem d2_21 : decode method_2_code 21 = .ok (.if_icmp .eq 39, 3) := by decide +kernel
theorem d2_24 : decode method_2_code 24 = .ok (.iload_n 0, 1) := by decide +kernel
theorem d2_25 : decode method_2_code 25 = .ok (.bipush 52, 2) := by decide +kernel
theorem d2_27 : decode method_2_code 27 = .ok (.if_icmp .eq 33, 3) := by decide +kernel
theorem d2_30 : decode method_2_code 30 = .ok (.iload_n 0, 1) := by decide +kernel
theorem d2_31 : decode method_2_code 31 = .ok (.bipush 53, 2) := by decide +kernel
theorem d2_33 : decode method_2_code 33 = .ok (.if_icmp .eq 27, 3) := by decide +kernel
theorem d2_36 : decode method_2_code 36 = .ok (.iload_n 0, 1) := by decide +kernel
theorem d2_37 : decode method_2_code 37 = .ok (.bipush 54, 2) := by decide +kernel
theorem d2_39 : decode method_2_code 39 = .ok (.if_icmp .eq 21, 3) := by decide +kernel
theorem d2_42 : decode method_2_code 42 = .ok (.iload_n 0, 1) := by decide +kernel
theorem d2_43 : decode method_2_code 43 = .ok (.bipush 55, 2) := by decide +kernel
theorem d2_45 : decode method_2_code 45 = .ok (.if_icmp .eq 15, 3) := by decide +kernel
theorem d2_48 : decode method_2_code 48 = .ok (.iload_n 0, 1) := by decide +kernel
theorem d2_49 : decode method_2_code 49 = .ok (.bipush 56, 2) := by decide +kernel
theorem d2_51 : decode method_2_code 51 = .ok (.if_icmp .eq 9, 3) := by decide +kernel
theorem d2_54 : decode method_2_code 54 = .ok (.iload_n 0, 1) := by decide +kernel
theorem d2_55 : decode method_2_code 55 = .ok (.bipush 57, 2) := by decide +kernel
theorem d2_57 : decode method_2_code 57 = .ok (.if_icmp .ne 7, 3) := by decide +kernel
theorem d2_64 : decode method_2_code 64 = .ok (.iconst 0, 1) := by decide +kernel
theorem ef_2 (m : MethodId) (x0 : Int32) : entryFrame m #[(.int x0)] 1 = mkF m 0 #[.val (.int x0)] [] := by first | (simp [entryFrame, mkF, argsToLocals, Value.category]; done) | rfl
theorem pn_1 : plainName "com/example/gramsmith/gramsmith/grammar/GrammarLexerIsDigitPinLaw" = true := by first | (simp [plainName, overriddenIn]; done) | decide +kernel
def t2_0 (p0 : Int32) : Int32 := (if p0 = (48 : Int32) then (1 : Int32) else (if p0 = (49 : Int32) then (1 : Int32) else (if p0 = (50 : Int32) then (1 : Int32) else (if p0 = (51 : Int32) then (1 : Int32) else (if p0 = (52 : Int32) then (1 : Int32) else (if p0 = (53 : Int32) then (1 : Int32) else (if p0 = (54 : Int32) then (1 : Int32) else (if p0 = (55 : Int32) then (1 : Int32) else (if p0 = (56 : Int32) then (1 : Int32) else (if p0 = (57 : Int32) then (1 : Int32) else (0 : Int32)))))))))))
def Q2 (Z : State) (p0 : Int32) (h0 : Heap) (n0 : Nat) (v : Option Value) (h : Heap) (L : List Loc) : Prop := v = some (.int (t2_0 p0)) ∧ Fr n0 L ∧ h = h0
set_option maxRecDepth 65536 in
set_option maxHeartbeats 40000000 in
theorem rm2 (l : Launch) (Z : State) (a0 : Array Value) (hw : ∀ d ∈ tables_1, d.before a0 Z = true) (ws : List Jvm.Cond) (p0 : Int32) (h0 : Heap) (n0 : Nat) (Z0 : n0 ≤ h0.size) :
    MetFree l (⟨"com/example/gramsmith/gramsmith/grammar/GrammarLexerIsDigitPinLaw", "oneOfTen", "(I)Z"⟩ : MethodName) (head1 (Jvm.Cond.code (⟨"com/example/gramsmith/gramsmith/grammar/GrammarLexerIsDigitPinLaw", "oneOfTen", "(I)Z"⟩ : MethodName) method_2_code 1 (some .boolean) :: ws) ({ frames := 0, cells := 0, slots := 0, locals := 0 } : Room)) (fun a U => a = #[(.int p0)] ∧ Z.Warmed39 U.vm ∧ U.heap = h0) (fun _ _ _ _ _ => True) (fun _ U o U' => ∃ v L, o = .returned v ∧ Q2 Z p0 h0 n0 v U'.heap L ∧ FrameEnd U o U' L ({ frames := 0, cells := 0, slots := 0, locals := 0 } : Room).cells ({ frames := 0, cells := 0, slots := 0, locals := 0 } : Room).slots) := by
  refine MetFree.of_bodySF (plainFor_of_name pn_1) hisR ?_
  intro p e s m args below meth c s₁ Bd hml0 hP hK
  obtain ⟨rfl, hZ, hh⟩ := hP
  have hx := Bd.exec
  have hby := Bd.bytes
  have hml : c.maxLocals = 1 := hml0
  have hown : s.vm.findClass "com/example/gramsmith/gramsmith/grammar/GrammarLexerIsDigitPinLaw" = some m.cls := findClass_of_methodNamed Bd.named
  have hnm := (name_of_methodNamed Bd.named Bd.method).1
  have X0 : Stand p l e ({ frames := 0, cells := 0, slots := 0, locals := 0 } : Room) s m #[(.int p0)] below meth c s₁ [] 0 0 := Stand.of_body Bd
  have e0 : s₁.heap = h0 := by rw [← hh, Bd.state]; rfl
  have N0 := Fr.nil n0
  refine OGl.start (ef_2 m p0) ?_
  show OGl _ _ _ _ s₁ (mkF m 0 #[.val (.int p0)] [])
  refine OGl.go (fun t k => XS.iloadN X0.here hx rfl (hb hby d2_0) rfl (XS.bipush X0.here hx rfl (hb hby d2_1) k)) ?_
  show OGl _ _ _ _ s₁ (mkF m 3 #[.val (.int p0)] [(.int (48 : Int32)), (.int p0)])
  by_cases hc8 : p0 = (48 : Int32)
  · refine OGl.go (fun t k => XS.icmpYes X0.here hx rfl (pc0 := 3) (pc' := 60) rfl (hb hby d2_3) rfl (teq hc8).1 (by decide) (by decide) (XS.iconst X0.here hx rfl (hb hby d2_60) (XS.goto X0.here hx rfl (pc0 := 61) (pc' := 65) rfl (hb hby d2_61) (by decide) (by decide) k))) ?_
    show OGl _ _ _ _ s₁ (mkF m 65 #[.val (.int p0)] [(.int (1 : Int32))])
    obtain ⟨fs, hr, hrun, hended, hW, hsame⟩ := X0.leave (v := some (.int (1 : Int32))) (fun h => by rw [Bd.returns] at h; cases h)
    refine ⟨_, _, retN X0 hx (t := .boolean) Bd.returns (by simp) (hb hby d2_65) hr, hrun, hended, _, _, rfl, ?_, ⟨_, rfl⟩, hW, hsame.mono (by decide) (by decide)⟩
    have hv18 : (t2_0 p0) = (1 : Int32) := by unfold t2_0; rw [if_pos hc8]
    show Q2 Z p0 h0 n0 _ s₁.heap _
    rw [e0]
    exact ⟨(by rw [hv18]), N0, rfl⟩
  · refine OGl.go (fun t k => XS.icmpNo X0.here hx rfl (hb hby d2_3) rfl (feq hc8).1 (XS.iloadN X0.here hx rfl (hb hby d2_6) rfl (XS.bipush X0.here hx rfl (hb hby d2_7) k))) ?_
    show OGl _ _ _ _ s₁ (mkF m 9 #[.val (.int p0)] [(.int (49 : Int32)), (.int p0)])
    by_cases hc9 : p0 = (49 : Int32)
    · refine OGl.go (fun t k => XS.icmpYes X0.here hx rfl (pc0 := 9) (pc' := 60) rfl (hb hby d2_9) rfl (teq hc9).1 (by decide) (by decide) (XS.iconst X0.here hx rfl (hb hby d2_60) (XS.goto X0.here hx rfl (pc0 := 61) (pc' := 65) rfl (hb hby d2_61) (by decide) (by decide) k))) ?_
      show OGl _ _ _ _ s₁ (mkF m 65 #[.val (.int p0)] [(.int (1 : Int32))])
      obtain ⟨fs, hr, hrun, hended, hW, hsame⟩ := X0.leave (v := some (.int (1 : Int32))) (fun h => by rw [Bd.returns] at h; cases h)
      refine ⟨_, _, retN X0 hx (t := .boolean) Bd.returns (by simp) (hb hby d2_65) hr, hrun, hended, _, _, rfl, ?_, ⟨_, rfl⟩, hW, hsame.mono (by decide) (by decide)⟩
      have hv19 : (t2_0 p0) = (1 : Int32) := by unfold t2_0; rw [if_neg hc8, if_pos hc9]
      show Q2 Z p0 h0 n0 _ s₁.heap _
      rw [e0]
      exact ⟨(by rw [hv19]), N0, rfl⟩
    · refine OGl.go (fun t k => XS.icmpNo X0.here hx rfl (hb hby d2_9) rfl (feq hc9).1 (XS.iloadN X0.here hx rfl (hb hby d2_12) rfl (XS.bipush X0.here hx rfl (hb hby d2_13) k))) ?_
      show OGl _ _ _ _ s₁ (mkF m 15 #[.val (.int p0)] [(.int (50 : Int32)), (.int p0)])
      by_cases hc10 : p0 = (50 : Int32)
      · refine OGl.go (fun t k => XS.icmpYes X0.here hx rfl (pc0 := 15) (pc' := 60) rfl (hb hby d2_15) rfl (teq hc10).1 (by decide) (by decide) (XS.iconst X0.here hx rfl (hb hby d2_60) (XS.goto X0.here hx rfl (pc0 := 61) (pc' := 65) rfl (hb hby d2_61) (by decide) (by decide) k))) ?_
        show OGl _ _ _ _ s₁ (mkF m 65 #[.val (.int p0)] [(.int (1 : Int32))])
        obtain ⟨fs, hr, hrun, hended, hW, hsame⟩ := X0.leave (v := some (.int (1 : Int32))) (fun h => by rw [Bd.returns] at h; cases h)
        refine ⟨_, _, retN X0 hx (t := .boolean) Bd.returns (by simp) (hb hby d2_65) hr, hrun, hended, _, _, rfl, ?_, ⟨_, rfl⟩, hW, hsame.mono (by decide) (by decide)⟩
        have hv20 : (t2_0 p0) = (1 : Int32) := by unfold t2_0; rw [if_neg hc8, if_neg hc9, if_pos hc10]
        show Q2 Z p0 h0 n0 _ s₁.heap _
        rw [e0]
        exact ⟨(by rw [hv20]), N0, rfl⟩
      · refine OGl.go (fun t k => XS.icmpNo X0.here hx rfl (hb hby d2_15) rfl (feq hc10).1 (XS.iloadN X0.here hx rfl (hb hby d2_18) rfl (XS.bipush X0.here hx rfl (hb hby d2_19) k))) ?_
        show OGl _ _ _ _ s₁ (mkF m 21 #[.val (.int p0)] [(.int (51 : Int32)), (.int p0)])
        by_cases hc11 : p0 = (51 : Int32)
        · refine OGl.go (fun t k => XS.icmpYes X0.here hx rfl (pc0 := 21) (pc' := 60) rfl (hb hby d2_21) rfl (teq hc11).1 (by decide) (by decide) (XS.iconst X0.here hx rfl (hb hby d2_60) (XS.goto X0.here hx rfl (pc0 := 61) (pc' := 65) rfl (hb hby d2_61) (by decide) (by decide) k))) ?_
          show OGl _ _ _ _ s₁ (mkF m 65 #[.val (.int p0)] [(.int (1 : Int32))])
          obtain ⟨fs, hr, hrun, hended, hW, hsame⟩ := X0.leave (v := some (.int (1 : Int32))) (fun h => by rw [Bd.returns] at h; cases h)
          refine ⟨_, _, retN X0 hx (t := .boolean) Bd.returns (by simp) (hb hby d2_65) hr, hrun, hended, _, _, rfl, ?_, ⟨_, rfl⟩, hW, hsame.mono (by decide) (by decide)⟩
          have hv21 : (t2_0 p0) = (1 : Int32) := by unfold t2_0; rw [if_neg hc8, if_neg hc9, if_neg hc10, if_pos hc11]
          show Q2 Z p0 h0 n0 _ s₁.heap _
          rw [e0]
          exact ⟨(by rw [hv21]), N0, rfl⟩
        · refine OGl.go (fun t k => XS.icmpNo X0.here hx rfl (hb hby d2_21) rfl (feq hc11).1 (XS.iloadN X0.here hx rfl (hb hby d2_24) rfl (XS.bipush X0.here hx rfl (hb hby d2_25) k))) ?_
          show OGl _ _ _ _ s₁ (mkF m 27 #[.val (.int p0)] [(.int (52 : Int32)), (.int p0)])
          by_cases hc12 : p0 = (52 : Int32)
          · refine OGl.go (fun t k => XS.icmpYes X0.here hx rfl (pc0 := 27) (pc' := 60) rfl (hb hby d2_27) rfl (teq hc12).1 (by decide) (by decide) (XS.iconst X0.here hx rfl (hb hby d2_60) (XS.goto X0.here hx rfl (pc0 := 61) (pc' := 65) rfl (hb hby d2_61) (by decide) (by decide) k))) ?_
            show OGl _ _ _ _ s₁ (mkF m 65 #[.val (.int p0)] [(.int (1 : Int32))])
            obtain ⟨fs, hr, hrun, hended, hW, hsame⟩ := X0.leave (v := some (.int (1 : Int32))) (fun h => by rw [Bd.returns] at h; cases h)
            refine ⟨_, _, retN X0 hx (t := .boolean) Bd.returns (by simp) (hb hby d2_65) hr, hrun, hended, _, _, rfl, ?_, ⟨_, rfl⟩, hW, hsame.mono (by decide) (by decide)⟩
            have hv22 : (t2_0 p0) = (1 : Int32) := by unfold t2_0; rw [if_neg hc8, if_neg hc9, if_neg hc10, if_neg hc11, if_pos hc12]
            show Q2 Z p0 h0 n0 _ s₁.heap _
            rw [e0]
            exact ⟨(by rw [hv22]), N0, rfl⟩
          · refine OGl.go (fun t k => XS.icmpNo X0.here hx rfl (hb hby d2_27) rfl (feq hc12).1 (XS.iloadN X0.here hx rfl (hb hby d2_30) rfl (XS.bipush X0.here hx rfl (hb hby d2_31) k))) ?_
            show OGl _ _ _ _ s₁ (mkF m 33 #[.val (.int p0)] [(.int (53 : Int32)), (.int p0)])
            by_cases hc13 : p0 = (53 : Int32)
            · refine OGl.go (fun t k => XS.icmpYes X0.here hx rfl (pc0 := 33) (pc' := 60) rfl (hb hby d2_33) rfl (teq hc13).1 (by decide) (by decide) (XS.iconst X0.here hx rfl (hb hby d2_60) (XS.goto X0.here hx rfl (pc0 := 61) (pc' := 65) rfl (hb hby d2_61) (by decide) (by decide) k))) ?_
              show OGl _ _ _ _ s₁ (mkF m 65 #[.val (.int p0)] [(.int (1 : Int32))])
              obtain ⟨fs, hr, hrun, hended, hW, hsame⟩ := X0.leave (v := some (.int (1 : Int32))) (fun h => by rw [Bd.returns] at h; cases h)
              refine ⟨_, _, retN X0 hx (t := .boolean) Bd.returns (by simp) (hb hby d2_65) hr, hrun, hended, _, _, rfl, ?_, ⟨_, rfl⟩, hW, hsame.mono (by decide) (by decide)⟩
              have hv23 : (t2_0 p0) = (1 : Int32) := by unfold t2_0; rw [if_neg hc8, if_neg hc9, if_neg hc10, if_neg hc11, if_neg hc12, if_pos hc13]
              show Q2 Z p0 h0 n0 _ s₁.heap _
              rw [e0]
              exact ⟨(by rw [hv23]), N0, rfl⟩
            · refine OGl.go (fun t k => XS.icmpNo X0.here hx rfl (hb hby d2_33) rfl (feq hc13).1 (XS.iloadN X0.here hx rfl (hb hby d2_36) rfl (XS.bipush X0.here hx rfl (hb hby d2_37) k))) ?_
              show OGl _ _ _ _ s₁ (mkF m 39 #[.val (.int p0)] [(.int (54 : Int32)), (.int p0)])
              by_cases hc14 : p0 = (54 : Int32)
              · refine OGl.go (fun t k => XS.icmpYes X0.here hx rfl (pc0 := 39) (pc' := 60) rfl (hb hby d2_39) rfl (teq hc14).1 (by decide) (by decide) (XS.iconst X0.here hx rfl (hb hby d2_60) (XS.goto X0.here hx rfl (pc0 := 61) (pc' := 65) rfl (hb hby d2_61) (by decide) (by decide) k))) ?_
                show OGl _ _ _ _ s₁ (mkF m 65 #[.val (.int p0)] [(.int (1 : Int32))])
                obtain ⟨fs, hr, hrun, hended, hW, hsame⟩ := X0.leave (v := some (.int (1 : Int32))) (fun h => by rw [Bd.returns] at h; cases h)
                refine ⟨_, _, retN X0 hx (t := .boolean) Bd.returns (by simp) (hb hby d2_65) hr, hrun, hended, _, _, rfl, ?_, ⟨_, rfl⟩, hW, hsame.mono (by decide) (by decide)⟩
                have hv24 : (t2_0 p0) = (1 : Int32) := by unfold t2_0; rw [if_neg hc8, if_neg hc9, if_neg hc10, if_neg hc11, if_neg hc12, if_neg hc13, if_pos hc14]
                show Q2 Z p0 h0 n0 _ s₁.heap _
                rw [e0]
                exact ⟨(by rw [hv24]), N0, rfl⟩
              · refine OGl.go (fun t k => XS.icmpNo X0.here hx rfl (hb hby d2_39) rfl (feq hc14).1 (XS.iloadN X0.here hx rfl (hb hby d2_42) rfl (XS.bipush X0.here hx rfl (hb hby d2_43) k))) ?_
                show OGl _ _ _ _ s₁ (mkF m 45 #[.val (.int p0)] [(.int (55 : Int32)), (.int p0)])
                by_cases hc15 : p0 = (55 : Int32)
                · refine OGl.go (fun t k => XS.icmpYes X0.here hx rfl (pc0 := 45) (pc' := 60) rfl (hb hby d2_45) rfl (teq hc15).1 (by decide) (by decide) (XS.iconst X0.here hx rfl (hb hby d2_60) (XS.goto X0.here hx rfl (pc0 := 61) (pc' := 65) rfl (hb hby d2_61) (by decide) (by decide) k))) ?_
                  show OGl _ _ _ _ s₁ (mkF m 65 #[.val (.int p0)] [(.int (1 : Int32))])
                  obtain ⟨fs, hr, hrun, hended, hW, hsame⟩ := X0.leave (v := some (.int (1 : Int32))) (fun h => by rw [Bd.returns] at h; cases h)
                  refine ⟨_, _, retN X0 hx (t := .boolean) Bd.returns (by simp) (hb hby d2_65) hr, hrun, hended, _, _, rfl, ?_, ⟨_, rfl⟩, hW, hsame.mono (by decide) (by decide)⟩
                  have hv25 : (t2_0 p0) = (1 : Int32) := by unfold t2_0; rw [if_neg hc8, if_neg hc9, if_neg hc10, if_neg hc11, if_neg hc12, if_neg hc13, if_neg hc14, if_pos hc15]
                  show Q2 Z p0 h0 n0 _ s₁.heap _
                  rw [e0]
                  exact ⟨(by rw [hv25]), N0, rfl⟩
                · refine OGl.go (fun t k => XS.icmpNo X0.here hx rfl (hb hby d2_45) rfl (feq hc15).1 (XS.iloadN X0.here hx rfl (hb hby d2_48) rfl (XS.bipush X0.here hx rfl (hb hby d2_49) k))) ?_
                  show OGl _ _ _ _ s₁ (mkF m 51 #[.val (.int p0)] [(.int (56 : Int32)), (.int p0)])
                  by_cases hc16 : p0 = (56 : Int32)
                  · refine OGl.go (fun t k => XS.icmpYes X0.here hx rfl (pc0 := 51) (pc' := 60) rfl (hb hby d2_51) rfl (teq hc16).1 (by decide) (by decide) (XS.iconst X0.here hx rfl (hb hby d2_60) (XS.goto X0.here hx rfl (pc0 := 61) (pc' := 65) rfl (hb hby d2_61) (by decide) (by decide) k))) ?_
                    show OGl _ _ _ _ s₁ (mkF m 65 #[.val (.int p0)] [(.int (1 : Int32))])
                    obtain ⟨fs, hr, hrun, hended, hW, hsame⟩ := X0.leave (v := some (.int (1 : Int32))) (fun h => by rw [Bd.returns] at h; cases h)
                    refine ⟨_, _, retN X0 hx (t := .boolean) Bd.returns (by simp) (hb hby d2_65) hr, hrun, hended, _, _, rfl, ?_, ⟨_, rfl⟩, hW, hsame.mono (by decide) (by decide)⟩
                    have hv26 : (t2_0 p0) = (1 : Int32) := by unfold t2_0; rw [if_neg hc8, if_neg hc9, if_neg hc10, if_neg hc11, if_neg hc12, if_neg hc13, if_neg hc14, if_neg hc15, if_pos hc16]
                    show Q2 Z p0 h0 n0 _ s₁.heap _
                    rw [e0]
                    exact ⟨(by rw [hv26]), N0, rfl⟩
                  · refine OGl.go (fun t k => XS.icmpNo X0.here hx rfl (hb hby d2_51) rfl (feq hc16).1 (XS.iloadN X0.here hx rfl (hb hby d2_54) rfl (XS.bipush X0.here hx rfl (hb hby d2_55) k))) ?_
                    show OGl _ _ _ _ s₁ (mkF m 57 #[.val (.int p0)] [(.int (57 : Int32)), (.int p0)])
                    by_cases hc17 : p0 = (57 : Int32)
                    · refine OGl.go (fun t k => XS.icmpNo X0.here hx rfl (hb hby d2_57) rfl (teq hc17).2 (XS.iconst X0.here hx rfl (hb hby d2_60) (XS.goto X0.here hx rfl (pc0 := 61) (pc' := 65) rfl (hb hby d2_61) (by decide) (by decide) k))) ?_
                      show OGl _ _ _ _ s₁ (mkF m 65 #[.val (.int p0)] [(.int (1 : Int32))])
                      obtain ⟨fs, hr, hrun, hended, hW, hsame⟩ := X0.leave (v := some (.int (1 : Int32))) (fun h => by rw [Bd.returns] at h; cases h)
                      refine ⟨_, _, retN X0 hx (t := .boolean) Bd.returns (by simp) (hb hby d2_65) hr, hrun, hended, _, _, rfl, ?_, ⟨_, rfl⟩, hW, hsame.mono (by decide) (by decide)⟩
                      have hv27 : (t2_0 p0) = (1 : Int32) := by unfold t2_0; rw [if_neg hc8, if_neg hc9, if_neg hc10, if_neg hc11, if_neg hc12, if_neg hc13, if_neg hc14, if_neg hc15, if_neg hc16, if_pos hc17]
                      show Q2 Z p0 h0 n0 _ s₁.heap _
                      rw [e0]
                      exact ⟨(by rw [hv27]), N0, rfl⟩
                    · refine OGl.go (fun t k => XS.icmpYes X0.here hx rfl (pc0 := 57) (pc' := 64) rfl (hb hby d2_57) rfl (feq hc17).2 (by decide) (by decide) (XS.iconst X0.here hx rfl (hb hby d2_64) k)) ?_
                      show OGl _ _ _ _ s₁ (mkF m 65 #[.val (.int p0)] [(.int (0 : Int32))])
                      obtain ⟨fs, hr, hrun, hended, hW, hsame⟩ := X0.leave (v := some (.int (0 : Int32))) (fun h => by rw [Bd.returns] at h; cases h)
                      refine ⟨_, _, retN X0 hx (t := .boolean) Bd.returns (by simp) (hb hby d2_65) hr, hrun, hended, _, _, rfl, ?_, ⟨_, rfl⟩, hW, hsame.mono (by decide) (by decide)⟩
                      have hv28 : (t2_0 p0) = (0 : Int32) := by unfold t2_0; rw [if_neg hc8, if_neg hc9, if_neg hc10, if_neg hc11, if_neg hc12, if_neg hc13, if_neg hc14, if_neg hc15, if_neg hc16, if_neg hc17]
                      show Q2 Z p0 h0 n0 _ s₁.heap _
                      rw [e0]
                      exact ⟨(by rw [hv28]), N0, rfl⟩
def e0_0 (p1 : Int32) : Int32 := (if (t1_0 (p1 &&& (63 : Int32))) = (t2_0 (p1 &&& (63 : Int32))) then (1 : Int32) else (0 : Int32))
def e0_1 (p1 : Int32) : Int32 := (if (t1_0 ((1632 : Int32) + (p1 &&& (15 : Int32)))) = (0 : Int32) then (1 : Int32) else (0 : Int32))
def e0_2 (p1 : Int32) : Int32 := (if (t1_0 ((65296 : Int32) + (p1 &&& (15 : Int32)))) = (0 : Int32) then (1 : Int32) else (0 : Int32))
theorem ef_0 (m : MethodId) (x0 : Int32) (x1 : Int32) : entryFrame m #[(.int x0), (.int x1)] maxLocals = mkF m 0 #[.val (.int x0), .val (.int x1), .unset, .unset, .unset, .unset, .unset, .unset, .unset] [] := by first | (simp [entryFrame, mkF, argsToLocals, Value.category, maxLocals]; done) | rfl
def t0_0 (p0 : Int32) (p1 : Int32) : Int32 := (if (if (t1_0 p0) = (t2_0 p0) then (1 : Int32) else (0 : Int32)) = (0 : Int32) then (0 : Int32) else (if (e0_0 p1) = (0 : Int32) then (0 : Int32) else (if (e0_1 p1) = (0 : Int32) then (0 : Int32) else (if (e0_2 p1) = (0 : Int32) then (0 : Int32) else (1 : Int32)))))
def Q0 (Z : State) (p0 : Int32) (p1 : Int32) (h0 : Heap) (n0 : Nat) (v : Option Value) (h : Heap) (L : List Loc) : Prop := v = some (.int (t0_0 p0 p1)) ∧ Fr n0 L
set_option maxRecDepth 65536 in
set_option maxHeartbeats 40000000 in
theorem rm0 (l : Launch) (Z : State) (a0 : Array Value) (hw : ∀ d ∈ tables_1, d.before a0 Z = true) (ws : List Jvm.Cond) (p0 : Int32) (p1 : Int32) (h0 : Heap) (n0 : Nat) (Z0 : n0 ≤ h0.size) :
    MetFree l x (head1 (Jvm.Cond.code x code maxLocals ret :: ws) room_1) (fun a U => a = #[(.int p0), (.int p1)] ∧ Z.Warmed39 U.vm ∧ U.heap = h0) (fun _ _ _ _ _ => True) (fun _ U o U' => ∃ v L, o = .returned v ∧ Q0 Z p0 p1 h0 n0 v U'.heap L ∧ FrameEnd U o U' L 0 0) := by
  refine MetFree.of_bodySF (plainFor_of_name pn_1) hisR ?_
  intro p e s m args below meth c s₁ Bd hml0 hP hK
  obtain ⟨rfl, hZ, hh⟩ := hP
  have hx := Bd.exec
  have hby := Bd.bytes
  have hml : c.maxLocals = 9 := hml0
  have hown : s.vm.findClass "com/example/gramsmith/gramsmith/grammar/GrammarLexerIsDigitPinLaw" = some m.cls := findClass_of_methodNamed Bd.named
  have hnm := (name_of_methodNamed Bd.named Bd.method).1
  have X0 : Stand p l e room_1 s m #[(.int p0), (.int p1)] below meth c s₁ [] 0 0 := Stand.of_body Bd
  have e0 : s₁.heap = h0 := by rw [← hh, Bd.state]; rfl
  have N0 := Fr.nil n0
  refine OGl.start (ef_0 m p0 p1) ?_
  show OGl _ _ _ _ s₁ (mkF m 0 #[.val (.int p0), .val (.int p1), .unset, .unset, .unset, .unset, .unset, .unset, .unset] [])
  refine OGl.go (fun t k => XS.iloadN X0.here hx rfl (hb hby at_0) rfl (XS.bipush X0.here hx rfl (hb hby at_1) (XS.iand X0.here hx rfl (hb hby at_3) rfl (XS.istoreN X0.here hx rfl (hb hby at_4) rfl (l' := #[.val (.int p0), .val (.int p1), .val (.int (p1 &&& (63 : Int32))), .unset, .unset, .unset, .unset, .unset, .unset]) rfl (XS.sipush X0.here hx rfl (hb hby at_5) (XS.iloadN X0.here hx rfl (hb hby at_8) rfl (XS.bipush X0.here hx rfl (hb hby at_9) (XS.iand X0.here hx rfl (hb hby at_11) rfl k)))))))) ?_
  show OGl _ _ _ _ s₁ (mkF m 12 #[.val (.int p0), .val (.int p1), .val (.int (p1 &&& (63 : Int32))), .unset, .unset, .unset, .unset, .unset, .unset] [(.int (p1 &&& (15 : Int32))), (.int (1632 : Int32))])
  refine OGl.go (fun t k => XS.iadd X0.here hx rfl (hb hby at_12) rfl (XS.istoreN X0.here hx rfl (hb hby at_13) rfl (l' := #[.val (.int p0), .val (.int p1), .val (.int (p1 &&& (63 : Int32))), .val (.int ((1632 : Int32) + (p1 &&& (15 : Int32)))), .unset, .unset, .unset, .unset, .unset]) rfl (own_ldc X0 hx hown (mvT hZ (hw _ (List.mem_of_getElem? (i := 0) rfl))) rfl (hb hby at_14) (XS.iloadN X0.here hx rfl (hb hby at_16) rfl (XS.bipush X0.here hx rfl (hb hby at_17) (XS.iand X0.here hx rfl (hb hby at_19) rfl (XS.iadd X0.here hx rfl (hb hby at_20) rfl (XS.istore X0.here hx rfl (hb hby at_21) rfl (l' := #[.val (.int p0), .val (.int p1), .val (.int (p1 &&& (63 : Int32))), .val (.int ((1632 : Int32) + (p1 &&& (15 : Int32)))), .val (.int ((65296 : Int32) + (p1 &&& (15 : Int32)))), .unset, .unset, .unset, .unset]) rfl k)))))))) ?_
  show OGl _ _ _ _ s₁ (mkF m 23 #[.val (.int p0), .val (.int p1), .val (.int (p1 &&& (63 : Int32))), .val (.int ((1632 : Int32) + (p1 &&& (15 : Int32)))), .val (.int ((65296 : Int32) + (p1 &&& (15 : Int32)))), .unset, .unset, .unset, .unset] [])
  refine OGl.go (fun t k => XS.iloadN X0.here hx rfl (hb hby at_23) rfl k) ?_
  show OGl _ _ _ _ s₁ (mkF m 24 #[.val (.int p0), .val (.int p1), .val (.int (p1 &&& (63 : Int32))), .val (.int ((1632 : Int32) + (p1 &&& (15 : Int32)))), .val (.int ((65296 : Int32) + (p1 &&& (15 : Int32)))), .unset, .unset, .unset, .unset] [(.int p0)])
  obtain ⟨_, _, ⟨T1, L1, kk1, n1⟩, -, X1, ⟨Lc1, hQ1, l1, y1, z1⟩, st1⟩ := Jvm.LawKit.callS X0 hx (y := (⟨"com/example/gramsmith/gramsmith/grammar/GrammarLexer", "isDigit", "(I)Z"⟩ : MethodName)) hown (mvT hZ (hw _ (List.mem_of_getElem? (i := 1) rfl))) (mvT hZ (hw _ (List.mem_of_getElem? (i := 2) rfl))) (mvT hZ (hw _ (List.mem_of_getElem? (i := 3) rfl))) (mvT hZ (hw _ (List.mem_of_getElem? (i := 4) rfl))) (by decide) (backOf (W := 0) (rm1 l Z a0 hw [] p0 h0 n0 Z0 ) hZ (hw _ (List.mem_of_getElem? (i := 4) rfl)) (hw _ (List.mem_of_getElem? (i := 3) rfl)) (by decide) (by decide)) (g := (mkF m 24 #[.val (.int p0), .val (.int p1), .val (.int (p1 &&& (63 : Int32))), .val (.int ((1632 : Int32) + (p1 &&& (15 : Int32)))), .val (.int ((65296 : Int32) + (p1 &&& (15 : Int32)))), .unset, .unset, .unset, .unset] [(.int p0)])) rfl (by rw [hml]; rfl) (argsL := [(.int p0)]) (rest := []) (lenOf pd_0 rfl) rfl (by show 2 * 0 + _ ≤ _; exact Nat.le_of_eq rfl) (hb hby at_24) (fun _ _ => ⟨rfl, e0, (by decide : 0 + 0 ≤ _), (by decide : 0 + 0 ≤ _)⟩)
  dsimp only [Pt.U, Pt.locs, Pt.cells, Pt.slots] at X1 l1 y1 z1 st1 hQ1
  subst l1 y1 z1
  obtain ⟨rfl, Nq1, e1⟩ := hQ1
  have N1 := Fr.app N0 Nq1
  refine OGl.go st1 ?_
  show OGl _ _ _ _ T1 (mkF m 27 #[.val (.int p0), .val (.int p1), .val (.int (p1 &&& (63 : Int32))), .val (.int ((1632 : Int32) + (p1 &&& (15 : Int32)))), .val (.int ((65296 : Int32) + (p1 &&& (15 : Int32)))), .unset, .unset, .unset, .unset] [(.int (t1_0 p0))])
  refine OGl.go (fun t k => XS.iloadN X1.here hx rfl (hb hby at_27) rfl k) ?_
  show OGl _ _ _ _ T1 (mkF m 28 #[.val (.int p0), .val (.int p1), .val (.int (p1 &&& (63 : Int32))), .val (.int ((1632 : Int32) + (p1 &&& (15 : Int32)))), .val (.int ((65296 : Int32) + (p1 &&& (15 : Int32)))), .unset, .unset, .unset, .unset] [(.int p0), (.int (t1_0 p0))])
  obtain ⟨_, _, ⟨T7, L7, kk7, n7⟩, -, X7, ⟨Lc7, hQ7, l7, y7, z7⟩, st7⟩ := Jvm.LawKit.callS X1 hx (y := (⟨"com/example/gramsmith/gramsmith/grammar/GrammarLexerIsDigitPinLaw", "oneOfTen", "(I)Z"⟩ : MethodName)) hown (mvT hZ (hw _ (List.mem_of_getElem? (i := 5) rfl))) (mvT hZ (hw _ (List.mem_of_getElem? (i := 6) rfl))) (mvT hZ (hw _ (List.mem_of_getElem? (i := 7) rfl))) (mvT hZ (hw _ (List.mem_of_getElem? (i := 8) rfl))) (by decide) (backOf (W := 1) (rm2 l Z a0 hw [] p0 h0 n0 Z0 ) hZ (hw _ (List.mem_of_getElem? (i := 8) rfl)) (hw _ (List.mem_of_getElem? (i := 7) rfl)) (by decide) (by decide)) (g := (mkF m 28 #[.val (.int p0), .val (.int p1), .val (.int (p1 &&& (63 : Int32))), .val (.int ((1632 : Int32) + (p1 &&& (15 : Int32)))), .val (.int ((65296 : Int32) + (p1 &&& (15 : Int32)))), .unset, .unset, .unset, .unset] [(.int p0), (.int (t1_0 p0))])) rfl (by rw [hml]; rfl) (argsL := [(.int p0)]) (rest := [(.int (t1_0 p0))]) (lenOf pd_0 rfl) rfl (by show 2 * 0 + _ ≤ _; exact Nat.le_of_eq rfl) (hb hby at_28) (fun _ _ => ⟨rfl, e1, (by decide : 0 + 0 ≤ _), (by decide : 0 + 0 ≤ _)⟩)
  dsimp only [Pt.U, Pt.locs, Pt.cells, Pt.slots] at X7 l7 y7 z7 st7 hQ7
  subst l7 y7 z7
  obtain ⟨rfl, Nq7, e7⟩ := hQ7
  have N7 := Fr.app N1 Nq7
  refine OGl.go st7 ?_
  show OGl _ _ _ _ T7 (mkF m 31 #[.val (.int p0), .val (.int p1), .val (.int (p1 &&& (63 : Int32))), .val (.int ((1632 : Int32) + (p1 &&& (15 : Int32)))), .val (.int ((65296 : Int32) + (p1 &&& (15 : Int32)))), .unset, .unset, .unset, .unset] [(.int (t2_0 p0)), (.int (t1_0 p0))])
  have m29 : ∀ t, Steps p.tables e below (T7.setTop (mkF m 39 #[.val (.int p0), .val (.int p1), .val (.int (p1 &&& (63 : Int32))), .val (.int ((1632 : Int32) + (p1 &&& (15 : Int32)))), .val (.int ((65296 : Int32) + (p1 &&& (15 : Int32)))), .unset, .unset, .unset, .unset] [(.int (if (t1_0 p0) = (t2_0 p0) then (1 : Int32) else (0 : Int32)))])) t → Steps p.tables e below (T7.setTop (mkF m 31 #[.val (.int p0), .val (.int p1), .val (.int (p1 &&& (63 : Int32))), .val (.int ((1632 : Int32) + (p1 &&& (15 : Int32)))), .val (.int ((65296 : Int32) + (p1 &&& (15 : Int32)))), .unset, .unset, .unset, .unset] [(.int (t2_0 p0)), (.int (t1_0 p0))])) t := by
    intro t k
    by_cases hm29 : (t1_0 p0) = (t2_0 p0)
    · rw [show (if (t1_0 p0) = (t2_0 p0) then (1 : Int32) else (0 : Int32)) = (1 : Int32) from if_pos hm29] at k
      refine XS.icmpNo X7.here hx rfl (hb hby at_31) rfl (teq hm29).2 (XS.iconst X7.here hx rfl (hb hby at_34) (XS.goto X7.here hx rfl (pc0 := 35) (pc' := 39) rfl (hb hby at_35) (by decide) (by decide) ?_))
      show Steps _ _ _ (T7.setTop (mkF m 39 #[.val (.int p0), .val (.int p1), .val (.int (p1 &&& (63 : Int32))), .val (.int ((1632 : Int32) + (p1 &&& (15 : Int32)))), .val (.int ((65296 : Int32) + (p1 &&& (15 : Int32)))), .unset, .unset, .unset, .unset] [(.int (1 : Int32))])) _
      exact k
    · rw [show (if (t1_0 p0) = (t2_0 p0) then (1 : Int32) else (0 : Int32)) = (0 : Int32) from if_neg hm29] at k
      refine XS.icmpYes X7.here hx rfl (pc0 := 31) (pc' := 38) rfl (hb hby at_31) rfl (feq hm29).2 (by decide) (by decide) (XS.iconst X7.here hx rfl (hb hby at_38) ?_)
      show Steps _ _ _ (T7.setTop (mkF m 39 #[.val (.int p0), .val (.int p1), .val (.int (p1 &&& (63 : Int32))), .val (.int ((1632 : Int32) + (p1 &&& (15 : Int32)))), .val (.int ((65296 : Int32) + (p1 &&& (15 : Int32)))), .unset, .unset, .unset, .unset] [(.int (0 : Int32))])) _
      exact k
  refine OGl.go (fun t k => m29 _ (XS.istore X7.here hx rfl (hb hby at_39) rfl (l' := #[.val (.int p0), .val (.int p1), .val (.int (p1 &&& (63 : Int32))), .val (.int ((1632 : Int32) + (p1 &&& (15 : Int32)))), .val (.int ((65296 : Int32) + (p1 &&& (15 : Int32)))), .val (.int (if (t1_0 p0) = (t2_0 p0) then (1 : Int32) else (0 : Int32))), .unset, .unset, .unset]) rfl (XS.iloadN X7.here hx rfl (hb hby at_41) rfl k))) ?_
  show OGl _ _ _ _ T7 (mkF m 42 #[.val (.int p0), .val (.int p1), .val (.int (p1 &&& (63 : Int32))), .val (.int ((1632 : Int32) + (p1 &&& (15 : Int32)))), .val (.int ((65296 : Int32) + (p1 &&& (15 : Int32)))), .val (.int (if (t1_0 p0) = (t2_0 p0) then (1 : Int32) else (0 : Int32))), .unset, .unset, .unset] [(.int (p1 &&& (63 : Int32)))])
  obtain ⟨_, _, ⟨T30, L30, kk30, n30⟩, -, X30, ⟨Lc30, hQ30, l30, y30, z30⟩, st30⟩ := Jvm.LawKit.callS X7 hx (y := (⟨"com/example/gramsmith/gramsmith/grammar/GrammarLexer", "isDigit", "(I)Z"⟩ : MethodName)) hown (mvT hZ (hw _ (List.mem_of_getElem? (i := 1) rfl))) (mvT hZ (hw _ (List.mem_of_getElem? (i := 2) rfl))) (mvT hZ (hw _ (List.mem_of_getElem? (i := 3) rfl))) (mvT hZ (hw _ (List.mem_of_getElem? (i := 4) rfl))) (by decide) (backOf (W := 0) (rm1 l Z a0 hw [] (p1 &&& (63 : Int32)) h0 n0 Z0 ) hZ (hw _ (List.mem_of_getElem? (i := 4) rfl)) (hw _ (List.mem_of_getElem? (i := 3) rfl)) (by decide) (by decide)) (g := (mkF m 42 #[.val (.int p0), .val (.int p1), .val (.int (p1 &&& (63 : Int32))), .val (.int ((1632 : Int32) + (p1 &&& (15 : Int32)))), .val (.int ((65296 : Int32) + (p1 &&& (15 : Int32)))), .val (.int (if (t1_0 p0) = (t2_0 p0) then (1 : Int32) else (0 : Int32))), .unset, .unset, .unset] [(.int (p1 &&& (63 : Int32)))])) rfl (by rw [hml]; rfl) (argsL := [(.int (p1 &&& (63 : Int32)))]) (rest := []) (lenOf pd_0 rfl) rfl (by show 2 * 0 + _ ≤ _; exact Nat.le_of_eq rfl) (hb hby at_42) (fun _ _ => ⟨rfl, e7, (by decide : 0 + 0 ≤ _), (by decide : 0 + 0 ≤ _)⟩)
  dsimp only [Pt.U, Pt.locs, Pt.cells, Pt.slots] at X30 l30 y30 z30 st30 hQ30
  subst l30 y30 z30
  obtain ⟨rfl, Nq30, e30⟩ := hQ30
  have N30 := Fr.app N7 Nq30
  refine OGl.go st30 ?_
  show OGl _ _ _ _ T30 (mkF m 45 #[.val (.int p0), .val (.int p1), .val (.int (p1 &&& (63 : Int32))), .val (.int ((1632 : Int32) + (p1 &&& (15 : Int32)))), .val (.int ((65296 : Int32) + (p1 &&& (15 : Int32)))), .val (.int (if (t1_0 p0) = (t2_0 p0) then (1 : Int32) else (0 : Int32))), .unset, .unset, .unset] [(.int (t1_0 (p1 &&& (63 : Int32))))])
  refine OGl.go (fun t k => XS.iloadN X30.here hx rfl (hb hby at_45) rfl k) ?_
  show OGl _ _ _ _ T30 (mkF m 46 #[.val (.int p0), .val (.int p1), .val (.int (p1 &&& (63 : Int32))), .val (.int ((1632 : Int32) + (p1 &&& (15 : Int32)))), .val (.int ((65296 : Int32) + (p1 &&& (15 : Int32)))), .val (.int (if (t1_0 p0) = (t2_0 p0) then (1 : Int32) else (0 : Int32))), .unset, .unset, .unset] [(.int (p1 &&& (63 : Int32))), (.int (t1_0 (p1 &&& (63 : Int32))))])
  obtain ⟨_, _, ⟨T31, L31, kk31, n31⟩, -, X31, ⟨Lc31, hQ31, l31, y31, z31⟩, st31⟩ := Jvm.LawKit.callS X30 hx (y := (⟨"com/example/gramsmith/gramsmith/grammar/GrammarLexerIsDigitPinLaw", "oneOfTen", "(I)Z"⟩ : MethodName)) hown (mvT hZ (hw _ (List.mem_of_getElem? (i := 5) rfl))) (mvT hZ (hw _ (List.mem_of_getElem? (i := 6) rfl))) (mvT hZ (hw _ (List.mem_of_getElem? (i := 7) rfl))) (mvT hZ (hw _ (List.mem_of_getElem? (i := 8) rfl))) (by decide) (backOf (W := 1) (rm2 l Z a0 hw [] (p1 &&& (63 : Int32)) h0 n0 Z0 ) hZ (hw _ (List.mem_of_getElem? (i := 8) rfl)) (hw _ (List.mem_of_getElem? (i := 7) rfl)) (by decide) (by decide)) (g := (mkF m 46 #[.val (.int p0), .val (.int p1), .val (.int (p1 &&& (63 : Int32))), .val (.int ((1632 : Int32) + (p1 &&& (15 : Int32)))), .val (.int ((65296 : Int32) + (p1 &&& (15 : Int32)))), .val (.int (if (t1_0 p0) = (t2_0 p0) then (1 : Int32) else (0 : Int32))), .unset, .unset, .unset] [(.int (p1 &&& (63 : Int32))), (.int (t1_0 (p1 &&& (63 : Int32))))])) rfl (by rw [hml]; rfl) (argsL := [(.int (p1 &&& (63 : Int32)))]) (rest := [(.int (t1_0 (p1 &&& (63 : Int32))))]) (lenOf pd_0 rfl) rfl (by show 2 * 0 + _ ≤ _; exact Nat.le_of_eq rfl) (hb hby at_46) (fun _ _ => ⟨rfl, e30, (by decide : 0 + 0 ≤ _), (by decide : 0 + 0 ≤ _)⟩)
  dsimp only [Pt.U, Pt.locs, Pt.cells, Pt.slots] at X31 l31 y31 z31 st31 hQ31
  subst l31 y31 z31
  obtain ⟨rfl, Nq31, e31⟩ := hQ31
  have N31 := Fr.app N30 Nq31
  refine OGl.go st31 ?_
  show OGl _ _ _ _ T31 (mkF m 49 #[.val (.int p0), .val (.int p1), .val (.int (p1 &&& (63 : Int32))), .val (.int ((1632 : Int32) + (p1 &&& (15 : Int32)))), .val (.int ((65296 : Int32) + (p1 &&& (15 : Int32)))), .val (.int (if (t1_0 p0) = (t2_0 p0) then (1 : Int32) else (0 : Int32))), .unset, .unset, .unset] [(.int (t2_0 (p1 &&& (63 : Int32)))), (.int (t1_0 (p1 &&& (63 : Int32))))])
  have m32 : ∀ t, Steps p.tables e below (T31.setTop (mkF m 57 #[.val (.int p0), .val (.int p1), .val (.int (p1 &&& (63 : Int32))), .val (.int ((1632 : Int32) + (p1 &&& (15 : Int32)))), .val (.int ((65296 : Int32) + (p1 &&& (15 : Int32)))), .val (.int (if (t1_0 p0) = (t2_0 p0) then (1 : Int32) else (0 : Int32))), .unset, .unset, .unset] [(.int (e0_0 p1))])) t → Steps p.tables e below (T31.setTop (mkF m 49 #[.val (.int p0), .val (.int p1), .val (.int (p1 &&& (63 : Int32))), .val (.int ((1632 : Int32) + (p1 &&& (15 : Int32)))), .val (.int ((65296 : Int32) + (p1 &&& (15 : Int32)))), .val (.int (if (t1_0 p0) = (t2_0 p0) then (1 : Int32) else (0 : Int32))), .unset, .unset, .unset] [(.int (t2_0 (p1 &&& (63 : Int32)))), (.int (t1_0 (p1 &&& (63 : Int32))))])) t := by
    intro t k
    by_cases hm32 : (t1_0 (p1 &&& (63 : Int32))) = (t2_0 (p1 &&& (63 : Int32)))
    · rw [show (e0_0 p1) = (1 : Int32) from if_pos hm32] at k
      refine XS.icmpNo X31.here hx rfl (hb hby at_49) rfl (teq hm32).2 (XS.iconst X31.here hx rfl (hb hby at_52) (XS.goto X31.here hx rfl (pc0 := 53) (pc' := 57) rfl (hb hby at_53) (by decide) (by decide) ?_))
      show Steps _ _ _ (T31.setTop (mkF m 57 #[.val (.int p0), .val (.int p1), .val (.int (p1 &&& (63 : Int32))), .val (.int ((1632 : Int32) + (p1 &&& (15 : Int32)))), .val (.int ((65296 : Int32) + (p1 &&& (15 : Int32)))), .val (.int (if (t1_0 p0) = (t2_0 p0) then (1 : Int32) else (0 : Int32))), .unset, .unset, .unset] [(.int (1 : Int32))])) _
      exact k
    · rw [show (e0_0 p1) = (0 : Int32) from if_neg hm32] at k
      refine XS.icmpYes X31.here hx rfl (pc0 := 49) (pc' := 56) rfl (hb hby at_49) rfl (feq hm32).2 (by decide) (by decide) (XS.iconst X31.here hx rfl (hb hby at_56) ?_)
      show Steps _ _ _ (T31.setTop (mkF m 57 #[.val (.int p0), .val (.int p1), .val (.int (p1 &&& (63 : Int32))), .val (.int ((1632 : Int32) + (p1 &&& (15 : Int32)))), .val (.int ((65296 : Int32) + (p1 &&& (15 : Int32)))), .val (.int (if (t1_0 p0) = (t2_0 p0) then (1 : Int32) else (0 : Int32))), .unset, .unset, .unset] [(.int (0 : Int32))])) _
      exact k
  refine OGl.go (fun t k => m32 _ (XS.istore X31.here hx rfl (hb hby at_57) rfl (l' := #[.val (.int p0), .val (.int p1), .val (.int (p1 &&& (63 : Int32))), .val (.int ((1632 : Int32) + (p1 &&& (15 : Int32)))), .val (.int ((65296 : Int32) + (p1 &&& (15 : Int32)))), .val (.int (if (t1_0 p0) = (t2_0 p0) then (1 : Int32) else (0 : Int32))), .val (.int (e0_0 p1)), .unset, .unset]) rfl (XS.iloadN X31.here hx rfl (hb hby at_59) rfl k))) ?_
  show OGl _ _ _ _ T31 (mkF m 60 #[.val (.int p0), .val (.int p1), .val (.int (p1 &&& (63 : Int32))), .val (.int ((1632 : Int32) + (p1 &&& (15 : Int32)))), .val (.int ((65296 : Int32) + (p1 &&& (15 : Int32)))), .val (.int (if (t1_0 p0) = (t2_0 p0) then (1 : Int32) else (0 : Int32))), .val (.int (e0_0 p1)), .unset, .unset] [(.int ((1632 : Int32) + (p1 &&& (15 : Int32))))])
  obtain ⟨_, _, ⟨T33, L33, kk33, n33⟩, -, X33, ⟨Lc33, hQ33, l33, y33, z33⟩, st33⟩ := Jvm.LawKit.callS X31 hx (y := (⟨"com/example/gramsmith/gramsmith/grammar/GrammarLexer", "isDigit", "(I)Z"⟩ : MethodName)) hown (mvT hZ (hw _ (List.mem_of_getElem? (i := 1) rfl))) (mvT hZ (hw _ (List.mem_of_getElem? (i := 2) rfl))) (mvT hZ (hw _ (List.mem_of_getElem? (i := 3) rfl))) (mvT hZ (hw _ (List.mem_of_getElem? (i := 4) rfl))) (by decide) (backOf (W := 0) (rm1 l Z a0 hw [] ((1632 : Int32) + (p1 &&& (15 : Int32))) h0 n0 Z0 ) hZ (hw _ (List.mem_of_getElem? (i := 4) rfl)) (hw _ (List.mem_of_getElem? (i := 3) rfl)) (by decide) (by decide)) (g := (mkF m 60 #[.val (.int p0), .val (.int p1), .val (.int (p1 &&& (63 : Int32))), .val (.int ((1632 : Int32) + (p1 &&& (15 : Int32)))), .val (.int ((65296 : Int32) + (p1 &&& (15 : Int32)))), .val (.int (if (t1_0 p0) = (t2_0 p0) then (1 : Int32) else (0 : Int32))), .val (.int (e0_0 p1)), .unset, .unset] [(.int ((1632 : Int32) + (p1 &&& (15 : Int32))))])) rfl (by rw [hml]; rfl) (argsL := [(.int ((1632 : Int32) + (p1 &&& (15 : Int32))))]) (rest := []) (lenOf pd_0 rfl) rfl (by show 2 * 0 + _ ≤ _; exact Nat.le_of_eq rfl) (hb hby at_60) (fun _ _ => ⟨rfl, e31, (by decide : 0 + 0 ≤ _), (by decide : 0 + 0 ≤ _)⟩)
  dsimp only [Pt.U, Pt.locs, Pt.cells, Pt.slots] at X33 l33 y33 z33 st33 hQ33
  subst l33 y33 z33
  obtain ⟨rfl, Nq33, e33⟩ := hQ33
  have N33 := Fr.app N31 Nq33
  refine OGl.go st33 ?_
  show OGl _ _ _ _ T33 (mkF m 63 #[.val (.int p0), .val (.int p1), .val (.int (p1 &&& (63 : Int32))), .val (.int ((1632 : Int32) + (p1 &&& (15 : Int32)))), .val (.int ((65296 : Int32) + (p1 &&& (15 : Int32)))), .val (.int (if (t1_0 p0) = (t2_0 p0) then (1 : Int32) else (0 : Int32))), .val (.int (e0_0 p1)), .unset, .unset] [(.int (t1_0 ((1632 : Int32) + (p1 &&& (15 : Int32)))))])
  have m34 : ∀ t, Steps p.tables e below (T33.setTop (mkF m 71 #[.val (.int p0), .val (.int p1), .val (.int (p1 &&& (63 : Int32))), .val (.int ((1632 : Int32) + (p1 &&& (15 : Int32)))), .val (.int ((65296 : Int32) + (p1 &&& (15 : Int32)))), .val (.int (if (t1_0 p0) = (t2_0 p0) then (1 : Int32) else (0 : Int32))), .val (.int (e0_0 p1)), .unset, .unset] [(.int (e0_1 p1))])) t → Steps p.tables e below (T33.setTop (mkF m 63 #[.val (.int p0), .val (.int p1), .val (.int (p1 &&& (63 : Int32))), .val (.int ((1632 : Int32) + (p1 &&& (15 : Int32)))), .val (.int ((65296 : Int32) + (p1 &&& (15 : Int32)))), .val (.int (if (t1_0 p0) = (t2_0 p0) then (1 : Int32) else (0 : Int32))), .val (.int (e0_0 p1)), .unset, .unset] [(.int (t1_0 ((1632 : Int32) + (p1 &&& (15 : Int32)))))])) t := by
    intro t k
    by_cases hm34 : (t1_0 ((1632 : Int32) + (p1 &&& (15 : Int32)))) = (0 : Int32)
    · rw [show (e0_1 p1) = (1 : Int32) from if_pos hm34] at k
      refine XS.ifNo X33.here hx rfl (hb hby at_63) rfl ((if0 _ _).trans (teq hm34).2) (XS.iconst X33.here hx rfl (hb hby at_66) (XS.goto X33.here hx rfl (pc0 := 67) (pc' := 71) rfl (hb hby at_67) (by decide) (by decide) ?_))
      show Steps _ _ _ (T33.setTop (mkF m 71 #[.val (.int p0), .val (.int p1), .val (.int (p1 &&& (63 : Int32))), .val (.int ((1632 : Int32) + (p1 &&& (15 : Int32)))), .val (.int ((65296 : Int32) + (p1 &&& (15 : Int32)))), .val (.int (if (t1_0 p0) = (t2_0 p0) then (1 : Int32) else (0 : Int32))), .val (.int (e0_0 p1)), .unset, .unset] [(.int (1 : Int32))])) _
      exact k
    · rw [show (e0_1 p1) = (0 : Int32) from if_neg hm34] at k
      refine XS.ifYes X33.here hx rfl (pc0 := 63) (pc' := 70) rfl (hb hby at_63) rfl ((if0 _ _).trans (feq hm34).2) (by decide) (by decide) (XS.iconst X33.here hx rfl (hb hby at_70) ?_)
      show Steps _ _ _ (T33.setTop (mkF m 71 #[.val (.int p0), .val (.int p1), .val (.int (p1 &&& (63 : Int32))), .val (.int ((1632 : Int32) + (p1 &&& (15 : Int32)))), .val (.int ((65296 : Int32) + (p1 &&& (15 : Int32)))), .val (.int (if (t1_0 p0) = (t2_0 p0) then (1 : Int32) else (0 : Int32))), .val (.int (e0_0 p1)), .unset, .unset] [(.int (0 : Int32))])) _
      exact k
  refine OGl.go (fun t k => m34 _ (XS.istore X33.here hx rfl (hb hby at_71) rfl (l' := #[.val (.int p0), .val (.int p1), .val (.int (p1 &&& (63 : Int32))), .val (.int ((1632 : Int32) + (p1 &&& (15 : Int32)))), .val (.int ((65296 : Int32) + (p1 &&& (15 : Int32)))), .val (.int (if (t1_0 p0) = (t2_0 p0) then (1 : Int32) else (0 : Int32))), .val (.int (e0_0 p1)), .val (.int (e0_1 p1)), .unset]) rfl (XS.iload X33.here hx rfl (hb hby at_73) rfl k))) ?_
  show OGl _ _ _ _ T33 (mkF m 75 #[.val (.int p0), .val (.int p1), .val (.int (p1 &&& (63 : Int32))), .val (.int ((1632 : Int32) + (p1 &&& (15 : Int32)))), .val (.int ((65296 : Int32) + (p1 &&& (15 : Int32)))), .val (.int (if (t1_0 p0) = (t2_0 p0) then (1 : Int32) else (0 : Int32))), .val (.int (e0_0 p1)), .val (.int (e0_1 p1)), .unset] [(.int ((65296 : Int32) + (p1 &&& (15 : Int32))))])
  obtain ⟨_, _, ⟨T35, L35, kk35, n35⟩, -, X35, ⟨Lc35, hQ35, l35, y35, z35⟩, st35⟩ := Jvm.LawKit.callS X33 hx (y := (⟨"com/example/gramsmith/gramsmith/grammar/GrammarLexer", "isDigit", "(I)Z"⟩ : MethodName)) hown (mvT hZ (hw _ (List.mem_of_getElem? (i := 1) rfl))) (mvT hZ (hw _ (List.mem_of_getElem? (i := 2) rfl))) (mvT hZ (hw _ (List.mem_of_getElem? (i := 3) rfl))) (mvT hZ (hw _ (List.mem_of_getElem? (i := 4) rfl))) (by decide) (backOf (W := 0) (rm1 l Z a0 hw [] ((65296 : Int32) + (p1 &&& (15 : Int32))) h0 n0 Z0 ) hZ (hw _ (List.mem_of_getElem? (i := 4) rfl)) (hw _ (List.mem_of_getElem? (i := 3) rfl)) (by decide) (by decide)) (g := (mkF m 75 #[.val (.int p0), .val (.int p1), .val (.int (p1 &&& (63 : Int32))), .val (.int ((1632 : Int32) + (p1 &&& (15 : Int32)))), .val (.int ((65296 : Int32) + (p1 &&& (15 : Int32)))), .val (.int (if (t1_0 p0) = (t2_0 p0) then (1 : Int32) else (0 : Int32))), .val (.int (e0_0 p1)), .val (.int (e0_1 p1)), .unset] [(.int ((65296 : Int32) + (p1 &&& (15 : Int32))))])) rfl (by rw [hml]; rfl) (argsL := [(.int ((65296 : Int32) + (p1 &&& (15 : Int32))))]) (rest := []) (lenOf pd_0 rfl) rfl (by show 2 * 0 + _ ≤ _; exact Nat.le_of_eq rfl) (hb hby at_75) (fun _ _ => ⟨rfl, e33, (by decide : 0 + 0 ≤ _), (by decide : 0 + 0 ≤ _)⟩)
  dsimp only [Pt.U, Pt.locs, Pt.cells, Pt.slots] at X35 l35 y35 z35 st35 hQ35
  subst l35 y35 z35
  obtain ⟨rfl, Nq35, e35⟩ := hQ35
  have N35 := Fr.app N33 Nq35
  refine OGl.go st35 ?_
  show OGl _ _ _ _ T35 (mkF m 78 #[.val (.int p0), .val (.int p1), .val (.int (p1 &&& (63 : Int32))), .val (.int ((1632 : Int32) + (p1 &&& (15 : Int32)))), .val (.int ((65296 : Int32) + (p1 &&& (15 : Int32)))), .val (.int (if (t1_0 p0) = (t2_0 p0) then (1 : Int32) else (0 : Int32))), .val (.int (e0_0 p1)), .val (.int (e0_1 p1)), .unset] [(.int (t1_0 ((65296 : Int32) + (p1 &&& (15 : Int32)))))])
  have m36 : ∀ t, Steps p.tables e below (T35.setTop (mkF m 86 #[.val (.int p0), .val (.int p1), .val (.int (p1 &&& (63 : Int32))), .val (.int ((1632 : Int32) + (p1 &&& (15 : Int32)))), .val (.int ((65296 : Int32) + (p1 &&& (15 : Int32)))), .val (.int (if (t1_0 p0) = (t2_0 p0) then (1 : Int32) else (0 : Int32))), .val (.int (e0_0 p1)), .val (.int (e0_1 p1)), .unset] [(.int (e0_2 p1))])) t → Steps p.tables e below (T35.setTop (mkF m 78 #[.val (.int p0), .val (.int p1), .val (.int (p1 &&& (63 : Int32))), .val (.int ((1632 : Int32) + (p1 &&& (15 : Int32)))), .val (.int ((65296 : Int32) + (p1 &&& (15 : Int32)))), .val (.int (if (t1_0 p0) = (t2_0 p0) then (1 : Int32) else (0 : Int32))), .val (.int (e0_0 p1)), .val (.int (e0_1 p1)), .unset] [(.int (t1_0 ((65296 : Int32) + (p1 &&& (15 : Int32)))))])) t := by
    intro t k
    by_cases hm36 : (t1_0 ((65296 : Int32) + (p1 &&& (15 : Int32)))) = (0 : Int32)
    · rw [show (e0_2 p1) = (1 : Int32) from if_pos hm36] at k
      refine XS.ifNo X35.here hx rfl (hb hby at_78) rfl ((if0 _ _).trans (teq hm36).2) (XS.iconst X35.here hx rfl (hb hby at_81) (XS.goto X35.here hx rfl (pc0 := 82) (pc' := 86) rfl (hb hby at_82) (by decide) (by decide) ?_))
      show Steps _ _ _ (T35.setTop (mkF m 86 #[.val (.int p0), .val (.int p1), .val (.int (p1 &&& (63 : Int32))), .val (.int ((1632 : Int32) + (p1 &&& (15 : Int32)))), .val (.int ((65296 : Int32) + (p1 &&& (15 : Int32)))), .val (.int (if (t1_0 p0) = (t2_0 p0) then (1 : Int32) else (0 : Int32))), .val (.int (e0_0 p1)), .val (.int (e0_1 p1)), .unset] [(.int (1 : Int32))])) _
      exact k
    · rw [show (e0_2 p1) = (0 : Int32) from if_neg hm36] at k
      refine XS.ifYes X35.here hx rfl (pc0 := 78) (pc' := 85) rfl (hb hby at_78) rfl ((if0 _ _).trans (feq hm36).2) (by decide) (by decide) (XS.iconst X35.here hx rfl (hb hby at_85) ?_)
      show Steps _ _ _ (T35.setTop (mkF m 86 #[.val (.int p0), .val (.int p1), .val (.int (p1 &&& (63 : Int32))), .val (.int ((1632 : Int32) + (p1 &&& (15 : Int32)))), .val (.int ((65296 : Int32) + (p1 &&& (15 : Int32)))), .val (.int (if (t1_0 p0) = (t2_0 p0) then (1 : Int32) else (0 : Int32))), .val (.int (e0_0 p1)), .val (.int (e0_1 p1)), .unset] [(.int (0 : Int32))])) _
      exact k
  refine OGl.go (fun t k => m36 _ (XS.istore X35.here hx rfl (hb hby at_86) rfl (l' := #[.val (.int p0), .val (.int p1), .val (.int (p1 &&& (63 : Int32))), .val (.int ((1632 : Int32) + (p1 &&& (15 : Int32)))), .val (.int ((65296 : Int32) + (p1 &&& (15 : Int32)))), .val (.int (if (t1_0 p0) = (t2_0 p0) then (1 : Int32) else (0 : Int32))), .val (.int (e0_0 p1)), .val (.int (e0_1 p1)), .val (.int (e0_2 p1))]) rfl (XS.iload X35.here hx rfl (hb hby at_88) rfl k))) ?_
  show OGl _ _ _ _ T35 (mkF m 90 #[.val (.int p0), .val (.int p1), .val (.int (p1 &&& (63 : Int32))), .val (.int ((1632 : Int32) + (p1 &&& (15 : Int32)))), .val (.int ((65296 : Int32) + (p1 &&& (15 : Int32)))), .val (.int (if (t1_0 p0) = (t2_0 p0) then (1 : Int32) else (0 : Int32))), .val (.int (e0_0 p1)), .val (.int (e0_1 p1)), .val (.int (e0_2 p1))] [(.int (if (t1_0 p0) = (t2_0 p0) then (1 : Int32) else (0 : Int32)))])
  by_cases hc37 : (if (t1_0 p0) = (t2_0 p0) then (1 : Int32) else (0 : Int32)) = (0 : Int32)
  · refine OGl.go (fun t k => XS.ifYes X35.here hx rfl (pc0 := 90) (pc' := 112) rfl (hb hby at_90) rfl ((if0 _ _).trans (teq hc37).1) (by decide) (by decide) (XS.iconst X35.here hx rfl (hb hby at_112) k)) ?_
    show OGl _ _ _ _ T35 (mkF m 113 #[.val (.int p0), .val (.int p1), .val (.int (p1 &&& (63 : Int32))), .val (.int ((1632 : Int32) + (p1 &&& (15 : Int32)))), .val (.int ((65296 : Int32) + (p1 &&& (15 : Int32)))), .val (.int (if (t1_0 p0) = (t2_0 p0) then (1 : Int32) else (0 : Int32))), .val (.int (e0_0 p1)), .val (.int (e0_1 p1)), .val (.int (e0_2 p1))] [(.int (0 : Int32))])
    obtain ⟨fs, hr, hrun, hended, hW, hsame⟩ := X35.leave (v := some (.int (0 : Int32))) (fun h => by rw [Bd.returns] at h; cases h)
    refine ⟨_, _, retN X35 hx (t := .boolean) Bd.returns (by simp) (hb hby at_113) hr, hrun, hended, _, _, rfl, ?_, ⟨_, rfl⟩, hW, hsame.mono (by decide) (by decide)⟩
    have hv41 : (t0_0 p0 p1) = (0 : Int32) := by unfold t0_0; rw [if_pos hc37]
    show Q0 Z p0 p1 h0 n0 _ T35.heap _
    rw [e35]
    exact ⟨(by rw [hv41]), N35⟩
  · refine OGl.go (fun t k => XS.ifNo X35.here hx rfl (hb hby at_90) rfl ((if0 _ _).trans (feq hc37).1) (XS.iload X35.here hx rfl (hb hby at_93) rfl k)) ?_
    show OGl _ _ _ _ T35 (mkF m 95 #[.val (.int p0), .val (.int p1), .val (.int (p1 &&& (63 : Int32))), .val (.int ((1632 : Int32) + (p1 &&& (15 : Int32)))), .val (.int ((65296 : Int32) + (p1 &&& (15 : Int32)))), .val (.int (if (t1_0 p0) = (t2_0 p0) then (1 : Int32) else (0 : Int32))), .val (.int (e0_0 p1)), .val (.int (e0_1 p1)), .val (.int (e0_2 p1))] [(.int (e0_0 p1))])
    by_cases hc38 : (e0_0 p1) = (0 : Int32)
    · refine OGl.go (fun t k => XS.ifYes X35.here hx rfl (pc0 := 95) (pc' := 112) rfl (hb hby at_95) rfl ((if0 _ _).trans (teq hc38).1) (by decide) (by decide) (XS.iconst X35.here hx rfl (hb hby at_112) k)) ?_
      show OGl _ _ _ _ T35 (mkF m 113 #[.val (.int p0), .val (.int p1), .val (.int (p1 &&& (63 : Int32))), .val (.int ((1632 : Int32) + (p1 &&& (15 : Int32)))), .val (.int ((65296 : Int32) + (p1 &&& (15 : Int32)))), .val (.int (if (t1_0 p0) = (t2_0 p0) then (1 : Int32) else (0 : Int32))), .val (.int (e0_0 p1)), .val (.int (e0_1 p1)), .val (.int (e0_2 p1))] [(.int (0 : Int32))])
      obtain ⟨fs, hr, hrun, hended, hW, hsame⟩ := X35.leave (v := some (.int (0 : Int32))) (fun h => by rw [Bd.returns] at h; cases h)
      refine ⟨_, _, retN X35 hx (t := .boolean) Bd.returns (by simp) (hb hby at_113) hr, hrun, hended, _, _, rfl, ?_, ⟨_, rfl⟩, hW, hsame.mono (by decide) (by decide)⟩
      have hv42 : (t0_0 p0 p1) = (0 : Int32) := by unfold t0_0; rw [if_neg hc37, if_pos hc38]
      show Q0 Z p0 p1 h0 n0 _ T35.heap _
      rw [e35]
      exact ⟨(by rw [hv42]), N35⟩
    · refine OGl.go (fun t k => XS.ifNo X35.here hx rfl (hb hby at_95) rfl ((if0 _ _).trans (feq hc38).1) (XS.iload X35.here hx rfl (hb hby at_98) rfl k)) ?_
      show OGl _ _ _ _ T35 (mkF m 100 #[.val (.int p0), .val (.int p1), .val (.int (p1 &&& (63 : Int32))), .val (.int ((1632 : Int32) + (p1 &&& (15 : Int32)))), .val (.int ((65296 : Int32) + (p1 &&& (15 : Int32)))), .val (.int (if (t1_0 p0) = (t2_0 p0) then (1 : Int32) else (0 : Int32))), .val (.int (e0_0 p1)), .val (.int (e0_1 p1)), .val (.int (e0_2 p1))] [(.int (e0_1 p1))])
      by_cases hc39 : (e0_1 p1) = (0 : Int32)
      · refine OGl.go (fun t k => XS.ifYes X35.here hx rfl (pc0 := 100) (pc' := 112) rfl (hb hby at_100) rfl ((if0 _ _).trans (teq hc39).1) (by decide) (by decide) (XS.iconst X35.here hx rfl (hb hby at_112) k)) ?_
        show OGl _ _ _ _ T35 (mkF m 113 #[.val (.int p0), .val (.int p1), .val (.int (p1 &&& (63 : Int32))), .val (.int ((1632 : Int32) + (p1 &&& (15 : Int32)))), .val (.int ((65296 : Int32) + (p1 &&& (15 : Int32)))), .val (.int (if (t1_0 p0) = (t2_0 p0) then (1 : Int32) else (0 : Int32))), .val (.int (e0_0 p1)), .val (.int (e0_1 p1)), .val (.int (e0_2 p1))] [(.int (0 : Int32))])
        obtain ⟨fs, hr, hrun, hended, hW, hsame⟩ := X35.leave (v := some (.int (0 : Int32))) (fun h => by rw [Bd.returns] at h; cases h)
        refine ⟨_, _, retN X35 hx (t := .boolean) Bd.returns (by simp) (hb hby at_113) hr, hrun, hended, _, _, rfl, ?_, ⟨_, rfl⟩, hW, hsame.mono (by decide) (by decide)⟩
        have hv43 : (t0_0 p0 p1) = (0 : Int32) := by unfold t0_0; rw [if_neg hc37, if_neg hc38, if_pos hc39]
        show Q0 Z p0 p1 h0 n0 _ T35.heap _
        rw [e35]
        exact ⟨(by rw [hv43]), N35⟩
      · refine OGl.go (fun t k => XS.ifNo X35.here hx rfl (hb hby at_100) rfl ((if0 _ _).trans (feq hc39).1) (XS.iload X35.here hx rfl (hb hby at_103) rfl k)) ?_
        show OGl _ _ _ _ T35 (mkF m 105 #[.val (.int p0), .val (.int p1), .val (.int (p1 &&& (63 : Int32))), .val (.int ((1632 : Int32) + (p1 &&& (15 : Int32)))), .val (.int ((65296 : Int32) + (p1 &&& (15 : Int32)))), .val (.int (if (t1_0 p0) = (t2_0 p0) then (1 : Int32) else (0 : Int32))), .val (.int (e0_0 p1)), .val (.int (e0_1 p1)), .val (.int (e0_2 p1))] [(.int (e0_2 p1))])
        by_cases hc40 : (e0_2 p1) = (0 : Int32)
        · refine OGl.go (fun t k => XS.ifYes X35.here hx rfl (pc0 := 105) (pc' := 112) rfl (hb hby at_105) rfl ((if0 _ _).trans (teq hc40).1) (by decide) (by decide) (XS.iconst X35.here hx rfl (hb hby at_112) k)) ?_
          show OGl _ _ _ _ T35 (mkF m 113 #[.val (.int p0), .val (.int p1), .val (.int (p1 &&& (63 : Int32))), .val (.int ((1632 : Int32) + (p1 &&& (15 : Int32)))), .val (.int ((65296 : Int32) + (p1 &&& (15 : Int32)))), .val (.int (if (t1_0 p0) = (t2_0 p0) then (1 : Int32) else (0 : Int32))), .val (.int (e0_0 p1)), .val (.int (e0_1 p1)), .val (.int (e0_2 p1))] [(.int (0 : Int32))])
          obtain ⟨fs, hr, hrun, hended, hW, hsame⟩ := X35.leave (v := some (.int (0 : Int32))) (fun h => by rw [Bd.returns] at h; cases h)
          refine ⟨_, _, retN X35 hx (t := .boolean) Bd.returns (by simp) (hb hby at_113) hr, hrun, hended, _, _, rfl, ?_, ⟨_, rfl⟩, hW, hsame.mono (by decide) (by decide)⟩
          have hv44 : (t0_0 p0 p1) = (0 : Int32) := by unfold t0_0; rw [if_neg hc37, if_neg hc38, if_neg hc39, if_pos hc40]
          show Q0 Z p0 p1 h0 n0 _ T35.heap _
          rw [e35]
          exact ⟨(by rw [hv44]), N35⟩
        · refine OGl.go (fun t k => XS.ifNo X35.here hx rfl (hb hby at_105) rfl ((if0 _ _).trans (feq hc40).1) (XS.iconst X35.here hx rfl (hb hby at_108) (XS.goto X35.here hx rfl (pc0 := 109) (pc' := 113) rfl (hb hby at_109) (by decide) (by decide) k))) ?_
          show OGl _ _ _ _ T35 (mkF m 113 #[.val (.int p0), .val (.int p1), .val (.int (p1 &&& (63 : Int32))), .val (.int ((1632 : Int32) + (p1 &&& (15 : Int32)))), .val (.int ((65296 : Int32) + (p1 &&& (15 : Int32)))), .val (.int (if (t1_0 p0) = (t2_0 p0) then (1 : Int32) else (0 : Int32))), .val (.int (e0_0 p1)), .val (.int (e0_1 p1)), .val (.int (e0_2 p1))] [(.int (1 : Int32))])
          obtain ⟨fs, hr, hrun, hended, hW, hsame⟩ := X35.leave (v := some (.int (1 : Int32))) (fun h => by rw [Bd.returns] at h; cases h)
          refine ⟨_, _, retN X35 hx (t := .boolean) Bd.returns (by simp) (hb hby at_113) hr, hrun, hended, _, _, rfl, ?_, ⟨_, rfl⟩, hW, hsame.mono (by decide) (by decide)⟩
          have hv45 : (t0_0 p0 p1) = (1 : Int32) := by unfold t0_0; rw [if_neg hc37, if_neg hc38, if_neg hc39, if_neg hc40]
          show Q0 Z p0 p1 h0 n0 _ T35.heap _
          rw [e35]
          exact ⟨(by rw [hv45]), N35⟩
theorem own_ne {x k : Int32} (h : x.toInt ≠ k.toInt) : ¬ x = k := fun e => h (by rw [e])
theorem own_eq {x k : Int32} (h : x.toInt = k.toInt) : x = k := Int32.toInt_inj.mp h
theorem own_dig (x : Int32) : t1_0 x = t2_0 x := by
  have k8 : (48 : Int32).toInt = 48 := by decide
  have k57 : (57 : Int32).toInt = 57 := by decide
  by_cases h1 : x < 48
  · have hn : ∀ k : Int32, (48 : Int32) ≤ k → ¬ x = k := fun k hk e => by subst e; exact absurd h1 (Int32.not_lt.mpr hk)
    unfold t1_0 t2_0
    rw [if_pos h1, if_neg (hn 48 (by decide)), if_neg (hn 49 (by decide)), if_neg (hn 50 (by decide)), if_neg (hn 51 (by decide)), if_neg (hn 52 (by decide)), if_neg (hn 53 (by decide)), if_neg (hn 54 (by decide)), if_neg (hn 55 (by decide)), if_neg (hn 56 (by decide)), if_neg (hn 57 (by decide))]
  · by_cases h2 : 57 < x
    · have hn : ∀ k : Int32, k ≤ (57 : Int32) → ¬ x = k := fun k hk e => by subst e; exact absurd h2 (Int32.not_lt.mpr hk)
      unfold t1_0 t2_0
      rw [if_neg h1, if_pos h2, if_neg (hn 48 (by decide)), if_neg (hn 49 (by decide)), if_neg (hn 50 (by decide)), if_neg (hn 51 (by decide)), if_neg (hn 52 (by decide)), if_neg (hn 53 (by decide)), if_neg (hn 54 (by decide)), if_neg (hn 55 (by decide)), if_neg (hn 56 (by decide)), if_neg (hn 57 (by decide))]
    · rw [Int32.lt_iff_toInt_lt] at h1 h2
      have h3 : x.toInt = 48 ∨ x.toInt = 49 ∨ x.toInt = 50 ∨ x.toInt = 51 ∨ x.toInt = 52 ∨ x.toInt = 53 ∨ x.toInt = 54 ∨ x.toInt = 55 ∨ x.toInt = 56 ∨ x.toInt = 57 := by omega
      rcases h3 with h | h | h | h | h | h | h | h | h | h
      · obtain rfl : x = 48 := own_eq (h.trans (by decide)); decide
      · obtain rfl : x = 49 := own_eq (h.trans (by decide)); decide
      · obtain rfl : x = 50 := own_eq (h.trans (by decide)); decide
      · obtain rfl : x = 51 := own_eq (h.trans (by decide)); decide
      · obtain rfl : x = 52 := own_eq (h.trans (by decide)); decide
      · obtain rfl : x = 53 := own_eq (h.trans (by decide)); decide
      · obtain rfl : x = 54 := own_eq (h.trans (by decide)); decide
      · obtain rfl : x = 55 := own_eq (h.trans (by decide)); decide
      · obtain rfl : x = 56 := own_eq (h.trans (by decide)); decide
      · obtain rfl : x = 57 := own_eq (h.trans (by decide)); decide
theorem own_far (x : Int32) (h : 57 < x.toInt) : t1_0 x = 0 := by
  have k57 : (57 : Int32).toInt = 57 := by decide
  have k48 : (48 : Int32).toInt = 48 := by decide
  have h1 : ¬ x < 48 := by rw [Int32.lt_iff_toInt_lt]; omega
  have h2 : 57 < x := by rw [Int32.lt_iff_toInt_lt]; omega
  unfold t1_0
  rw [if_neg h1, if_pos h2]
theorem own_sum (k b : Int32) (n : Int) (hk : k.toInt = n) (h0 : 57 < n) (h1 : n < 100000) : 57 < (k + (b &&& 15)).toInt := by
  have h := c_mask b 15 4 (by decide) (by decide)
  have h2 := c_iadd k (b &&& 15)
  have h3 := rng32 (k + (b &&& 15))
  omega
theorem own_law (a b : Int32) : t0_0 a b = 1 := by
  have h0 : (if (t1_0 a) = (t2_0 a) then (1 : Int32) else (0 : Int32)) = 1 := if_pos (own_dig _)
  have h1 : e0_0 b = 1 := if_pos (own_dig _)
  have h2 : e0_1 b = 1 := if_pos (own_far _ (own_sum _ _ 1632 (by decide) (by decide) (by decide)))
  have h3 : e0_2 b = 1 := if_pos (own_far _ (own_sum _ _ 65296 (by decide) (by decide) (by decide)))
  unfold t0_0
  rw [h0, h1, h2, h3]
  decide
set_option maxRecDepth 65536 in
set_option maxHeartbeats 40000000 in
theorem comes_1 {Post : Tables → Env → Array Value → State → Outcome → State → Prop} (hpost : ∀ tb e args s v u, (limb_1_1.after args s (.returned v) u = true ∧ limb_1_2.after args s (.returned v) u = true ∧ True) → FrameEnd s (.returned v) u (Jvm.fieldLocs frame_1_writes args s ++ Jvm.arrayLocs frame_1_arrays args s ++ Jvm.staticLocs frame_1_statics s) 0 0 → Post tb e args s (.returned v) u) :
    ArmFor flags0 classFile x code maxLocals ret World_1 tables_1 room_1 Calls_1 rest_1 Pre_1 Post := by
  intro l hfl _ _ p e ha hc hk s m args below hf hA hF happ hP
  obtain ⟨hcalls, hrest, hpre⟩ := hP
  obtain ⟨-, -, -, hnamed, -, -, -, hat⟩ := (Spec.applies_iff hf).mp happ
  obtain ⟨hg, hn⟩ := and_e (Cond.before_iff.mp (show (Jvm.Cond.and given_1 narrow_1).before args s = true from hpre))
  obtain ⟨hz, hy0⟩ := and_e hg
  obtain ⟨ha0, hy1⟩ := and_e hy0
  obtain ⟨w0, w1, rfl⟩ : ∃ w0 w1 : Value, args = #[w0, w1] := by
    have hs : args.size = 2 := by simpa [Cond.value, given_1] using hz
    obtain ⟨L⟩ := args
    match L, hs with
    | [w0, w1], _ => exact ⟨w0, w1, rfl⟩
  have hw := fun d (hd : d ∈ tables_1) => atoms_spec (ws := Jvm.Cond.code x code maxLocals ret :: tables_1) hat d (List.mem_cons_of_mem _ hd)
  obtain ⟨i0, ev0⟩ := is_v ha0
  obtain rfl : w0 = (.int i0) := Option.some.inj ev0
  obtain ⟨i1, ev1⟩ := is_v hy1
  obtain rfl : w1 = (.int i1) := Option.some.inj ev1
  obtain ⟨n, o, h1, h2, h3, _, L, rfl, ⟨hv, N⟩, hq⟩ := rm0 l s _ hw tables_1 i0 i1  s.heap s.heap.size (Nat.le_refl _)  p e ha hc hk s m _ below hf ((Spec.applies_iff_loose hf).mp happ).1 ⟨rfl, State.Warmed39.refl s, rfl⟩ trivial
  rw [own_law] at hv
  subst hv
  refine ⟨n, _, h1, h2, h3, hpost _ _ _ _ _ _ ⟨Cond.after_iff.mpr rfl, Cond.after_iff.mpr (eq_i res_at (Term.int_eval (1)) rfl), trivial⟩ ⟨hq.1, hq.2.1, (hq.2.2.sift fun y hy => Or.inr (N y hy)).mono (by decide) (by decide)⟩⟩
theorem main_1_1 : Claimed_1_1 := comes_1 fun _ _ _ _ _ _ h hF => ⟨h.1, hF⟩
theorem main_1_2 : Claimed_1_2 := comes_1 fun _ _ _ _ _ _ h hF => ⟨h.2.1, hF⟩
end Jvm.Pilot.@@N@@
namespace Jvm.Pilot.@@N@@
open Jvm Jvm.ClassFile Sem Op Lib Jvm.Free Jvm.Stand Jvm.Pilot.@@N@@.Jvm.D
/-! MADE BY PROGRAM (witnessworld.py) out of the Statement's table words and the real class files: 9 classes; the members and pool entries that the words name. The judged class is class 1, her method 2. -/
namespace start1
open Jvm.ClassFile
def u (s : String) : CpInfo := .utf8 (stringToUtf16 s)
/-- a pool by its gaps: so many unusable entries, then the entry; so many at the end -/
def gap : Nat → List CpInfo → List CpInfo
  | 0, r => r
  | n + 1, r => .unusable :: gap n r
def poolList (es : List (Nat × CpInfo)) (last : Nat) : List CpInfo := es.foldr (fun e r => gap e.1 (e.2 :: r)) (gap last [])
def pool (es : List (Nat × CpInfo)) (last : Nat) : Array CpInfo := ⟨poolList es last⟩
def fileOf (pool : Array CpInfo) (this : Nat) (attrs : Array Attribute := #[]) (ms : Array MethodInfo := #[]) (fl : Nat := 33) (sup : Nat := 0) (ifs : Array Nat := #[]) (fds : Array FieldInfo := #[]) : ClassFile where
  minorVersion := 0
  majorVersion := 65
  constantPool := pool
  accessFlags := fl
  thisClass := this
  superClass := sup
  interfaces := ifs
  fields := fds
  methods := ms
  attributes := attrs
def plain (name : String) (sup : Option ClassId) : Class where
  name := name
  kind := .ordinary
  loader := none
  accessFlags := 33
  super := sup
  interfaces := #[]
  cf := none
  fields := #[]
  methods := #[]
  instanceTypes := #[]
  staticTypes := #[]
  resolved := #[]
  callSites := []
  init := .initialized
  statics := none
  mirror := none

def pool0 : Array CpInfo := pool [(5, u "<init>"), (0, u "()V"), (1, .class_ 10), (1, u "java/lang/Object")] 113

def k0m0 : Method := { name := "<init>", desc := "()V", sig := { parameters := [], returnType := none }, accessFlags := 1, code := none }
/-- java/lang/Object -/
def k0 : Class := { plain "java/lang/Object" none with
  accessFlags := 33
  interfaces := #[]
  cf := some (fileOf pool0 8 #[] #[{ accessFlags := 1, nameIndex := 5, descriptorIndex := 6, attributes := #[] }] 33 0 #[] #[])
  fields := #[]
  methods := #[k0m0]
  instanceTypes := #[]
  staticTypes := #[]
  resolved := Array.replicate 124 none
  statics := none }

def pool1 : Array CpInfo := pool [(2, .class_ 4), (1, u "java/lang/Object"), (0, u "<init>"), (0, u "()V"), (0, .integer 65296), (0, .methodref 9 10), (0, .class_ 11), (0, .nameAndType 12 13), (0, u "com/example/gramsmith/gramsmith/grammar/GrammarLexer"), (0, u "isDigit"), (0, u "(I)Z"), (0, .methodref 15 16), (0, .class_ 17), (0, .nameAndType 18 13), (0, u "com/example/gramsmith/gramsmith/grammar/GrammarLexerIsDigitPinLaw"), (0, u "oneOfTen"), (3, u "law"), (0, u "(II)Z")] 2

def k1m0 : Method := { name := "<init>", desc := "()V", sig := { parameters := [], returnType := none }, accessFlags := 2, code := none }
def k1c1 : Code := { maxStack := 2, maxLocals := 1, code := method_2_code, exceptionTable := #[], attributes := #[] }
def k1m1 : Method := { name := "oneOfTen", desc := "(I)Z", sig := { parameters := [.int], returnType := some .boolean }, accessFlags := 10, code := some k1c1 }
def k1c2 : Code := { maxStack := 3, maxLocals := 9, code := code, exceptionTable := #[], attributes := #[] }
def k1m2 : Method := { name := "law", desc := "(II)Z", sig := { parameters := [.int, .int], returnType := some .boolean }, accessFlags := 9, code := some k1c2 }
/-- com/example/gramsmith/gramsmith/grammar/GrammarLexerIsDigitPinLaw -/
def k1 : Class := { plain "com/example/gramsmith/gramsmith/grammar/GrammarLexerIsDigitPinLaw" (some 0) with
  accessFlags := 49
  interfaces := #[]
  cf := some (fileOf pool1 15 #[] #[{ accessFlags := 2, nameIndex := 5, descriptorIndex := 6, attributes := #[] }, { accessFlags := 10, nameIndex := 18, descriptorIndex := 13, attributes := #[] }, { accessFlags := 9, nameIndex := 22, descriptorIndex := 23, attributes := #[] }] 49 2 #[] #[])
  fields := #[]
  methods := #[k1m0, k1m1, k1m2]
  instanceTypes := #[]
  staticTypes := #[]
  resolved := Array.replicate 26 none
  statics := none }

def pool2 : Array CpInfo := pool [(2, .class_ 4), (1, u "java/lang/Object"), (3, .class_ 10), (1, u "com/example/gramsmith/gramsmith/grammar/GrammarLexer"), (0, u "source"), (0, u "Lcom/example/gramsmith/gramsmith/grammar/SourceText;"), (2, u "peeked"), (0, u "Lcom/example/gramsmith/gramsmith/grammar/Token;"), (9, u "index"), (0, u "I"), (100, u "(I)Z"), (30, u "NOT_AN_ESCAPE"), (15, u "isDigit")] 27

def k2c0 : Code := { maxStack := 2, maxLocals := 1, code := prog_42_method_12_code, exceptionTable := #[], attributes := #[] }
def k2m0 : Method := { name := "isDigit", desc := "(I)Z", sig := { parameters := [.int], returnType := some .boolean }, accessFlags := 8, code := some k2c0 }
/-- com/example/gramsmith/gramsmith/grammar/GrammarLexer -/
def k2 : Class := { plain "com/example/gramsmith/gramsmith/grammar/GrammarLexer" (some 0) with
  accessFlags := 1056
  interfaces := #[]
  cf := some (fileOf pool2 8 #[] #[{ accessFlags := 8, nameIndex := 175, descriptorIndex := 128, attributes := #[] }] 1056 2 #[] #[{ accessFlags := 24, nameIndex := 159, descriptorIndex := 27, attributes := #[] }, { accessFlags := 16, nameIndex := 11, descriptorIndex := 12, attributes := #[] }, { accessFlags := 0, nameIndex := 26, descriptorIndex := 27, attributes := #[] }, { accessFlags := 2, nameIndex := 15, descriptorIndex := 16, attributes := #[] }])
  fields := #[{ name := "NOT_AN_ESCAPE", type := .int, accessFlags := 24, slot := 0, constantValue := 0 }, { name := "source", type := (.object "com/example/gramsmith/gramsmith/grammar/SourceText"), accessFlags := 16, slot := 0, constantValue := 0 }, { name := "index", type := .int, accessFlags := 0, slot := 1, constantValue := 0 }, { name := "peeked", type := (.object "com/example/gramsmith/gramsmith/grammar/Token"), accessFlags := 2, slot := 2, constantValue := 0 }]
  methods := #[k2m0]
  instanceTypes := #[(.object "com/example/gramsmith/gramsmith/grammar/SourceText"), .int, (.object "com/example/gramsmith/gramsmith/grammar/Token")]
  staticTypes := #[.int]
  resolved := Array.replicate 203 none
  statics := none }

def pool3 : Array CpInfo := pool [(1, u "java/lang/Cloneable"), (0, .class_ 1), (0, u "java/lang/Object"), (0, .class_ 3)] 3

/-- java/lang/Cloneable -/
def k3 : Class := { plain "java/lang/Cloneable" (some 0) with
  accessFlags := 1537
  interfaces := #[]
  cf := some (fileOf pool3 2 #[] #[] 1537 4 #[] #[])
  fields := #[]
  methods := #[]
  instanceTypes := #[]
  staticTypes := #[]
  resolved := Array.replicate 8 none
  statics := none }

def pool4 : Array CpInfo := pool [(1, u "java/io/Serializable"), (0, .class_ 1), (0, u "java/lang/Object"), (0, .class_ 3)] 3

/-- java/io/Serializable -/
def k4 : Class := { plain "java/io/Serializable" (some 0) with
  accessFlags := 1537
  interfaces := #[]
  cf := some (fileOf pool4 2 #[] #[] 1537 4 #[] #[])
  fields := #[]
  methods := #[]
  instanceTypes := #[]
  staticTypes := #[]
  resolved := Array.replicate 8 none
  statics := none }

/-- the primitive byte -/
def k5 : Class := { plain "byte" none with kind := .primitive 'B', accessFlags := 0x411 }
/-- [B -/
def k6 : Class := { plain "[B" (some 0) with kind := .array 5 .byte, interfaces := #[3, 4], accessFlags := 1041 }

/-- the primitive int -/
def k7 : Class := { plain "int" none with kind := .primitive 'I', accessFlags := 0x411 }
/-- [I -/
def k8 : Class := { plain "[I" (some 0) with kind := .array 7 .int, interfaces := #[3, 4], accessFlags := 1041 }

def heap : Heap := #[]
def classes : Array Class := #[k0, k1, k2, k3, k4, k5, k6, k7, k8]
def interned : List (Array UInt16 × Addr) := []
def slotsUsed : Nat := 0
def theMethod : MethodId := ⟨1, 2⟩
def args0 : Array Value := #[.int 5, .int 7]
def aboutOver (below : List Frame) : State where
  vm := { classes := classes, interned := interned.toArray }
  heap := heap
  slotsUsed := slotsUsed
  threads := #[{ frames := .invoking theMethod args0 :: below }]
def below0 : List Frame := [.native { method := ⟨0, 0⟩, args := #[] }]
def about1 : State := aboutOver below0
def p0 : Program := .bare "" "" ""
def e0 : Env := launch0.env 0 0 0
theorem w_frames : about1.frames = Frame.invoking theMethod args0 :: below0 := rfl
set_option maxRecDepth 65536 in
theorem w_args : argsFit about1.vm theMethod args0 = true := by decide +kernel
set_option maxRecDepth 65536 in
theorem w_heap : heapFits about1 = true := by decide +kernel
set_option maxRecDepth 65536 in
theorem w_runnable : about1.curStatus? = some .runnable := by decide +kernel
set_option maxRecDepth 65536 in
theorem w_alone : about1.alone = true := by decide +kernel
set_option maxRecDepth 65536 in
theorem w_named : about1.methodNamed? x = some theMethod := by decide +kernel
set_option maxRecDepth 65536 in
theorem w_hears : about1.hears theMethod below0 = true := by decide +kernel
set_option maxRecDepth 65536 in
theorem w_ripe : about1.ripe theMethod args0 below0 = true := by decide +kernel
theorem w_running : about1.status = .running := rfl
set_option maxRecDepth 65536 in
theorem w_room : about1.hasRoom e0.platform room_1 = true :=
  launch0.hasRoom_least _ room_1 (by decide +kernel) (by decide +kernel) (by decide +kernel) (by decide +kernel) (by decide +kernel) (by decide +kernel)
theorem allAtoms_all (ts : List Jvm.Cond) (a : Array Jvm.Value) (st : Jvm.State) : (allAtoms ts).before a st = ts.all (fun c => c.before a st) := by
  induction ts with
  | nil => rfl
  | cons c t ih =>
    show (Jvm.Cond.and c (allAtoms t)).before a st = _
    rw [Jvm.Cond.before_and, ih, List.all_cons]
def words1 : List Jvm.Cond := Jvm.Cond.code x code maxLocals ret :: tables_1
/-- a 'code' word, met by the world's own term for the bytes: nothing is compared byte by byte -/
theorem code_word {y : MethodName} {bytes : ByteArray} {mx : Nat} {rt : Option FieldType} {a : Array Value} {s : State} {m : MethodId} {meth : Method} {c : Code} (h1 : s.methodNamed? y = some m) (h2 : s.vm.method? m = some meth) (h3 : meth.code = some c) (h4 : c.code = bytes)
    (h5 : (c.maxLocals == mx && c.exceptionTable.isEmpty && decide (c.maxStack ≤ mostOperands) && decide (meth.sig.returnType = rt) && !meth.locks && decide (parseMethodDescriptor y.desc = some meth.sig)) = true) : (Jvm.Cond.code y bytes mx rt).before a s = true := by
  simp only [Bool.and_eq_true, beq_iff_eq, Bool.not_eq_true', decide_eq_true_eq] at h5
  obtain ⟨⟨⟨⟨⟨g1, g2⟩, g3⟩, g4⟩, g5⟩, g6⟩ := h5
  simp [Cond.before, Cond.holds, Cond.value, h1, h2, h3, h4, g1, g2, g3, g4, g5, g6]
def isCode : Jvm.Cond → Bool
  | .code _ _ _ _ => true
  | _ => false
theorem all_split {L : List Jvm.Cond} {P : Jvm.Cond → Bool} (h1 : L.all (fun c => isCode c || P c) = true) (h2 : ∀ c ∈ L.filter isCode, P c = true) : L.all P = true := by
  refine List.all_eq_true.mpr fun c hc => ?_
  have h := List.all_eq_true.mp h1 c hc
  rcases Bool.eq_false_or_eq_true (isCode c) with hi | hi
  · exact h2 c (List.mem_filter.mpr ⟨hc, hi⟩)
  · simpa [hi] using h
set_option maxRecDepth 65536 in
theorem w_c0 : (Jvm.Cond.code x code maxLocals ret).before args0 about1 = true := code_word (m := ⟨1, 2⟩) (meth := k1m2) (c := k1c2) (by decide +kernel) rfl rfl rfl (by decide +kernel)
set_option maxRecDepth 65536 in
theorem w_c1 : (Jvm.Cond.code ({ cls := "com/example/gramsmith/gramsmith/grammar/GrammarLexer", name := "isDigit", desc := "(I)Z" } : Jvm.MethodName) prog_42_method_12_code (1 : Nat) (Option.some Jvm.ClassFile.FieldType.boolean)).before args0 about1 = true := code_word (m := ⟨2, 0⟩) (meth := k2m0) (c := k2c0) (by decide +kernel) rfl rfl rfl (by decide +kernel)
set_option maxRecDepth 65536 in
theorem w_c2 : (Jvm.Cond.code ({ cls := "com/example/gramsmith/gramsmith/grammar/GrammarLexerIsDigitPinLaw", name := "oneOfTen", desc := "(I)Z" } : Jvm.MethodName) method_2_code (1 : Nat) (Option.some Jvm.ClassFile.FieldType.boolean)).before args0 about1 = true := code_word (m := ⟨1, 1⟩) (meth := k1m1) (c := k1c1) (by decide +kernel) rfl rfl rfl (by decide +kernel)
def codes1 : List Jvm.Cond := [Jvm.Cond.code x code maxLocals ret, Jvm.Cond.code ({ cls := "com/example/gramsmith/gramsmith/grammar/GrammarLexer", name := "isDigit", desc := "(I)Z" } : Jvm.MethodName) prog_42_method_12_code (1 : Nat) (Option.some Jvm.ClassFile.FieldType.boolean), Jvm.Cond.code ({ cls := "com/example/gramsmith/gramsmith/grammar/GrammarLexerIsDigitPinLaw", name := "oneOfTen", desc := "(I)Z" } : Jvm.MethodName) method_2_code (1 : Nat) (Option.some Jvm.ClassFile.FieldType.boolean)]
set_option maxRecDepth 65536 in
theorem codes_eq : words1.filter isCode = codes1 := rfl
theorem w_codes : ∀ c ∈ words1.filter isCode, c.before args0 about1 = true := by
  rw [codes_eq]
  intro c hc
  simp only [codes1, List.mem_cons, List.not_mem_nil, or_false] at hc
  rcases hc with rfl | rfl | rfl
  · exact w_c0
  · exact w_c1
  · exact w_c2
set_option maxRecDepth 65536 in
theorem w_t1 : words1.all (fun c => isCode c || c.before args0 about1) = true := by decide +kernel
theorem w_tables : (allAtoms (Jvm.Cond.code x code maxLocals ret :: tables_1)).before args0 about1 = true := by
  rw [allAtoms_all]
  show words1.all (fun c => c.before args0 about1) = true
  refine all_split ?_ w_codes
  rw [w_t1]
set_option maxRecDepth 65536 in
theorem w_case : (Jvm.Cond.and given_1 narrow_1).before args0 about1 = true := by decide +kernel
theorem w_applies : (headSpec (Jvm.Cond.code x code maxLocals ret :: tables_1) room_1).applies x e0.platform about1 = true :=
  (Spec.applies_iff w_frames).mpr ⟨w_running, w_runnable, w_alone, w_named, w_hears, w_ripe, w_room, w_tables⟩
theorem atStart : AtStart classFile x code maxLocals ret World_1 tables_1 room_1 Calls_1 rest_1 Pre_1 launch0 p0 e0 about1 theMethod args0 below0 :=
  ⟨lists_1, trivial, launch0.admits_env _ _ _, launch0.least_env, fairChoices_fair.cas, fairChoices_fair.clock, w_frames, w_args, w_heap, w_applies, trivial, trivial, w_case⟩
end start1
theorem witness_1 : WitnessClaimed_1 := ⟨start1.p0, start1.e0, start1.about1, start1.theMethod, start1.args0, start1.below0, start1.atStart⟩
end Jvm.Pilot.@@N@@
