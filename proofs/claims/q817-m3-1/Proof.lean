import JvmDerived
import JvmDerived.Pilot.@@N@@Statement
import JvmDerived.Pilot.@@N@@Code
set_option linter.unusedVariables false
set_option linter.unusedSimpArgs false
namespace Jvm.RoadKit
open Sem ClassFile Op Lib Jvm.Stand Jvm.Free Jvm.LawKit
section New
variable {p : Program} {l : Launch} {e : Env} {R : Room} {s : State} {m : MethodId} {args : Array Value} {below : List Frame} {meth : Method} {c : Code} {T : State} {locs : List Loc} {cells slots : Nat}
theorem retI (X : Stand p l e R s m args below meth c T locs cells slots) (hx : p.tables.exec = Jvm.exec) {pc : Nat} {Ls : Array Slot} {z : Int32} {rest : List Value} (hret : meth.sig.returnType = some .int) (hd : decode c.code pc = .ok (.ireturn, 1)) {fs : List Frame}
    (hl : ∀ (f : JFrame) (acts : List Action), f.method = m → f.locked = none → f.entered = [] → (doReturn e (T.setTop f) acts (some (.int z))).1 = T.setFrames fs) : Steps p.tables e below (T.setTop (mkF m pc Ls (.int z :: rest))) (T.setFrames fs) := by
  have hm' : T.vm.method? m = some meth := X.method'
  have hn : narrow .int (.int z) = .int z := rfl
  show Steps p.tables e below (T.setTop { method := m, pc := pc, locals := Ls, stack := _ :: rest, locked := none }) _
  jvm_step X.here [X.here.top, hx, hd, hm', hret, hn]
  first | (intro acts; rw [hl _ acts rfl rfl rfl]) | rw [hl _ _ rfl rfl rfl]
  exact Steps.refl _
theorem own_ldc {g : JFrame} {target : State} (X : Stand p l e R s m args below meth c T locs cells slots) (hx : p.tables.exec = Jvm.exec) {own : String} {index : Nat} {v : Int32} (hown : s.vm.findClass own = some m.cls) (w : (Cond.constant own index v).before args s = true) (hg : g.method = m) (hd : decode c.code g.pc = .ok (.ldc index, 2))
    (hr : Steps p.tables e below (T.setTop { g with pc := g.pc + 2, stack := .int v :: g.stack }) target) : Steps p.tables e below (T.setTop g) target := X.ldcInt hx hown w hg hd target hr
theorem own_ldc2 {g : JFrame} {target : State} (X : Stand p l e R s m args below meth c T locs cells slots) (hx : p.tables.exec = Jvm.exec) {own : String} {index : Nat} {v : Int64} (hown : s.vm.findClass own = some m.cls) (w : (Cond.constantLong own index v).before args s = true) (hg : g.method = m) (hd : decode c.code g.pc = .ok (.ldc2_w index, 3))
    (hr : Steps p.tables e below (T.setTop { g with pc := g.pc + 3, stack := .long v :: g.stack }) target) : Steps p.tables e below (T.setTop g) target := X.ldc2Long hx hown w hg hd target hr
theorem own_len {g : JFrame} {target : State} (X : Stand p l e R s m args below meth c T locs cells slots) (hx : p.tables.exec = Jvm.exec) {a : Addr} {cell : Cell} {ty : FieldType} {z : Int32} (hcell : T.heap[a]? = some cell) (harr : s.isArrayOf cell ty) (hz : cell.slots.size = z.toNatClampNeg) (hn : ¬ z < 0) (hg : g.method = m) {rest : List Value} (hs : g.stack = .ref a :: rest) (hd : decode c.code g.pc = .ok (.arraylength, 1))
    (hr : Steps p.tables e below (T.setTop { g with pc := g.pc + 1, stack := .int z :: rest }) target) : Steps p.tables e below (T.setTop g) target := X.arraylength hx hcell harr hg hs hd target (by rw [len_of hz hn]; exact hr)
theorem own_iaload {g : JFrame} {target : State} (X : Stand p l e R s m args below meth c T locs cells slots) (hx : p.tables.exec = Jvm.exec) {a : Addr} {cell : Cell} {j : Int32} {v : Value} (hcell : T.heap[a]? = some cell) (harr : s.isArrayOf cell .int) (hk : cell.vm ≠ .unknown) (hin : ¬ (j < 0 ∨ cell.slots.size ≤ j.toNatClampNeg)) (hv : cell.slots[j.toNatClampNeg]? = some v) (hg : g.method = m) {rest : List Value} (hs : g.stack = .int j :: .ref a :: rest) (hd : decode c.code g.pc = .ok (.iaload, 1))
    (hr : Steps p.tables e below (T.setTop { g with pc := g.pc + 1, stack := v :: rest }) target) : Steps p.tables e below (T.setTop g) target := X.iaload hx hcell harr hk hin hv hg hs hd target hr
theorem own_laload {g : JFrame} {target : State} (X : Stand p l e R s m args below meth c T locs cells slots) (hx : p.tables.exec = Jvm.exec) {a : Addr} {cell : Cell} {j : Int32} {v : Value} (hcell : T.heap[a]? = some cell) (harr : s.isArrayOf cell .long) (hk : cell.vm ≠ .unknown) (hin : ¬ (j < 0 ∨ cell.slots.size ≤ j.toNatClampNeg)) (hv : cell.slots[j.toNatClampNeg]? = some v) (hg : g.method = m) {rest : List Value} (hs : g.stack = .int j :: .ref a :: rest) (hd : decode c.code g.pc = .ok (.laload, 1))
    (hr : Steps p.tables e below (T.setTop { g with pc := g.pc + 1, stack := v :: rest }) target) : Steps p.tables e below (T.setTop g) target := X.laload hx hcell harr hk hin hv hg hs hd target hr
theorem own_baload {g : JFrame} {target : State} (X : Stand p l e R s m args below meth c T locs cells slots) (hx : p.tables.exec = Jvm.exec) {a : Addr} {cell : Cell} {j : Int32} {v : Value} (hcell : T.heap[a]? = some cell) (harr : s.isArrayOf cell .byte) (hk : cell.vm ≠ .unknown) (hin : ¬ (j < 0 ∨ cell.slots.size ≤ j.toNatClampNeg)) (hv : cell.slots[j.toNatClampNeg]? = some v) (hg : g.method = m) {rest : List Value} (hs : g.stack = .int j :: .ref a :: rest) (hd : decode c.code g.pc = .ok (.baload, 1))
    (hr : Steps p.tables e below (T.setTop { g with pc := g.pc + 1, stack := v :: rest }) target) : Steps p.tables e below (T.setTop g) target := X.baloadBytes hx hcell harr hk hin hv hg hs hd target hr
theorem own_lrem {g : JFrame} {target : State} (X : Stand p l e R s m args below meth c T locs cells slots) (hx : p.tables.exec = Jvm.exec) (hg : g.method = m) {x y : Int64} {rest : List Value} (hd : decode c.code g.pc = .ok (.lrem, 1)) (hs : g.stack = .long y :: .long x :: rest) (hy : y ≠ 0)
    (hr : Steps p.tables e below (T.setTop { g with pc := g.pc + 1, stack := .long (x % y) :: rest }) target) : Steps p.tables e below (T.setTop g) target :=
  XS.lrem X.here hx hg hd hs hy (by rw [lrem_mod]; exact hr)
theorem own_tltL {x y : Int64} (h : x < y) : ifCond.holds .lt (lcmpW x y) = true ∧ ifCond.holds .ge (lcmpW x y) = false ∧ ifCond.holds .gt (lcmpW y x) = true ∧ ifCond.holds .le (lcmpW y x) = false := by
  have h1 : lcmpW x y < 0 := by rw [lcW]; exact (lc_lt x y).mpr h
  have h2 : 0 < lcmpW y x := by rw [lcW]; exact (lc_gt y x).mpr h
  exact ⟨(if0 _ _).trans (tlt h1).1, (if0 _ _).trans (tlt h1).2.1, (if0 _ _).trans (tlt h2).2.2.1, (if0 _ _).trans (tlt h2).2.2.2⟩
theorem own_fltL {x y : Int64} (h : ¬ x < y) : ifCond.holds .lt (lcmpW x y) = false ∧ ifCond.holds .ge (lcmpW x y) = true ∧ ifCond.holds .gt (lcmpW y x) = false ∧ ifCond.holds .le (lcmpW y x) = true := by
  have h1 : ¬ lcmpW x y < 0 := by rw [lcW, lc_lt]; exact h
  have h2 : ¬ 0 < lcmpW y x := by rw [lcW, lc_gt]; exact h
  exact ⟨(if0 _ _).trans (flt h1).1, (if0 _ _).trans (flt h1).2.1, (if0 _ _).trans (flt h2).2.2.1, (if0 _ _).trans (flt h2).2.2.2⟩
theorem own_teqL {x y : Int64} (h : x = y) : ifCond.holds .eq (lcmpW x y) = true ∧ ifCond.holds .ne (lcmpW x y) = false := by
  have h1 : lcmpW x y = 0 := by rw [lcW, lc_eq]; exact h
  exact ⟨(if0 _ _).trans (teq h1).1, (if0 _ _).trans (teq h1).2⟩
theorem own_feqL {x y : Int64} (h : ¬ x = y) : ifCond.holds .eq (lcmpW x y) = false ∧ ifCond.holds .ne (lcmpW x y) = true := by
  have h1 : ¬ lcmpW x y = 0 := by rw [lcW, lc_eq]; exact h
  exact ⟨(if0 _ _).trans (feq h1).1, (if0 _ _).trans (feq h1).2⟩
end New
end Jvm.RoadKit
namespace Jvm.Pilot.@@N@@
open Jvm Jvm.ClassFile Sem Op Lib Jvm.Free Jvm.Stand Jvm.LawKit Jvm.RoadKit Bundle Jvm.Pilot.@@N@@.Jvm.D
/-- what is left to show from a place of the walk on -/
abbrev OGl (p : Program) (e : Env) (below : List Frame) (Q : Outcome → State → Prop) (T : State) (g : JFrame) : Prop :=
  ∃ s₂ o, Steps p.tables e below (T.setTop g) s₂ ∧ s₂.status = .running ∧ Ended s₂ below o ∧ Q o s₂
theorem OGl.go {p : Program} {e : Env} {below : List Frame} {Q : Outcome → State → Prop} {T T' : State} {g g' : JFrame} (h : ∀ t, Steps p.tables e below (T'.setTop g') t → Steps p.tables e below (T.setTop g) t) (k : OGl p e below Q T' g') : OGl p e below Q T g := by
  obtain ⟨s2, o, h1, h2⟩ := k
  exact ⟨s2, o, h _ h1, h2⟩
theorem OGl.start {p : Program} {e : Env} {below : List Frame} {Q : Outcome → State → Prop} {T : State} {g g' : JFrame} (q : g = g') (k : OGl p e below Q T g') : OGl p e below Q T g := q ▸ k
theorem own_selPriv {s : State} {args : Array Value} {y y' x' : MethodName} {C' : String} (hp : s.PrivateAt y) (hi : (Cond.instanceMethod y).before args s = true) (hc : y'.cls = y.cls) (hs : (Cond.selects C' x' y').before args s = true) (hy : y.cls ≠ "java/lang/invoke/MethodHandle" ∧ y.cls ≠ "java/lang/invoke/VarHandle" := by decide) : (Cond.selects y.cls y y).before args s = true := by
  obtain ⟨mk, meth, hn, hm, -, -⟩ := Cond.instanceMethod_spec hi
  obtain ⟨c2, r2, m2, -, -, q3, -, kP, hkP, hkPi⟩ := Cond.selects_spec hs
  have h1 := findClass_of_methodNamed hn
  have h2 := findClass_of_methodNamed q3
  rw [hc, h1] at h2
  have h3 : mk.cls = m2.cls := Option.some.inj h2
  have hf := State.methodFound?_of_named hn hy
  have hsel : selectMethod {} s.vm mk.cls mk = .method mk := selectMethod_private hm (hp mk meth hn hm)
  rw [← h3] at hkP
  simp [Cond.before, Cond.holds, Cond.value, h1, hf, hn, hsel, hkP, hkPi]
theorem own_weak {Z : State} {h : Heap} {a : Addr} {k : ClassId} {ty : FieldType} {z : Int32} {vs vs' : List Value} {d : Value} (F : Arv Z h a k ty z vs d) (q : ∀ i, i < z.toNatClampNeg → vs'.getD i d = vs.getD i d) : Arv Z h a k ty z vs' d := by
  obtain ⟨c, A, r1, r2, r3, H, G⟩ := F
  exact ⟨c, A, r1, r2, r3, fun i hi => by rw [q i (r2 ▸ hi)]; exact H i hi, fun i hi => by rw [q i (r2 ▸ hi)]; exact G i hi⟩
theorem own_cl {z j : Int32} {k i : Nat} (h : ¬ j < z) (hk : j.toInt = k) (hi : i < z.toNatClampNeg) : i < k := by
  rw [Int32.lt_iff_toInt_lt] at h
  have : z.toNatClampNeg = z.toInt.toNat := rfl
  omega
theorem own_irr {α : Type} [LT α] [Std.Irrefl (α := α) (· < ·)] (x : α) : ¬ x < x := Std.Irrefl.irrefl x
theorem d1_0 : decode prog_48_method_1_code 0 = .ok (.aload_n 0, 1) := by decide +kernel
theorem d1_1 : decode prog_48_method_1_code 1 = .ok (.invokespecial 1, 3) := by decide +kernel
theorem d1_4 : decode prog_48_method_1_code 4 = .ok (.aload_n 0, 1) := by decide +kernel
theorem d1_5 : decode prog_48_method_1_code 5 = .ok (.aload_n 1, 1) := by decide +kernel
theorem d1_6 : decode prog_48_method_1_code 6 = .ok (.putfield 7, 3) := by decide +kernel
theorem d1_9 : decode prog_48_method_1_code 9 = .ok (.aload_n 0, 1) := by decide +kernel
theorem d1_10 : decode prog_48_method_1_code 10 = .ok (.aload_n 2, 1) := by decide +kernel
theorem d1_11 : decode prog_48_method_1_code 11 = .ok (.putfield 13, 3) := by decide +kernel
theorem d1_14 : decode prog_48_method_1_code 14 = .ok (.return_, 1) := by decide +kernel
theorem ef_1 (m : MethodId) (x0 : Addr) (x1 : Addr) (x2 : Addr) : entryFrame m #[(.ref x0), (.ref x1), (.ref x2)] 3 = mkF m 0 #[.val (.ref x0), .val (.ref x1), .val (.ref x2)] [] := by first | (simp [entryFrame, mkF, argsToLocals, Value.category]; done) | rfl
theorem pn_0 : plainName "com/example/libforage/libforage/IdGrid$Box" = true := by first | (simp [plainName, overriddenIn]; done) | decide +kernel
def Q1 (Z : State) (a0 : Addr) (a1 : Addr) (a2 : Addr) (h0 : Heap) (n0 : Nat) (v : Option Value) (h : Heap) (L : List Loc) : Prop := v = none ∧ Fr n0 L ∧ Keep h0 h [a0] ∧ Fld Z h a0 "com/example/libforage/libforage/IdGrid$Box" "hi" "[J" (.ref a2) ∧ Fld Z h a0 "com/example/libforage/libforage/IdGrid$Box" "lo" "[J" (.ref a1)
set_option maxRecDepth 65536 in
set_option maxHeartbeats 40000000 in
theorem rm1 (l : Launch) (Z : State) (a0 : Array Value) (hw : ∀ d ∈ tables_1, d.before a0 Z = true) (ws : List Jvm.Cond) (a0 : Addr) (a1 : Addr) (a2 : Addr) (h0 : Heap) (n0 : Nat) (Z0 : n0 ≤ h0.size) (E_a0 : Exa Z h0 a0 "com/example/libforage/libforage/IdGrid$Box") (F1_a0 : Fld Z h0 a0 "com/example/libforage/libforage/IdGrid$Box" "lo" "[J" .null) (F2_a0 : Fld Z h0 a0 "com/example/libforage/libforage/IdGrid$Box" "hi" "[J" .null) (g_a0 : n0 ≤ a0) :
    MetFree l (⟨"com/example/libforage/libforage/IdGrid$Box", "<init>", "([J[J)V"⟩ : MethodName) (head1 (Jvm.Cond.code (⟨"com/example/libforage/libforage/IdGrid$Box", "<init>", "([J[J)V"⟩ : MethodName) prog_48_method_1_code 3 none :: ws) ({ frames := 1, cells := 0, slots := 0, locals := 12 } : Room)) (fun a U => a = #[(.ref a0), (.ref a1), (.ref a2)] ∧ Z.Warmed39 U.vm ∧ U.heap = h0) (fun _ _ _ _ _ => True) (fun _ U o U' => ∃ v L, o = .returned v ∧ Q1 Z a0 a1 a2 h0 n0 v U'.heap L ∧ FrameEnd U o U' L ({ frames := 1, cells := 0, slots := 0, locals := 12 } : Room).cells ({ frames := 1, cells := 0, slots := 0, locals := 12 } : Room).slots) := by
  refine MetFree.of_bodySF (plainFor_of_name pn_0) hisR ?_
  intro p e s m args below meth c s₁ Bd hml0 hP hK
  obtain ⟨rfl, hZ, hh⟩ := hP
  have hx := Bd.exec
  have hby := Bd.bytes
  have hml : c.maxLocals = 3 := hml0
  have hown : s.vm.findClass "com/example/libforage/libforage/IdGrid$Box" = some m.cls := findClass_of_methodNamed Bd.named
  have hnm := (name_of_methodNamed Bd.named Bd.method).1
  have X0 : Stand p l e ({ frames := 1, cells := 0, slots := 0, locals := 12 } : Room) s m #[(.ref a0), (.ref a1), (.ref a2)] below meth c s₁ [] 0 0 := Stand.of_body Bd
  have e0 : s₁.heap = h0 := by rw [← hh, Bd.state]; rfl
  have N0 := Fr.nil n0
  refine OGl.start (ef_1 m a0 a1 a2) ?_
  show OGl _ _ _ _ s₁ (mkF m 0 #[.val (.ref a0), .val (.ref a1), .val (.ref a2)] [])
  refine OGl.go (fun t k => XS.aloadN X0.here hx rfl (hb hby d1_0) rfl rfl k) ?_
  show OGl _ _ _ _ s₁ (mkF m 1 #[.val (.ref a0), .val (.ref a1), .val (.ref a2)] [(.ref a0)])
  obtain ⟨T16, X16, e16, st16⟩ := initO X0 hx hZ hown (hw _ (List.mem_of_getElem? (i := 8) rfl)) (hw _ (List.mem_of_getElem? (i := 9) rfl)) (hw _ (List.mem_of_getElem? (i := 10) rfl)) e0 (g := (mkF m 1 #[.val (.ref a0), .val (.ref a1), .val (.ref a2)] [(.ref a0)])) rfl (by rw [hml]; rfl) rfl (hb hby d1_1) (by decide) (W := 0) (by show 2 * 0 + _ ≤ _; exact Nat.le_of_eq rfl) (by decide)
  refine OGl.go st16 ?_
  show OGl _ _ _ _ T16 (mkF m 4 #[.val (.ref a0), .val (.ref a1), .val (.ref a2)] [])
  refine OGl.go (fun t k => XS.aloadN X16.here hx rfl (hb hby d1_4) rfl rfl (XS.aloadN X16.here hx rfl (hb hby d1_5) rfl rfl k)) ?_
  show OGl _ _ _ _ T16 (mkF m 6 #[.val (.ref a0), .val (.ref a1), .val (.ref a2)] [(.ref a1), (.ref a0)])
  obtain ⟨T17, h17, X17, e17, W17, st17⟩ := putF X16 hx hZ hown (host := "") (Or.inl (hw _ (List.mem_of_getElem? (i := 11) rfl))) Via.refl e16 F1_a0 E_a0 (Or.inr ⟨(hw _ (List.mem_of_getElem? (i := 12) rfl)), rfl, hnm⟩) (hw _ (List.mem_of_getElem? (i := 3) rfl)) (ty := (.array .long)) (by decide) rfl rfl (g := (mkF m 6 #[.val (.ref a0), .val (.ref a1), .val (.ref a2)] [(.ref a1), (.ref a0)])) rfl rfl (hb hby d1_6)
  refine OGl.go st17 ?_
  have N17 := Fr.snoc X17 N0 g_a0
  have Fw17 := F1_a0.same W17
  have KK17 : Keep h0 h17 [a0] := (Keep.refl h0 [a0]).wr W17 (Or.inl (List.mem_of_getElem? (i := 0) rfl))
  show OGl _ _ _ _ T17 (mkF m 9 #[.val (.ref a0), .val (.ref a1), .val (.ref a2)] [])
  refine OGl.go (fun t k => XS.aloadN X17.here hx rfl (hb hby d1_9) rfl rfl (XS.aloadN X17.here hx rfl (hb hby d1_10) rfl rfl k)) ?_
  show OGl _ _ _ _ T17 (mkF m 11 #[.val (.ref a0), .val (.ref a1), .val (.ref a2)] [(.ref a2), (.ref a0)])
  have F18 := (F2_a0.other W17 (Or.inr (slot_ne (Or.inr (hw _ (List.mem_of_getElem? (i := 14) rfl))) (Or.inr (hw _ (List.mem_of_getElem? (i := 12) rfl))) (by decide) (t := (.array .long)) (t' := (.array .long)) (by decide) (by decide))))
  have F19 := (E_a0.wr W17)
  obtain ⟨T20, h20, X20, e20, W20, st20⟩ := putF X17 hx hZ hown (host := "") (Or.inl (hw _ (List.mem_of_getElem? (i := 13) rfl))) Via.refl e17 F18 F19 (Or.inr ⟨(hw _ (List.mem_of_getElem? (i := 14) rfl)), rfl, hnm⟩) (hw _ (List.mem_of_getElem? (i := 3) rfl)) (ty := (.array .long)) (by decide) rfl rfl (g := (mkF m 11 #[.val (.ref a0), .val (.ref a1), .val (.ref a2)] [(.ref a2), (.ref a0)])) rfl rfl (hb hby d1_11)
  refine OGl.go st20 ?_
  have N20 := Fr.snoc X20 N17 g_a0
  have Fw20 := F18.same W20
  have KK20 : Keep h0 h20 [a0] := KK17.wr W20 (Or.inl (List.mem_of_getElem? (i := 0) rfl))
  show OGl _ _ _ _ T20 (mkF m 14 #[.val (.ref a0), .val (.ref a1), .val (.ref a2)] [])
  obtain ⟨fs, hr, hrun, hended, hW, hsame⟩ := X20.leave (v := none) (fun _ => rfl)
  refine ⟨_, _, X20.returnOut hx Bd.returns (hb hby d1_14) hr, hrun, hended, _, _, rfl, ?_, ⟨_, rfl⟩, hW, hsame.mono (by decide) (by decide)⟩
  show Q1 Z a0 a1 a2 h0 n0 _ T20.heap _
  rw [e20]
  have F21 := (Fw17.other W20 (Or.inr (slot_ne (Or.inr (hw _ (List.mem_of_getElem? (i := 12) rfl))) (Or.inr (hw _ (List.mem_of_getElem? (i := 14) rfl))) (by decide) (t := (.array .long)) (t' := (.array .long)) (by decide) (by decide))))
  exact ⟨rfl, N20, KK20, Fw20, F21⟩
theorem pd_0 : parseMethodDescriptor "([J[J)V" = some ⟨[(.array .long), (.array .long)], none⟩ := by decide +kernel
theorem d3_0 : decode prog_48_method_4_code 0 = .ok (.aload_n 0, 1) := by decide +kernel
theorem d3_1 : decode prog_48_method_4_code 1 = .ok (.getfield 13, 3) := by decide +kernel
theorem d3_4 : decode prog_48_method_4_code 4 = .ok (.iload_n 1, 1) := by decide +kernel
theorem d3_5 : decode prog_48_method_4_code 5 = .ok (.laload, 1) := by decide +kernel
theorem d3_6 : decode prog_48_method_4_code 6 = .ok (.aload_n 0, 1) := by decide +kernel
theorem d3_7 : decode prog_48_method_4_code 7 = .ok (.getfield 7, 3) := by decide +kernel
theorem d3_10 : decode prog_48_method_4_code 10 = .ok (.iload_n 1, 1) := by decide +kernel
theorem d3_11 : decode prog_48_method_4_code 11 = .ok (.laload, 1) := by decide +kernel
theorem d3_12 : decode prog_48_method_4_code 12 = .ok (.lsub, 1) := by decide +kernel
theorem d3_13 : decode prog_48_method_4_code 13 = .ok (.lreturn, 1) := by decide +kernel
theorem ef_3 (m : MethodId) (x0 : Addr) (x1 : Int32) : entryFrame m #[(.ref x0), (.int x1)] 2 = mkF m 0 #[.val (.ref x0), .val (.int x1)] [] := by first | (simp [entryFrame, mkF, argsToLocals, Value.category]; done) | rfl
def Q3 (Z : State) (a0 : Addr) (a1 : Addr) (k2 : ClassId) (q3 : Int64) (q4 : Int64) (q5 : Int64) (a6 : Addr) (k7 : ClassId) (q8 : Int64) (q9 : Int64) (q10 : Int64) (h0 : Heap) (n0 : Nat) (v : Option Value) (h : Heap) (L : List Loc) : Prop := v = some (.long (q3 - q8)) ∧ Fr n0 L ∧ h = h0
set_option maxRecDepth 65536 in
set_option maxHeartbeats 40000000 in
theorem rm3 (l : Launch) (Z : State) (a0 : Array Value) (hw : ∀ d ∈ tables_1, d.before a0 Z = true) (ws : List Jvm.Cond) (a0 : Addr) (a1 : Addr) (k2 : ClassId) (q3 : Int64) (q4 : Int64) (q5 : Int64) (a6 : Addr) (k7 : ClassId) (q8 : Int64) (q9 : Int64) (q10 : Int64) (h0 : Heap) (n0 : Nat) (Z0 : n0 ≤ h0.size) (F0_a0 : Fld Z h0 a0 "com/example/libforage/libforage/IdGrid$Box" "hi" "[J" (.ref a1)) (V_a1 : Arv Z h0 a1 k2 .long (3 : Int32) [(.long q3), (.long q4), (.long q5)] (.long (0 : Int64))) (F2_a0 : Fld Z h0 a0 "com/example/libforage/libforage/IdGrid$Box" "lo" "[J" (.ref a6)) (V_a6 : Arv Z h0 a6 k7 .long (3 : Int32) [(.long q8), (.long q9), (.long q10)] (.long (0 : Int64))) :
    MetFree l (⟨"com/example/libforage/libforage/IdGrid$Box", "side", "(I)J"⟩ : MethodName) (head1 (Jvm.Cond.code (⟨"com/example/libforage/libforage/IdGrid$Box", "side", "(I)J"⟩ : MethodName) prog_48_method_4_code 2 (some .long) :: ws) ({ frames := 0, cells := 0, slots := 0, locals := 0 } : Room)) (fun a U => a = #[(.ref a0), (.int (0 : Int32))] ∧ Z.Warmed39 U.vm ∧ U.heap = h0) (fun _ _ _ _ _ => True) (fun _ U o U' => ∃ v L, o = .returned v ∧ Q3 Z a0 a1 k2 q3 q4 q5 a6 k7 q8 q9 q10 h0 n0 v U'.heap L ∧ FrameEnd U o U' L ({ frames := 0, cells := 0, slots := 0, locals := 0 } : Room).cells ({ frames := 0, cells := 0, slots := 0, locals := 0 } : Room).slots) := by
  refine MetFree.of_bodySF (plainFor_of_name pn_0) hisR ?_
  intro p e s m args below meth c s₁ Bd hml0 hP hK
  obtain ⟨rfl, hZ, hh⟩ := hP
  have hx := Bd.exec
  have hby := Bd.bytes
  have hml : c.maxLocals = 2 := hml0
  have hown : s.vm.findClass "com/example/libforage/libforage/IdGrid$Box" = some m.cls := findClass_of_methodNamed Bd.named
  have hnm := (name_of_methodNamed Bd.named Bd.method).1
  have X0 : Stand p l e ({ frames := 0, cells := 0, slots := 0, locals := 0 } : Room) s m #[(.ref a0), (.int (0 : Int32))] below meth c s₁ [] 0 0 := Stand.of_body Bd
  have e0 : s₁.heap = h0 := by rw [← hh, Bd.state]; rfl
  have N0 := Fr.nil n0
  refine OGl.start (ef_3 m a0 (0 : Int32)) ?_
  show OGl _ _ _ _ s₁ (mkF m 0 #[.val (.ref a0), .val (.int (0 : Int32))] [])
  refine OGl.go (fun t k => XS.aloadN X0.here hx rfl (hb hby d3_0) rfl rfl k) ?_
  show OGl _ _ _ _ s₁ (mkF m 1 #[.val (.ref a0), .val (.int (0 : Int32))] [(.ref a0)])
  obtain ⟨T23, X23, e23, st23⟩ := getF X0 hx hZ hown (host := "") (Or.inl (hw _ (List.mem_of_getElem? (i := 13) rfl))) Via.refl e0 F0_a0 (g := (mkF m 1 #[.val (.ref a0), .val (.int (0 : Int32))] [(.ref a0)])) rfl rfl (hb hby d3_1)
  refine OGl.go st23 ?_
  show OGl _ _ _ _ T23 (mkF m 4 #[.val (.ref a0), .val (.int (0 : Int32))] [(.ref a1)])
  obtain ⟨cl24, Ar24, -, Sz24, -, Ha24, -⟩ := V_a1
  have hin24 : ¬ ((0 : Int32) < 0 ∨ cl24.slots.size ≤ ((0 : Int32)).toNatClampNeg) := inb_of Sz24 ⟨by decide, by decide⟩
  refine OGl.go (fun t k => XS.iloadN X23.here hx rfl (hb hby d3_4) rfl (own_laload X23 hx (j := (0 : Int32)) (v := (.long q3)) (by rw [e23]; exact Ar24.1) (State.isArrayOf_alike hZ.alike Ar24.2.1) Ar24.2.2 hin24 (Has.at Ha24 hin24 rfl) rfl rfl (hb hby d3_5) (XS.aloadN X23.here hx rfl (hb hby d3_6) rfl rfl k))) ?_
  show OGl _ _ _ _ T23 (mkF m 7 #[.val (.ref a0), .val (.int (0 : Int32))] [(.ref a0), (.long q3)])
  obtain ⟨T25, X25, e25, st25⟩ := getF X23 hx hZ hown (host := "") (Or.inl (hw _ (List.mem_of_getElem? (i := 11) rfl))) Via.refl e23 F2_a0 (g := (mkF m 7 #[.val (.ref a0), .val (.int (0 : Int32))] [(.ref a0), (.long q3)])) rfl rfl (hb hby d3_7)
  refine OGl.go st25 ?_
  show OGl _ _ _ _ T25 (mkF m 10 #[.val (.ref a0), .val (.int (0 : Int32))] [(.ref a6), (.long q3)])
  obtain ⟨cl26, Ar26, -, Sz26, -, Ha26, -⟩ := V_a6
  have hin26 : ¬ ((0 : Int32) < 0 ∨ cl26.slots.size ≤ ((0 : Int32)).toNatClampNeg) := inb_of Sz26 ⟨by decide, by decide⟩
  refine OGl.go (fun t k => XS.iloadN X25.here hx rfl (hb hby d3_10) rfl (own_laload X25 hx (j := (0 : Int32)) (v := (.long q8)) (by rw [e25]; exact Ar26.1) (State.isArrayOf_alike hZ.alike Ar26.2.1) Ar26.2.2 hin26 (Has.at Ha26 hin26 rfl) rfl rfl (hb hby d3_11) (XS.lsub X25.here hx rfl (hb hby d3_12) rfl k))) ?_
  show OGl _ _ _ _ T25 (mkF m 13 #[.val (.ref a0), .val (.int (0 : Int32))] [(.long (q3 - q8))])
  obtain ⟨fs, hr, hrun, hended, hW, hsame⟩ := X25.leave (v := some (.long (q3 - q8))) (fun h => by rw [Bd.returns] at h; cases h)
  refine ⟨_, _, X25.lreturnOut hx Bd.returns (hb hby d3_13) hr, hrun, hended, _, _, rfl, ?_, ⟨_, rfl⟩, hW, hsame.mono (by decide) (by decide)⟩
  show Q3 Z a0 a1 k2 q3 q4 q5 a6 k7 q8 q9 q10 h0 n0 _ T25.heap _
  rw [e25]
  exact ⟨rfl, N0, rfl⟩
theorem pd_1 : parseMethodDescriptor "(I)J" = some ⟨[.int], some .long⟩ := by decide +kernel
def Q3a (Z : State) (a0 : Addr) (a1 : Addr) (k2 : ClassId) (q3 : Int64) (q4 : Int64) (q5 : Int64) (a6 : Addr) (k7 : ClassId) (q8 : Int64) (q9 : Int64) (q10 : Int64) (h0 : Heap) (n0 : Nat) (v : Option Value) (h : Heap) (L : List Loc) : Prop := v = some (.long (q4 - q9)) ∧ Fr n0 L ∧ h = h0
set_option maxRecDepth 65536 in
set_option maxHeartbeats 40000000 in
theorem rm3a (l : Launch) (Z : State) (a0 : Array Value) (hw : ∀ d ∈ tables_1, d.before a0 Z = true) (ws : List Jvm.Cond) (a0 : Addr) (a1 : Addr) (k2 : ClassId) (q3 : Int64) (q4 : Int64) (q5 : Int64) (a6 : Addr) (k7 : ClassId) (q8 : Int64) (q9 : Int64) (q10 : Int64) (h0 : Heap) (n0 : Nat) (Z0 : n0 ≤ h0.size) (F0_a0 : Fld Z h0 a0 "com/example/libforage/libforage/IdGrid$Box" "hi" "[J" (.ref a1)) (V_a1 : Arv Z h0 a1 k2 .long (3 : Int32) [(.long q3), (.long q4), (.long q5)] (.long (0 : Int64))) (F2_a0 : Fld Z h0 a0 "com/example/libforage/libforage/IdGrid$Box" "lo" "[J" (.ref a6)) (V_a6 : Arv Z h0 a6 k7 .long (3 : Int32) [(.long q8), (.long q9), (.long q10)] (.long (0 : Int64))) :
    MetFree l (⟨"com/example/libforage/libforage/IdGrid$Box", "side", "(I)J"⟩ : MethodName) (head1 (Jvm.Cond.code (⟨"com/example/libforage/libforage/IdGrid$Box", "side", "(I)J"⟩ : MethodName) prog_48_method_4_code 2 (some .long) :: ws) ({ frames := 0, cells := 0, slots := 0, locals := 0 } : Room)) (fun a U => a = #[(.ref a0), (.int (1 : Int32))] ∧ Z.Warmed39 U.vm ∧ U.heap = h0) (fun _ _ _ _ _ => True) (fun _ U o U' => ∃ v L, o = .returned v ∧ Q3a Z a0 a1 k2 q3 q4 q5 a6 k7 q8 q9 q10 h0 n0 v U'.heap L ∧ FrameEnd U o U' L ({ frames := 0, cells := 0, slots := 0, locals := 0 } : Room).cells ({ frames := 0, cells := 0, slots := 0, locals := 0 } : Room).slots) := by
  refine MetFree.of_bodySF (plainFor_of_name pn_0) hisR ?_
  intro p e s m args below meth c s₁ Bd hml0 hP hK
  obtain ⟨rfl, hZ, hh⟩ := hP
  have hx := Bd.exec
  have hby := Bd.bytes
  have hml : c.maxLocals = 2 := hml0
  have hown : s.vm.findClass "com/example/libforage/libforage/IdGrid$Box" = some m.cls := findClass_of_methodNamed Bd.named
  have hnm := (name_of_methodNamed Bd.named Bd.method).1
  have X0 : Stand p l e ({ frames := 0, cells := 0, slots := 0, locals := 0 } : Room) s m #[(.ref a0), (.int (1 : Int32))] below meth c s₁ [] 0 0 := Stand.of_body Bd
  have e0 : s₁.heap = h0 := by rw [← hh, Bd.state]; rfl
  have N0 := Fr.nil n0
  refine OGl.start (ef_3 m a0 (1 : Int32)) ?_
  show OGl _ _ _ _ s₁ (mkF m 0 #[.val (.ref a0), .val (.int (1 : Int32))] [])
  refine OGl.go (fun t k => XS.aloadN X0.here hx rfl (hb hby d3_0) rfl rfl k) ?_
  show OGl _ _ _ _ s₁ (mkF m 1 #[.val (.ref a0), .val (.int (1 : Int32))] [(.ref a0)])
  obtain ⟨T31, X31, e31, st31⟩ := getF X0 hx hZ hown (host := "") (Or.inl (hw _ (List.mem_of_getElem? (i := 13) rfl))) Via.refl e0 F0_a0 (g := (mkF m 1 #[.val (.ref a0), .val (.int (1 : Int32))] [(.ref a0)])) rfl rfl (hb hby d3_1)
  refine OGl.go st31 ?_
  show OGl _ _ _ _ T31 (mkF m 4 #[.val (.ref a0), .val (.int (1 : Int32))] [(.ref a1)])
  obtain ⟨cl32, Ar32, -, Sz32, -, Ha32, -⟩ := V_a1
  have hin32 : ¬ ((1 : Int32) < 0 ∨ cl32.slots.size ≤ ((1 : Int32)).toNatClampNeg) := inb_of Sz32 ⟨by decide, by decide⟩
  refine OGl.go (fun t k => XS.iloadN X31.here hx rfl (hb hby d3_4) rfl (own_laload X31 hx (j := (1 : Int32)) (v := (.long q4)) (by rw [e31]; exact Ar32.1) (State.isArrayOf_alike hZ.alike Ar32.2.1) Ar32.2.2 hin32 (Has.at Ha32 hin32 rfl) rfl rfl (hb hby d3_5) (XS.aloadN X31.here hx rfl (hb hby d3_6) rfl rfl k))) ?_
  show OGl _ _ _ _ T31 (mkF m 7 #[.val (.ref a0), .val (.int (1 : Int32))] [(.ref a0), (.long q4)])
  obtain ⟨T33, X33, e33, st33⟩ := getF X31 hx hZ hown (host := "") (Or.inl (hw _ (List.mem_of_getElem? (i := 11) rfl))) Via.refl e31 F2_a0 (g := (mkF m 7 #[.val (.ref a0), .val (.int (1 : Int32))] [(.ref a0), (.long q4)])) rfl rfl (hb hby d3_7)
  refine OGl.go st33 ?_
  show OGl _ _ _ _ T33 (mkF m 10 #[.val (.ref a0), .val (.int (1 : Int32))] [(.ref a6), (.long q4)])
  obtain ⟨cl34, Ar34, -, Sz34, -, Ha34, -⟩ := V_a6
  have hin34 : ¬ ((1 : Int32) < 0 ∨ cl34.slots.size ≤ ((1 : Int32)).toNatClampNeg) := inb_of Sz34 ⟨by decide, by decide⟩
  refine OGl.go (fun t k => XS.iloadN X33.here hx rfl (hb hby d3_10) rfl (own_laload X33 hx (j := (1 : Int32)) (v := (.long q9)) (by rw [e33]; exact Ar34.1) (State.isArrayOf_alike hZ.alike Ar34.2.1) Ar34.2.2 hin34 (Has.at Ha34 hin34 rfl) rfl rfl (hb hby d3_11) (XS.lsub X33.here hx rfl (hb hby d3_12) rfl k))) ?_
  show OGl _ _ _ _ T33 (mkF m 13 #[.val (.ref a0), .val (.int (1 : Int32))] [(.long (q4 - q9))])
  obtain ⟨fs, hr, hrun, hended, hW, hsame⟩ := X33.leave (v := some (.long (q4 - q9))) (fun h => by rw [Bd.returns] at h; cases h)
  refine ⟨_, _, X33.lreturnOut hx Bd.returns (hb hby d3_13) hr, hrun, hended, _, _, rfl, ?_, ⟨_, rfl⟩, hW, hsame.mono (by decide) (by decide)⟩
  show Q3a Z a0 a1 k2 q3 q4 q5 a6 k7 q8 q9 q10 h0 n0 _ T33.heap _
  rw [e33]
  exact ⟨rfl, N0, rfl⟩
def Q3b (Z : State) (a0 : Addr) (a1 : Addr) (k2 : ClassId) (q3 : Int64) (q4 : Int64) (q5 : Int64) (a6 : Addr) (k7 : ClassId) (q8 : Int64) (q9 : Int64) (q10 : Int64) (h0 : Heap) (n0 : Nat) (v : Option Value) (h : Heap) (L : List Loc) : Prop := v = some (.long (q5 - q10)) ∧ Fr n0 L ∧ h = h0
set_option maxRecDepth 65536 in
set_option maxHeartbeats 40000000 in
theorem rm3b (l : Launch) (Z : State) (a0 : Array Value) (hw : ∀ d ∈ tables_1, d.before a0 Z = true) (ws : List Jvm.Cond) (a0 : Addr) (a1 : Addr) (k2 : ClassId) (q3 : Int64) (q4 : Int64) (q5 : Int64) (a6 : Addr) (k7 : ClassId) (q8 : Int64) (q9 : Int64) (q10 : Int64) (h0 : Heap) (n0 : Nat) (Z0 : n0 ≤ h0.size) (F0_a0 : Fld Z h0 a0 "com/example/libforage/libforage/IdGrid$Box" "hi" "[J" (.ref a1)) (V_a1 : Arv Z h0 a1 k2 .long (3 : Int32) [(.long q3), (.long q4), (.long q5)] (.long (0 : Int64))) (F2_a0 : Fld Z h0 a0 "com/example/libforage/libforage/IdGrid$Box" "lo" "[J" (.ref a6)) (V_a6 : Arv Z h0 a6 k7 .long (3 : Int32) [(.long q8), (.long q9), (.long q10)] (.long (0 : Int64))) :
    MetFree l (⟨"com/example/libforage/libforage/IdGrid$Box", "side", "(I)J"⟩ : MethodName) (head1 (Jvm.Cond.code (⟨"com/example/libforage/libforage/IdGrid$Box", "side", "(I)J"⟩ : MethodName) prog_48_method_4_code 2 (some .long) :: ws) ({ frames := 0, cells := 0, slots := 0, locals := 0 } : Room)) (fun a U => a = #[(.ref a0), (.int (2 : Int32))] ∧ Z.Warmed39 U.vm ∧ U.heap = h0) (fun _ _ _ _ _ => True) (fun _ U o U' => ∃ v L, o = .returned v ∧ Q3b Z a0 a1 k2 q3 q4 q5 a6 k7 q8 q9 q10 h0 n0 v U'.heap L ∧ FrameEnd U o U' L ({ frames := 0, cells := 0, slots := 0, locals := 0 } : Room).cells ({ frames := 0, cells := 0, slots := 0, locals := 0 } : Room).slots) := by
  refine MetFree.of_bodySF (plainFor_of_name pn_0) hisR ?_
  intro p e s m args below meth c s₁ Bd hml0 hP hK
  obtain ⟨rfl, hZ, hh⟩ := hP
  have hx := Bd.exec
  have hby := Bd.bytes
  have hml : c.maxLocals = 2 := hml0
  have hown : s.vm.findClass "com/example/libforage/libforage/IdGrid$Box" = some m.cls := findClass_of_methodNamed Bd.named
  have hnm := (name_of_methodNamed Bd.named Bd.method).1
  have X0 : Stand p l e ({ frames := 0, cells := 0, slots := 0, locals := 0 } : Room) s m #[(.ref a0), (.int (2 : Int32))] below meth c s₁ [] 0 0 := Stand.of_body Bd
  have e0 : s₁.heap = h0 := by rw [← hh, Bd.state]; rfl
  have N0 := Fr.nil n0
  refine OGl.start (ef_3 m a0 (2 : Int32)) ?_
  show OGl _ _ _ _ s₁ (mkF m 0 #[.val (.ref a0), .val (.int (2 : Int32))] [])
  refine OGl.go (fun t k => XS.aloadN X0.here hx rfl (hb hby d3_0) rfl rfl k) ?_
  show OGl _ _ _ _ s₁ (mkF m 1 #[.val (.ref a0), .val (.int (2 : Int32))] [(.ref a0)])
  obtain ⟨T36, X36, e36, st36⟩ := getF X0 hx hZ hown (host := "") (Or.inl (hw _ (List.mem_of_getElem? (i := 13) rfl))) Via.refl e0 F0_a0 (g := (mkF m 1 #[.val (.ref a0), .val (.int (2 : Int32))] [(.ref a0)])) rfl rfl (hb hby d3_1)
  refine OGl.go st36 ?_
  show OGl _ _ _ _ T36 (mkF m 4 #[.val (.ref a0), .val (.int (2 : Int32))] [(.ref a1)])
  obtain ⟨cl37, Ar37, -, Sz37, -, Ha37, -⟩ := V_a1
  have hin37 : ¬ ((2 : Int32) < 0 ∨ cl37.slots.size ≤ ((2 : Int32)).toNatClampNeg) := inb_of Sz37 ⟨by decide, by decide⟩
  refine OGl.go (fun t k => XS.iloadN X36.here hx rfl (hb hby d3_4) rfl (own_laload X36 hx (j := (2 : Int32)) (v := (.long q5)) (by rw [e36]; exact Ar37.1) (State.isArrayOf_alike hZ.alike Ar37.2.1) Ar37.2.2 hin37 (Has.at Ha37 hin37 rfl) rfl rfl (hb hby d3_5) (XS.aloadN X36.here hx rfl (hb hby d3_6) rfl rfl k))) ?_
  show OGl _ _ _ _ T36 (mkF m 7 #[.val (.ref a0), .val (.int (2 : Int32))] [(.ref a0), (.long q5)])
  obtain ⟨T38, X38, e38, st38⟩ := getF X36 hx hZ hown (host := "") (Or.inl (hw _ (List.mem_of_getElem? (i := 11) rfl))) Via.refl e36 F2_a0 (g := (mkF m 7 #[.val (.ref a0), .val (.int (2 : Int32))] [(.ref a0), (.long q5)])) rfl rfl (hb hby d3_7)
  refine OGl.go st38 ?_
  show OGl _ _ _ _ T38 (mkF m 10 #[.val (.ref a0), .val (.int (2 : Int32))] [(.ref a6), (.long q5)])
  obtain ⟨cl39, Ar39, -, Sz39, -, Ha39, -⟩ := V_a6
  have hin39 : ¬ ((2 : Int32) < 0 ∨ cl39.slots.size ≤ ((2 : Int32)).toNatClampNeg) := inb_of Sz39 ⟨by decide, by decide⟩
  refine OGl.go (fun t k => XS.iloadN X38.here hx rfl (hb hby d3_10) rfl (own_laload X38 hx (j := (2 : Int32)) (v := (.long q10)) (by rw [e38]; exact Ar39.1) (State.isArrayOf_alike hZ.alike Ar39.2.1) Ar39.2.2 hin39 (Has.at Ha39 hin39 rfl) rfl rfl (hb hby d3_11) (XS.lsub X38.here hx rfl (hb hby d3_12) rfl k))) ?_
  show OGl _ _ _ _ T38 (mkF m 13 #[.val (.ref a0), .val (.int (2 : Int32))] [(.long (q5 - q10))])
  obtain ⟨fs, hr, hrun, hended, hW, hsame⟩ := X38.leave (v := some (.long (q5 - q10))) (fun h => by rw [Bd.returns] at h; cases h)
  refine ⟨_, _, X38.lreturnOut hx Bd.returns (hb hby d3_13) hr, hrun, hended, _, _, rfl, ?_, ⟨_, rfl⟩, hW, hsame.mono (by decide) (by decide)⟩
  show Q3b Z a0 a1 k2 q3 q4 q5 a6 k7 q8 q9 q10 h0 n0 _ T38.heap _
  rw [e38]
  exact ⟨rfl, N0, rfl⟩
def e0_0 (q0 : Int64) (q3 : Int64) : Int64 := ((q0 &&& (4611686018427387903 : Int64)) + ((q3 &&& (4611686018427387903 : Int64)) + (1 : Int64)))
def e0_1 (q1 : Int64) (q4 : Int64) : Int64 := ((q1 &&& (4611686018427387903 : Int64)) + ((q4 &&& (4611686018427387903 : Int64)) + (1 : Int64)))
def e0_2 (q2 : Int64) (q5 : Int64) : Int64 := ((q2 &&& (4611686018427387903 : Int64)) + ((q5 &&& (4611686018427387903 : Int64)) + (1 : Int64)))
theorem ef_0 (m : MethodId) (x0 : Int64) (x1 : Int64) (x2 : Int64) (x3 : Int64) (x4 : Int64) (x5 : Int64) : entryFrame m #[(.long x0), (.long x1), (.long x2), (.long x3), (.long x4), (.long x5)] maxLocals = mkF m 0 #[.val (.long x0), .second, .val (.long x1), .second, .val (.long x2), .second, .val (.long x3), .second, .val (.long x4), .second, .val (.long x5), .second, .unset, .unset, .unset, .unset, .unset, .unset, .unset, .unset, .unset, .unset, .unset, .unset, .unset, .unset, .unset, .unset, .unset, .unset, .unset, .unset, .unset] [] := by first | (simp [entryFrame, mkF, argsToLocals, Value.category, maxLocals]; done) | rfl
theorem pn_1 : plainName "com/example/libforage/libforage/BoxSidePinLaw" = true := by first | (simp [plainName, overriddenIn]; done) | decide +kernel
def t0_0 (q0 : Int64) (q1 : Int64) (q2 : Int64) (q3 : Int64) (q4 : Int64) (q5 : Int64) : Int32 := (if ((e0_0 q0 q3) - (q0 &&& (4611686018427387903 : Int64))) = ((q3 &&& (4611686018427387903 : Int64)) + (1 : Int64)) then (if ((e0_1 q1 q4) - (q1 &&& (4611686018427387903 : Int64))) = ((q4 &&& (4611686018427387903 : Int64)) + (1 : Int64)) then (if ((e0_2 q2 q5) - (q2 &&& (4611686018427387903 : Int64))) = ((q5 &&& (4611686018427387903 : Int64)) + (1 : Int64)) then (1 : Int32) else (0 : Int32)) else (0 : Int32)) else (0 : Int32))
def Q0 (Z : State) (q0 : Int64) (q1 : Int64) (q2 : Int64) (q3 : Int64) (q4 : Int64) (q5 : Int64) (h0 : Heap) (n0 : Nat) (v : Option Value) (h : Heap) (L : List Loc) : Prop := v = some (.int (t0_0 q0 q1 q2 q3 q4 q5)) ∧ Fr n0 L
set_option maxRecDepth 65536 in
set_option maxHeartbeats 40000000 in
theorem rm0 (l : Launch) (Z : State) (a0 : Array Value) (hw : ∀ d ∈ tables_1, d.before a0 Z = true) (ws : List Jvm.Cond) (q0 : Int64) (q1 : Int64) (q2 : Int64) (q3 : Int64) (q4 : Int64) (q5 : Int64) (h0 : Heap) (n0 : Nat) (Z0 : n0 ≤ h0.size) :
    MetFree l x (head1 (Jvm.Cond.code x code maxLocals ret :: ws) room_1) (fun a U => a = #[(.long q0), (.long q1), (.long q2), (.long q3), (.long q4), (.long q5)] ∧ Z.Warmed39 U.vm ∧ U.heap = h0) (fun _ _ _ _ _ => True) (fun _ U o U' => ∃ v L, o = .returned v ∧ Q0 Z q0 q1 q2 q3 q4 q5 h0 n0 v U'.heap L ∧ FrameEnd U o U' L 3 8) := by
  refine MetFree.of_bodySF (plainFor_of_name pn_1) hisR ?_
  intro p e s m args below meth c s₁ Bd hml0 hP hK
  obtain ⟨rfl, hZ, hh⟩ := hP
  have hx := Bd.exec
  have hby := Bd.bytes
  have hml : c.maxLocals = 33 := hml0
  have hown : s.vm.findClass "com/example/libforage/libforage/BoxSidePinLaw" = some m.cls := findClass_of_methodNamed Bd.named
  have hnm := (name_of_methodNamed Bd.named Bd.method).1
  have X0 : Stand p l e room_1 s m #[(.long q0), (.long q1), (.long q2), (.long q3), (.long q4), (.long q5)] below meth c s₁ [] 0 0 := Stand.of_body Bd
  have e0 : s₁.heap = h0 := by rw [← hh, Bd.state]; rfl
  have N0 := Fr.nil n0
  refine OGl.start (ef_0 m q0 q1 q2 q3 q4 q5) ?_
  show OGl _ _ _ _ s₁ (mkF m 0 #[.val (.long q0), .second, .val (.long q1), .second, .val (.long q2), .second, .val (.long q3), .second, .val (.long q4), .second, .val (.long q5), .second, .unset, .unset, .unset, .unset, .unset, .unset, .unset, .unset, .unset, .unset, .unset, .unset, .unset, .unset, .unset, .unset, .unset, .unset, .unset, .unset, .unset] [])
  refine OGl.go (fun t k => XS.lloadN X0.here hx rfl (hb hby at_0) rfl (own_ldc2 X0 hx hown (mvT hZ (hw _ (List.mem_of_getElem? (i := 0) rfl))) rfl (hb hby at_1) (XS.land X0.here hx rfl (hb hby at_4) rfl (XS.lstore X0.here hx rfl (hb hby at_5) rfl (l' := #[.val (.long q0), .second, .val (.long q1), .second, .val (.long q2), .second, .val (.long q3), .second, .val (.long q4), .second, .val (.long q5), .second, .val (.long (q0 &&& (4611686018427387903 : Int64))), .second, .unset, .unset, .unset, .unset, .unset, .unset, .unset, .unset, .unset, .unset, .unset, .unset, .unset, .unset, .unset, .unset, .unset, .unset, .unset]) rfl (XS.lloadN X0.here hx rfl (hb hby at_7) rfl (own_ldc2 X0 hx hown (mvT hZ (hw _ (List.mem_of_getElem? (i := 0) rfl))) rfl (hb hby at_8) (XS.land X0.here hx rfl (hb hby at_11) rfl (XS.lstore X0.here hx rfl (hb hby at_12) rfl (l' := #[.val (.long q0), .second, .val (.long q1), .second, .val (.long q2), .second, .val (.long q3), .second, .val (.long q4), .second, .val (.long q5), .second, .val (.long (q0 &&& (4611686018427387903 : Int64))), .second, .val (.long (q1 &&& (4611686018427387903 : Int64))), .second, .unset, .unset, .unset, .unset, .unset, .unset, .unset, .unset, .unset, .unset, .unset, .unset, .unset, .unset, .unset, .unset, .unset]) rfl k)))))))) ?_
  show OGl _ _ _ _ s₁ (mkF m 14 #[.val (.long q0), .second, .val (.long q1), .second, .val (.long q2), .second, .val (.long q3), .second, .val (.long q4), .second, .val (.long q5), .second, .val (.long (q0 &&& (4611686018427387903 : Int64))), .second, .val (.long (q1 &&& (4611686018427387903 : Int64))), .second, .unset, .unset, .unset, .unset, .unset, .unset, .unset, .unset, .unset, .unset, .unset, .unset, .unset, .unset, .unset, .unset, .unset] [])
  refine OGl.go (fun t k => XS.lload X0.here hx rfl (hb hby at_14) rfl (own_ldc2 X0 hx hown (mvT hZ (hw _ (List.mem_of_getElem? (i := 0) rfl))) rfl (hb hby at_16) (XS.land X0.here hx rfl (hb hby at_19) rfl (XS.lstore X0.here hx rfl (hb hby at_20) rfl (l' := #[.val (.long q0), .second, .val (.long q1), .second, .val (.long q2), .second, .val (.long q3), .second, .val (.long q4), .second, .val (.long q5), .second, .val (.long (q0 &&& (4611686018427387903 : Int64))), .second, .val (.long (q1 &&& (4611686018427387903 : Int64))), .second, .val (.long (q2 &&& (4611686018427387903 : Int64))), .second, .unset, .unset, .unset, .unset, .unset, .unset, .unset, .unset, .unset, .unset, .unset, .unset, .unset, .unset, .unset]) rfl (XS.lload X0.here hx rfl (hb hby at_22) rfl (own_ldc2 X0 hx hown (mvT hZ (hw _ (List.mem_of_getElem? (i := 0) rfl))) rfl (hb hby at_24) (XS.land X0.here hx rfl (hb hby at_27) rfl (XS.lconst X0.here hx rfl (hb hby at_28) k)))))))) ?_
  show OGl _ _ _ _ s₁ (mkF m 29 #[.val (.long q0), .second, .val (.long q1), .second, .val (.long q2), .second, .val (.long q3), .second, .val (.long q4), .second, .val (.long q5), .second, .val (.long (q0 &&& (4611686018427387903 : Int64))), .second, .val (.long (q1 &&& (4611686018427387903 : Int64))), .second, .val (.long (q2 &&& (4611686018427387903 : Int64))), .second, .unset, .unset, .unset, .unset, .unset, .unset, .unset, .unset, .unset, .unset, .unset, .unset, .unset, .unset, .unset] [(.long (1 : Int64)), (.long (q3 &&& (4611686018427387903 : Int64)))])
  refine OGl.go (fun t k => XS.ladd X0.here hx rfl (hb hby at_29) rfl (XS.lstore X0.here hx rfl (hb hby at_30) rfl (l' := #[.val (.long q0), .second, .val (.long q1), .second, .val (.long q2), .second, .val (.long q3), .second, .val (.long q4), .second, .val (.long q5), .second, .val (.long (q0 &&& (4611686018427387903 : Int64))), .second, .val (.long (q1 &&& (4611686018427387903 : Int64))), .second, .val (.long (q2 &&& (4611686018427387903 : Int64))), .second, .val (.long ((q3 &&& (4611686018427387903 : Int64)) + (1 : Int64))), .second, .unset, .unset, .unset, .unset, .unset, .unset, .unset, .unset, .unset, .unset, .unset, .unset, .unset]) rfl (XS.lload X0.here hx rfl (hb hby at_32) rfl (own_ldc2 X0 hx hown (mvT hZ (hw _ (List.mem_of_getElem? (i := 0) rfl))) rfl (hb hby at_34) (XS.land X0.here hx rfl (hb hby at_37) rfl (XS.lconst X0.here hx rfl (hb hby at_38) (XS.ladd X0.here hx rfl (hb hby at_39) rfl (XS.lstore X0.here hx rfl (hb hby at_40) rfl (l' := #[.val (.long q0), .second, .val (.long q1), .second, .val (.long q2), .second, .val (.long q3), .second, .val (.long q4), .second, .val (.long q5), .second, .val (.long (q0 &&& (4611686018427387903 : Int64))), .second, .val (.long (q1 &&& (4611686018427387903 : Int64))), .second, .val (.long (q2 &&& (4611686018427387903 : Int64))), .second, .val (.long ((q3 &&& (4611686018427387903 : Int64)) + (1 : Int64))), .second, .val (.long ((q4 &&& (4611686018427387903 : Int64)) + (1 : Int64))), .second, .unset, .unset, .unset, .unset, .unset, .unset, .unset, .unset, .unset, .unset, .unset]) rfl k)))))))) ?_
  show OGl _ _ _ _ s₁ (mkF m 42 #[.val (.long q0), .second, .val (.long q1), .second, .val (.long q2), .second, .val (.long q3), .second, .val (.long q4), .second, .val (.long q5), .second, .val (.long (q0 &&& (4611686018427387903 : Int64))), .second, .val (.long (q1 &&& (4611686018427387903 : Int64))), .second, .val (.long (q2 &&& (4611686018427387903 : Int64))), .second, .val (.long ((q3 &&& (4611686018427387903 : Int64)) + (1 : Int64))), .second, .val (.long ((q4 &&& (4611686018427387903 : Int64)) + (1 : Int64))), .second, .unset, .unset, .unset, .unset, .unset, .unset, .unset, .unset, .unset, .unset, .unset] [])
  refine OGl.go (fun t k => XS.lload X0.here hx rfl (hb hby at_42) rfl (own_ldc2 X0 hx hown (mvT hZ (hw _ (List.mem_of_getElem? (i := 0) rfl))) rfl (hb hby at_44) (XS.land X0.here hx rfl (hb hby at_47) rfl (XS.lconst X0.here hx rfl (hb hby at_48) (XS.ladd X0.here hx rfl (hb hby at_49) rfl (XS.lstore X0.here hx rfl (hb hby at_50) rfl (l' := #[.val (.long q0), .second, .val (.long q1), .second, .val (.long q2), .second, .val (.long q3), .second, .val (.long q4), .second, .val (.long q5), .second, .val (.long (q0 &&& (4611686018427387903 : Int64))), .second, .val (.long (q1 &&& (4611686018427387903 : Int64))), .second, .val (.long (q2 &&& (4611686018427387903 : Int64))), .second, .val (.long ((q3 &&& (4611686018427387903 : Int64)) + (1 : Int64))), .second, .val (.long ((q4 &&& (4611686018427387903 : Int64)) + (1 : Int64))), .second, .val (.long ((q5 &&& (4611686018427387903 : Int64)) + (1 : Int64))), .second, .unset, .unset, .unset, .unset, .unset, .unset, .unset, .unset, .unset]) rfl (XS.iconst X0.here hx rfl (hb hby at_52) k))))))) ?_
  show OGl _ _ _ _ s₁ (mkF m 53 #[.val (.long q0), .second, .val (.long q1), .second, .val (.long q2), .second, .val (.long q3), .second, .val (.long q4), .second, .val (.long q5), .second, .val (.long (q0 &&& (4611686018427387903 : Int64))), .second, .val (.long (q1 &&& (4611686018427387903 : Int64))), .second, .val (.long (q2 &&& (4611686018427387903 : Int64))), .second, .val (.long ((q3 &&& (4611686018427387903 : Int64)) + (1 : Int64))), .second, .val (.long ((q4 &&& (4611686018427387903 : Int64)) + (1 : Int64))), .second, .val (.long ((q5 &&& (4611686018427387903 : Int64)) + (1 : Int64))), .second, .unset, .unset, .unset, .unset, .unset, .unset, .unset, .unset, .unset] [(.int (3 : Int32))])
  obtain ⟨T1, h1, k1, X1, e1, E1, A1, st1⟩ := newP X0 hx hZ (hw _ (List.mem_of_getElem? (i := 1) rfl)) e0 (g := (mkF m 53 #[.val (.long q0), .second, .val (.long q1), .second, .val (.long q2), .second, .val (.long q3), .second, .val (.long q4), .second, .val (.long q5), .second, .val (.long (q0 &&& (4611686018427387903 : Int64))), .second, .val (.long (q1 &&& (4611686018427387903 : Int64))), .second, .val (.long (q2 &&& (4611686018427387903 : Int64))), .second, .val (.long ((q3 &&& (4611686018427387903 : Int64)) + (1 : Int64))), .second, .val (.long ((q4 &&& (4611686018427387903 : Int64)) + (1 : Int64))), .second, .val (.long ((q5 &&& (4611686018427387903 : Int64)) + (1 : Int64))), .second, .unset, .unset, .unset, .unset, .unset, .unset, .unset, .unset, .unset] [(.int (3 : Int32))])) rfl (hb hby at_53) rfl (by decide) (cap := 3) (by decide) (by decide) (by decide) (by decide)
  obtain ⟨b1, gb1⟩ : ∃ z, z = h0.size := ⟨_, rfl⟩
  rw [← gb1] at A1 st1
  have sz_b1 : h0.size ≤ b1 := Nat.le_trans (Keep.refl h0 []).1 (Nat.le_of_eq gb1.symm)
  have g_b1 : n0 ≤ b1 := Nat.le_trans Z0 sz_b1
  have V1 : Arv Z h1 b1 k1 .long (3 : Int32) [(.long (0 : Int64)), (.long (0 : Int64)), (.long (0 : Int64))] (.long (0 : Int64)) := (Arv.new A1 (by decide)).pad (pad_rep [] (.long (0 : Int64)) 3)
  have KK1 : Keep h0 h1 [] := (Keep.refl h0 []).ext E1
  refine OGl.go st1 ?_
  show OGl _ _ _ _ T1 (mkF m 55 #[.val (.long q0), .second, .val (.long q1), .second, .val (.long q2), .second, .val (.long q3), .second, .val (.long q4), .second, .val (.long q5), .second, .val (.long (q0 &&& (4611686018427387903 : Int64))), .second, .val (.long (q1 &&& (4611686018427387903 : Int64))), .second, .val (.long (q2 &&& (4611686018427387903 : Int64))), .second, .val (.long ((q3 &&& (4611686018427387903 : Int64)) + (1 : Int64))), .second, .val (.long ((q4 &&& (4611686018427387903 : Int64)) + (1 : Int64))), .second, .val (.long ((q5 &&& (4611686018427387903 : Int64)) + (1 : Int64))), .second, .unset, .unset, .unset, .unset, .unset, .unset, .unset, .unset, .unset] [(.ref b1)])
  refine OGl.go (fun t k => XS.astore X1.here hx rfl (hb hby at_55) rfl rfl (l' := #[.val (.long q0), .second, .val (.long q1), .second, .val (.long q2), .second, .val (.long q3), .second, .val (.long q4), .second, .val (.long q5), .second, .val (.long (q0 &&& (4611686018427387903 : Int64))), .second, .val (.long (q1 &&& (4611686018427387903 : Int64))), .second, .val (.long (q2 &&& (4611686018427387903 : Int64))), .second, .val (.long ((q3 &&& (4611686018427387903 : Int64)) + (1 : Int64))), .second, .val (.long ((q4 &&& (4611686018427387903 : Int64)) + (1 : Int64))), .second, .val (.long ((q5 &&& (4611686018427387903 : Int64)) + (1 : Int64))), .second, .val (.ref b1), .unset, .unset, .unset, .unset, .unset, .unset, .unset, .unset]) rfl (XS.iconst X1.here hx rfl (hb hby at_57) k)) ?_
  show OGl _ _ _ _ T1 (mkF m 58 #[.val (.long q0), .second, .val (.long q1), .second, .val (.long q2), .second, .val (.long q3), .second, .val (.long q4), .second, .val (.long q5), .second, .val (.long (q0 &&& (4611686018427387903 : Int64))), .second, .val (.long (q1 &&& (4611686018427387903 : Int64))), .second, .val (.long (q2 &&& (4611686018427387903 : Int64))), .second, .val (.long ((q3 &&& (4611686018427387903 : Int64)) + (1 : Int64))), .second, .val (.long ((q4 &&& (4611686018427387903 : Int64)) + (1 : Int64))), .second, .val (.long ((q5 &&& (4611686018427387903 : Int64)) + (1 : Int64))), .second, .val (.ref b1), .unset, .unset, .unset, .unset, .unset, .unset, .unset, .unset] [(.int (3 : Int32))])
  obtain ⟨T2, h2, k2, X2, e2, E2, A2, st2⟩ := newP X1 hx hZ (hw _ (List.mem_of_getElem? (i := 1) rfl)) e1 (g := (mkF m 58 #[.val (.long q0), .second, .val (.long q1), .second, .val (.long q2), .second, .val (.long q3), .second, .val (.long q4), .second, .val (.long q5), .second, .val (.long (q0 &&& (4611686018427387903 : Int64))), .second, .val (.long (q1 &&& (4611686018427387903 : Int64))), .second, .val (.long (q2 &&& (4611686018427387903 : Int64))), .second, .val (.long ((q3 &&& (4611686018427387903 : Int64)) + (1 : Int64))), .second, .val (.long ((q4 &&& (4611686018427387903 : Int64)) + (1 : Int64))), .second, .val (.long ((q5 &&& (4611686018427387903 : Int64)) + (1 : Int64))), .second, .val (.ref b1), .unset, .unset, .unset, .unset, .unset, .unset, .unset, .unset] [(.int (3 : Int32))])) rfl (hb hby at_58) rfl (by decide) (cap := 3) (by decide) (by decide) (by decide) (by decide)
  obtain ⟨b2, gb2⟩ : ∃ z, z = h1.size := ⟨_, rfl⟩
  rw [← gb2] at A2 st2
  have ne_b1_b2 : b1 ≠ b2 := Nat.ne_of_lt (Nat.lt_of_lt_of_eq V1.lt gb2.symm)
  have sz_b2 : h0.size ≤ b2 := Nat.le_trans KK1.1 (Nat.le_of_eq gb2.symm)
  have g_b2 : n0 ≤ b2 := Nat.le_trans Z0 sz_b2
  have V2 : Arv Z h2 b2 k2 .long (3 : Int32) [(.long (0 : Int64)), (.long (0 : Int64)), (.long (0 : Int64))] (.long (0 : Int64)) := (Arv.new A2 (by decide)).pad (pad_rep [] (.long (0 : Int64)) 3)
  have KK2 : Keep h0 h2 [] := KK1.ext E2
  refine OGl.go st2 ?_
  show OGl _ _ _ _ T2 (mkF m 60 #[.val (.long q0), .second, .val (.long q1), .second, .val (.long q2), .second, .val (.long q3), .second, .val (.long q4), .second, .val (.long q5), .second, .val (.long (q0 &&& (4611686018427387903 : Int64))), .second, .val (.long (q1 &&& (4611686018427387903 : Int64))), .second, .val (.long (q2 &&& (4611686018427387903 : Int64))), .second, .val (.long ((q3 &&& (4611686018427387903 : Int64)) + (1 : Int64))), .second, .val (.long ((q4 &&& (4611686018427387903 : Int64)) + (1 : Int64))), .second, .val (.long ((q5 &&& (4611686018427387903 : Int64)) + (1 : Int64))), .second, .val (.ref b1), .unset, .unset, .unset, .unset, .unset, .unset, .unset, .unset] [(.ref b2)])
  refine OGl.go (fun t k => XS.astore X2.here hx rfl (hb hby at_60) rfl rfl (l' := #[.val (.long q0), .second, .val (.long q1), .second, .val (.long q2), .second, .val (.long q3), .second, .val (.long q4), .second, .val (.long q5), .second, .val (.long (q0 &&& (4611686018427387903 : Int64))), .second, .val (.long (q1 &&& (4611686018427387903 : Int64))), .second, .val (.long (q2 &&& (4611686018427387903 : Int64))), .second, .val (.long ((q3 &&& (4611686018427387903 : Int64)) + (1 : Int64))), .second, .val (.long ((q4 &&& (4611686018427387903 : Int64)) + (1 : Int64))), .second, .val (.long ((q5 &&& (4611686018427387903 : Int64)) + (1 : Int64))), .second, .val (.ref b1), .val (.ref b2), .unset, .unset, .unset, .unset, .unset, .unset, .unset]) rfl (XS.aload X2.here hx rfl (hb hby at_62) rfl rfl (XS.iconst X2.here hx rfl (hb hby at_64) (XS.lload X2.here hx rfl (hb hby at_65) rfl k)))) ?_
  show OGl _ _ _ _ T2 (mkF m 67 #[.val (.long q0), .second, .val (.long q1), .second, .val (.long q2), .second, .val (.long q3), .second, .val (.long q4), .second, .val (.long q5), .second, .val (.long (q0 &&& (4611686018427387903 : Int64))), .second, .val (.long (q1 &&& (4611686018427387903 : Int64))), .second, .val (.long (q2 &&& (4611686018427387903 : Int64))), .second, .val (.long ((q3 &&& (4611686018427387903 : Int64)) + (1 : Int64))), .second, .val (.long ((q4 &&& (4611686018427387903 : Int64)) + (1 : Int64))), .second, .val (.long ((q5 &&& (4611686018427387903 : Int64)) + (1 : Int64))), .second, .val (.ref b1), .val (.ref b2), .unset, .unset, .unset, .unset, .unset, .unset, .unset] [(.long (q0 &&& (4611686018427387903 : Int64))), (.int (0 : Int32)), (.ref b1)])
  have F3 := (V1.ext E2)
  obtain ⟨cl4, Ar4, qk4, Sz4, Nn4, Ha4, Gf4⟩ := F3
  have hin4 : ¬ ((0 : Int32) < 0 ∨ cl4.slots.size ≤ ((0 : Int32)).toNatClampNeg) := inb_of Sz4 ⟨by decide, by decide⟩
  obtain ⟨T4, h4, X4, e4, W4, st4⟩ := stJ X2 hx hZ e2 Ar4 (j := (0 : Int32)) hin4 (g := (mkF m 67 #[.val (.long q0), .second, .val (.long q1), .second, .val (.long q2), .second, .val (.long q3), .second, .val (.long q4), .second, .val (.long q5), .second, .val (.long (q0 &&& (4611686018427387903 : Int64))), .second, .val (.long (q1 &&& (4611686018427387903 : Int64))), .second, .val (.long (q2 &&& (4611686018427387903 : Int64))), .second, .val (.long ((q3 &&& (4611686018427387903 : Int64)) + (1 : Int64))), .second, .val (.long ((q4 &&& (4611686018427387903 : Int64)) + (1 : Int64))), .second, .val (.long ((q5 &&& (4611686018427387903 : Int64)) + (1 : Int64))), .second, .val (.ref b1), .val (.ref b2), .unset, .unset, .unset, .unset, .unset, .unset, .unset] [(.long (q0 &&& (4611686018427387903 : Int64))), (.int (0 : Int32)), (.ref b1)])) rfl rfl (hb hby at_67)
  have V4 : Arv Z h4 b1 k1 .long (3 : Int32) [(.long (q0 &&& (4611686018427387903 : Int64))), (.long (0 : Int64)), (.long (0 : Int64))] (.long (0 : Int64)) := Arv.set Ar4 qk4 Sz4 Nn4 Ha4 Gf4 rfl W4 0 rfl (Nat.le_of_ble_eq_true rfl)
  refine OGl.go st4 ?_
  have N4 := Fr.snoc X4 N0 g_b1
  have KK4 : Keep h0 h4 [] := KK2.wr W4 (Or.inr sz_b1)
  show OGl _ _ _ _ T4 (mkF m 68 #[.val (.long q0), .second, .val (.long q1), .second, .val (.long q2), .second, .val (.long q3), .second, .val (.long q4), .second, .val (.long q5), .second, .val (.long (q0 &&& (4611686018427387903 : Int64))), .second, .val (.long (q1 &&& (4611686018427387903 : Int64))), .second, .val (.long (q2 &&& (4611686018427387903 : Int64))), .second, .val (.long ((q3 &&& (4611686018427387903 : Int64)) + (1 : Int64))), .second, .val (.long ((q4 &&& (4611686018427387903 : Int64)) + (1 : Int64))), .second, .val (.long ((q5 &&& (4611686018427387903 : Int64)) + (1 : Int64))), .second, .val (.ref b1), .val (.ref b2), .unset, .unset, .unset, .unset, .unset, .unset, .unset] [])
  refine OGl.go (fun t k => XS.aload X4.here hx rfl (hb hby at_68) rfl rfl (XS.iconst X4.here hx rfl (hb hby at_70) (XS.lload X4.here hx rfl (hb hby at_71) rfl k))) ?_
  show OGl _ _ _ _ T4 (mkF m 73 #[.val (.long q0), .second, .val (.long q1), .second, .val (.long q2), .second, .val (.long q3), .second, .val (.long q4), .second, .val (.long q5), .second, .val (.long (q0 &&& (4611686018427387903 : Int64))), .second, .val (.long (q1 &&& (4611686018427387903 : Int64))), .second, .val (.long (q2 &&& (4611686018427387903 : Int64))), .second, .val (.long ((q3 &&& (4611686018427387903 : Int64)) + (1 : Int64))), .second, .val (.long ((q4 &&& (4611686018427387903 : Int64)) + (1 : Int64))), .second, .val (.long ((q5 &&& (4611686018427387903 : Int64)) + (1 : Int64))), .second, .val (.ref b1), .val (.ref b2), .unset, .unset, .unset, .unset, .unset, .unset, .unset] [(.long (q1 &&& (4611686018427387903 : Int64))), (.int (1 : Int32)), (.ref b1)])
  obtain ⟨cl5, Ar5, qk5, Sz5, Nn5, Ha5, Gf5⟩ := V4
  have hin5 : ¬ ((1 : Int32) < 0 ∨ cl5.slots.size ≤ ((1 : Int32)).toNatClampNeg) := inb_of Sz5 ⟨by decide, by decide⟩
  obtain ⟨T5, h5, X5, e5, W5, st5⟩ := stJ X4 hx hZ e4 Ar5 (j := (1 : Int32)) hin5 (g := (mkF m 73 #[.val (.long q0), .second, .val (.long q1), .second, .val (.long q2), .second, .val (.long q3), .second, .val (.long q4), .second, .val (.long q5), .second, .val (.long (q0 &&& (4611686018427387903 : Int64))), .second, .val (.long (q1 &&& (4611686018427387903 : Int64))), .second, .val (.long (q2 &&& (4611686018427387903 : Int64))), .second, .val (.long ((q3 &&& (4611686018427387903 : Int64)) + (1 : Int64))), .second, .val (.long ((q4 &&& (4611686018427387903 : Int64)) + (1 : Int64))), .second, .val (.long ((q5 &&& (4611686018427387903 : Int64)) + (1 : Int64))), .second, .val (.ref b1), .val (.ref b2), .unset, .unset, .unset, .unset, .unset, .unset, .unset] [(.long (q1 &&& (4611686018427387903 : Int64))), (.int (1 : Int32)), (.ref b1)])) rfl rfl (hb hby at_73)
  have V5 : Arv Z h5 b1 k1 .long (3 : Int32) [(.long (q0 &&& (4611686018427387903 : Int64))), (.long (q1 &&& (4611686018427387903 : Int64))), (.long (0 : Int64))] (.long (0 : Int64)) := Arv.set Ar5 qk5 Sz5 Nn5 Ha5 Gf5 rfl W5 1 rfl (Nat.le_of_ble_eq_true rfl)
  refine OGl.go st5 ?_
  have N5 := Fr.snoc X5 N4 g_b1
  have KK5 : Keep h0 h5 [] := KK4.wr W5 (Or.inr sz_b1)
  show OGl _ _ _ _ T5 (mkF m 74 #[.val (.long q0), .second, .val (.long q1), .second, .val (.long q2), .second, .val (.long q3), .second, .val (.long q4), .second, .val (.long q5), .second, .val (.long (q0 &&& (4611686018427387903 : Int64))), .second, .val (.long (q1 &&& (4611686018427387903 : Int64))), .second, .val (.long (q2 &&& (4611686018427387903 : Int64))), .second, .val (.long ((q3 &&& (4611686018427387903 : Int64)) + (1 : Int64))), .second, .val (.long ((q4 &&& (4611686018427387903 : Int64)) + (1 : Int64))), .second, .val (.long ((q5 &&& (4611686018427387903 : Int64)) + (1 : Int64))), .second, .val (.ref b1), .val (.ref b2), .unset, .unset, .unset, .unset, .unset, .unset, .unset] [])
  refine OGl.go (fun t k => XS.aload X5.here hx rfl (hb hby at_74) rfl rfl (XS.iconst X5.here hx rfl (hb hby at_76) (XS.lload X5.here hx rfl (hb hby at_77) rfl k))) ?_
  show OGl _ _ _ _ T5 (mkF m 79 #[.val (.long q0), .second, .val (.long q1), .second, .val (.long q2), .second, .val (.long q3), .second, .val (.long q4), .second, .val (.long q5), .second, .val (.long (q0 &&& (4611686018427387903 : Int64))), .second, .val (.long (q1 &&& (4611686018427387903 : Int64))), .second, .val (.long (q2 &&& (4611686018427387903 : Int64))), .second, .val (.long ((q3 &&& (4611686018427387903 : Int64)) + (1 : Int64))), .second, .val (.long ((q4 &&& (4611686018427387903 : Int64)) + (1 : Int64))), .second, .val (.long ((q5 &&& (4611686018427387903 : Int64)) + (1 : Int64))), .second, .val (.ref b1), .val (.ref b2), .unset, .unset, .unset, .unset, .unset, .unset, .unset] [(.long (q2 &&& (4611686018427387903 : Int64))), (.int (2 : Int32)), (.ref b1)])
  obtain ⟨cl6, Ar6, qk6, Sz6, Nn6, Ha6, Gf6⟩ := V5
  have hin6 : ¬ ((2 : Int32) < 0 ∨ cl6.slots.size ≤ ((2 : Int32)).toNatClampNeg) := inb_of Sz6 ⟨by decide, by decide⟩
  obtain ⟨T6, h6, X6, e6, W6, st6⟩ := stJ X5 hx hZ e5 Ar6 (j := (2 : Int32)) hin6 (g := (mkF m 79 #[.val (.long q0), .second, .val (.long q1), .second, .val (.long q2), .second, .val (.long q3), .second, .val (.long q4), .second, .val (.long q5), .second, .val (.long (q0 &&& (4611686018427387903 : Int64))), .second, .val (.long (q1 &&& (4611686018427387903 : Int64))), .second, .val (.long (q2 &&& (4611686018427387903 : Int64))), .second, .val (.long ((q3 &&& (4611686018427387903 : Int64)) + (1 : Int64))), .second, .val (.long ((q4 &&& (4611686018427387903 : Int64)) + (1 : Int64))), .second, .val (.long ((q5 &&& (4611686018427387903 : Int64)) + (1 : Int64))), .second, .val (.ref b1), .val (.ref b2), .unset, .unset, .unset, .unset, .unset, .unset, .unset] [(.long (q2 &&& (4611686018427387903 : Int64))), (.int (2 : Int32)), (.ref b1)])) rfl rfl (hb hby at_79)
  have V6 : Arv Z h6 b1 k1 .long (3 : Int32) [(.long (q0 &&& (4611686018427387903 : Int64))), (.long (q1 &&& (4611686018427387903 : Int64))), (.long (q2 &&& (4611686018427387903 : Int64)))] (.long (0 : Int64)) := Arv.set Ar6 qk6 Sz6 Nn6 Ha6 Gf6 rfl W6 2 rfl (Nat.le_of_ble_eq_true rfl)
  refine OGl.go st6 ?_
  have N6 := Fr.snoc X6 N5 g_b1
  have KK6 : Keep h0 h6 [] := KK5.wr W6 (Or.inr sz_b1)
  show OGl _ _ _ _ T6 (mkF m 80 #[.val (.long q0), .second, .val (.long q1), .second, .val (.long q2), .second, .val (.long q3), .second, .val (.long q4), .second, .val (.long q5), .second, .val (.long (q0 &&& (4611686018427387903 : Int64))), .second, .val (.long (q1 &&& (4611686018427387903 : Int64))), .second, .val (.long (q2 &&& (4611686018427387903 : Int64))), .second, .val (.long ((q3 &&& (4611686018427387903 : Int64)) + (1 : Int64))), .second, .val (.long ((q4 &&& (4611686018427387903 : Int64)) + (1 : Int64))), .second, .val (.long ((q5 &&& (4611686018427387903 : Int64)) + (1 : Int64))), .second, .val (.ref b1), .val (.ref b2), .unset, .unset, .unset, .unset, .unset, .unset, .unset] [])
  refine OGl.go (fun t k => XS.aload X6.here hx rfl (hb hby at_80) rfl rfl (XS.iconst X6.here hx rfl (hb hby at_82) (XS.lload X6.here hx rfl (hb hby at_83) rfl (XS.lload X6.here hx rfl (hb hby at_85) rfl (XS.ladd X6.here hx rfl (hb hby at_87) rfl k))))) ?_
  show OGl _ _ _ _ T6 (mkF m 88 #[.val (.long q0), .second, .val (.long q1), .second, .val (.long q2), .second, .val (.long q3), .second, .val (.long q4), .second, .val (.long q5), .second, .val (.long (q0 &&& (4611686018427387903 : Int64))), .second, .val (.long (q1 &&& (4611686018427387903 : Int64))), .second, .val (.long (q2 &&& (4611686018427387903 : Int64))), .second, .val (.long ((q3 &&& (4611686018427387903 : Int64)) + (1 : Int64))), .second, .val (.long ((q4 &&& (4611686018427387903 : Int64)) + (1 : Int64))), .second, .val (.long ((q5 &&& (4611686018427387903 : Int64)) + (1 : Int64))), .second, .val (.ref b1), .val (.ref b2), .unset, .unset, .unset, .unset, .unset, .unset, .unset] [(.long (e0_0 q0 q3)), (.int (0 : Int32)), (.ref b2)])
  have F7 := (((V2.other W4 (Ne.symm ne_b1_b2)).other W5 (Ne.symm ne_b1_b2)).other W6 (Ne.symm ne_b1_b2))
  obtain ⟨cl8, Ar8, qk8, Sz8, Nn8, Ha8, Gf8⟩ := F7
  have hin8 : ¬ ((0 : Int32) < 0 ∨ cl8.slots.size ≤ ((0 : Int32)).toNatClampNeg) := inb_of Sz8 ⟨by decide, by decide⟩
  obtain ⟨T8, h8, X8, e8, W8, st8⟩ := stJ X6 hx hZ e6 Ar8 (j := (0 : Int32)) hin8 (g := (mkF m 88 #[.val (.long q0), .second, .val (.long q1), .second, .val (.long q2), .second, .val (.long q3), .second, .val (.long q4), .second, .val (.long q5), .second, .val (.long (q0 &&& (4611686018427387903 : Int64))), .second, .val (.long (q1 &&& (4611686018427387903 : Int64))), .second, .val (.long (q2 &&& (4611686018427387903 : Int64))), .second, .val (.long ((q3 &&& (4611686018427387903 : Int64)) + (1 : Int64))), .second, .val (.long ((q4 &&& (4611686018427387903 : Int64)) + (1 : Int64))), .second, .val (.long ((q5 &&& (4611686018427387903 : Int64)) + (1 : Int64))), .second, .val (.ref b1), .val (.ref b2), .unset, .unset, .unset, .unset, .unset, .unset, .unset] [(.long (e0_0 q0 q3)), (.int (0 : Int32)), (.ref b2)])) rfl rfl (hb hby at_88)
  have V8 : Arv Z h8 b2 k2 .long (3 : Int32) [(.long (e0_0 q0 q3)), (.long (0 : Int64)), (.long (0 : Int64))] (.long (0 : Int64)) := Arv.set Ar8 qk8 Sz8 Nn8 Ha8 Gf8 rfl W8 0 rfl (Nat.le_of_ble_eq_true rfl)
  refine OGl.go st8 ?_
  have N8 := Fr.snoc X8 N6 g_b2
  have KK8 : Keep h0 h8 [] := KK6.wr W8 (Or.inr sz_b2)
  show OGl _ _ _ _ T8 (mkF m 89 #[.val (.long q0), .second, .val (.long q1), .second, .val (.long q2), .second, .val (.long q3), .second, .val (.long q4), .second, .val (.long q5), .second, .val (.long (q0 &&& (4611686018427387903 : Int64))), .second, .val (.long (q1 &&& (4611686018427387903 : Int64))), .second, .val (.long (q2 &&& (4611686018427387903 : Int64))), .second, .val (.long ((q3 &&& (4611686018427387903 : Int64)) + (1 : Int64))), .second, .val (.long ((q4 &&& (4611686018427387903 : Int64)) + (1 : Int64))), .second, .val (.long ((q5 &&& (4611686018427387903 : Int64)) + (1 : Int64))), .second, .val (.ref b1), .val (.ref b2), .unset, .unset, .unset, .unset, .unset, .unset, .unset] [])
  refine OGl.go (fun t k => XS.aload X8.here hx rfl (hb hby at_89) rfl rfl (XS.iconst X8.here hx rfl (hb hby at_91) (XS.lload X8.here hx rfl (hb hby at_92) rfl (XS.lload X8.here hx rfl (hb hby at_94) rfl (XS.ladd X8.here hx rfl (hb hby at_96) rfl k))))) ?_
  show OGl _ _ _ _ T8 (mkF m 97 #[.val (.long q0), .second, .val (.long q1), .second, .val (.long q2), .second, .val (.long q3), .second, .val (.long q4), .second, .val (.long q5), .second, .val (.long (q0 &&& (4611686018427387903 : Int64))), .second, .val (.long (q1 &&& (4611686018427387903 : Int64))), .second, .val (.long (q2 &&& (4611686018427387903 : Int64))), .second, .val (.long ((q3 &&& (4611686018427387903 : Int64)) + (1 : Int64))), .second, .val (.long ((q4 &&& (4611686018427387903 : Int64)) + (1 : Int64))), .second, .val (.long ((q5 &&& (4611686018427387903 : Int64)) + (1 : Int64))), .second, .val (.ref b1), .val (.ref b2), .unset, .unset, .unset, .unset, .unset, .unset, .unset] [(.long (e0_1 q1 q4)), (.int (1 : Int32)), (.ref b2)])
  obtain ⟨cl9, Ar9, qk9, Sz9, Nn9, Ha9, Gf9⟩ := V8
  have hin9 : ¬ ((1 : Int32) < 0 ∨ cl9.slots.size ≤ ((1 : Int32)).toNatClampNeg) := inb_of Sz9 ⟨by decide, by decide⟩
  obtain ⟨T9, h9, X9, e9, W9, st9⟩ := stJ X8 hx hZ e8 Ar9 (j := (1 : Int32)) hin9 (g := (mkF m 97 #[.val (.long q0), .second, .val (.long q1), .second, .val (.long q2), .second, .val (.long q3), .second, .val (.long q4), .second, .val (.long q5), .second, .val (.long (q0 &&& (4611686018427387903 : Int64))), .second, .val (.long (q1 &&& (4611686018427387903 : Int64))), .second, .val (.long (q2 &&& (4611686018427387903 : Int64))), .second, .val (.long ((q3 &&& (4611686018427387903 : Int64)) + (1 : Int64))), .second, .val (.long ((q4 &&& (4611686018427387903 : Int64)) + (1 : Int64))), .second, .val (.long ((q5 &&& (4611686018427387903 : Int64)) + (1 : Int64))), .second, .val (.ref b1), .val (.ref b2), .unset, .unset, .unset, .unset, .unset, .unset, .unset] [(.long (e0_1 q1 q4)), (.int (1 : Int32)), (.ref b2)])) rfl rfl (hb hby at_97)
  have V9 : Arv Z h9 b2 k2 .long (3 : Int32) [(.long (e0_0 q0 q3)), (.long (e0_1 q1 q4)), (.long (0 : Int64))] (.long (0 : Int64)) := Arv.set Ar9 qk9 Sz9 Nn9 Ha9 Gf9 rfl W9 1 rfl (Nat.le_of_ble_eq_true rfl)
  refine OGl.go st9 ?_
  have N9 := Fr.snoc X9 N8 g_b2
  have KK9 : Keep h0 h9 [] := KK8.wr W9 (Or.inr sz_b2)
  show OGl _ _ _ _ T9 (mkF m 98 #[.val (.long q0), .second, .val (.long q1), .second, .val (.long q2), .second, .val (.long q3), .second, .val (.long q4), .second, .val (.long q5), .second, .val (.long (q0 &&& (4611686018427387903 : Int64))), .second, .val (.long (q1 &&& (4611686018427387903 : Int64))), .second, .val (.long (q2 &&& (4611686018427387903 : Int64))), .second, .val (.long ((q3 &&& (4611686018427387903 : Int64)) + (1 : Int64))), .second, .val (.long ((q4 &&& (4611686018427387903 : Int64)) + (1 : Int64))), .second, .val (.long ((q5 &&& (4611686018427387903 : Int64)) + (1 : Int64))), .second, .val (.ref b1), .val (.ref b2), .unset, .unset, .unset, .unset, .unset, .unset, .unset] [])
  refine OGl.go (fun t k => XS.aload X9.here hx rfl (hb hby at_98) rfl rfl (XS.iconst X9.here hx rfl (hb hby at_100) (XS.lload X9.here hx rfl (hb hby at_101) rfl (XS.lload X9.here hx rfl (hb hby at_103) rfl (XS.ladd X9.here hx rfl (hb hby at_105) rfl k))))) ?_
  show OGl _ _ _ _ T9 (mkF m 106 #[.val (.long q0), .second, .val (.long q1), .second, .val (.long q2), .second, .val (.long q3), .second, .val (.long q4), .second, .val (.long q5), .second, .val (.long (q0 &&& (4611686018427387903 : Int64))), .second, .val (.long (q1 &&& (4611686018427387903 : Int64))), .second, .val (.long (q2 &&& (4611686018427387903 : Int64))), .second, .val (.long ((q3 &&& (4611686018427387903 : Int64)) + (1 : Int64))), .second, .val (.long ((q4 &&& (4611686018427387903 : Int64)) + (1 : Int64))), .second, .val (.long ((q5 &&& (4611686018427387903 : Int64)) + (1 : Int64))), .second, .val (.ref b1), .val (.ref b2), .unset, .unset, .unset, .unset, .unset, .unset, .unset] [(.long (e0_2 q2 q5)), (.int (2 : Int32)), (.ref b2)])
  obtain ⟨cl10, Ar10, qk10, Sz10, Nn10, Ha10, Gf10⟩ := V9
  have hin10 : ¬ ((2 : Int32) < 0 ∨ cl10.slots.size ≤ ((2 : Int32)).toNatClampNeg) := inb_of Sz10 ⟨by decide, by decide⟩
  obtain ⟨T10, h10, X10, e10, W10, st10⟩ := stJ X9 hx hZ e9 Ar10 (j := (2 : Int32)) hin10 (g := (mkF m 106 #[.val (.long q0), .second, .val (.long q1), .second, .val (.long q2), .second, .val (.long q3), .second, .val (.long q4), .second, .val (.long q5), .second, .val (.long (q0 &&& (4611686018427387903 : Int64))), .second, .val (.long (q1 &&& (4611686018427387903 : Int64))), .second, .val (.long (q2 &&& (4611686018427387903 : Int64))), .second, .val (.long ((q3 &&& (4611686018427387903 : Int64)) + (1 : Int64))), .second, .val (.long ((q4 &&& (4611686018427387903 : Int64)) + (1 : Int64))), .second, .val (.long ((q5 &&& (4611686018427387903 : Int64)) + (1 : Int64))), .second, .val (.ref b1), .val (.ref b2), .unset, .unset, .unset, .unset, .unset, .unset, .unset] [(.long (e0_2 q2 q5)), (.int (2 : Int32)), (.ref b2)])) rfl rfl (hb hby at_106)
  have V10 : Arv Z h10 b2 k2 .long (3 : Int32) [(.long (e0_0 q0 q3)), (.long (e0_1 q1 q4)), (.long (e0_2 q2 q5))] (.long (0 : Int64)) := Arv.set Ar10 qk10 Sz10 Nn10 Ha10 Gf10 rfl W10 2 rfl (Nat.le_of_ble_eq_true rfl)
  refine OGl.go st10 ?_
  have N10 := Fr.snoc X10 N9 g_b2
  have KK10 : Keep h0 h10 [] := KK9.wr W10 (Or.inr sz_b2)
  show OGl _ _ _ _ T10 (mkF m 107 #[.val (.long q0), .second, .val (.long q1), .second, .val (.long q2), .second, .val (.long q3), .second, .val (.long q4), .second, .val (.long q5), .second, .val (.long (q0 &&& (4611686018427387903 : Int64))), .second, .val (.long (q1 &&& (4611686018427387903 : Int64))), .second, .val (.long (q2 &&& (4611686018427387903 : Int64))), .second, .val (.long ((q3 &&& (4611686018427387903 : Int64)) + (1 : Int64))), .second, .val (.long ((q4 &&& (4611686018427387903 : Int64)) + (1 : Int64))), .second, .val (.long ((q5 &&& (4611686018427387903 : Int64)) + (1 : Int64))), .second, .val (.ref b1), .val (.ref b2), .unset, .unset, .unset, .unset, .unset, .unset, .unset] [])
  obtain ⟨T11, h11, X11, e11, E11, A11, D11, -, st11⟩ := newO X10 hx hZ hown (hw _ (List.mem_of_getElem? (i := 2) rfl)) (hw _ (List.mem_of_getElem? (i := 3) rfl)) (hw _ (List.mem_of_getElem? (i := 4) rfl)) e10 (g := (mkF m 107 #[.val (.long q0), .second, .val (.long q1), .second, .val (.long q2), .second, .val (.long q3), .second, .val (.long q4), .second, .val (.long q5), .second, .val (.long (q0 &&& (4611686018427387903 : Int64))), .second, .val (.long (q1 &&& (4611686018427387903 : Int64))), .second, .val (.long (q2 &&& (4611686018427387903 : Int64))), .second, .val (.long ((q3 &&& (4611686018427387903 : Int64)) + (1 : Int64))), .second, .val (.long ((q4 &&& (4611686018427387903 : Int64)) + (1 : Int64))), .second, .val (.long ((q5 &&& (4611686018427387903 : Int64)) + (1 : Int64))), .second, .val (.ref b1), .val (.ref b2), .unset, .unset, .unset, .unset, .unset, .unset, .unset] [])) rfl (hb hby at_107) (by decide) (by decide)
  obtain ⟨b11, gb11⟩ : ∃ z, z = h10.size := ⟨_, rfl⟩
  rw [← gb11] at A11 D11 st11
  have F12 := (((V6.other W8 ne_b1_b2).other W9 ne_b1_b2).other W10 ne_b1_b2)
  have ne_b1_b11 : b1 ≠ b11 := Nat.ne_of_lt (Nat.lt_of_lt_of_eq F12.lt gb11.symm)
  have ne_b2_b11 : b2 ≠ b11 := Nat.ne_of_lt (Nat.lt_of_lt_of_eq V10.lt gb11.symm)
  have sz_b11 : h0.size ≤ b11 := Nat.le_trans KK10.1 (Nat.le_of_eq gb11.symm)
  have g_b11 : n0 ≤ b11 := Nat.le_trans Z0 sz_b11
  have F13 : Fld Z h11 b11 "com/example/libforage/libforage/IdGrid$Box" "lo" "[J" .null := D11 (Or.inr (hw _ (List.mem_of_getElem? (i := 12) rfl))) (ty := (.array .long)) (by decide)
  have F14 : Fld Z h11 b11 "com/example/libforage/libforage/IdGrid$Box" "hi" "[J" .null := D11 (Or.inr (hw _ (List.mem_of_getElem? (i := 14) rfl))) (ty := (.array .long)) (by decide)
  have KK11 : Keep h0 h11 [] := KK10.ext E11
  refine OGl.go st11 ?_
  show OGl _ _ _ _ T11 (mkF m 110 #[.val (.long q0), .second, .val (.long q1), .second, .val (.long q2), .second, .val (.long q3), .second, .val (.long q4), .second, .val (.long q5), .second, .val (.long (q0 &&& (4611686018427387903 : Int64))), .second, .val (.long (q1 &&& (4611686018427387903 : Int64))), .second, .val (.long (q2 &&& (4611686018427387903 : Int64))), .second, .val (.long ((q3 &&& (4611686018427387903 : Int64)) + (1 : Int64))), .second, .val (.long ((q4 &&& (4611686018427387903 : Int64)) + (1 : Int64))), .second, .val (.long ((q5 &&& (4611686018427387903 : Int64)) + (1 : Int64))), .second, .val (.ref b1), .val (.ref b2), .unset, .unset, .unset, .unset, .unset, .unset, .unset] [(.ref b11)])
  refine OGl.go (fun t k => XS.dup X11.here hx rfl (hb hby at_110) rfl rfl (XS.aload X11.here hx rfl (hb hby at_111) rfl rfl (XS.aload X11.here hx rfl (hb hby at_113) rfl rfl k))) ?_
  show OGl _ _ _ _ T11 (mkF m 115 #[.val (.long q0), .second, .val (.long q1), .second, .val (.long q2), .second, .val (.long q3), .second, .val (.long q4), .second, .val (.long q5), .second, .val (.long (q0 &&& (4611686018427387903 : Int64))), .second, .val (.long (q1 &&& (4611686018427387903 : Int64))), .second, .val (.long (q2 &&& (4611686018427387903 : Int64))), .second, .val (.long ((q3 &&& (4611686018427387903 : Int64)) + (1 : Int64))), .second, .val (.long ((q4 &&& (4611686018427387903 : Int64)) + (1 : Int64))), .second, .val (.long ((q5 &&& (4611686018427387903 : Int64)) + (1 : Int64))), .second, .val (.ref b1), .val (.ref b2), .unset, .unset, .unset, .unset, .unset, .unset, .unset] [(.ref b2), (.ref b1), (.ref b11), (.ref b11)])
  obtain ⟨_, _, ⟨T15, L15, kk15, n15⟩, -, X15, ⟨Lc15, hQ15, l15, y15, z15⟩, st15⟩ := X11.specialBack hx (y := (⟨"com/example/libforage/libforage/IdGrid$Box", "<init>", "([J[J)V"⟩ : MethodName)) rfl hown (mvT hZ (hw _ (List.mem_of_getElem? (i := 5) rfl))) (mvT hZ (hw _ (List.mem_of_getElem? (i := 6) rfl))) (mvT hZ (hw _ (List.mem_of_getElem? (i := 7) rfl))) (by decide) (backOf (W := 1) (rm1 l Z a0 hw [] b11 b1 b2 h11 n0 (Nat.le_trans Z0 KK11.1) A11 F13 F14 g_b11) hZ (hw _ (List.mem_of_getElem? (i := 7) rfl)) (hw _ (List.mem_of_getElem? (i := 4) rfl)) (by decide) (by decide)) (g := (mkF m 115 #[.val (.long q0), .second, .val (.long q1), .second, .val (.long q2), .second, .val (.long q3), .second, .val (.long q4), .second, .val (.long q5), .second, .val (.long (q0 &&& (4611686018427387903 : Int64))), .second, .val (.long (q1 &&& (4611686018427387903 : Int64))), .second, .val (.long (q2 &&& (4611686018427387903 : Int64))), .second, .val (.long ((q3 &&& (4611686018427387903 : Int64)) + (1 : Int64))), .second, .val (.long ((q4 &&& (4611686018427387903 : Int64)) + (1 : Int64))), .second, .val (.long ((q5 &&& (4611686018427387903 : Int64)) + (1 : Int64))), .second, .val (.ref b1), .val (.ref b2), .unset, .unset, .unset, .unset, .unset, .unset, .unset] [(.ref b2), (.ref b1), (.ref b11), (.ref b11)])) rfl (by rw [hml]; rfl) (Steps.refl _) (a := b11) (argsL := [(.ref b1), (.ref b2)]) (rest := [(.ref b11)]) (lenOf pd_0 rfl) rfl (by show 2 * 0 + _ ≤ _; exact Nat.le_of_eq rfl) (hb hby at_115) (fun _ _ => ⟨rfl, e11, (by decide : 3 + 0 ≤ _), (by decide : 8 + 0 ≤ _)⟩)
  dsimp only [Pt.U, Pt.locs, Pt.cells, Pt.slots] at X15 l15 y15 z15 st15 hQ15
  subst l15 y15 z15
  obtain ⟨rfl, Nq15, K15, Fq15_0, Fq15_1⟩ := hQ15
  have KK15 : Keep h0 T15.heap [] := KK11.trans K15 (allS (Or.inr sz_b11) all0)
  have N15 := Fr.app N10 Nq15
  refine OGl.go (fun t k => st15.trans k) ?_
  show OGl _ _ _ _ T15 (mkF m 118 #[.val (.long q0), .second, .val (.long q1), .second, .val (.long q2), .second, .val (.long q3), .second, .val (.long q4), .second, .val (.long q5), .second, .val (.long (q0 &&& (4611686018427387903 : Int64))), .second, .val (.long (q1 &&& (4611686018427387903 : Int64))), .second, .val (.long (q2 &&& (4611686018427387903 : Int64))), .second, .val (.long ((q3 &&& (4611686018427387903 : Int64)) + (1 : Int64))), .second, .val (.long ((q4 &&& (4611686018427387903 : Int64)) + (1 : Int64))), .second, .val (.long ((q5 &&& (4611686018427387903 : Int64)) + (1 : Int64))), .second, .val (.ref b1), .val (.ref b2), .unset, .unset, .unset, .unset, .unset, .unset, .unset] [(.ref b11)])
  refine OGl.go (fun t k => XS.astore X15.here hx rfl (hb hby at_118) rfl rfl (l' := #[.val (.long q0), .second, .val (.long q1), .second, .val (.long q2), .second, .val (.long q3), .second, .val (.long q4), .second, .val (.long q5), .second, .val (.long (q0 &&& (4611686018427387903 : Int64))), .second, .val (.long (q1 &&& (4611686018427387903 : Int64))), .second, .val (.long (q2 &&& (4611686018427387903 : Int64))), .second, .val (.long ((q3 &&& (4611686018427387903 : Int64)) + (1 : Int64))), .second, .val (.long ((q4 &&& (4611686018427387903 : Int64)) + (1 : Int64))), .second, .val (.long ((q5 &&& (4611686018427387903 : Int64)) + (1 : Int64))), .second, .val (.ref b1), .val (.ref b2), .val (.ref b11), .unset, .unset, .unset, .unset, .unset, .unset]) rfl (XS.aload X15.here hx rfl (hb hby at_120) rfl rfl (XS.iconst X15.here hx rfl (hb hby at_122) k))) ?_
  show OGl _ _ _ _ T15 (mkF m 123 #[.val (.long q0), .second, .val (.long q1), .second, .val (.long q2), .second, .val (.long q3), .second, .val (.long q4), .second, .val (.long q5), .second, .val (.long (q0 &&& (4611686018427387903 : Int64))), .second, .val (.long (q1 &&& (4611686018427387903 : Int64))), .second, .val (.long (q2 &&& (4611686018427387903 : Int64))), .second, .val (.long ((q3 &&& (4611686018427387903 : Int64)) + (1 : Int64))), .second, .val (.long ((q4 &&& (4611686018427387903 : Int64)) + (1 : Int64))), .second, .val (.long ((q5 &&& (4611686018427387903 : Int64)) + (1 : Int64))), .second, .val (.ref b1), .val (.ref b2), .val (.ref b11), .unset, .unset, .unset, .unset, .unset, .unset] [(.int (0 : Int32)), (.ref b11)])
  have F27 := ((V10.ext E11).keep K15 (ninS ne_b2_b11 nin0))
  have F28 := ((F12.ext E11).keep K15 (ninS ne_b1_b11 nin0))
  have F29 := (A11.keep K15)
  obtain ⟨cq22, kq22, q22a, q22b, q22c⟩ := isOf hZ rfl F29
  obtain ⟨_, _, ⟨T22, L22, kk22, n22⟩, -, X22, ⟨Lc22, hQ22, l22, y22, z22⟩, st22⟩ := X15.virtualBack hx (y := (⟨"com/example/libforage/libforage/IdGrid$Box", "side", "(I)J"⟩ : MethodName)) (z := (⟨"com/example/libforage/libforage/IdGrid$Box", "side", "(I)J"⟩ : MethodName)) hown (mvT hZ (hw _ (List.mem_of_getElem? (i := 15) rfl))) (mvT hZ (hw _ (List.mem_of_getElem? (i := 16) rfl))) (notFace_of_selects (args := #[]) (mvT hZ (hw _ (List.mem_of_getElem? (i := 18) rfl)))) (mvT hZ (hw _ (List.mem_of_getElem? (i := 18) rfl))) (mvT hZ (hw _ (List.mem_of_getElem? (i := 17) rfl))) (by decide) (backOf (W := 0) (rm3 l Z a0 hw [] b11 b2 k2 (e0_0 q0 q3) (e0_1 q1 q4) (e0_2 q2 q5) b1 k1 (q0 &&& (4611686018427387903 : Int64)) (q1 &&& (4611686018427387903 : Int64)) (q2 &&& (4611686018427387903 : Int64)) T15.heap n0 (Nat.le_trans Z0 KK15.1) Fq15_0 F27 Fq15_1 F28) hZ (hw _ (List.mem_of_getElem? (i := 19) rfl)) (hw _ (List.mem_of_getElem? (i := 4) rfl)) (by decide) (by decide)) q22a q22c (g := (mkF m 123 #[.val (.long q0), .second, .val (.long q1), .second, .val (.long q2), .second, .val (.long q3), .second, .val (.long q4), .second, .val (.long q5), .second, .val (.long (q0 &&& (4611686018427387903 : Int64))), .second, .val (.long (q1 &&& (4611686018427387903 : Int64))), .second, .val (.long (q2 &&& (4611686018427387903 : Int64))), .second, .val (.long ((q3 &&& (4611686018427387903 : Int64)) + (1 : Int64))), .second, .val (.long ((q4 &&& (4611686018427387903 : Int64)) + (1 : Int64))), .second, .val (.long ((q5 &&& (4611686018427387903 : Int64)) + (1 : Int64))), .second, .val (.ref b1), .val (.ref b2), .val (.ref b11), .unset, .unset, .unset, .unset, .unset, .unset] [(.int (0 : Int32)), (.ref b11)])) rfl (by rw [hml]; rfl) (Steps.refl _) (argsL := [(.int (0 : Int32))]) (rest := []) (lenOf pd_1 rfl) rfl (by show 2 * 0 + _ ≤ _; exact Nat.le_of_eq rfl) (hb hby at_123) (fun _ _ => ⟨rfl, rfl, (by decide : 3 + 0 ≤ _), (by decide : 8 + 0 ≤ _)⟩)
  dsimp only [Pt.U, Pt.locs, Pt.cells, Pt.slots] at X22 l22 y22 z22 st22 hQ22
  subst l22 y22 z22
  obtain ⟨rfl, Nq22, e22⟩ := hQ22
  have N22 := Fr.app N15 Nq22
  refine OGl.go (fun t k => st22.trans k) ?_
  show OGl _ _ _ _ T22 (mkF m 126 #[.val (.long q0), .second, .val (.long q1), .second, .val (.long q2), .second, .val (.long q3), .second, .val (.long q4), .second, .val (.long q5), .second, .val (.long (q0 &&& (4611686018427387903 : Int64))), .second, .val (.long (q1 &&& (4611686018427387903 : Int64))), .second, .val (.long (q2 &&& (4611686018427387903 : Int64))), .second, .val (.long ((q3 &&& (4611686018427387903 : Int64)) + (1 : Int64))), .second, .val (.long ((q4 &&& (4611686018427387903 : Int64)) + (1 : Int64))), .second, .val (.long ((q5 &&& (4611686018427387903 : Int64)) + (1 : Int64))), .second, .val (.ref b1), .val (.ref b2), .val (.ref b11), .unset, .unset, .unset, .unset, .unset, .unset] [(.long ((e0_0 q0 q3) - (q0 &&& (4611686018427387903 : Int64))))])
  refine OGl.go (fun t k => XS.lstore X22.here hx rfl (hb hby at_126) rfl (l' := #[.val (.long q0), .second, .val (.long q1), .second, .val (.long q2), .second, .val (.long q3), .second, .val (.long q4), .second, .val (.long q5), .second, .val (.long (q0 &&& (4611686018427387903 : Int64))), .second, .val (.long (q1 &&& (4611686018427387903 : Int64))), .second, .val (.long (q2 &&& (4611686018427387903 : Int64))), .second, .val (.long ((q3 &&& (4611686018427387903 : Int64)) + (1 : Int64))), .second, .val (.long ((q4 &&& (4611686018427387903 : Int64)) + (1 : Int64))), .second, .val (.long ((q5 &&& (4611686018427387903 : Int64)) + (1 : Int64))), .second, .val (.ref b1), .val (.ref b2), .val (.ref b11), .val (.long ((e0_0 q0 q3) - (q0 &&& (4611686018427387903 : Int64)))), .second, .unset, .unset, .unset, .unset]) rfl (XS.aload X22.here hx rfl (hb hby at_128) rfl rfl (XS.iconst X22.here hx rfl (hb hby at_130) k))) ?_
  show OGl _ _ _ _ T22 (mkF m 131 #[.val (.long q0), .second, .val (.long q1), .second, .val (.long q2), .second, .val (.long q3), .second, .val (.long q4), .second, .val (.long q5), .second, .val (.long (q0 &&& (4611686018427387903 : Int64))), .second, .val (.long (q1 &&& (4611686018427387903 : Int64))), .second, .val (.long (q2 &&& (4611686018427387903 : Int64))), .second, .val (.long ((q3 &&& (4611686018427387903 : Int64)) + (1 : Int64))), .second, .val (.long ((q4 &&& (4611686018427387903 : Int64)) + (1 : Int64))), .second, .val (.long ((q5 &&& (4611686018427387903 : Int64)) + (1 : Int64))), .second, .val (.ref b1), .val (.ref b2), .val (.ref b11), .val (.long ((e0_0 q0 q3) - (q0 &&& (4611686018427387903 : Int64)))), .second, .unset, .unset, .unset, .unset] [(.int (1 : Int32)), (.ref b11)])
  obtain ⟨cq30, kq30, q30a, q30b, q30c⟩ := isOf hZ e22 F29
  obtain ⟨_, _, ⟨T30, L30, kk30, n30⟩, -, X30, ⟨Lc30, hQ30, l30, y30, z30⟩, st30⟩ := X22.virtualBack hx (y := (⟨"com/example/libforage/libforage/IdGrid$Box", "side", "(I)J"⟩ : MethodName)) (z := (⟨"com/example/libforage/libforage/IdGrid$Box", "side", "(I)J"⟩ : MethodName)) hown (mvT hZ (hw _ (List.mem_of_getElem? (i := 15) rfl))) (mvT hZ (hw _ (List.mem_of_getElem? (i := 16) rfl))) (notFace_of_selects (args := #[]) (mvT hZ (hw _ (List.mem_of_getElem? (i := 18) rfl)))) (mvT hZ (hw _ (List.mem_of_getElem? (i := 18) rfl))) (mvT hZ (hw _ (List.mem_of_getElem? (i := 17) rfl))) (by decide) (backOf (W := 0) (rm3a l Z a0 hw [] b11 b2 k2 (e0_0 q0 q3) (e0_1 q1 q4) (e0_2 q2 q5) b1 k1 (q0 &&& (4611686018427387903 : Int64)) (q1 &&& (4611686018427387903 : Int64)) (q2 &&& (4611686018427387903 : Int64)) T15.heap n0 (Nat.le_trans Z0 KK15.1) Fq15_0 F27 Fq15_1 F28) hZ (hw _ (List.mem_of_getElem? (i := 19) rfl)) (hw _ (List.mem_of_getElem? (i := 4) rfl)) (by decide) (by decide)) q30a q30c (g := (mkF m 131 #[.val (.long q0), .second, .val (.long q1), .second, .val (.long q2), .second, .val (.long q3), .second, .val (.long q4), .second, .val (.long q5), .second, .val (.long (q0 &&& (4611686018427387903 : Int64))), .second, .val (.long (q1 &&& (4611686018427387903 : Int64))), .second, .val (.long (q2 &&& (4611686018427387903 : Int64))), .second, .val (.long ((q3 &&& (4611686018427387903 : Int64)) + (1 : Int64))), .second, .val (.long ((q4 &&& (4611686018427387903 : Int64)) + (1 : Int64))), .second, .val (.long ((q5 &&& (4611686018427387903 : Int64)) + (1 : Int64))), .second, .val (.ref b1), .val (.ref b2), .val (.ref b11), .val (.long ((e0_0 q0 q3) - (q0 &&& (4611686018427387903 : Int64)))), .second, .unset, .unset, .unset, .unset] [(.int (1 : Int32)), (.ref b11)])) rfl (by rw [hml]; rfl) (Steps.refl _) (argsL := [(.int (1 : Int32))]) (rest := []) (lenOf pd_1 rfl) rfl (by show 2 * 0 + _ ≤ _; exact Nat.le_of_eq rfl) (hb hby at_131) (fun _ _ => ⟨rfl, e22, (by decide : 3 + 0 ≤ _), (by decide : 8 + 0 ≤ _)⟩)
  dsimp only [Pt.U, Pt.locs, Pt.cells, Pt.slots] at X30 l30 y30 z30 st30 hQ30
  subst l30 y30 z30
  obtain ⟨rfl, Nq30, e30⟩ := hQ30
  have N30 := Fr.app N22 Nq30
  refine OGl.go (fun t k => st30.trans k) ?_
  show OGl _ _ _ _ T30 (mkF m 134 #[.val (.long q0), .second, .val (.long q1), .second, .val (.long q2), .second, .val (.long q3), .second, .val (.long q4), .second, .val (.long q5), .second, .val (.long (q0 &&& (4611686018427387903 : Int64))), .second, .val (.long (q1 &&& (4611686018427387903 : Int64))), .second, .val (.long (q2 &&& (4611686018427387903 : Int64))), .second, .val (.long ((q3 &&& (4611686018427387903 : Int64)) + (1 : Int64))), .second, .val (.long ((q4 &&& (4611686018427387903 : Int64)) + (1 : Int64))), .second, .val (.long ((q5 &&& (4611686018427387903 : Int64)) + (1 : Int64))), .second, .val (.ref b1), .val (.ref b2), .val (.ref b11), .val (.long ((e0_0 q0 q3) - (q0 &&& (4611686018427387903 : Int64)))), .second, .unset, .unset, .unset, .unset] [(.long ((e0_1 q1 q4) - (q1 &&& (4611686018427387903 : Int64))))])
  refine OGl.go (fun t k => XS.lstore X30.here hx rfl (hb hby at_134) rfl (l' := #[.val (.long q0), .second, .val (.long q1), .second, .val (.long q2), .second, .val (.long q3), .second, .val (.long q4), .second, .val (.long q5), .second, .val (.long (q0 &&& (4611686018427387903 : Int64))), .second, .val (.long (q1 &&& (4611686018427387903 : Int64))), .second, .val (.long (q2 &&& (4611686018427387903 : Int64))), .second, .val (.long ((q3 &&& (4611686018427387903 : Int64)) + (1 : Int64))), .second, .val (.long ((q4 &&& (4611686018427387903 : Int64)) + (1 : Int64))), .second, .val (.long ((q5 &&& (4611686018427387903 : Int64)) + (1 : Int64))), .second, .val (.ref b1), .val (.ref b2), .val (.ref b11), .val (.long ((e0_0 q0 q3) - (q0 &&& (4611686018427387903 : Int64)))), .second, .val (.long ((e0_1 q1 q4) - (q1 &&& (4611686018427387903 : Int64)))), .second, .unset, .unset]) rfl (XS.aload X30.here hx rfl (hb hby at_136) rfl rfl (XS.iconst X30.here hx rfl (hb hby at_138) k))) ?_
  show OGl _ _ _ _ T30 (mkF m 139 #[.val (.long q0), .second, .val (.long q1), .second, .val (.long q2), .second, .val (.long q3), .second, .val (.long q4), .second, .val (.long q5), .second, .val (.long (q0 &&& (4611686018427387903 : Int64))), .second, .val (.long (q1 &&& (4611686018427387903 : Int64))), .second, .val (.long (q2 &&& (4611686018427387903 : Int64))), .second, .val (.long ((q3 &&& (4611686018427387903 : Int64)) + (1 : Int64))), .second, .val (.long ((q4 &&& (4611686018427387903 : Int64)) + (1 : Int64))), .second, .val (.long ((q5 &&& (4611686018427387903 : Int64)) + (1 : Int64))), .second, .val (.ref b1), .val (.ref b2), .val (.ref b11), .val (.long ((e0_0 q0 q3) - (q0 &&& (4611686018427387903 : Int64)))), .second, .val (.long ((e0_1 q1 q4) - (q1 &&& (4611686018427387903 : Int64)))), .second, .unset, .unset] [(.int (2 : Int32)), (.ref b11)])
  obtain ⟨cq35, kq35, q35a, q35b, q35c⟩ := isOf hZ e30 F29
  obtain ⟨_, _, ⟨T35, L35, kk35, n35⟩, -, X35, ⟨Lc35, hQ35, l35, y35, z35⟩, st35⟩ := X30.virtualBack hx (y := (⟨"com/example/libforage/libforage/IdGrid$Box", "side", "(I)J"⟩ : MethodName)) (z := (⟨"com/example/libforage/libforage/IdGrid$Box", "side", "(I)J"⟩ : MethodName)) hown (mvT hZ (hw _ (List.mem_of_getElem? (i := 15) rfl))) (mvT hZ (hw _ (List.mem_of_getElem? (i := 16) rfl))) (notFace_of_selects (args := #[]) (mvT hZ (hw _ (List.mem_of_getElem? (i := 18) rfl)))) (mvT hZ (hw _ (List.mem_of_getElem? (i := 18) rfl))) (mvT hZ (hw _ (List.mem_of_getElem? (i := 17) rfl))) (by decide) (backOf (W := 0) (rm3b l Z a0 hw [] b11 b2 k2 (e0_0 q0 q3) (e0_1 q1 q4) (e0_2 q2 q5) b1 k1 (q0 &&& (4611686018427387903 : Int64)) (q1 &&& (4611686018427387903 : Int64)) (q2 &&& (4611686018427387903 : Int64)) T15.heap n0 (Nat.le_trans Z0 KK15.1) Fq15_0 F27 Fq15_1 F28) hZ (hw _ (List.mem_of_getElem? (i := 19) rfl)) (hw _ (List.mem_of_getElem? (i := 4) rfl)) (by decide) (by decide)) q35a q35c (g := (mkF m 139 #[.val (.long q0), .second, .val (.long q1), .second, .val (.long q2), .second, .val (.long q3), .second, .val (.long q4), .second, .val (.long q5), .second, .val (.long (q0 &&& (4611686018427387903 : Int64))), .second, .val (.long (q1 &&& (4611686018427387903 : Int64))), .second, .val (.long (q2 &&& (4611686018427387903 : Int64))), .second, .val (.long ((q3 &&& (4611686018427387903 : Int64)) + (1 : Int64))), .second, .val (.long ((q4 &&& (4611686018427387903 : Int64)) + (1 : Int64))), .second, .val (.long ((q5 &&& (4611686018427387903 : Int64)) + (1 : Int64))), .second, .val (.ref b1), .val (.ref b2), .val (.ref b11), .val (.long ((e0_0 q0 q3) - (q0 &&& (4611686018427387903 : Int64)))), .second, .val (.long ((e0_1 q1 q4) - (q1 &&& (4611686018427387903 : Int64)))), .second, .unset, .unset] [(.int (2 : Int32)), (.ref b11)])) rfl (by rw [hml]; rfl) (Steps.refl _) (argsL := [(.int (2 : Int32))]) (rest := []) (lenOf pd_1 rfl) rfl (by show 2 * 0 + _ ≤ _; exact Nat.le_of_eq rfl) (hb hby at_139) (fun _ _ => ⟨rfl, e30, (by decide : 3 + 0 ≤ _), (by decide : 8 + 0 ≤ _)⟩)
  dsimp only [Pt.U, Pt.locs, Pt.cells, Pt.slots] at X35 l35 y35 z35 st35 hQ35
  subst l35 y35 z35
  obtain ⟨rfl, Nq35, e35⟩ := hQ35
  have N35 := Fr.app N30 Nq35
  refine OGl.go (fun t k => st35.trans k) ?_
  show OGl _ _ _ _ T35 (mkF m 142 #[.val (.long q0), .second, .val (.long q1), .second, .val (.long q2), .second, .val (.long q3), .second, .val (.long q4), .second, .val (.long q5), .second, .val (.long (q0 &&& (4611686018427387903 : Int64))), .second, .val (.long (q1 &&& (4611686018427387903 : Int64))), .second, .val (.long (q2 &&& (4611686018427387903 : Int64))), .second, .val (.long ((q3 &&& (4611686018427387903 : Int64)) + (1 : Int64))), .second, .val (.long ((q4 &&& (4611686018427387903 : Int64)) + (1 : Int64))), .second, .val (.long ((q5 &&& (4611686018427387903 : Int64)) + (1 : Int64))), .second, .val (.ref b1), .val (.ref b2), .val (.ref b11), .val (.long ((e0_0 q0 q3) - (q0 &&& (4611686018427387903 : Int64)))), .second, .val (.long ((e0_1 q1 q4) - (q1 &&& (4611686018427387903 : Int64)))), .second, .unset, .unset] [(.long ((e0_2 q2 q5) - (q2 &&& (4611686018427387903 : Int64))))])
  refine OGl.go (fun t k => XS.lstore X35.here hx rfl (hb hby at_142) rfl (l' := #[.val (.long q0), .second, .val (.long q1), .second, .val (.long q2), .second, .val (.long q3), .second, .val (.long q4), .second, .val (.long q5), .second, .val (.long (q0 &&& (4611686018427387903 : Int64))), .second, .val (.long (q1 &&& (4611686018427387903 : Int64))), .second, .val (.long (q2 &&& (4611686018427387903 : Int64))), .second, .val (.long ((q3 &&& (4611686018427387903 : Int64)) + (1 : Int64))), .second, .val (.long ((q4 &&& (4611686018427387903 : Int64)) + (1 : Int64))), .second, .val (.long ((q5 &&& (4611686018427387903 : Int64)) + (1 : Int64))), .second, .val (.ref b1), .val (.ref b2), .val (.ref b11), .val (.long ((e0_0 q0 q3) - (q0 &&& (4611686018427387903 : Int64)))), .second, .val (.long ((e0_1 q1 q4) - (q1 &&& (4611686018427387903 : Int64)))), .second, .val (.long ((e0_2 q2 q5) - (q2 &&& (4611686018427387903 : Int64)))), .second]) rfl (XS.lload X35.here hx rfl (hb hby at_144) rfl (XS.lload X35.here hx rfl (hb hby at_146) rfl (XS.lcmp X35.here hx rfl (hb hby at_148) rfl k)))) ?_
  show OGl _ _ _ _ T35 (mkF m 149 #[.val (.long q0), .second, .val (.long q1), .second, .val (.long q2), .second, .val (.long q3), .second, .val (.long q4), .second, .val (.long q5), .second, .val (.long (q0 &&& (4611686018427387903 : Int64))), .second, .val (.long (q1 &&& (4611686018427387903 : Int64))), .second, .val (.long (q2 &&& (4611686018427387903 : Int64))), .second, .val (.long ((q3 &&& (4611686018427387903 : Int64)) + (1 : Int64))), .second, .val (.long ((q4 &&& (4611686018427387903 : Int64)) + (1 : Int64))), .second, .val (.long ((q5 &&& (4611686018427387903 : Int64)) + (1 : Int64))), .second, .val (.ref b1), .val (.ref b2), .val (.ref b11), .val (.long ((e0_0 q0 q3) - (q0 &&& (4611686018427387903 : Int64)))), .second, .val (.long ((e0_1 q1 q4) - (q1 &&& (4611686018427387903 : Int64)))), .second, .val (.long ((e0_2 q2 q5) - (q2 &&& (4611686018427387903 : Int64)))), .second] [(.int (lcmpW ((e0_0 q0 q3) - (q0 &&& (4611686018427387903 : Int64))) ((q3 &&& (4611686018427387903 : Int64)) + (1 : Int64))))])
  by_cases hc40 : ((e0_0 q0 q3) - (q0 &&& (4611686018427387903 : Int64))) = ((q3 &&& (4611686018427387903 : Int64)) + (1 : Int64))
  · refine OGl.go (fun t k => XS.ifNo X35.here hx rfl (hb hby at_149) rfl (own_teqL hc40).2 (XS.lload X35.here hx rfl (hb hby at_152) rfl (XS.lload X35.here hx rfl (hb hby at_154) rfl (XS.lcmp X35.here hx rfl (hb hby at_156) rfl k)))) ?_
    show OGl _ _ _ _ T35 (mkF m 157 #[.val (.long q0), .second, .val (.long q1), .second, .val (.long q2), .second, .val (.long q3), .second, .val (.long q4), .second, .val (.long q5), .second, .val (.long (q0 &&& (4611686018427387903 : Int64))), .second, .val (.long (q1 &&& (4611686018427387903 : Int64))), .second, .val (.long (q2 &&& (4611686018427387903 : Int64))), .second, .val (.long ((q3 &&& (4611686018427387903 : Int64)) + (1 : Int64))), .second, .val (.long ((q4 &&& (4611686018427387903 : Int64)) + (1 : Int64))), .second, .val (.long ((q5 &&& (4611686018427387903 : Int64)) + (1 : Int64))), .second, .val (.ref b1), .val (.ref b2), .val (.ref b11), .val (.long ((e0_0 q0 q3) - (q0 &&& (4611686018427387903 : Int64)))), .second, .val (.long ((e0_1 q1 q4) - (q1 &&& (4611686018427387903 : Int64)))), .second, .val (.long ((e0_2 q2 q5) - (q2 &&& (4611686018427387903 : Int64)))), .second] [(.int (lcmpW ((e0_1 q1 q4) - (q1 &&& (4611686018427387903 : Int64))) ((q4 &&& (4611686018427387903 : Int64)) + (1 : Int64))))])
    by_cases hc41 : ((e0_1 q1 q4) - (q1 &&& (4611686018427387903 : Int64))) = ((q4 &&& (4611686018427387903 : Int64)) + (1 : Int64))
    · refine OGl.go (fun t k => XS.ifNo X35.here hx rfl (hb hby at_157) rfl (own_teqL hc41).2 (XS.lload X35.here hx rfl (hb hby at_160) rfl (XS.lload X35.here hx rfl (hb hby at_162) rfl (XS.lcmp X35.here hx rfl (hb hby at_164) rfl k)))) ?_
      show OGl _ _ _ _ T35 (mkF m 165 #[.val (.long q0), .second, .val (.long q1), .second, .val (.long q2), .second, .val (.long q3), .second, .val (.long q4), .second, .val (.long q5), .second, .val (.long (q0 &&& (4611686018427387903 : Int64))), .second, .val (.long (q1 &&& (4611686018427387903 : Int64))), .second, .val (.long (q2 &&& (4611686018427387903 : Int64))), .second, .val (.long ((q3 &&& (4611686018427387903 : Int64)) + (1 : Int64))), .second, .val (.long ((q4 &&& (4611686018427387903 : Int64)) + (1 : Int64))), .second, .val (.long ((q5 &&& (4611686018427387903 : Int64)) + (1 : Int64))), .second, .val (.ref b1), .val (.ref b2), .val (.ref b11), .val (.long ((e0_0 q0 q3) - (q0 &&& (4611686018427387903 : Int64)))), .second, .val (.long ((e0_1 q1 q4) - (q1 &&& (4611686018427387903 : Int64)))), .second, .val (.long ((e0_2 q2 q5) - (q2 &&& (4611686018427387903 : Int64)))), .second] [(.int (lcmpW ((e0_2 q2 q5) - (q2 &&& (4611686018427387903 : Int64))) ((q5 &&& (4611686018427387903 : Int64)) + (1 : Int64))))])
      by_cases hc42 : ((e0_2 q2 q5) - (q2 &&& (4611686018427387903 : Int64))) = ((q5 &&& (4611686018427387903 : Int64)) + (1 : Int64))
      · refine OGl.go (fun t k => XS.ifNo X35.here hx rfl (hb hby at_165) rfl (own_teqL hc42).2 (XS.iconst X35.here hx rfl (hb hby at_168) (XS.goto X35.here hx rfl (pc0 := 169) (pc' := 173) rfl (hb hby at_169) (by decide) (by decide) k))) ?_
        show OGl _ _ _ _ T35 (mkF m 173 #[.val (.long q0), .second, .val (.long q1), .second, .val (.long q2), .second, .val (.long q3), .second, .val (.long q4), .second, .val (.long q5), .second, .val (.long (q0 &&& (4611686018427387903 : Int64))), .second, .val (.long (q1 &&& (4611686018427387903 : Int64))), .second, .val (.long (q2 &&& (4611686018427387903 : Int64))), .second, .val (.long ((q3 &&& (4611686018427387903 : Int64)) + (1 : Int64))), .second, .val (.long ((q4 &&& (4611686018427387903 : Int64)) + (1 : Int64))), .second, .val (.long ((q5 &&& (4611686018427387903 : Int64)) + (1 : Int64))), .second, .val (.ref b1), .val (.ref b2), .val (.ref b11), .val (.long ((e0_0 q0 q3) - (q0 &&& (4611686018427387903 : Int64)))), .second, .val (.long ((e0_1 q1 q4) - (q1 &&& (4611686018427387903 : Int64)))), .second, .val (.long ((e0_2 q2 q5) - (q2 &&& (4611686018427387903 : Int64)))), .second] [(.int (1 : Int32))])
        obtain ⟨fs, hr, hrun, hended, hW, hsame⟩ := X35.leave (v := some (.int (1 : Int32))) (fun h => by rw [Bd.returns] at h; cases h)
        refine ⟨_, _, retN X35 hx (t := .boolean) Bd.returns (by simp) (hb hby at_173) hr, hrun, hended, _, _, rfl, ?_, ⟨_, rfl⟩, hW, hsame.mono (by decide) (by decide)⟩
        have hv43 : (t0_0 q0 q1 q2 q3 q4 q5) = (1 : Int32) := by unfold t0_0; rw [if_pos hc40, if_pos hc41, if_pos hc42]
        show Q0 Z q0 q1 q2 q3 q4 q5 h0 n0 _ T35.heap _
        rw [e35]
        exact ⟨(by rw [hv43]), N35⟩
      · refine OGl.go (fun t k => XS.ifYes X35.here hx rfl (pc0 := 165) (pc' := 172) rfl (hb hby at_165) rfl (own_feqL hc42).2 (by decide) (by decide) (XS.iconst X35.here hx rfl (hb hby at_172) k)) ?_
        show OGl _ _ _ _ T35 (mkF m 173 #[.val (.long q0), .second, .val (.long q1), .second, .val (.long q2), .second, .val (.long q3), .second, .val (.long q4), .second, .val (.long q5), .second, .val (.long (q0 &&& (4611686018427387903 : Int64))), .second, .val (.long (q1 &&& (4611686018427387903 : Int64))), .second, .val (.long (q2 &&& (4611686018427387903 : Int64))), .second, .val (.long ((q3 &&& (4611686018427387903 : Int64)) + (1 : Int64))), .second, .val (.long ((q4 &&& (4611686018427387903 : Int64)) + (1 : Int64))), .second, .val (.long ((q5 &&& (4611686018427387903 : Int64)) + (1 : Int64))), .second, .val (.ref b1), .val (.ref b2), .val (.ref b11), .val (.long ((e0_0 q0 q3) - (q0 &&& (4611686018427387903 : Int64)))), .second, .val (.long ((e0_1 q1 q4) - (q1 &&& (4611686018427387903 : Int64)))), .second, .val (.long ((e0_2 q2 q5) - (q2 &&& (4611686018427387903 : Int64)))), .second] [(.int (0 : Int32))])
        obtain ⟨fs, hr, hrun, hended, hW, hsame⟩ := X35.leave (v := some (.int (0 : Int32))) (fun h => by rw [Bd.returns] at h; cases h)
        refine ⟨_, _, retN X35 hx (t := .boolean) Bd.returns (by simp) (hb hby at_173) hr, hrun, hended, _, _, rfl, ?_, ⟨_, rfl⟩, hW, hsame.mono (by decide) (by decide)⟩
        have hv44 : (t0_0 q0 q1 q2 q3 q4 q5) = (0 : Int32) := by unfold t0_0; rw [if_pos hc40, if_pos hc41, if_neg hc42]
        show Q0 Z q0 q1 q2 q3 q4 q5 h0 n0 _ T35.heap _
        rw [e35]
        exact ⟨(by rw [hv44]), N35⟩
    · refine OGl.go (fun t k => XS.ifYes X35.here hx rfl (pc0 := 157) (pc' := 172) rfl (hb hby at_157) rfl (own_feqL hc41).2 (by decide) (by decide) (XS.iconst X35.here hx rfl (hb hby at_172) k)) ?_
      show OGl _ _ _ _ T35 (mkF m 173 #[.val (.long q0), .second, .val (.long q1), .second, .val (.long q2), .second, .val (.long q3), .second, .val (.long q4), .second, .val (.long q5), .second, .val (.long (q0 &&& (4611686018427387903 : Int64))), .second, .val (.long (q1 &&& (4611686018427387903 : Int64))), .second, .val (.long (q2 &&& (4611686018427387903 : Int64))), .second, .val (.long ((q3 &&& (4611686018427387903 : Int64)) + (1 : Int64))), .second, .val (.long ((q4 &&& (4611686018427387903 : Int64)) + (1 : Int64))), .second, .val (.long ((q5 &&& (4611686018427387903 : Int64)) + (1 : Int64))), .second, .val (.ref b1), .val (.ref b2), .val (.ref b11), .val (.long ((e0_0 q0 q3) - (q0 &&& (4611686018427387903 : Int64)))), .second, .val (.long ((e0_1 q1 q4) - (q1 &&& (4611686018427387903 : Int64)))), .second, .val (.long ((e0_2 q2 q5) - (q2 &&& (4611686018427387903 : Int64)))), .second] [(.int (0 : Int32))])
      obtain ⟨fs, hr, hrun, hended, hW, hsame⟩ := X35.leave (v := some (.int (0 : Int32))) (fun h => by rw [Bd.returns] at h; cases h)
      refine ⟨_, _, retN X35 hx (t := .boolean) Bd.returns (by simp) (hb hby at_173) hr, hrun, hended, _, _, rfl, ?_, ⟨_, rfl⟩, hW, hsame.mono (by decide) (by decide)⟩
      have hv45 : (t0_0 q0 q1 q2 q3 q4 q5) = (0 : Int32) := by unfold t0_0; rw [if_pos hc40, if_neg hc41]
      show Q0 Z q0 q1 q2 q3 q4 q5 h0 n0 _ T35.heap _
      rw [e35]
      exact ⟨(by rw [hv45]), N35⟩
  · refine OGl.go (fun t k => XS.ifYes X35.here hx rfl (pc0 := 149) (pc' := 172) rfl (hb hby at_149) rfl (own_feqL hc40).2 (by decide) (by decide) (XS.iconst X35.here hx rfl (hb hby at_172) k)) ?_
    show OGl _ _ _ _ T35 (mkF m 173 #[.val (.long q0), .second, .val (.long q1), .second, .val (.long q2), .second, .val (.long q3), .second, .val (.long q4), .second, .val (.long q5), .second, .val (.long (q0 &&& (4611686018427387903 : Int64))), .second, .val (.long (q1 &&& (4611686018427387903 : Int64))), .second, .val (.long (q2 &&& (4611686018427387903 : Int64))), .second, .val (.long ((q3 &&& (4611686018427387903 : Int64)) + (1 : Int64))), .second, .val (.long ((q4 &&& (4611686018427387903 : Int64)) + (1 : Int64))), .second, .val (.long ((q5 &&& (4611686018427387903 : Int64)) + (1 : Int64))), .second, .val (.ref b1), .val (.ref b2), .val (.ref b11), .val (.long ((e0_0 q0 q3) - (q0 &&& (4611686018427387903 : Int64)))), .second, .val (.long ((e0_1 q1 q4) - (q1 &&& (4611686018427387903 : Int64)))), .second, .val (.long ((e0_2 q2 q5) - (q2 &&& (4611686018427387903 : Int64)))), .second] [(.int (0 : Int32))])
    obtain ⟨fs, hr, hrun, hended, hW, hsame⟩ := X35.leave (v := some (.int (0 : Int32))) (fun h => by rw [Bd.returns] at h; cases h)
    refine ⟨_, _, retN X35 hx (t := .boolean) Bd.returns (by simp) (hb hby at_173) hr, hrun, hended, _, _, rfl, ?_, ⟨_, rfl⟩, hW, hsame.mono (by decide) (by decide)⟩
    have hv46 : (t0_0 q0 q1 q2 q3 q4 q5) = (0 : Int32) := by unfold t0_0; rw [if_neg hc40]
    show Q0 Z q0 q1 q2 q3 q4 q5 h0 n0 _ T35.heap _
    rw [e35]
    exact ⟨(by rw [hv46]), N35⟩
theorem own_sub (a b : Int64) : (a + b) - a = b := by
  have h1 := c_ladd a b
  have h2 := c_lsub (a + b) a
  have r1 := rng64 ((a + b) - a)
  have r2 := rng64 b
  exact Int64.toInt_inj.mp (by omega)
theorem own_law (a b c d e f : Int64) : t0_0 a b c d e f = 1 := by
  unfold t0_0 e0_0 e0_1 e0_2
  rw [if_pos (own_sub _ _), if_pos (own_sub _ _), if_pos (own_sub _ _)]
set_option maxRecDepth 65536 in
set_option maxHeartbeats 40000000 in
theorem comes_1 {Post : Tables → Env → Array Value → State → Outcome → State → Prop} (hpost : ∀ tb e args s v u, (limb_1_1.after args s (.returned v) u = true ∧ limb_1_2.after args s (.returned v) u = true ∧ True) → FrameEnd s (.returned v) u (Jvm.fieldLocs frame_1_writes args s ++ Jvm.arrayLocs frame_1_arrays args s ++ Jvm.staticLocs frame_1_statics s) 16 128 → Post tb e args s (.returned v) u) :
    ArmFor flags0 classFile x code maxLocals ret World_1 tables_1 room_1 Calls_1 rest_1 Pre_1 Post := by
  intro l hfl _ _ p e ha hc hk s m args below hf hA hF happ hP
  obtain ⟨hcalls, hrest, hpre⟩ := hP
  obtain ⟨-, -, -, hnamed, -, -, -, hat⟩ := (Spec.applies_iff hf).mp happ
  obtain ⟨hg, hn⟩ := and_e (Cond.before_iff.mp (show (Jvm.Cond.and given_1 narrow_1).before args s = true from hpre))
  obtain ⟨hz, hy0⟩ := and_e hg
  obtain ⟨ha0, hy1⟩ := and_e hy0
  obtain ⟨ha1, hy2⟩ := and_e hy1
  obtain ⟨ha2, hy3⟩ := and_e hy2
  obtain ⟨ha3, hy4⟩ := and_e hy3
  obtain ⟨ha4, hy5⟩ := and_e hy4
  obtain ⟨w0, w1, w2, w3, w4, w5, rfl⟩ : ∃ w0 w1 w2 w3 w4 w5 : Value, args = #[w0, w1, w2, w3, w4, w5] := by
    have hs : args.size = 6 := by simpa [Cond.value, given_1] using hz
    obtain ⟨L⟩ := args
    match L, hs with
    | [w0, w1, w2, w3, w4, w5], _ => exact ⟨w0, w1, w2, w3, w4, w5, rfl⟩
  have hw := fun d (hd : d ∈ tables_1) => atoms_spec (ws := Jvm.Cond.code x code maxLocals ret :: tables_1) hat d (List.mem_cons_of_mem _ hd)
  obtain ⟨i0, ev0⟩ := isL_v ha0
  obtain rfl : w0 = (.long i0) := Option.some.inj ev0
  obtain ⟨i1, ev1⟩ := isL_v ha1
  obtain rfl : w1 = (.long i1) := Option.some.inj ev1
  obtain ⟨i2, ev2⟩ := isL_v ha2
  obtain rfl : w2 = (.long i2) := Option.some.inj ev2
  obtain ⟨i3, ev3⟩ := isL_v ha3
  obtain rfl : w3 = (.long i3) := Option.some.inj ev3
  obtain ⟨i4, ev4⟩ := isL_v ha4
  obtain rfl : w4 = (.long i4) := Option.some.inj ev4
  obtain ⟨i5, ev5⟩ := isL_v hy5
  obtain rfl : w5 = (.long i5) := Option.some.inj ev5
  obtain ⟨n, o, h1, h2, h3, _, L, rfl, ⟨hv, N⟩, hq⟩ := rm0 l s _ hw tables_1 i0 i1 i2 i3 i4 i5  s.heap s.heap.size (Nat.le_refl _)  p e ha hc hk s m _ below hf ((Spec.applies_iff_loose hf).mp happ).1 ⟨rfl, State.Warmed39.refl s, rfl⟩ trivial
  rw [own_law] at hv
  subst hv
  refine ⟨n, _, h1, h2, h3, hpost _ _ _ _ _ _ ⟨Cond.after_iff.mpr rfl, Cond.after_iff.mpr (eq_i res_at (Term.int_eval (1)) rfl), trivial⟩ ⟨hq.1, hq.2.1, (hq.2.2.sift fun y hy => Or.inr (N y hy)).mono (by decide) (by decide)⟩⟩
theorem main_1_1 : Claimed_1_1 := comes_1 fun _ _ _ _ _ _ h hF => ⟨h.1, hF⟩
theorem main_1_2 : Claimed_1_2 := comes_1 fun _ _ _ _ _ _ h hF => ⟨h.2.1, hF⟩
end Jvm.Pilot.@@N@@
namespace Jvm.Pilot.@@N@@
open Jvm Jvm.ClassFile Sem Op Lib Jvm.Free Jvm.Stand Jvm.Pilot.@@N@@.Jvm.D
/-! MADE BY PROGRAM (witnessworld.py) out of the Statement's table words and the real class files: 11 classes; the members and pool entries that the words name. The judged class is class 1, her method 1. -/
namespace start1
open Jvm.ClassFile
def u (s : String) : CpInfo := .utf8 (stringToUtf16 s)
/-- a pool by its gaps: so many unusable entries, then the entry; so many at the end -/
def gap : Nat → List CpInfo → List CpInfo
  | 0, r => r
  | n + 1, r => .unusable :: gap n r
def poolList (es : List (Nat × CpInfo)) (last : Nat) : List CpInfo := es.foldr (fun e r => gap e.1 (e.2 :: r)) (gap last [])
def pool (es : List (Nat × CpInfo)) (last : Nat) : Array CpInfo := ⟨poolList es last⟩
def fileOf (pool : Array CpInfo) (this : Nat) (attrs : Array Attribute := #[]) (ms : Array MethodInfo := #[]) (fl : Nat := 33) (sup : Nat := 0) (ifs : Array Nat := #[]) (fds : Array FieldInfo := #[]) : ClassFile where
  minorVersion := 0
  majorVersion := 65
  constantPool := pool
  accessFlags := fl
  thisClass := this
  superClass := sup
  interfaces := ifs
  fields := fds
  methods := ms
  attributes := attrs
def plain (name : String) (sup : Option ClassId) : Class where
  name := name
  kind := .ordinary
  loader := none
  accessFlags := 33
  super := sup
  interfaces := #[]
  cf := none
  fields := #[]
  methods := #[]
  instanceTypes := #[]
  staticTypes := #[]
  resolved := #[]
  callSites := []
  init := .initialized
  statics := none
  mirror := none

def pool0 : Array CpInfo := pool [(5, u "<init>"), (0, u "()V"), (1, .class_ 10), (1, u "java/lang/Object")] 113

def k0c0 : Code := { maxStack := 0, maxLocals := 1, code := object_method_1_code, exceptionTable := #[], attributes := #[] }
def k0m0 : Method := { name := "<init>", desc := "()V", sig := { parameters := [], returnType := none }, accessFlags := 1, code := some k0c0 }
/-- java/lang/Object -/
def k0 : Class := { plain "java/lang/Object" none with
  accessFlags := 33
  interfaces := #[]
  cf := some (fileOf pool0 8 #[] #[{ accessFlags := 1, nameIndex := 5, descriptorIndex := 6, attributes := #[] }] 33 0 #[] #[])
  fields := #[]
  methods := #[k0m0]
  instanceTypes := #[]
  staticTypes := #[]
  resolved := Array.replicate 124 none
  statics := none }

def pool1 : Array CpInfo := pool [(2, .class_ 4), (1, u "java/lang/Object"), (0, u "<init>"), (0, u "()V"), (0, .class_ 8), (0, u "com/example/libforage/libforage/BoxSidePinLaw"), (0, .long 4611686018427387903), (1, .class_ 12), (0, u "com/example/libforage/libforage/IdGrid$Box"), (0, .methodref 11 14), (0, .nameAndType 5 15), (0, u "([J[J)V"), (0, .methodref 11 17), (0, .nameAndType 18 19), (0, u "side"), (0, u "(I)J"), (0, u "MASK"), (0, u "J"), (3, u "law"), (0, u "(JJJJJJ)Z")] 9

def k1m0 : Method := { name := "<init>", desc := "()V", sig := { parameters := [], returnType := none }, accessFlags := 1, code := none }
def k1c1 : Code := { maxStack := 6, maxLocals := 33, code := code, exceptionTable := #[], attributes := #[] }
def k1m1 : Method := { name := "law", desc := "(JJJJJJ)Z", sig := { parameters := [.long, .long, .long, .long, .long, .long], returnType := some .boolean }, accessFlags := 9, code := some k1c1 }
/-- com/example/libforage/libforage/BoxSidePinLaw -/
def k1 : Class := { plain "com/example/libforage/libforage/BoxSidePinLaw" (some 0) with
  accessFlags := 49
  interfaces := #[]
  cf := some (fileOf pool1 7 #[] #[{ accessFlags := 1, nameIndex := 5, descriptorIndex := 6, attributes := #[] }, { accessFlags := 9, nameIndex := 25, descriptorIndex := 26, attributes := #[] }] 49 2 #[] #[{ accessFlags := 26, nameIndex := 20, descriptorIndex := 21, attributes := #[] }])
  fields := #[{ name := "MASK", type := .long, accessFlags := 26, slot := 0, constantValue := 0 }]
  methods := #[k1m0, k1m1]
  instanceTypes := #[]
  staticTypes := #[.long]
  resolved := Array.replicate 36 none
  statics := none }

def pool2 : Array CpInfo := pool [(1, .methodref 2 3), (0, .class_ 4), (0, .nameAndType 5 6), (0, u "java/lang/Object"), (0, u "<init>"), (0, u "()V"), (0, .fieldref 8 9), (0, .class_ 10), (0, .nameAndType 11 12), (0, u "com/example/libforage/libforage/IdGrid$Box"), (0, u "lo"), (0, u "[J"), (0, .fieldref 8 14), (0, .nameAndType 15 12), (0, u "hi"), (2, u "side"), (0, u "(I)J"), (16, u "([J[J)V"), (22, .class_ 60), (0, u "com/example/libforage/libforage/IdGrid")] 2

def k2c0 : Code := { maxStack := 2, maxLocals := 3, code := prog_48_method_1_code, exceptionTable := #[], attributes := #[] }
def k2m0 : Method := { name := "<init>", desc := "([J[J)V", sig := { parameters := [(.array .long), (.array .long)], returnType := none }, accessFlags := 0, code := some k2c0 }
def k2c1 : Code := { maxStack := 4, maxLocals := 2, code := prog_48_method_4_code, exceptionTable := #[], attributes := #[] }
def k2m1 : Method := { name := "side", desc := "(I)J", sig := { parameters := [.int], returnType := some .long }, accessFlags := 0, code := some k2c1 }
/-- com/example/libforage/libforage/IdGrid$Box -/
def k2 : Class := { plain "com/example/libforage/libforage/IdGrid$Box" (some 0) with
  accessFlags := 32
  interfaces := #[]
  cf := some (fileOf pool2 8 #[.nestHost 59] #[{ accessFlags := 0, nameIndex := 5, descriptorIndex := 36, attributes := #[] }, { accessFlags := 0, nameIndex := 18, descriptorIndex := 19, attributes := #[] }] 32 2 #[] #[{ accessFlags := 18, nameIndex := 11, descriptorIndex := 12, attributes := #[] }, { accessFlags := 18, nameIndex := 15, descriptorIndex := 12, attributes := #[] }])
  fields := #[{ name := "lo", type := (.array .long), accessFlags := 18, slot := 0, constantValue := 0 }, { name := "hi", type := (.array .long), accessFlags := 18, slot := 1, constantValue := 0 }]
  methods := #[k2m0, k2m1]
  instanceTypes := #[(.array .long), (.array .long)]
  staticTypes := #[]
  resolved := Array.replicate 63 none
  statics := none }

def pool3 : Array CpInfo := pool [(1, u "java/lang/Cloneable"), (0, .class_ 1), (0, u "java/lang/Object"), (0, .class_ 3)] 3

/-- java/lang/Cloneable -/
def k3 : Class := { plain "java/lang/Cloneable" (some 0) with
  accessFlags := 1537
  interfaces := #[]
  cf := some (fileOf pool3 2 #[] #[] 1537 4 #[] #[])
  fields := #[]
  methods := #[]
  instanceTypes := #[]
  staticTypes := #[]
  resolved := Array.replicate 8 none
  statics := none }

def pool4 : Array CpInfo := pool [(1, u "java/io/Serializable"), (0, .class_ 1), (0, u "java/lang/Object"), (0, .class_ 3)] 3

/-- java/io/Serializable -/
def k4 : Class := { plain "java/io/Serializable" (some 0) with
  accessFlags := 1537
  interfaces := #[]
  cf := some (fileOf pool4 2 #[] #[] 1537 4 #[] #[])
  fields := #[]
  methods := #[]
  instanceTypes := #[]
  staticTypes := #[]
  resolved := Array.replicate 8 none
  statics := none }

/-- the primitive byte -/
def k5 : Class := { plain "byte" none with kind := .primitive 'B', accessFlags := 0x411 }
/-- [B -/
def k6 : Class := { plain "[B" (some 0) with kind := .array 5 .byte, interfaces := #[3, 4], accessFlags := 1041 }

/-- the primitive int -/
def k7 : Class := { plain "int" none with kind := .primitive 'I', accessFlags := 0x411 }
/-- [I -/
def k8 : Class := { plain "[I" (some 0) with kind := .array 7 .int, interfaces := #[3, 4], accessFlags := 1041 }

/-- the primitive long -/
def k9 : Class := { plain "long" none with kind := .primitive 'J', accessFlags := 0x411 }
/-- [J -/
def k10 : Class := { plain "[J" (some 0) with kind := .array 9 .long, interfaces := #[3, 4], accessFlags := 1041 }

def heap : Heap := #[]
def classes : Array Class := #[k0, k1, k2, k3, k4, k5, k6, k7, k8, k9, k10]
def interned : List (Array UInt16 × Addr) := []
def slotsUsed : Nat := 0
def theMethod : MethodId := ⟨1, 1⟩
def args0 : Array Value := #[.long 5, .long 5, .long 5, .long 5, .long 5, .long 5]
def aboutOver (below : List Frame) : State where
  vm := { classes := classes, interned := interned.toArray }
  heap := heap
  slotsUsed := slotsUsed
  threads := #[{ frames := .invoking theMethod args0 :: below }]
def below0 : List Frame := [.native { method := ⟨0, 0⟩, args := #[] }]
def about1 : State := aboutOver below0
def p0 : Program := .bare "" "" ""
def e0 : Env := launch0.env 0 0 0
theorem w_frames : about1.frames = Frame.invoking theMethod args0 :: below0 := rfl
set_option maxRecDepth 65536 in
theorem w_args : argsFit about1.vm theMethod args0 = true := by decide +kernel
set_option maxRecDepth 65536 in
theorem w_heap : heapFits about1 = true := by decide +kernel
set_option maxRecDepth 65536 in
theorem w_runnable : about1.curStatus? = some .runnable := by decide +kernel
set_option maxRecDepth 65536 in
theorem w_alone : about1.alone = true := by decide +kernel
set_option maxRecDepth 65536 in
theorem w_named : about1.methodNamed? x = some theMethod := by decide +kernel
set_option maxRecDepth 65536 in
theorem w_hears : about1.hears theMethod below0 = true := by decide +kernel
set_option maxRecDepth 65536 in
theorem w_ripe : about1.ripe theMethod args0 below0 = true := by decide +kernel
theorem w_running : about1.status = .running := rfl
set_option maxRecDepth 65536 in
theorem w_room : about1.hasRoom e0.platform room_1 = true :=
  launch0.hasRoom_least _ room_1 (by decide +kernel) (by decide +kernel) (by decide +kernel) (by decide +kernel) (by decide +kernel) (by decide +kernel)
theorem allAtoms_all (ts : List Jvm.Cond) (a : Array Jvm.Value) (st : Jvm.State) : (allAtoms ts).before a st = ts.all (fun c => c.before a st) := by
  induction ts with
  | nil => rfl
  | cons c t ih =>
    show (Jvm.Cond.and c (allAtoms t)).before a st = _
    rw [Jvm.Cond.before_and, ih, List.all_cons]
def words1 : List Jvm.Cond := Jvm.Cond.code x code maxLocals ret :: tables_1
/-- a 'code' word, met by the world's own term for the bytes: nothing is compared byte by byte -/
theorem code_word {y : MethodName} {bytes : ByteArray} {mx : Nat} {rt : Option FieldType} {a : Array Value} {s : State} {m : MethodId} {meth : Method} {c : Code} (h1 : s.methodNamed? y = some m) (h2 : s.vm.method? m = some meth) (h3 : meth.code = some c) (h4 : c.code = bytes)
    (h5 : (c.maxLocals == mx && c.exceptionTable.isEmpty && decide (c.maxStack ≤ mostOperands) && decide (meth.sig.returnType = rt) && !meth.locks && decide (parseMethodDescriptor y.desc = some meth.sig)) = true) : (Jvm.Cond.code y bytes mx rt).before a s = true := by
  simp only [Bool.and_eq_true, beq_iff_eq, Bool.not_eq_true', decide_eq_true_eq] at h5
  obtain ⟨⟨⟨⟨⟨g1, g2⟩, g3⟩, g4⟩, g5⟩, g6⟩ := h5
  simp [Cond.before, Cond.holds, Cond.value, h1, h2, h3, h4, g1, g2, g3, g4, g5, g6]
def isCode : Jvm.Cond → Bool
  | .code _ _ _ _ => true
  | _ => false
theorem all_split {L : List Jvm.Cond} {P : Jvm.Cond → Bool} (h1 : L.all (fun c => isCode c || P c) = true) (h2 : ∀ c ∈ L.filter isCode, P c = true) : L.all P = true := by
  refine List.all_eq_true.mpr fun c hc => ?_
  have h := List.all_eq_true.mp h1 c hc
  rcases Bool.eq_false_or_eq_true (isCode c) with hi | hi
  · exact h2 c (List.mem_filter.mpr ⟨hc, hi⟩)
  · simpa [hi] using h
set_option maxRecDepth 65536 in
theorem w_c0 : (Jvm.Cond.code x code maxLocals ret).before args0 about1 = true := code_word (m := ⟨1, 1⟩) (meth := k1m1) (c := k1c1) (by decide +kernel) rfl rfl rfl (by decide +kernel)
set_option maxRecDepth 65536 in
theorem w_c1 : (Jvm.Cond.code ({ cls := "com/example/libforage/libforage/IdGrid$Box", name := "<init>", desc := "([J[J)V" } : Jvm.MethodName) prog_48_method_1_code (3 : Nat) (Option.none : Option Jvm.ClassFile.FieldType)).before args0 about1 = true := code_word (m := ⟨2, 0⟩) (meth := k2m0) (c := k2c0) (by decide +kernel) rfl rfl rfl (by decide +kernel)
set_option maxRecDepth 65536 in
theorem w_c2 : (Jvm.Cond.code ({ cls := "java/lang/Object", name := "<init>", desc := "()V" } : Jvm.MethodName) object_method_1_code (1 : Nat) (Option.none : Option Jvm.ClassFile.FieldType)).before args0 about1 = true := code_word (m := ⟨0, 0⟩) (meth := k0m0) (c := k0c0) (by decide +kernel) rfl rfl rfl (by decide +kernel)
set_option maxRecDepth 65536 in
theorem w_c3 : (Jvm.Cond.code ({ cls := "com/example/libforage/libforage/IdGrid$Box", name := "side", desc := "(I)J" } : Jvm.MethodName) prog_48_method_4_code (2 : Nat) (Option.some Jvm.ClassFile.FieldType.long)).before args0 about1 = true := code_word (m := ⟨2, 1⟩) (meth := k2m1) (c := k2c1) (by decide +kernel) rfl rfl rfl (by decide +kernel)
def codes1 : List Jvm.Cond := [Jvm.Cond.code x code maxLocals ret, Jvm.Cond.code ({ cls := "com/example/libforage/libforage/IdGrid$Box", name := "<init>", desc := "([J[J)V" } : Jvm.MethodName) prog_48_method_1_code (3 : Nat) (Option.none : Option Jvm.ClassFile.FieldType), Jvm.Cond.code ({ cls := "java/lang/Object", name := "<init>", desc := "()V" } : Jvm.MethodName) object_method_1_code (1 : Nat) (Option.none : Option Jvm.ClassFile.FieldType), Jvm.Cond.code ({ cls := "com/example/libforage/libforage/IdGrid$Box", name := "side", desc := "(I)J" } : Jvm.MethodName) prog_48_method_4_code (2 : Nat) (Option.some Jvm.ClassFile.FieldType.long)]
set_option maxRecDepth 65536 in
theorem codes_eq : words1.filter isCode = codes1 := rfl
theorem w_codes : ∀ c ∈ words1.filter isCode, c.before args0 about1 = true := by
  rw [codes_eq]
  intro c hc
  simp only [codes1, List.mem_cons, List.not_mem_nil, or_false] at hc
  rcases hc with rfl | rfl | rfl | rfl
  · exact w_c0
  · exact w_c1
  · exact w_c2
  · exact w_c3
set_option maxRecDepth 65536 in
theorem w_t1 : words1.all (fun c => isCode c || c.before args0 about1) = true := by decide +kernel
theorem w_tables : (allAtoms (Jvm.Cond.code x code maxLocals ret :: tables_1)).before args0 about1 = true := by
  rw [allAtoms_all]
  show words1.all (fun c => c.before args0 about1) = true
  refine all_split ?_ w_codes
  rw [w_t1]
set_option maxRecDepth 65536 in
theorem w_case : (Jvm.Cond.and given_1 narrow_1).before args0 about1 = true := by decide +kernel
theorem w_applies : (headSpec (Jvm.Cond.code x code maxLocals ret :: tables_1) room_1).applies x e0.platform about1 = true :=
  (Spec.applies_iff w_frames).mpr ⟨w_running, w_runnable, w_alone, w_named, w_hears, w_ripe, w_room, w_tables⟩
theorem atStart : AtStart classFile x code maxLocals ret World_1 tables_1 room_1 Calls_1 rest_1 Pre_1 launch0 p0 e0 about1 theMethod args0 below0 :=
  ⟨lists_1, trivial, launch0.admits_env _ _ _, launch0.least_env, fairChoices_fair.cas, fairChoices_fair.clock, w_frames, w_args, w_heap, w_applies, trivial, trivial, w_case⟩
end start1
theorem witness_1 : WitnessClaimed_1 := ⟨start1.p0, start1.e0, start1.about1, start1.theMethod, start1.args0, start1.below0, start1.atStart⟩
end Jvm.Pilot.@@N@@
