import JvmDerived
import JvmDerived.Pilot.@@N@@Statement
import JvmDerived.Pilot.@@N@@Code
set_option linter.unusedVariables false
set_option linter.unusedSimpArgs false
namespace Jvm.RoadKit
open Sem ClassFile Op Lib Jvm.Stand Jvm.Free Jvm.LawKit
section New
variable {p : Program} {l : Launch} {e : Env} {R : Room} {s : State} {m : MethodId} {args : Array Value} {below : List Frame} {meth : Method} {c : Code} {T : State} {locs : List Loc} {cells slots : Nat}
theorem retI (X : Stand p l e R s m args below meth c T locs cells slots) (hx : p.tables.exec = Jvm.exec) {pc : Nat} {Ls : Array Slot} {z : Int32} {rest : List Value} (hret : meth.sig.returnType = some .int) (hd : decode c.code pc = .ok (.ireturn, 1)) {fs : List Frame}
    (hl : ∀ (f : JFrame) (acts : List Action), f.method = m → f.locked = none → f.entered = [] → (doReturn e (T.setTop f) acts (some (.int z))).1 = T.setFrames fs) : Steps p.tables e below (T.setTop (mkF m pc Ls (.int z :: rest))) (T.setFrames fs) := by
  have hm' : T.vm.method? m = some meth := X.method'
  have hn : narrow .int (.int z) = .int z := rfl
  show Steps p.tables e below (T.setTop { method := m, pc := pc, locals := Ls, stack := _ :: rest, locked := none }) _
  jvm_step X.here [X.here.top, hx, hd, hm', hret, hn]
  first | (intro acts; rw [hl _ acts rfl rfl rfl]) | rw [hl _ _ rfl rfl rfl]
  exact Steps.refl _
theorem own_ldc {g : JFrame} {target : State} (X : Stand p l e R s m args below meth c T locs cells slots) (hx : p.tables.exec = Jvm.exec) {own : String} {index : Nat} {v : Int32} (hown : s.vm.findClass own = some m.cls) (w : (Cond.constant own index v).before args s = true) (hg : g.method = m) (hd : decode c.code g.pc = .ok (.ldc index, 2))
    (hr : Steps p.tables e below (T.setTop { g with pc := g.pc + 2, stack := .int v :: g.stack }) target) : Steps p.tables e below (T.setTop g) target := X.ldcInt hx hown w hg hd target hr
theorem own_ldc2 {g : JFrame} {target : State} (X : Stand p l e R s m args below meth c T locs cells slots) (hx : p.tables.exec = Jvm.exec) {own : String} {index : Nat} {v : Int64} (hown : s.vm.findClass own = some m.cls) (w : (Cond.constantLong own index v).before args s = true) (hg : g.method = m) (hd : decode c.code g.pc = .ok (.ldc2_w index, 3))
    (hr : Steps p.tables e below (T.setTop { g with pc := g.pc + 3, stack := .long v :: g.stack }) target) : Steps p.tables e below (T.setTop g) target := X.ldc2Long hx hown w hg hd target hr
theorem own_len {g : JFrame} {target : State} (X : Stand p l e R s m args below meth c T locs cells slots) (hx : p.tables.exec = Jvm.exec) {a : Addr} {cell : Cell} {ty : FieldType} {z : Int32} (hcell : T.heap[a]? = some cell) (harr : s.isArrayOf cell ty) (hz : cell.slots.size = z.toNatClampNeg) (hn : ¬ z < 0) (hg : g.method = m) {rest : List Value} (hs : g.stack = .ref a :: rest) (hd : decode c.code g.pc = .ok (.arraylength, 1))
    (hr : Steps p.tables e below (T.setTop { g with pc := g.pc + 1, stack := .int z :: rest }) target) : Steps p.tables e below (T.setTop g) target := X.arraylength hx hcell harr hg hs hd target (by rw [len_of hz hn]; exact hr)
theorem own_iaload {g : JFrame} {target : State} (X : Stand p l e R s m args below meth c T locs cells slots) (hx : p.tables.exec = Jvm.exec) {a : Addr} {cell : Cell} {j : Int32} {v : Value} (hcell : T.heap[a]? = some cell) (harr : s.isArrayOf cell .int) (hk : cell.vm ≠ .unknown) (hin : ¬ (j < 0 ∨ cell.slots.size ≤ j.toNatClampNeg)) (hv : cell.slots[j.toNatClampNeg]? = some v) (hg : g.method = m) {rest : List Value} (hs : g.stack = .int j :: .ref a :: rest) (hd : decode c.code g.pc = .ok (.iaload, 1))
    (hr : Steps p.tables e below (T.setTop { g with pc := g.pc + 1, stack := v :: rest }) target) : Steps p.tables e below (T.setTop g) target := X.iaload hx hcell harr hk hin hv hg hs hd target hr
theorem own_laload {g : JFrame} {target : State} (X : Stand p l e R s m args below meth c T locs cells slots) (hx : p.tables.exec = Jvm.exec) {a : Addr} {cell : Cell} {j : Int32} {v : Value} (hcell : T.heap[a]? = some cell) (harr : s.isArrayOf cell .long) (hk : cell.vm ≠ .unknown) (hin : ¬ (j < 0 ∨ cell.slots.size ≤ j.toNatClampNeg)) (hv : cell.slots[j.toNatClampNeg]? = some v) (hg : g.method = m) {rest : List Value} (hs : g.stack = .int j :: .ref a :: rest) (hd : decode c.code g.pc = .ok (.laload, 1))
    (hr : Steps p.tables e below (T.setTop { g with pc := g.pc + 1, stack := v :: rest }) target) : Steps p.tables e below (T.setTop g) target := X.laload hx hcell harr hk hin hv hg hs hd target hr
theorem own_baload {g : JFrame} {target : State} (X : Stand p l e R s m args below meth c T locs cells slots) (hx : p.tables.exec = Jvm.exec) {a : Addr} {cell : Cell} {j : Int32} {v : Value} (hcell : T.heap[a]? = some cell) (harr : s.isArrayOf cell .byte) (hk : cell.vm ≠ .unknown) (hin : ¬ (j < 0 ∨ cell.slots.size ≤ j.toNatClampNeg)) (hv : cell.slots[j.toNatClampNeg]? = some v) (hg : g.method = m) {rest : List Value} (hs : g.stack = .int j :: .ref a :: rest) (hd : decode c.code g.pc = .ok (.baload, 1))
    (hr : Steps p.tables e below (T.setTop { g with pc := g.pc + 1, stack := v :: rest }) target) : Steps p.tables e below (T.setTop g) target := X.baloadBytes hx hcell harr hk hin hv hg hs hd target hr
theorem own_lrem {g : JFrame} {target : State} (X : Stand p l e R s m args below meth c T locs cells slots) (hx : p.tables.exec = Jvm.exec) (hg : g.method = m) {x y : Int64} {rest : List Value} (hd : decode c.code g.pc = .ok (.lrem, 1)) (hs : g.stack = .long y :: .long x :: rest) (hy : y ≠ 0)
    (hr : Steps p.tables e below (T.setTop { g with pc := g.pc + 1, stack := .long (x % y) :: rest }) target) : Steps p.tables e below (T.setTop g) target :=
  XS.lrem X.here hx hg hd hs hy (by rw [lrem_mod]; exact hr)
theorem own_tltL {x y : Int64} (h : x < y) : ifCond.holds .lt (lcmpW x y) = true ∧ ifCond.holds .ge (lcmpW x y) = false ∧ ifCond.holds .gt (lcmpW y x) = true ∧ ifCond.holds .le (lcmpW y x) = false := by
  have h1 : lcmpW x y < 0 := by rw [lcW]; exact (lc_lt x y).mpr h
  have h2 : 0 < lcmpW y x := by rw [lcW]; exact (lc_gt y x).mpr h
  exact ⟨(if0 _ _).trans (tlt h1).1, (if0 _ _).trans (tlt h1).2.1, (if0 _ _).trans (tlt h2).2.2.1, (if0 _ _).trans (tlt h2).2.2.2⟩
theorem own_fltL {x y : Int64} (h : ¬ x < y) : ifCond.holds .lt (lcmpW x y) = false ∧ ifCond.holds .ge (lcmpW x y) = true ∧ ifCond.holds .gt (lcmpW y x) = false ∧ ifCond.holds .le (lcmpW y x) = true := by
  have h1 : ¬ lcmpW x y < 0 := by rw [lcW, lc_lt]; exact h
  have h2 : ¬ 0 < lcmpW y x := by rw [lcW, lc_gt]; exact h
  exact ⟨(if0 _ _).trans (flt h1).1, (if0 _ _).trans (flt h1).2.1, (if0 _ _).trans (flt h2).2.2.1, (if0 _ _).trans (flt h2).2.2.2⟩
theorem own_teqL {x y : Int64} (h : x = y) : ifCond.holds .eq (lcmpW x y) = true ∧ ifCond.holds .ne (lcmpW x y) = false := by
  have h1 : lcmpW x y = 0 := by rw [lcW, lc_eq]; exact h
  exact ⟨(if0 _ _).trans (teq h1).1, (if0 _ _).trans (teq h1).2⟩
theorem own_feqL {x y : Int64} (h : ¬ x = y) : ifCond.holds .eq (lcmpW x y) = false ∧ ifCond.holds .ne (lcmpW x y) = true := by
  have h1 : ¬ lcmpW x y = 0 := by rw [lcW, lc_eq]; exact h
  exact ⟨(if0 _ _).trans (feq h1).1, (if0 _ _).trans (feq h1).2⟩
end New
end Jvm.RoadKit
namespace Jvm.Pilot.@@N@@
open Jvm Jvm.ClassFile Sem Op Lib Jvm.Free Jvm.Stand Jvm.LawKit Jvm.RoadKit Bundle Jvm.Pilot.@@N@@.Jvm.D
/-- what is left to show from a place of the walk on -/
abbrev OGl (p : Program) (e : Env) (below : List Frame) (Q : Outcome → State → Prop) (T : State) (g : JFrame) : Prop :=
  ∃ s₂ o, Steps p.tables e below (T.setTop g) s₂ ∧ s₂.status = .running ∧ Ended s₂ below o ∧ Q o s₂
theorem OGl.go {p : Program} {e : Env} {below : List Frame} {Q : Outcome → State → Prop} {T T' : State} {g g' : JFrame} (h : ∀ t, Steps p.tables e below (T'.setTop g') t → Steps p.tables e below (T.setTop g) t) (k : OGl p e below Q T' g') : OGl p e below Q T g := by
  obtain ⟨s2, o, h1, h2⟩ := k
  exact ⟨s2, o, h _ h1, h2⟩
theorem OGl.start {p : Program} {e : Env} {below : List Frame} {Q : Outcome → State → Prop} {T : State} {g g' : JFrame} (q : g = g') (k : OGl p e below Q T g') : OGl p e below Q T g := q ▸ k
theorem own_selPriv {s : State} {args : Array Value} {y y' x' : MethodName} {C' : String} (hp : s.PrivateAt y) (hi : (Cond.instanceMethod y).before args s = true) (hc : y'.cls = y.cls) (hs : (Cond.selects C' x' y').before args s = true) (hy : y.cls ≠ "java/lang/invoke/MethodHandle" ∧ y.cls ≠ "java/lang/invoke/VarHandle" := by decide) : (Cond.selects y.cls y y).before args s = true := by
  obtain ⟨mk, meth, hn, hm, -, -⟩ := Cond.instanceMethod_spec hi
  obtain ⟨c2, r2, m2, -, -, q3, -, kP, hkP, hkPi⟩ := Cond.selects_spec hs
  have h1 := findClass_of_methodNamed hn
  have h2 := findClass_of_methodNamed q3
  rw [hc, h1] at h2
  have h3 : mk.cls = m2.cls := Option.some.inj h2
  have hf := State.methodFound?_of_named hn hy
  have hsel : selectMethod {} s.vm mk.cls mk = .method mk := selectMethod_private hm (hp mk meth hn hm)
  rw [← h3] at hkP
  simp [Cond.before, Cond.holds, Cond.value, h1, hf, hn, hsel, hkP, hkPi]
theorem own_weak {Z : State} {h : Heap} {a : Addr} {k : ClassId} {ty : FieldType} {z : Int32} {vs vs' : List Value} {d : Value} (F : Arv Z h a k ty z vs d) (q : ∀ i, i < z.toNatClampNeg → vs'.getD i d = vs.getD i d) : Arv Z h a k ty z vs' d := by
  obtain ⟨c, A, r1, r2, r3, H, G⟩ := F
  exact ⟨c, A, r1, r2, r3, fun i hi => by rw [q i (r2 ▸ hi)]; exact H i hi, fun i hi => by rw [q i (r2 ▸ hi)]; exact G i hi⟩
theorem own_cl {z j : Int32} {k i : Nat} (h : ¬ j < z) (hk : j.toInt = k) (hi : i < z.toNatClampNeg) : i < k := by
  rw [Int32.lt_iff_toInt_lt] at h
  have : z.toNatClampNeg = z.toInt.toNat := rfl
  omega
theorem own_irr {α : Type} [LT α] [Std.Irrefl (α := α) (· < ·)] (x : α) : ¬ x < x := Std.Irrefl.irrefl x
theorem d1_0 : decode prog_47_method_5_code 0 = .ok (.ldc2_w 110, 3) := by decide +kernel
theorem d1_3 : decode prog_47_method_5_code 3 = .ok (.lload_n 0, 1) := by decide +kernel
theorem d1_4 : decode prog_47_method_5_code 4 = .ok (.ladd, 1) := by decide +kernel
theorem d1_5 : decode prog_47_method_5_code 5 = .ok (.lstore_n 2, 1) := by decide +kernel
theorem d1_6 : decode prog_47_method_5_code 6 = .ok (.lload_n 2, 1) := by decide +kernel
theorem d1_7 : decode prog_47_method_5_code 7 = .ok (.lload_n 2, 1) := by decide +kernel
theorem d1_8 : decode prog_47_method_5_code 8 = .ok (.ldc2_w 112, 3) := by decide +kernel
theorem d1_11 : decode prog_47_method_5_code 11 = .ok (.ldiv, 1) := by decide +kernel
theorem d1_12 : decode prog_47_method_5_code 12 = .ok (.ladd, 1) := by decide +kernel
theorem d1_13 : decode prog_47_method_5_code 13 = .ok (.lreturn, 1) := by decide +kernel
theorem ef_1 (m : MethodId) (x0 : Int64) : entryFrame m #[(.long x0)] 4 = mkF m 0 #[.val (.long x0), .second, .unset, .unset] [] := by first | (simp [entryFrame, mkF, argsToLocals, Value.category]; done) | rfl
theorem pn_0 : plainName "com/example/tapwright/tapwright/registry/CardRegistry" = true := by first | (simp [plainName, overriddenIn]; done) | decide +kernel
def Q1 (Z : State) (q0 : Int64) (h0 : Heap) (n0 : Nat) (v : Option Value) (h : Heap) (L : List Loc) : Prop := v = some (.long (((8388608 : Int64) + q0) + (((8388608 : Int64) + q0) / (4 : Int64)))) ∧ Fr n0 L ∧ h = h0
set_option maxRecDepth 65536 in
set_option maxHeartbeats 40000000 in
theorem rm1 (l : Launch) (Z : State) (a0 : Array Value) (hw : ∀ d ∈ tables_1, d.before a0 Z = true) (ws : List Jvm.Cond) (q0 : Int64) (h0 : Heap) (n0 : Nat) (Z0 : n0 ≤ h0.size) :
    MetFree l (⟨"com/example/tapwright/tapwright/registry/CardRegistry", "heapNeeded", "(J)J"⟩ : MethodName) (head1 (Jvm.Cond.code (⟨"com/example/tapwright/tapwright/registry/CardRegistry", "heapNeeded", "(J)J"⟩ : MethodName) prog_47_method_5_code 4 (some .long) :: ws) ({ frames := 0, cells := 0, slots := 0, locals := 0 } : Room)) (fun a U => a = #[(.long q0)] ∧ Z.Warmed39 U.vm ∧ U.heap = h0) (fun _ _ _ _ _ => True) (fun _ U o U' => ∃ v L, o = .returned v ∧ Q1 Z q0 h0 n0 v U'.heap L ∧ FrameEnd U o U' L ({ frames := 0, cells := 0, slots := 0, locals := 0 } : Room).cells ({ frames := 0, cells := 0, slots := 0, locals := 0 } : Room).slots) := by
  refine MetFree.of_bodySF (plainFor_of_name pn_0) hisR ?_
  intro p e s m args below meth c s₁ Bd hml0 hP hK
  obtain ⟨rfl, hZ, hh⟩ := hP
  have hx := Bd.exec
  have hby := Bd.bytes
  have hml : c.maxLocals = 4 := hml0
  have hown : s.vm.findClass "com/example/tapwright/tapwright/registry/CardRegistry" = some m.cls := findClass_of_methodNamed Bd.named
  have hnm := (name_of_methodNamed Bd.named Bd.method).1
  have X0 : Stand p l e ({ frames := 0, cells := 0, slots := 0, locals := 0 } : Room) s m #[(.long q0)] below meth c s₁ [] 0 0 := Stand.of_body Bd
  have e0 : s₁.heap = h0 := by rw [← hh, Bd.state]; rfl
  have N0 := Fr.nil n0
  refine OGl.start (ef_1 m q0) ?_
  show OGl _ _ _ _ s₁ (mkF m 0 #[.val (.long q0), .second, .unset, .unset] [])
  refine OGl.go (fun t k => own_ldc2 X0 hx hown (mvT hZ (hw _ (List.mem_of_getElem? (i := 8) rfl))) rfl (hb hby d1_0) (XS.lloadN X0.here hx rfl (hb hby d1_3) rfl (XS.ladd X0.here hx rfl (hb hby d1_4) rfl (XS.lstoreN X0.here hx rfl (hb hby d1_5) rfl (l' := #[.val (.long q0), .second, .val (.long ((8388608 : Int64) + q0)), .second]) rfl (XS.lloadN X0.here hx rfl (hb hby d1_6) rfl (XS.lloadN X0.here hx rfl (hb hby d1_7) rfl (own_ldc2 X0 hx hown (mvT hZ (hw _ (List.mem_of_getElem? (i := 9) rfl))) rfl (hb hby d1_8) (XS.ldiv X0.here hx rfl (hb hby d1_11) rfl (by decide) k)))))))) ?_
  show OGl _ _ _ _ s₁ (mkF m 12 #[.val (.long q0), .second, .val (.long ((8388608 : Int64) + q0)), .second] [(.long (((8388608 : Int64) + q0) / (4 : Int64))), (.long ((8388608 : Int64) + q0))])
  refine OGl.go (fun t k => XS.ladd X0.here hx rfl (hb hby d1_12) rfl k) ?_
  show OGl _ _ _ _ s₁ (mkF m 13 #[.val (.long q0), .second, .val (.long ((8388608 : Int64) + q0)), .second] [(.long (((8388608 : Int64) + q0) + (((8388608 : Int64) + q0) / (4 : Int64))))])
  obtain ⟨fs, hr, hrun, hended, hW, hsame⟩ := X0.leave (v := some (.long (((8388608 : Int64) + q0) + (((8388608 : Int64) + q0) / (4 : Int64))))) (fun h => by rw [Bd.returns] at h; cases h)
  refine ⟨_, _, X0.lreturnOut hx Bd.returns (hb hby d1_13) hr, hrun, hended, _, _, rfl, ?_, ⟨_, rfl⟩, hW, hsame.mono (by decide) (by decide)⟩
  show Q1 Z q0 h0 n0 _ s₁.heap _
  rw [e0]
  exact ⟨rfl, N0, rfl⟩
theorem pd_0 : parseMethodDescriptor "(J)J" = some ⟨[.long], some .long⟩ := by decide +kernel
def e0_0 (q0 : Int64) : Int64 := (((8388608 : Int64) + (q0 &&& (1152921504606846975 : Int64))) >>> ((2 : Int32) &&& 0x3f).toInt64)
def e0_1 (q0 : Int64) : Int64 := (((8388608 : Int64) + (q0 &&& (1152921504606846975 : Int64))) &&& (3 : Int64))
def e0_2 (q0 : Int64) : Int64 := (((8388608 : Int64) + (q0 &&& (1152921504606846975 : Int64))) + (((8388608 : Int64) + (q0 &&& (1152921504606846975 : Int64))) / (4 : Int64)))
theorem ef_0 (m : MethodId) (x0 : Int64) : entryFrame m #[(.long x0)] maxLocals = mkF m 0 #[.val (.long x0), .second, .unset, .unset, .unset, .unset, .unset, .unset, .unset, .unset, .unset, .unset, .unset, .unset] [] := by first | (simp [entryFrame, mkF, argsToLocals, Value.category, maxLocals]; done) | rfl
theorem pn_1 : plainName "com/example/tapwright/tapwright/registry/CardRegistryHeapNeededPinLaw" = true := by first | (simp [plainName, overriddenIn]; done) | decide +kernel
def t0_0 (q0 : Int64) : Int32 := (if (e0_2 q0) = (((5 : Int64) * (e0_0 q0)) + (e0_1 q0)) then (1 : Int32) else (0 : Int32))
def Q0 (Z : State) (q0 : Int64) (h0 : Heap) (n0 : Nat) (v : Option Value) (h : Heap) (L : List Loc) : Prop := v = some (.int (t0_0 q0)) ∧ Fr n0 L
set_option maxRecDepth 65536 in
set_option maxHeartbeats 40000000 in
theorem rm0 (l : Launch) (Z : State) (a0 : Array Value) (hw : ∀ d ∈ tables_1, d.before a0 Z = true) (ws : List Jvm.Cond) (q0 : Int64) (h0 : Heap) (n0 : Nat) (Z0 : n0 ≤ h0.size) :
    MetFree l x (head1 (Jvm.Cond.code x code maxLocals ret :: ws) room_1) (fun a U => a = #[(.long q0)] ∧ Z.Warmed39 U.vm ∧ U.heap = h0) (fun _ _ _ _ _ => True) (fun _ U o U' => ∃ v L, o = .returned v ∧ Q0 Z q0 h0 n0 v U'.heap L ∧ FrameEnd U o U' L 0 0) := by
  refine MetFree.of_bodySF (plainFor_of_name pn_1) hisR ?_
  intro p e s m args below meth c s₁ Bd hml0 hP hK
  obtain ⟨rfl, hZ, hh⟩ := hP
  have hx := Bd.exec
  have hby := Bd.bytes
  have hml : c.maxLocals = 14 := hml0
  have hown : s.vm.findClass "com/example/tapwright/tapwright/registry/CardRegistryHeapNeededPinLaw" = some m.cls := findClass_of_methodNamed Bd.named
  have hnm := (name_of_methodNamed Bd.named Bd.method).1
  have X0 : Stand p l e room_1 s m #[(.long q0)] below meth c s₁ [] 0 0 := Stand.of_body Bd
  have e0 : s₁.heap = h0 := by rw [← hh, Bd.state]; rfl
  have N0 := Fr.nil n0
  refine OGl.start (ef_0 m q0) ?_
  show OGl _ _ _ _ s₁ (mkF m 0 #[.val (.long q0), .second, .unset, .unset, .unset, .unset, .unset, .unset, .unset, .unset, .unset, .unset, .unset, .unset] [])
  refine OGl.go (fun t k => XS.lloadN X0.here hx rfl (hb hby at_0) rfl (own_ldc2 X0 hx hown (mvT hZ (hw _ (List.mem_of_getElem? (i := 0) rfl))) rfl (hb hby at_1) (XS.land X0.here hx rfl (hb hby at_4) rfl (XS.lstoreN X0.here hx rfl (hb hby at_5) rfl (l' := #[.val (.long q0), .second, .val (.long (q0 &&& (1152921504606846975 : Int64))), .second, .unset, .unset, .unset, .unset, .unset, .unset, .unset, .unset, .unset, .unset]) rfl (own_ldc2 X0 hx hown (mvT hZ (hw _ (List.mem_of_getElem? (i := 1) rfl))) rfl (hb hby at_6) (XS.lloadN X0.here hx rfl (hb hby at_9) rfl (XS.ladd X0.here hx rfl (hb hby at_10) rfl (XS.lstore X0.here hx rfl (hb hby at_11) rfl (l' := #[.val (.long q0), .second, .val (.long (q0 &&& (1152921504606846975 : Int64))), .second, .val (.long ((8388608 : Int64) + (q0 &&& (1152921504606846975 : Int64)))), .second, .unset, .unset, .unset, .unset, .unset, .unset, .unset, .unset]) rfl k)))))))) ?_
  show OGl _ _ _ _ s₁ (mkF m 13 #[.val (.long q0), .second, .val (.long (q0 &&& (1152921504606846975 : Int64))), .second, .val (.long ((8388608 : Int64) + (q0 &&& (1152921504606846975 : Int64)))), .second, .unset, .unset, .unset, .unset, .unset, .unset, .unset, .unset] [])
  refine OGl.go (fun t k => XS.lload X0.here hx rfl (hb hby at_13) rfl (XS.iconst X0.here hx rfl (hb hby at_15) (XS.lshr X0.here hx rfl (hb hby at_16) rfl (XS.lstore X0.here hx rfl (hb hby at_17) rfl (l' := #[.val (.long q0), .second, .val (.long (q0 &&& (1152921504606846975 : Int64))), .second, .val (.long ((8388608 : Int64) + (q0 &&& (1152921504606846975 : Int64)))), .second, .val (.long (e0_0 q0)), .second, .unset, .unset, .unset, .unset, .unset, .unset]) rfl (XS.lload X0.here hx rfl (hb hby at_19) rfl (own_ldc2 X0 hx hown (mvT hZ (hw _ (List.mem_of_getElem? (i := 2) rfl))) rfl (hb hby at_21) (XS.land X0.here hx rfl (hb hby at_24) rfl (XS.lstore X0.here hx rfl (hb hby at_25) rfl (l' := #[.val (.long q0), .second, .val (.long (q0 &&& (1152921504606846975 : Int64))), .second, .val (.long ((8388608 : Int64) + (q0 &&& (1152921504606846975 : Int64)))), .second, .val (.long (e0_0 q0)), .second, .val (.long (e0_1 q0)), .second, .unset, .unset, .unset, .unset]) rfl k)))))))) ?_
  show OGl _ _ _ _ s₁ (mkF m 27 #[.val (.long q0), .second, .val (.long (q0 &&& (1152921504606846975 : Int64))), .second, .val (.long ((8388608 : Int64) + (q0 &&& (1152921504606846975 : Int64)))), .second, .val (.long (e0_0 q0)), .second, .val (.long (e0_1 q0)), .second, .unset, .unset, .unset, .unset] [])
  refine OGl.go (fun t k => own_ldc2 X0 hx hown (mvT hZ (hw _ (List.mem_of_getElem? (i := 3) rfl))) rfl (hb hby at_27) (XS.lload X0.here hx rfl (hb hby at_30) rfl (XS.lmul X0.here hx rfl (hb hby at_32) rfl (XS.lload X0.here hx rfl (hb hby at_33) rfl (XS.ladd X0.here hx rfl (hb hby at_35) rfl (XS.lstore X0.here hx rfl (hb hby at_36) rfl (l' := #[.val (.long q0), .second, .val (.long (q0 &&& (1152921504606846975 : Int64))), .second, .val (.long ((8388608 : Int64) + (q0 &&& (1152921504606846975 : Int64)))), .second, .val (.long (e0_0 q0)), .second, .val (.long (e0_1 q0)), .second, .val (.long (((5 : Int64) * (e0_0 q0)) + (e0_1 q0))), .second, .unset, .unset]) rfl (XS.lloadN X0.here hx rfl (hb hby at_38) rfl k))))))) ?_
  show OGl _ _ _ _ s₁ (mkF m 39 #[.val (.long q0), .second, .val (.long (q0 &&& (1152921504606846975 : Int64))), .second, .val (.long ((8388608 : Int64) + (q0 &&& (1152921504606846975 : Int64)))), .second, .val (.long (e0_0 q0)), .second, .val (.long (e0_1 q0)), .second, .val (.long (((5 : Int64) * (e0_0 q0)) + (e0_1 q0))), .second, .unset, .unset] [(.long (q0 &&& (1152921504606846975 : Int64)))])
  obtain ⟨_, _, ⟨T1, L1, kk1, n1⟩, -, X1, ⟨Lc1, hQ1, l1, y1, z1⟩, st1⟩ := Jvm.LawKit.callS X0 hx (y := (⟨"com/example/tapwright/tapwright/registry/CardRegistry", "heapNeeded", "(J)J"⟩ : MethodName)) hown (mvT hZ (hw _ (List.mem_of_getElem? (i := 4) rfl))) (mvT hZ (hw _ (List.mem_of_getElem? (i := 5) rfl))) (mvT hZ (hw _ (List.mem_of_getElem? (i := 6) rfl))) (mvT hZ (hw _ (List.mem_of_getElem? (i := 7) rfl))) (by decide) (backOf (W := 0) (rm1 l Z a0 hw [] (q0 &&& (1152921504606846975 : Int64)) h0 n0 Z0 ) hZ (hw _ (List.mem_of_getElem? (i := 7) rfl)) (hw _ (List.mem_of_getElem? (i := 6) rfl)) (by decide) (by decide)) (g := (mkF m 39 #[.val (.long q0), .second, .val (.long (q0 &&& (1152921504606846975 : Int64))), .second, .val (.long ((8388608 : Int64) + (q0 &&& (1152921504606846975 : Int64)))), .second, .val (.long (e0_0 q0)), .second, .val (.long (e0_1 q0)), .second, .val (.long (((5 : Int64) * (e0_0 q0)) + (e0_1 q0))), .second, .unset, .unset] [(.long (q0 &&& (1152921504606846975 : Int64)))])) rfl (by rw [hml]; rfl) (argsL := [(.long (q0 &&& (1152921504606846975 : Int64)))]) (rest := []) (lenOf pd_0 rfl) rfl (by show 2 * 0 + _ ≤ _; exact Nat.le_of_eq rfl) (hb hby at_39) (fun _ _ => ⟨rfl, e0, (by decide : 0 + 0 ≤ _), (by decide : 0 + 0 ≤ _)⟩)
  dsimp only [Pt.U, Pt.locs, Pt.cells, Pt.slots] at X1 l1 y1 z1 st1 hQ1
  subst l1 y1 z1
  obtain ⟨rfl, Nq1, e1⟩ := hQ1
  have N1 := Fr.app N0 Nq1
  refine OGl.go st1 ?_
  show OGl _ _ _ _ T1 (mkF m 42 #[.val (.long q0), .second, .val (.long (q0 &&& (1152921504606846975 : Int64))), .second, .val (.long ((8388608 : Int64) + (q0 &&& (1152921504606846975 : Int64)))), .second, .val (.long (e0_0 q0)), .second, .val (.long (e0_1 q0)), .second, .val (.long (((5 : Int64) * (e0_0 q0)) + (e0_1 q0))), .second, .unset, .unset] [(.long (e0_2 q0))])
  refine OGl.go (fun t k => XS.lstore X1.here hx rfl (hb hby at_42) rfl (l' := #[.val (.long q0), .second, .val (.long (q0 &&& (1152921504606846975 : Int64))), .second, .val (.long ((8388608 : Int64) + (q0 &&& (1152921504606846975 : Int64)))), .second, .val (.long (e0_0 q0)), .second, .val (.long (e0_1 q0)), .second, .val (.long (((5 : Int64) * (e0_0 q0)) + (e0_1 q0))), .second, .val (.long (e0_2 q0)), .second]) rfl (XS.lload X1.here hx rfl (hb hby at_44) rfl (XS.lload X1.here hx rfl (hb hby at_46) rfl (XS.lcmp X1.here hx rfl (hb hby at_48) rfl k)))) ?_
  show OGl _ _ _ _ T1 (mkF m 49 #[.val (.long q0), .second, .val (.long (q0 &&& (1152921504606846975 : Int64))), .second, .val (.long ((8388608 : Int64) + (q0 &&& (1152921504606846975 : Int64)))), .second, .val (.long (e0_0 q0)), .second, .val (.long (e0_1 q0)), .second, .val (.long (((5 : Int64) * (e0_0 q0)) + (e0_1 q0))), .second, .val (.long (e0_2 q0)), .second] [(.int (lcmpW (e0_2 q0) (((5 : Int64) * (e0_0 q0)) + (e0_1 q0))))])
  by_cases hc2 : (e0_2 q0) = (((5 : Int64) * (e0_0 q0)) + (e0_1 q0))
  · refine OGl.go (fun t k => XS.ifNo X1.here hx rfl (hb hby at_49) rfl (own_teqL hc2).2 (XS.iconst X1.here hx rfl (hb hby at_52) (XS.goto X1.here hx rfl (pc0 := 53) (pc' := 57) rfl (hb hby at_53) (by decide) (by decide) k))) ?_
    show OGl _ _ _ _ T1 (mkF m 57 #[.val (.long q0), .second, .val (.long (q0 &&& (1152921504606846975 : Int64))), .second, .val (.long ((8388608 : Int64) + (q0 &&& (1152921504606846975 : Int64)))), .second, .val (.long (e0_0 q0)), .second, .val (.long (e0_1 q0)), .second, .val (.long (((5 : Int64) * (e0_0 q0)) + (e0_1 q0))), .second, .val (.long (e0_2 q0)), .second] [(.int (1 : Int32))])
    obtain ⟨fs, hr, hrun, hended, hW, hsame⟩ := X1.leave (v := some (.int (1 : Int32))) (fun h => by rw [Bd.returns] at h; cases h)
    refine ⟨_, _, retN X1 hx (t := .boolean) Bd.returns (by simp) (hb hby at_57) hr, hrun, hended, _, _, rfl, ?_, ⟨_, rfl⟩, hW, hsame.mono (by decide) (by decide)⟩
    have hv3 : (t0_0 q0) = (1 : Int32) := by unfold t0_0; rw [if_pos hc2]
    show Q0 Z q0 h0 n0 _ T1.heap _
    rw [e1]
    exact ⟨(by rw [hv3]), N1⟩
  · refine OGl.go (fun t k => XS.ifYes X1.here hx rfl (pc0 := 49) (pc' := 56) rfl (hb hby at_49) rfl (own_feqL hc2).2 (by decide) (by decide) (XS.iconst X1.here hx rfl (hb hby at_56) k)) ?_
    show OGl _ _ _ _ T1 (mkF m 57 #[.val (.long q0), .second, .val (.long (q0 &&& (1152921504606846975 : Int64))), .second, .val (.long ((8388608 : Int64) + (q0 &&& (1152921504606846975 : Int64)))), .second, .val (.long (e0_0 q0)), .second, .val (.long (e0_1 q0)), .second, .val (.long (((5 : Int64) * (e0_0 q0)) + (e0_1 q0))), .second, .val (.long (e0_2 q0)), .second] [(.int (0 : Int32))])
    obtain ⟨fs, hr, hrun, hended, hW, hsame⟩ := X1.leave (v := some (.int (0 : Int32))) (fun h => by rw [Bd.returns] at h; cases h)
    refine ⟨_, _, retN X1 hx (t := .boolean) Bd.returns (by simp) (hb hby at_57) hr, hrun, hended, _, _, rfl, ?_, ⟨_, rfl⟩, hW, hsame.mono (by decide) (by decide)⟩
    have hv4 : (t0_0 q0) = (0 : Int32) := by unfold t0_0; rw [if_neg hc2]
    show Q0 Z q0 h0 n0 _ T1.heap _
    rw [e1]
    exact ⟨(by rw [hv4]), N1⟩
theorem own_law (a : Int64) : t0_0 a = 1 := by
  unfold t0_0
  rw [if_pos]
  have h1 := c_maskL a 1152921504606846975 60 (by decide) (by decide)
  have h2 := c_ladd 8388608 (a &&& 1152921504606846975)
  have h2' := rng64 (8388608 + (a &&& 1152921504606846975))
  have k1 : (8388608 : Int64).toInt = 8388608 := by decide
  unfold e0_2 e0_1 e0_0
  generalize (8388608 + (a &&& 1152921504606846975) : Int64) = A at *
  have hA : 0 ≤ A.toInt ∧ A.toInt < 1152921504615235584 := by omega
  have h3 := (c_ldiv A 4 4 (by decide) (by decide)).1 hA.1
  have h4 := c_lshr A 2 2 (by decide)
  have h5 := c_maskL A 3 2 (by decide) (by decide)
  have h6 := c_lmul 5 (A >>> ((2 : Int32) &&& 0x3f).toInt64)
  have k5 : (5 : Int64).toInt = 5 := by decide
  have h7 := c_ladd A (A / 4)
  have h8 := c_ladd (5 * (A >>> ((2 : Int32) &&& 0x3f).toInt64)) (A &&& 3)
  have r1 := rng64 (A + A / 4)
  have r2 := rng64 (5 * (A >>> ((2 : Int32) &&& 0x3f).toInt64) + (A &&& 3))
  rw [k5] at h6
  exact Int64.toInt_inj.mp (by omega)
set_option maxRecDepth 65536 in
set_option maxHeartbeats 40000000 in
theorem comes_1 {Post : Tables → Env → Array Value → State → Outcome → State → Prop} (hpost : ∀ tb e args s v u, (limb_1_1.after args s (.returned v) u = true ∧ limb_1_2.after args s (.returned v) u = true ∧ True) → FrameEnd s (.returned v) u (Jvm.fieldLocs frame_1_writes args s ++ Jvm.arrayLocs frame_1_arrays args s ++ Jvm.staticLocs frame_1_statics s) 0 0 → Post tb e args s (.returned v) u) :
    ArmFor flags0 classFile x code maxLocals ret World_1 tables_1 room_1 Calls_1 rest_1 Pre_1 Post := by
  intro l hfl _ _ p e ha hc hk s m args below hf hA hF happ hP
  obtain ⟨hcalls, hrest, hpre⟩ := hP
  obtain ⟨-, -, -, hnamed, -, -, -, hat⟩ := (Spec.applies_iff hf).mp happ
  obtain ⟨hg, hn⟩ := and_e (Cond.before_iff.mp (show (Jvm.Cond.and given_1 narrow_1).before args s = true from hpre))
  obtain ⟨hz, hy0⟩ := and_e hg
  obtain ⟨w0, rfl⟩ : ∃ w0 : Value, args = #[w0] := by
    have hs : args.size = 1 := by simpa [Cond.value, given_1] using hz
    obtain ⟨L⟩ := args
    match L, hs with
    | [w0], _ => exact ⟨w0, rfl⟩
  have hw := fun d (hd : d ∈ tables_1) => atoms_spec (ws := Jvm.Cond.code x code maxLocals ret :: tables_1) hat d (List.mem_cons_of_mem _ hd)
  obtain ⟨i0, ev0⟩ := isL_v hy0
  obtain rfl : w0 = (.long i0) := Option.some.inj ev0
  obtain ⟨n, o, h1, h2, h3, _, L, rfl, ⟨hv, N⟩, hq⟩ := rm0 l s _ hw tables_1 i0  s.heap s.heap.size (Nat.le_refl _)  p e ha hc hk s m _ below hf ((Spec.applies_iff_loose hf).mp happ).1 ⟨rfl, State.Warmed39.refl s, rfl⟩ trivial
  rw [own_law] at hv
  subst hv
  refine ⟨n, _, h1, h2, h3, hpost _ _ _ _ _ _ ⟨Cond.after_iff.mpr rfl, Cond.after_iff.mpr (eq_i res_at (Term.int_eval (1)) rfl), trivial⟩ ⟨hq.1, hq.2.1, (hq.2.2.sift fun y hy => Or.inr (N y hy)).mono (by decide) (by decide)⟩⟩
theorem main_1_1 : Claimed_1_1 := comes_1 fun _ _ _ _ _ _ h hF => ⟨h.1, hF⟩
theorem main_1_2 : Claimed_1_2 := comes_1 fun _ _ _ _ _ _ h hF => ⟨h.2.1, hF⟩
end Jvm.Pilot.@@N@@
namespace Jvm.Pilot.@@N@@
open Jvm Jvm.ClassFile Sem Op Lib Jvm.Free Jvm.Stand Jvm.Pilot.@@N@@.Jvm.D
/-! MADE BY PROGRAM (witnessworld.py) out of the Statement's table words and the real class files: 11 classes; the members and pool entries that the words name. The judged class is class 1, her method 1. -/
namespace start1
open Jvm.ClassFile
def u (s : String) : CpInfo := .utf8 (stringToUtf16 s)
/-- a pool by its gaps: so many unusable entries, then the entry; so many at the end -/
def gap : Nat → List CpInfo → List CpInfo
  | 0, r => r
  | n + 1, r => .unusable :: gap n r
def poolList (es : List (Nat × CpInfo)) (last : Nat) : List CpInfo := es.foldr (fun e r => gap e.1 (e.2 :: r)) (gap last [])
def pool (es : List (Nat × CpInfo)) (last : Nat) : Array CpInfo := ⟨poolList es last⟩
def fileOf (pool : Array CpInfo) (this : Nat) (attrs : Array Attribute := #[]) (ms : Array MethodInfo := #[]) (fl : Nat := 33) (sup : Nat := 0) (ifs : Array Nat := #[]) (fds : Array FieldInfo := #[]) : ClassFile where
  minorVersion := 0
  majorVersion := 65
  constantPool := pool
  accessFlags := fl
  thisClass := this
  superClass := sup
  interfaces := ifs
  fields := fds
  methods := ms
  attributes := attrs
def plain (name : String) (sup : Option ClassId) : Class where
  name := name
  kind := .ordinary
  loader := none
  accessFlags := 33
  super := sup
  interfaces := #[]
  cf := none
  fields := #[]
  methods := #[]
  instanceTypes := #[]
  staticTypes := #[]
  resolved := #[]
  callSites := []
  init := .initialized
  statics := none
  mirror := none

def pool0 : Array CpInfo := pool [(5, u "<init>"), (0, u "()V"), (1, .class_ 10), (1, u "java/lang/Object")] 113

def k0m0 : Method := { name := "<init>", desc := "()V", sig := { parameters := [], returnType := none }, accessFlags := 1, code := none }
/-- java/lang/Object -/
def k0 : Class := { plain "java/lang/Object" none with
  accessFlags := 33
  interfaces := #[]
  cf := some (fileOf pool0 8 #[] #[{ accessFlags := 1, nameIndex := 5, descriptorIndex := 6, attributes := #[] }] 33 0 #[] #[])
  fields := #[]
  methods := #[k0m0]
  instanceTypes := #[]
  staticTypes := #[]
  resolved := Array.replicate 124 none
  statics := none }

def pool1 : Array CpInfo := pool [(2, .class_ 4), (1, u "java/lang/Object"), (0, u "<init>"), (0, u "()V"), (0, .long 1152921504606846975), (1, .long 8388608), (1, .long 3), (1, .long 5), (1, .methodref 16 17), (0, .class_ 18), (0, .nameAndType 19 20), (0, u "com/example/tapwright/tapwright/registry/CardRegistry"), (0, u "heapNeeded"), (0, u "(J)J"), (0, .class_ 22), (0, u "com/example/tapwright/tapwright/registry/CardRegistryHeapNeededPinLaw"), (2, u "law"), (0, u "(J)Z")] 3

def k1m0 : Method := { name := "<init>", desc := "()V", sig := { parameters := [], returnType := none }, accessFlags := 2, code := none }
def k1c1 : Code := { maxStack := 4, maxLocals := 14, code := code, exceptionTable := #[], attributes := #[] }
def k1m1 : Method := { name := "law", desc := "(J)Z", sig := { parameters := [.long], returnType := some .boolean }, accessFlags := 9, code := some k1c1 }
/-- com/example/tapwright/tapwright/registry/CardRegistryHeapNeededPinLaw -/
def k1 : Class := { plain "com/example/tapwright/tapwright/registry/CardRegistryHeapNeededPinLaw" (some 0) with
  accessFlags := 49
  interfaces := #[]
  cf := some (fileOf pool1 21 #[] #[{ accessFlags := 2, nameIndex := 5, descriptorIndex := 6, attributes := #[] }, { accessFlags := 9, nameIndex := 25, descriptorIndex := 26, attributes := #[] }] 49 2 #[] #[])
  fields := #[]
  methods := #[k1m0, k1m1]
  instanceTypes := #[]
  staticTypes := #[]
  resolved := Array.replicate 30 none
  statics := none }

def pool2 : Array CpInfo := pool [(1, .class_ 2), (0, u "java/lang/AutoCloseable"), (0, .class_ 4), (0, u "java/lang/Object")] 7

/-- java/lang/AutoCloseable -/
def k2 : Class := { plain "java/lang/AutoCloseable" (some 0) with
  accessFlags := 1537
  interfaces := #[]
  cf := some (fileOf pool2 1 #[] #[] 1537 3 #[] #[])
  fields := #[]
  methods := #[]
  instanceTypes := #[]
  staticTypes := #[]
  resolved := Array.replicate 12 none
  statics := none }

def pool3 : Array CpInfo := pool [(1, .class_ 2), (0, u "java/io/Closeable"), (0, .class_ 4), (0, u "java/lang/Object"), (0, .class_ 6), (0, u "java/lang/AutoCloseable")] 7

/-- java/io/Closeable -/
def k3 : Class := { plain "java/io/Closeable" (some 0) with
  accessFlags := 1537
  interfaces := #[2]
  cf := some (fileOf pool3 1 #[] #[] 1537 3 #[5] #[])
  fields := #[]
  methods := #[]
  instanceTypes := #[]
  staticTypes := #[]
  resolved := Array.replicate 14 none
  statics := none }

def pool4 : Array CpInfo := pool [(2, .class_ 4), (1, u "java/lang/Object"), (6, .class_ 13), (1, u "com/example/tapwright/tapwright/registry/CardRegistry"), (0, u "cards"), (0, u "Ljava/util/Map;"), (2, u "tags"), (1, .class_ 22), (1, u "com/example/tapwright/tapwright/registry/CardRegistry$Form"), (1, u "Lcom/example/tapwright/tapwright/registry/CardRegistry$Form;"), (2, u "form"), (2, u "dir"), (0, u "Ljava/nio/file/Path;"), (2, u "lockWait"), (0, u "Ljava/time/Duration;"), (8, u "lock"), (0, u "Lcom/example/tapwright/tapwright/registry/RegistryLock;"), (64, .long 8388608), (1, .long 4), (45, .class_ 159), (0, u "com/example/tapwright/tapwright/registry/CardRegistry$Registration"), (162, u "closed"), (0, u "Z"), (2, u "journal"), (0, u "Ljava/nio/channels/FileChannel;"), (78, u "failure"), (0, u "Ljava/lang/String;"), (2, u "lines"), (0, u "J"), (9, u "end"), (80, u "generation"), (3, u "(J)J"), (115, u "CARD"), (0, u "Ljava/util/regex/Pattern;"), (46, u "TAG"), (10, u "heapNeeded"), (68, .class_ 751), (0, u "java/io/Closeable"), (0, u "ID_SIZE"), (0, u "I"), (2, u "CARD_HEAP"), (0, u "TAG_HEAP"), (0, u "FIXED_HEAP"), (0, u "HEAP_TOO_SMALL"), (0, u "JOURNAL"), (0, u "NEXT_JOURNAL"), (0, u "HEADER"), (2, u "SECOND_HEADER"), (2, u "FIRST_HEADER"), (2, u "COMPACTION_SLACK"), (1, u "MAX_LINE"), (1, u "CHUNK_SIZE"), (0, u "COUNTER"), (2, u "WRITE_FAILED"), (0, u "READ_FAILED")] 114

def k4c0 : Code := { maxStack := 6, maxLocals := 4, code := prog_47_method_5_code, exceptionTable := #[], attributes := #[] }
def k4m0 : Method := { name := "heapNeeded", desc := "(J)J", sig := { parameters := [.long], returnType := some .long }, accessFlags := 9, code := some k4c0 }
/-- com/example/tapwright/tapwright/registry/CardRegistry -/
def k4 : Class := { plain "com/example/tapwright/tapwright/registry/CardRegistry" (some 0) with
  accessFlags := 49
  interfaces := #[3]
  cf := some (fileOf pool4 11 #[.nestMembers #[20, 158]] #[{ accessFlags := 9, nameIndex := 681, descriptorIndex := 506, attributes := #[] }] 49 2 #[750] #[{ accessFlags := 25, nameIndex := 752, descriptorIndex := 753, attributes := #[] }, { accessFlags := 25, nameIndex := 756, descriptorIndex := 411, attributes := #[] }, { accessFlags := 25, nameIndex := 757, descriptorIndex := 411, attributes := #[] }, { accessFlags := 26, nameIndex := 758, descriptorIndex := 411, attributes := #[] }, { accessFlags := 25, nameIndex := 759, descriptorIndex := 407, attributes := #[] }, { accessFlags := 24, nameIndex := 760, descriptorIndex := 407, attributes := #[] }, { accessFlags := 24, nameIndex := 761, descriptorIndex := 407, attributes := #[] }, { accessFlags := 24, nameIndex := 762, descriptorIndex := 407, attributes := #[] }, { accessFlags := 24, nameIndex := 765, descriptorIndex := 407, attributes := #[] }, { accessFlags := 24, nameIndex := 768, descriptorIndex := 407, attributes := #[] }, { accessFlags := 24, nameIndex := 771, descriptorIndex := 753, attributes := #[] }, { accessFlags := 26, nameIndex := 773, descriptorIndex := 753, attributes := #[] }, { accessFlags := 26, nameIndex := 775, descriptorIndex := 753, attributes := #[] }, { accessFlags := 26, nameIndex := 776, descriptorIndex := 407, attributes := #[] }, { accessFlags := 26, nameIndex := 622, descriptorIndex := 623, attributes := #[] }, { accessFlags := 26, nameIndex := 670, descriptorIndex := 623, attributes := #[] }, { accessFlags := 26, nameIndex := 779, descriptorIndex := 407, attributes := #[] }, { accessFlags := 26, nameIndex := 780, descriptorIndex := 407, attributes := #[] }, { accessFlags := 18, nameIndex := 30, descriptorIndex := 31, attributes := #[] }, { accessFlags := 18, nameIndex := 44, descriptorIndex := 45, attributes := #[] }, { accessFlags := 18, nameIndex := 34, descriptorIndex := 35, attributes := #[] }, { accessFlags := 18, nameIndex := 14, descriptorIndex := 15, attributes := #[] }, { accessFlags := 18, nameIndex := 18, descriptorIndex := 15, attributes := #[] }, { accessFlags := 2, nameIndex := 326, descriptorIndex := 327, attributes := #[] }, { accessFlags := 2, nameIndex := 421, descriptorIndex := 411, attributes := #[] }, { accessFlags := 2, nameIndex := 502, descriptorIndex := 411, attributes := #[] }, { accessFlags := 2, nameIndex := 410, descriptorIndex := 411, attributes := #[] }, { accessFlags := 2, nameIndex := 27, descriptorIndex := 24, attributes := #[] }, { accessFlags := 2, nameIndex := 406, descriptorIndex := 407, attributes := #[] }, { accessFlags := 2, nameIndex := 322, descriptorIndex := 323, attributes := #[] }])
  fields := #[{ name := "ID_SIZE", type := .int, accessFlags := 25, slot := 0, constantValue := 0 }, { name := "CARD_HEAP", type := .long, accessFlags := 25, slot := 1, constantValue := 0 }, { name := "TAG_HEAP", type := .long, accessFlags := 25, slot := 2, constantValue := 0 }, { name := "FIXED_HEAP", type := .long, accessFlags := 26, slot := 3, constantValue := 0 }, { name := "HEAP_TOO_SMALL", type := (.object "java/lang/String"), accessFlags := 25, slot := 4, constantValue := 0 }, { name := "JOURNAL", type := (.object "java/lang/String"), accessFlags := 24, slot := 5, constantValue := 0 }, { name := "NEXT_JOURNAL", type := (.object "java/lang/String"), accessFlags := 24, slot := 6, constantValue := 0 }, { name := "HEADER", type := (.object "java/lang/String"), accessFlags := 24, slot := 7, constantValue := 0 }, { name := "SECOND_HEADER", type := (.object "java/lang/String"), accessFlags := 24, slot := 8, constantValue := 0 }, { name := "FIRST_HEADER", type := (.object "java/lang/String"), accessFlags := 24, slot := 9, constantValue := 0 }, { name := "COMPACTION_SLACK", type := .int, accessFlags := 24, slot := 10, constantValue := 0 }, { name := "MAX_LINE", type := .int, accessFlags := 26, slot := 11, constantValue := 0 }, { name := "CHUNK_SIZE", type := .int, accessFlags := 26, slot := 12, constantValue := 0 }, { name := "COUNTER", type := (.object "java/lang/String"), accessFlags := 26, slot := 13, constantValue := 0 }, { name := "CARD", type := (.object "java/util/regex/Pattern"), accessFlags := 26, slot := 14, constantValue := 0 }, { name := "TAG", type := (.object "java/util/regex/Pattern"), accessFlags := 26, slot := 15, constantValue := 0 }, { name := "WRITE_FAILED", type := (.object "java/lang/String"), accessFlags := 26, slot := 16, constantValue := 0 }, { name := "READ_FAILED", type := (.object "java/lang/String"), accessFlags := 26, slot := 17, constantValue := 0 }, { name := "dir", type := (.object "java/nio/file/Path"), accessFlags := 18, slot := 0, constantValue := 0 }, { name := "lock", type := (.object "com/example/tapwright/tapwright/registry/RegistryLock"), accessFlags := 18, slot := 1, constantValue := 0 }, { name := "lockWait", type := (.object "java/time/Duration"), accessFlags := 18, slot := 2, constantValue := 0 }, { name := "cards", type := (.object "java/util/Map"), accessFlags := 18, slot := 3, constantValue := 0 }, { name := "tags", type := (.object "java/util/Map"), accessFlags := 18, slot := 4, constantValue := 0 }, { name := "journal", type := (.object "java/nio/channels/FileChannel"), accessFlags := 2, slot := 5, constantValue := 0 }, { name := "end", type := .long, accessFlags := 2, slot := 6, constantValue := 0 }, { name := "generation", type := .long, accessFlags := 2, slot := 7, constantValue := 0 }, { name := "lines", type := .long, accessFlags := 2, slot := 8, constantValue := 0 }, { name := "form", type := (.object "com/example/tapwright/tapwright/registry/CardRegistry$Form"), accessFlags := 2, slot := 9, constantValue := 0 }, { name := "failure", type := (.object "java/lang/String"), accessFlags := 2, slot := 10, constantValue := 0 }, { name := "closed", type := .boolean, accessFlags := 2, slot := 11, constantValue := 0 }]
  methods := #[k4m0]
  instanceTypes := #[(.object "java/nio/file/Path"), (.object "com/example/tapwright/tapwright/registry/RegistryLock"), (.object "java/time/Duration"), (.object "java/util/Map"), (.object "java/util/Map"), (.object "java/nio/channels/FileChannel"), .long, .long, .long, (.object "com/example/tapwright/tapwright/registry/CardRegistry$Form"), (.object "java/lang/String"), .boolean]
  staticTypes := #[.int, .long, .long, .long, (.object "java/lang/String"), (.object "java/lang/String"), (.object "java/lang/String"), (.object "java/lang/String"), (.object "java/lang/String"), (.object "java/lang/String"), .int, .int, .int, (.object "java/lang/String"), (.object "java/util/regex/Pattern"), (.object "java/util/regex/Pattern"), (.object "java/lang/String"), (.object "java/lang/String")]
  resolved := Array.replicate 895 none
  statics := none }

def pool5 : Array CpInfo := pool [(1, u "java/lang/Cloneable"), (0, .class_ 1), (0, u "java/lang/Object"), (0, .class_ 3)] 3

/-- java/lang/Cloneable -/
def k5 : Class := { plain "java/lang/Cloneable" (some 0) with
  accessFlags := 1537
  interfaces := #[]
  cf := some (fileOf pool5 2 #[] #[] 1537 4 #[] #[])
  fields := #[]
  methods := #[]
  instanceTypes := #[]
  staticTypes := #[]
  resolved := Array.replicate 8 none
  statics := none }

def pool6 : Array CpInfo := pool [(1, u "java/io/Serializable"), (0, .class_ 1), (0, u "java/lang/Object"), (0, .class_ 3)] 3

/-- java/io/Serializable -/
def k6 : Class := { plain "java/io/Serializable" (some 0) with
  accessFlags := 1537
  interfaces := #[]
  cf := some (fileOf pool6 2 #[] #[] 1537 4 #[] #[])
  fields := #[]
  methods := #[]
  instanceTypes := #[]
  staticTypes := #[]
  resolved := Array.replicate 8 none
  statics := none }

/-- the primitive byte -/
def k7 : Class := { plain "byte" none with kind := .primitive 'B', accessFlags := 0x411 }
/-- [B -/
def k8 : Class := { plain "[B" (some 0) with kind := .array 7 .byte, interfaces := #[5, 6], accessFlags := 1041 }

/-- the primitive int -/
def k9 : Class := { plain "int" none with kind := .primitive 'I', accessFlags := 0x411 }
/-- [I -/
def k10 : Class := { plain "[I" (some 0) with kind := .array 9 .int, interfaces := #[5, 6], accessFlags := 1041 }

def heap : Heap := #[]
def classes : Array Class := #[k0, k1, k2, k3, k4, k5, k6, k7, k8, k9, k10]
def interned : List (Array UInt16 × Addr) := []
def slotsUsed : Nat := 0
def theMethod : MethodId := ⟨1, 1⟩
def args0 : Array Value := #[.long 5]
def aboutOver (below : List Frame) : State where
  vm := { classes := classes, interned := interned.toArray }
  heap := heap
  slotsUsed := slotsUsed
  threads := #[{ frames := .invoking theMethod args0 :: below }]
def below0 : List Frame := [.native { method := ⟨0, 0⟩, args := #[] }]
def about1 : State := aboutOver below0
def p0 : Program := .bare "" "" ""
def e0 : Env := launch0.env 0 0 0
theorem w_frames : about1.frames = Frame.invoking theMethod args0 :: below0 := rfl
set_option maxRecDepth 65536 in
theorem w_args : argsFit about1.vm theMethod args0 = true := by decide +kernel
set_option maxRecDepth 65536 in
theorem w_heap : heapFits about1 = true := by decide +kernel
set_option maxRecDepth 65536 in
theorem w_runnable : about1.curStatus? = some .runnable := by decide +kernel
set_option maxRecDepth 65536 in
theorem w_alone : about1.alone = true := by decide +kernel
set_option maxRecDepth 65536 in
theorem w_named : about1.methodNamed? x = some theMethod := by decide +kernel
set_option maxRecDepth 65536 in
theorem w_hears : about1.hears theMethod below0 = true := by decide +kernel
set_option maxRecDepth 65536 in
theorem w_ripe : about1.ripe theMethod args0 below0 = true := by decide +kernel
theorem w_running : about1.status = .running := rfl
set_option maxRecDepth 65536 in
theorem w_room : about1.hasRoom e0.platform room_1 = true :=
  launch0.hasRoom_least _ room_1 (by decide +kernel) (by decide +kernel) (by decide +kernel) (by decide +kernel) (by decide +kernel) (by decide +kernel)
theorem allAtoms_all (ts : List Jvm.Cond) (a : Array Jvm.Value) (st : Jvm.State) : (allAtoms ts).before a st = ts.all (fun c => c.before a st) := by
  induction ts with
  | nil => rfl
  | cons c t ih =>
    show (Jvm.Cond.and c (allAtoms t)).before a st = _
    rw [Jvm.Cond.before_and, ih, List.all_cons]
def words1 : List Jvm.Cond := Jvm.Cond.code x code maxLocals ret :: tables_1
/-- a 'code' word, met by the world's own term for the bytes: nothing is compared byte by byte -/
theorem code_word {y : MethodName} {bytes : ByteArray} {mx : Nat} {rt : Option FieldType} {a : Array Value} {s : State} {m : MethodId} {meth : Method} {c : Code} (h1 : s.methodNamed? y = some m) (h2 : s.vm.method? m = some meth) (h3 : meth.code = some c) (h4 : c.code = bytes)
    (h5 : (c.maxLocals == mx && c.exceptionTable.isEmpty && decide (c.maxStack ≤ mostOperands) && decide (meth.sig.returnType = rt) && !meth.locks && decide (parseMethodDescriptor y.desc = some meth.sig)) = true) : (Jvm.Cond.code y bytes mx rt).before a s = true := by
  simp only [Bool.and_eq_true, beq_iff_eq, Bool.not_eq_true', decide_eq_true_eq] at h5
  obtain ⟨⟨⟨⟨⟨g1, g2⟩, g3⟩, g4⟩, g5⟩, g6⟩ := h5
  simp [Cond.before, Cond.holds, Cond.value, h1, h2, h3, h4, g1, g2, g3, g4, g5, g6]
def isCode : Jvm.Cond → Bool
  | .code _ _ _ _ => true
  | _ => false
theorem all_split {L : List Jvm.Cond} {P : Jvm.Cond → Bool} (h1 : L.all (fun c => isCode c || P c) = true) (h2 : ∀ c ∈ L.filter isCode, P c = true) : L.all P = true := by
  refine List.all_eq_true.mpr fun c hc => ?_
  have h := List.all_eq_true.mp h1 c hc
  rcases Bool.eq_false_or_eq_true (isCode c) with hi | hi
  · exact h2 c (List.mem_filter.mpr ⟨hc, hi⟩)
  · simpa [hi] using h
set_option maxRecDepth 65536 in
theorem w_c0 : (Jvm.Cond.code x code maxLocals ret).before args0 about1 = true := code_word (m := ⟨1, 1⟩) (meth := k1m1) (c := k1c1) (by decide +kernel) rfl rfl rfl (by decide +kernel)
set_option maxRecDepth 65536 in
theorem w_c1 : (Jvm.Cond.code ({ cls := "com/example/tapwright/tapwright/registry/CardRegistry", name := "heapNeeded", desc := "(J)J" } : Jvm.MethodName) prog_47_method_5_code (4 : Nat) (Option.some Jvm.ClassFile.FieldType.long)).before args0 about1 = true := code_word (m := ⟨4, 0⟩) (meth := k4m0) (c := k4c0) (by decide +kernel) rfl rfl rfl (by decide +kernel)
def codes1 : List Jvm.Cond := [Jvm.Cond.code x code maxLocals ret, Jvm.Cond.code ({ cls := "com/example/tapwright/tapwright/registry/CardRegistry", name := "heapNeeded", desc := "(J)J" } : Jvm.MethodName) prog_47_method_5_code (4 : Nat) (Option.some Jvm.ClassFile.FieldType.long)]
set_option maxRecDepth 65536 in
theorem codes_eq : words1.filter isCode = codes1 := rfl
theorem w_codes : ∀ c ∈ words1.filter isCode, c.before args0 about1 = true := by
  rw [codes_eq]
  intro c hc
  simp only [codes1, List.mem_cons, List.not_mem_nil, or_false] at hc
  rcases hc with rfl | rfl
  · exact w_c0
  · exact w_c1
set_option maxRecDepth 65536 in
theorem w_t1 : words1.all (fun c => isCode c || c.before args0 about1) = true := by decide +kernel
theorem w_tables : (allAtoms (Jvm.Cond.code x code maxLocals ret :: tables_1)).before args0 about1 = true := by
  rw [allAtoms_all]
  show words1.all (fun c => c.before args0 about1) = true
  refine all_split ?_ w_codes
  rw [w_t1]
set_option maxRecDepth 65536 in
theorem w_case : (Jvm.Cond.and given_1 narrow_1).before args0 about1 = true := by decide +kernel
theorem w_applies : (headSpec (Jvm.Cond.code x code maxLocals ret :: tables_1) room_1).applies x e0.platform about1 = true :=
  (Spec.applies_iff w_frames).mpr ⟨w_running, w_runnable, w_alone, w_named, w_hears, w_ripe, w_room, w_tables⟩
theorem atStart : AtStart classFile x code maxLocals ret World_1 tables_1 room_1 Calls_1 rest_1 Pre_1 launch0 p0 e0 about1 theMethod args0 below0 :=
  ⟨lists_1, trivial, launch0.admits_env _ _ _, launch0.least_env, fairChoices_fair.cas, fairChoices_fair.clock, w_frames, w_args, w_heap, w_applies, trivial, trivial, w_case⟩
end start1
theorem witness_1 : WitnessClaimed_1 := ⟨start1.p0, start1.e0, start1.about1, start1.theMethod, start1.args0, start1.below0, start1.atStart⟩
end Jvm.Pilot.@@N@@
