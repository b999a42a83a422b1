import JvmDerived
import JvmDerived.Pilot.@@N@@Statement
import JvmDerived.Pilot.@@N@@Code
set_option linter.unusedVariables false
set_option linter.unusedSimpArgs false
namespace Jvm.RoadKit
open Sem ClassFile Op Lib Jvm.Stand Jvm.Free Jvm.LawKit
section New
variable {p : Program} {l : Launch} {e : Env} {R : Room} {s : State} {m : MethodId} {args : Array Value} {below : List Frame} {meth : Method} {c : Code} {T : State} {locs : List Loc} {cells slots : Nat}
theorem retI (X : Stand p l e R s m args below meth c T locs cells slots) (hx : p.tables.exec = Jvm.exec) {pc : Nat} {Ls : Array Slot} {z : Int32} {rest : List Value} (hret : meth.sig.returnType = some .int) (hd : decode c.code pc = .ok (.ireturn, 1)) {fs : List Frame}
    (hl : ∀ (f : JFrame) (acts : List Action), f.method = m → f.locked = none → f.entered = [] → (doReturn e (T.setTop f) acts (some (.int z))).1 = T.setFrames fs) : Steps p.tables e below (T.setTop (mkF m pc Ls (.int z :: rest))) (T.setFrames fs) := by
  have hm' : T.vm.method? m = some meth := X.method'
  have hn : narrow .int (.int z) = .int z := rfl
  show Steps p.tables e below (T.setTop { method := m, pc := pc, locals := Ls, stack := _ :: rest, locked := none }) _
  jvm_step X.here [X.here.top, hx, hd, hm', hret, hn]
  first | (intro acts; rw [hl _ acts rfl rfl rfl]) | rw [hl _ _ rfl rfl rfl]
  exact Steps.refl _
theorem own_ldc {g : JFrame} {target : State} (X : Stand p l e R s m args below meth c T locs cells slots) (hx : p.tables.exec = Jvm.exec) {own : String} {index : Nat} {v : Int32} (hown : s.vm.findClass own = some m.cls) (w : (Cond.constant own index v).before args s = true) (hg : g.method = m) (hd : decode c.code g.pc = .ok (.ldc index, 2))
    (hr : Steps p.tables e below (T.setTop { g with pc := g.pc + 2, stack := .int v :: g.stack }) target) : Steps p.tables e below (T.setTop g) target := X.ldcInt hx hown w hg hd target hr
theorem own_ldc2 {g : JFrame} {target : State} (X : Stand p l e R s m args below meth c T locs cells slots) (hx : p.tables.exec = Jvm.exec) {own : String} {index : Nat} {v : Int64} (hown : s.vm.findClass own = some m.cls) (w : (Cond.constantLong own index v).before args s = true) (hg : g.method = m) (hd : decode c.code g.pc = .ok (.ldc2_w index, 3))
    (hr : Steps p.tables e below (T.setTop { g with pc := g.pc + 3, stack := .long v :: g.stack }) target) : Steps p.tables e below (T.setTop g) target := X.ldc2Long hx hown w hg hd target hr
theorem own_len {g : JFrame} {target : State} (X : Stand p l e R s m args below meth c T locs cells slots) (hx : p.tables.exec = Jvm.exec) {a : Addr} {cell : Cell} {ty : FieldType} {z : Int32} (hcell : T.heap[a]? = some cell) (harr : s.isArrayOf cell ty) (hz : cell.slots.size = z.toNatClampNeg) (hn : ¬ z < 0) (hg : g.method = m) {rest : List Value} (hs : g.stack = .ref a :: rest) (hd : decode c.code g.pc = .ok (.arraylength, 1))
    (hr : Steps p.tables e below (T.setTop { g with pc := g.pc + 1, stack := .int z :: rest }) target) : Steps p.tables e below (T.setTop g) target := X.arraylength hx hcell harr hg hs hd target (by rw [len_of hz hn]; exact hr)
theorem own_iaload {g : JFrame} {target : State} (X : Stand p l e R s m args below meth c T locs cells slots) (hx : p.tables.exec = Jvm.exec) {a : Addr} {cell : Cell} {j : Int32} {v : Value} (hcell : T.heap[a]? = some cell) (harr : s.isArrayOf cell .int) (hk : cell.vm ≠ .unknown) (hin : ¬ (j < 0 ∨ cell.slots.size ≤ j.toNatClampNeg)) (hv : cell.slots[j.toNatClampNeg]? = some v) (hg : g.method = m) {rest : List Value} (hs : g.stack = .int j :: .ref a :: rest) (hd : decode c.code g.pc = .ok (.iaload, 1))
    (hr : Steps p.tables e below (T.setTop { g with pc := g.pc + 1, stack := v :: rest }) target) : Steps p.tables e below (T.setTop g) target := X.iaload hx hcell harr hk hin hv hg hs hd target hr
theorem own_laload {g : JFrame} {target : State} (X : Stand p l e R s m args below meth c T locs cells slots) (hx : p.tables.exec = Jvm.exec) {a : Addr} {cell : Cell} {j : Int32} {v : Value} (hcell : T.heap[a]? = some cell) (harr : s.isArrayOf cell .long) (hk : cell.vm ≠ .unknown) (hin : ¬ (j < 0 ∨ cell.slots.size ≤ j.toNatClampNeg)) (hv : cell.slots[j.toNatClampNeg]? = some v) (hg : g.method = m) {rest : List Value} (hs : g.stack = .int j :: .ref a :: rest) (hd : decode c.code g.pc = .ok (.laload, 1))
    (hr : Steps p.tables e below (T.setTop { g with pc := g.pc + 1, stack := v :: rest }) target) : Steps p.tables e below (T.setTop g) target := X.laload hx hcell harr hk hin hv hg hs hd target hr
theorem own_baload {g : JFrame} {target : State} (X : Stand p l e R s m args below meth c T locs cells slots) (hx : p.tables.exec = Jvm.exec) {a : Addr} {cell : Cell} {j : Int32} {v : Value} (hcell : T.heap[a]? = some cell) (harr : s.isArrayOf cell .byte) (hk : cell.vm ≠ .unknown) (hin : ¬ (j < 0 ∨ cell.slots.size ≤ j.toNatClampNeg)) (hv : cell.slots[j.toNatClampNeg]? = some v) (hg : g.method = m) {rest : List Value} (hs : g.stack = .int j :: .ref a :: rest) (hd : decode c.code g.pc = .ok (.baload, 1))
    (hr : Steps p.tables e below (T.setTop { g with pc := g.pc + 1, stack := v :: rest }) target) : Steps p.tables e below (T.setTop g) target := X.baloadBytes hx hcell harr hk hin hv hg hs hd target hr
theorem own_lrem {g : JFrame} {target : State} (X : Stand p l e R s m args below meth c T locs cells slots) (hx : p.tables.exec = Jvm.exec) (hg : g.method = m) {x y : Int64} {rest : List Value} (hd : decode c.code g.pc = .ok (.lrem, 1)) (hs : g.stack = .long y :: .long x :: rest) (hy : y ≠ 0)
    (hr : Steps p.tables e below (T.setTop { g with pc := g.pc + 1, stack := .long (x % y) :: rest }) target) : Steps p.tables e below (T.setTop g) target :=
  XS.lrem X.here hx hg hd hs hy (by rw [lrem_mod]; exact hr)
theorem own_tltL {x y : Int64} (h : x < y) : ifCond.holds .lt (lcmpW x y) = true ∧ ifCond.holds .ge (lcmpW x y) = false ∧ ifCond.holds .gt (lcmpW y x) = true ∧ ifCond.holds .le (lcmpW y x) = false := by
  have h1 : lcmpW x y < 0 := by rw [lcW]; exact (lc_lt x y).mpr h
  have h2 : 0 < lcmpW y x := by rw [lcW]; exact (lc_gt y x).mpr h
  exact ⟨(if0 _ _).trans (tlt h1).1, (if0 _ _).trans (tlt h1).2.1, (if0 _ _).trans (tlt h2).2.2.1, (if0 _ _).trans (tlt h2).2.2.2⟩
theorem own_fltL {x y : Int64} (h : ¬ x < y) : ifCond.holds .lt (lcmpW x y) = false ∧ ifCond.holds .ge (lcmpW x y) = true ∧ ifCond.holds .gt (lcmpW y x) = false ∧ ifCond.holds .le (lcmpW y x) = true := by
  have h1 : ¬ lcmpW x y < 0 := by rw [lcW, lc_lt]; exact h
  have h2 : ¬ 0 < lcmpW y x := by rw [lcW, lc_gt]; exact h
  exact ⟨(if0 _ _).trans (flt h1).1, (if0 _ _).trans (flt h1).2.1, (if0 _ _).trans (flt h2).2.2.1, (if0 _ _).trans (flt h2).2.2.2⟩
theorem own_teqL {x y : Int64} (h : x = y) : ifCond.holds .eq (lcmpW x y) = true ∧ ifCond.holds .ne (lcmpW x y) = false := by
  have h1 : lcmpW x y = 0 := by rw [lcW, lc_eq]; exact h
  exact ⟨(if0 _ _).trans (teq h1).1, (if0 _ _).trans (teq h1).2⟩
theorem own_feqL {x y : Int64} (h : ¬ x = y) : ifCond.holds .eq (lcmpW x y) = false ∧ ifCond.holds .ne (lcmpW x y) = true := by
  have h1 : ¬ lcmpW x y = 0 := by rw [lcW, lc_eq]; exact h
  exact ⟨(if0 _ _).trans (feq h1).1, (if0 _ _).trans (feq h1).2⟩
end New
end Jvm.RoadKit
namespace Jvm.Pilot.@@N@@
open Jvm Jvm.ClassFile Sem Op Lib Jvm.Free Jvm.Stand Jvm.LawKit Jvm.RoadKit Bundle Jvm.Pilot.@@N@@.Jvm.D
/-- what is left to show from a place of the walk on -/
abbrev OGl (p : Program) (e : Env) (below : List Frame) (Q : Outcome → State → Prop) (T : State) (g : JFrame) : Prop :=
  ∃ s₂ o, Steps p.tables e below (T.setTop g) s₂ ∧ s₂.status = .running ∧ Ended s₂ below o ∧ Q o s₂
theorem OGl.go {p : Program} {e : Env} {below : List Frame} {Q : Outcome → State → Prop} {T T' : State} {g g' : JFrame} (h : ∀ t, Steps p.tables e below (T'.setTop g') t → Steps p.tables e below (T.setTop g) t) (k : OGl p e below Q T' g') : OGl p e below Q T g := by
  obtain ⟨s2, o, h1, h2⟩ := k
  exact ⟨s2, o, h _ h1, h2⟩
theorem OGl.start {p : Program} {e : Env} {below : List Frame} {Q : Outcome → State → Prop} {T : State} {g g' : JFrame} (q : g = g') (k : OGl p e below Q T g') : OGl p e below Q T g := q ▸ k
theorem own_selPriv {s : State} {args : Array Value} {y y' x' : MethodName} {C' : String} (hp : s.PrivateAt y) (hi : (Cond.instanceMethod y).before args s = true) (hs : (Cond.selects C' x' y').before args s = true) (hc : y'.cls = y.cls) (hy : y.cls ≠ "java/lang/invoke/MethodHandle" ∧ y.cls ≠ "java/lang/invoke/VarHandle" := by decide) : (Cond.selects y.cls y y).before args s = true := by
  obtain ⟨mk, meth, hn, hm, -, -⟩ := Cond.instanceMethod_spec hi
  obtain ⟨c2, r2, m2, -, -, q3, -, kP, hkP, hkPi⟩ := Cond.selects_spec hs
  have h1 := findClass_of_methodNamed hn
  have h2 := findClass_of_methodNamed q3
  rw [hc, h1] at h2
  have h3 : mk.cls = m2.cls := Option.some.inj h2
  have hf := State.methodFound?_of_named hn hy
  have hsel : selectMethod {} s.vm mk.cls mk = .method mk := selectMethod_private hm (hp mk meth hn hm)
  rw [← h3] at hkP
  simp [Cond.before, Cond.holds, Cond.value, h1, hf, hn, hsel, hkP, hkPi]
theorem own_weak {Z : State} {h : Heap} {a : Addr} {k : ClassId} {ty : FieldType} {z : Int32} {vs vs' : List Value} {d : Value} (F : Arv Z h a k ty z vs d) (q : ∀ i, i < z.toNatClampNeg → vs'.getD i d = vs.getD i d) : Arv Z h a k ty z vs' d := by
  obtain ⟨c, A, r1, r2, r3, H, G⟩ := F
  exact ⟨c, A, r1, r2, r3, fun i hi => by rw [q i (r2 ▸ hi)]; exact H i hi, fun i hi => by rw [q i (r2 ▸ hi)]; exact G i hi⟩
theorem own_cl {z j : Int32} {k i : Nat} (h : ¬ j < z) (hk : j.toInt = k) (hi : i < z.toNatClampNeg) : i < k := by
  rw [Int32.lt_iff_toInt_lt] at h
  have : z.toNatClampNeg = z.toInt.toNat := rfl
  omega
theorem own_irr {α : Type} [LT α] [Std.Irrefl (α := α) (· < ·)] (x : α) : ¬ x < x := Std.Irrefl.irrefl x
theorem d1_0 : decode prog_73_method_1_code 0 = .ok (.aload_n 0, 1) := by decide +kernel
theorem d1_1 : decode prog_73_method_1_code 1 = .ok (.invokespecial 1, 3) := by decide +kernel
theorem d1_4 : decode prog_73_method_1_code 4 = .ok (.aload_n 0, 1) := by decide +kernel
theorem d1_5 : decode prog_73_method_1_code 5 = .ok (.bipush 16, 2) := by decide +kernel
theorem d1_7 : decode prog_73_method_1_code 7 = .ok (.newarray .int, 2) := by decide +kernel
theorem d1_9 : decode prog_73_method_1_code 9 = .ok (.putfield 7, 3) := by decide +kernel
theorem d1_12 : decode prog_73_method_1_code 12 = .ok (.return_, 1) := by decide +kernel
theorem ef_1 (m : MethodId) (x0 : Addr) : entryFrame m #[(.ref x0)] 1 = mkF m 0 #[.val (.ref x0)] [] := by first | (simp [entryFrame, mkF, argsToLocals, Value.category]; done) | rfl
theorem pn_0 : plainName "com/example/gramsmith/gramsmith/parse/Ints" = true := by first | (simp [plainName, overriddenIn]; done) | decide +kernel
def Q1 (Z : State) (o0 : Addr) (h0 : Heap) (n0 : Nat) (v : Option Value) (h : Heap) (L : List Loc) : Prop := ∃ (nb0 : Addr), ∃ (nk0 : ClassId), v = none ∧ Fr n0 L ∧ Keep h0 h [o0] ∧ h0.size ≤ nb0 ∧ Fld Z h o0 "com/example/gramsmith/gramsmith/parse/Ints" "size" "I" (.int (0 : Int32)) ∧ Fld Z h o0 "com/example/gramsmith/gramsmith/parse/Ints" "values" "[I" (.ref nb0) ∧ Arv Z h nb0 nk0 .int (16 : Int32) [(.int (0 : Int32)), (.int (0 : Int32)), (.int (0 : Int32)), (.int (0 : Int32)), (.int (0 : Int32)), (.int (0 : Int32)), (.int (0 : Int32)), (.int (0 : Int32)), (.int (0 : Int32)), (.int (0 : Int32)), (.int (0 : Int32)), (.int (0 : Int32)), (.int (0 : Int32)), (.int (0 : Int32)), (.int (0 : Int32)), (.int (0 : Int32))] (.int (0 : Int32))
set_option maxRecDepth 65536 in
set_option maxHeartbeats 40000000 in
theorem rm1 (l : Launch) (Z : State) (a0 : Array Value) (hw : ∀ d ∈ tables_1, d.before a0 Z = true) (ws : List Jvm.Cond) (o0 : Addr) (h0 : Heap) (n0 : Nat) (Z0 : n0 ≤ h0.size) (E_o0 : Exa Z h0 o0 "com/example/gramsmith/gramsmith/parse/Ints") (F1_o0 : Fld Z h0 o0 "com/example/gramsmith/gramsmith/parse/Ints" "values" "[I" .null) (F2_o0 : Fld Z h0 o0 "com/example/gramsmith/gramsmith/parse/Ints" "size" "I" (.int (0 : Int32))) (g_o0 : n0 ≤ o0) :
    MetFree l (⟨"com/example/gramsmith/gramsmith/parse/Ints", "<init>", "()V"⟩ : MethodName) (head1 (Jvm.Cond.code (⟨"com/example/gramsmith/gramsmith/parse/Ints", "<init>", "()V"⟩ : MethodName) prog_73_method_1_code 1 none :: ws) ({ frames := 1, cells := 1, slots := 16, locals := 12 } : Room)) (fun a U => a = #[(.ref o0)] ∧ Z.Warmed39 U.vm ∧ U.heap = h0) (fun _ _ _ _ _ => True) (fun _ U o U' => ∃ v L, o = .returned v ∧ Q1 Z o0 h0 n0 v U'.heap L ∧ FrameEnd U o U' L ({ frames := 1, cells := 1, slots := 16, locals := 12 } : Room).cells ({ frames := 1, cells := 1, slots := 16, locals := 12 } : Room).slots) := by
  refine MetFree.of_bodySF (plainFor_of_name pn_0) hisR ?_
  intro p e s m args below meth c s₁ Bd hml0 hP hK
  obtain ⟨rfl, hZ, hh⟩ := hP
  have hx := Bd.exec
  have hby := Bd.bytes
  have hml : c.maxLocals = 1 := hml0
  have hown : s.vm.findClass "com/example/gramsmith/gramsmith/parse/Ints" = some m.cls := findClass_of_methodNamed Bd.named
  have hnm := (name_of_methodNamed Bd.named Bd.method).1
  have X0 : Stand p l e ({ frames := 1, cells := 1, slots := 16, locals := 12 } : Room) s m #[(.ref o0)] below meth c s₁ [] 0 0 := Stand.of_body Bd
  have e0 : s₁.heap = h0 := by rw [← hh, Bd.state]; rfl
  have N0 := Fr.nil n0
  refine OGl.start (ef_1 m o0) ?_
  show OGl _ _ _ _ s₁ (mkF m 0 #[.val (.ref o0)] [])
  refine OGl.go (fun t k => XS.aloadN X0.here hx rfl (hb hby d1_0) rfl rfl k) ?_
  show OGl _ _ _ _ s₁ (mkF m 1 #[.val (.ref o0)] [(.ref o0)])
  obtain ⟨T5, X5, e5, st5⟩ := initO X0 hx hZ hown (hw _ (List.mem_of_getElem? (i := 6) rfl)) (hw _ (List.mem_of_getElem? (i := 7) rfl)) (hw _ (List.mem_of_getElem? (i := 8) rfl)) e0 (g := (mkF m 1 #[.val (.ref o0)] [(.ref o0)])) rfl (by rw [hml]; rfl) rfl (hb hby d1_1) (by decide) (W := 0) (by show 2 * 0 + _ ≤ _; exact Nat.le_of_eq rfl) (by decide)
  refine OGl.go st5 ?_
  show OGl _ _ _ _ T5 (mkF m 4 #[.val (.ref o0)] [])
  refine OGl.go (fun t k => XS.aloadN X5.here hx rfl (hb hby d1_4) rfl rfl (XS.bipush X5.here hx rfl (hb hby d1_5) k)) ?_
  show OGl _ _ _ _ T5 (mkF m 7 #[.val (.ref o0)] [(.int (16 : Int32)), (.ref o0)])
  obtain ⟨T6, h6, k6, X6, e6, E6, A6, st6⟩ := newP X5 hx hZ (hw _ (List.mem_of_getElem? (i := 9) rfl)) e5 (g := (mkF m 7 #[.val (.ref o0)] [(.int (16 : Int32)), (.ref o0)])) rfl (hb hby d1_7) rfl (by decide) (cap := 16) (by decide) (by decide) (by decide) (by decide)
  obtain ⟨b6, gb6⟩ : ∃ z, z = h0.size := ⟨_, rfl⟩
  rw [← gb6] at A6 st6
  have sz_b6 : h0.size ≤ b6 := Nat.le_trans (Keep.refl h0 [o0]).1 (Nat.le_of_eq gb6.symm)
  have g_b6 : n0 ≤ b6 := Nat.le_trans Z0 sz_b6
  have V6 : Arv Z h6 b6 k6 .int (16 : Int32) [(.int (0 : Int32)), (.int (0 : Int32)), (.int (0 : Int32)), (.int (0 : Int32)), (.int (0 : Int32)), (.int (0 : Int32)), (.int (0 : Int32)), (.int (0 : Int32)), (.int (0 : Int32)), (.int (0 : Int32)), (.int (0 : Int32)), (.int (0 : Int32)), (.int (0 : Int32)), (.int (0 : Int32)), (.int (0 : Int32)), (.int (0 : Int32))] (.int (0 : Int32)) := (Arv.new A6 (by decide)).pad (pad_rep [] (.int (0 : Int32)) 16)
  have KK6 : Keep h0 h6 [o0] := (Keep.refl h0 [o0]).ext E6
  refine OGl.go st6 ?_
  show OGl _ _ _ _ T6 (mkF m 9 #[.val (.ref o0)] [(.ref b6), (.ref o0)])
  have F7 := (F1_o0.ext E6)
  have F8 := (E_o0.ext E6)
  obtain ⟨T9, h9, X9, e9, W9, st9⟩ := putF X6 hx hZ hown (host := "") (Or.inl (hw _ (List.mem_of_getElem? (i := 10) rfl))) Via.refl e6 F7 F8 (Or.inl (hw _ (List.mem_of_getElem? (i := 11) rfl))) (hw _ (List.mem_of_getElem? (i := 1) rfl)) (ty := (.array .int)) (by decide) rfl rfl (g := (mkF m 9 #[.val (.ref o0)] [(.ref b6), (.ref o0)])) rfl rfl (hb hby d1_9)
  refine OGl.go st9 ?_
  have N9 := Fr.snoc X9 N0 g_o0
  have Fw9 := F7.same W9
  have KK9 : Keep h0 h9 [o0] := KK6.wr W9 (Or.inl (List.mem_of_getElem? (i := 0) rfl))
  show OGl _ _ _ _ T9 (mkF m 12 #[.val (.ref o0)] [])
  obtain ⟨fs, hr, hrun, hended, hW, hsame⟩ := X9.leave (v := none) (fun _ => rfl)
  refine ⟨_, _, X9.returnOut hx Bd.returns (hb hby d1_12) hr, hrun, hended, _, _, rfl, ?_, ⟨_, rfl⟩, hW, hsame.mono (by decide) (by decide)⟩
  show Q1 Z o0 h0 n0 _ T9.heap _
  rw [e9]
  have F10 := ((F2_o0.ext E6).other W9 (Or.inr (slot_ne (Or.inl (hw _ (List.mem_of_getElem? (i := 18) rfl))) (Or.inl (hw _ (List.mem_of_getElem? (i := 11) rfl))) (by decide) (t := .int) (t' := (.array .int)) (by decide) (by decide))))
  have F11 := (V6.other W9 (Ne.symm (Nat.ne_of_lt (Nat.lt_of_lt_of_le E_o0.lt sz_b6))))
  exact ⟨b6, k6, rfl, N9, KK9, sz_b6, F10, Fw9, F11⟩
theorem pd_0 : parseMethodDescriptor "()V" = some ⟨[], none⟩ := by decide +kernel
theorem d3_0 : decode prog_73_method_2_code 0 = .ok (.aload_n 0, 1) := by decide +kernel
theorem d3_1 : decode prog_73_method_2_code 1 = .ok (.getfield 13, 3) := by decide +kernel
theorem d3_4 : decode prog_73_method_2_code 4 = .ok (.aload_n 0, 1) := by decide +kernel
theorem d3_5 : decode prog_73_method_2_code 5 = .ok (.getfield 7, 3) := by decide +kernel
theorem d3_8 : decode prog_73_method_2_code 8 = .ok (.arraylength, 1) := by decide +kernel
theorem d3_9 : decode prog_73_method_2_code 9 = .ok (.if_icmp .ne 20, 3) := by decide +kernel
theorem d3_29 : decode prog_73_method_2_code 29 = .ok (.aload_n 0, 1) := by decide +kernel
theorem d3_30 : decode prog_73_method_2_code 30 = .ok (.getfield 7, 3) := by decide +kernel
theorem d3_33 : decode prog_73_method_2_code 33 = .ok (.aload_n 0, 1) := by decide +kernel
theorem d3_34 : decode prog_73_method_2_code 34 = .ok (.dup, 1) := by decide +kernel
theorem d3_35 : decode prog_73_method_2_code 35 = .ok (.getfield 13, 3) := by decide +kernel
theorem d3_38 : decode prog_73_method_2_code 38 = .ok (.dup_x1, 1) := by decide +kernel
theorem d3_39 : decode prog_73_method_2_code 39 = .ok (.iconst 1, 1) := by decide +kernel
theorem d3_40 : decode prog_73_method_2_code 40 = .ok (.iadd, 1) := by decide +kernel
theorem d3_41 : decode prog_73_method_2_code 41 = .ok (.putfield 13, 3) := by decide +kernel
theorem d3_44 : decode prog_73_method_2_code 44 = .ok (.iload_n 1, 1) := by decide +kernel
theorem d3_45 : decode prog_73_method_2_code 45 = .ok (.iastore, 1) := by decide +kernel
theorem d3_46 : decode prog_73_method_2_code 46 = .ok (.return_, 1) := by decide +kernel
theorem ef_3 (m : MethodId) (x0 : Addr) (x1 : Int32) : entryFrame m #[(.ref x0), (.int x1)] 2 = mkF m 0 #[.val (.ref x0), .val (.int x1)] [] := by first | (simp [entryFrame, mkF, argsToLocals, Value.category]; done) | rfl
def Q3 (Z : State) (o0 : Addr) (p1 : Int32) (o2 : Addr) (k3 : ClassId) (h0 : Heap) (n0 : Nat) (v : Option Value) (h : Heap) (L : List Loc) : Prop := v = none ∧ Fr n0 L ∧ Keep h0 h [o0, o2] ∧ Fld Z h o0 "com/example/gramsmith/gramsmith/parse/Ints" "size" "I" (.int (1 : Int32)) ∧ Fld Z h o0 "com/example/gramsmith/gramsmith/parse/Ints" "values" "[I" (.ref o2) ∧ Arv Z h o2 k3 .int (16 : Int32) [(.int p1), (.int (0 : Int32)), (.int (0 : Int32)), (.int (0 : Int32)), (.int (0 : Int32)), (.int (0 : Int32)), (.int (0 : Int32)), (.int (0 : Int32)), (.int (0 : Int32)), (.int (0 : Int32)), (.int (0 : Int32)), (.int (0 : Int32)), (.int (0 : Int32)), (.int (0 : Int32)), (.int (0 : Int32)), (.int (0 : Int32))] (.int (0 : Int32))
set_option maxRecDepth 65536 in
set_option maxHeartbeats 40000000 in
theorem rm3 (l : Launch) (Z : State) (a0 : Array Value) (hw : ∀ d ∈ tables_1, d.before a0 Z = true) (ws : List Jvm.Cond) (o0 : Addr) (p1 : Int32) (o2 : Addr) (k3 : ClassId) (h0 : Heap) (n0 : Nat) (Z0 : n0 ≤ h0.size) (F0_o0 : Fld Z h0 o0 "com/example/gramsmith/gramsmith/parse/Ints" "size" "I" (.int (0 : Int32))) (F1_o0 : Fld Z h0 o0 "com/example/gramsmith/gramsmith/parse/Ints" "values" "[I" (.ref o2)) (V_o2 : Arv Z h0 o2 k3 .int (16 : Int32) [(.int (0 : Int32)), (.int (0 : Int32)), (.int (0 : Int32)), (.int (0 : Int32)), (.int (0 : Int32)), (.int (0 : Int32)), (.int (0 : Int32)), (.int (0 : Int32)), (.int (0 : Int32)), (.int (0 : Int32)), (.int (0 : Int32)), (.int (0 : Int32)), (.int (0 : Int32)), (.int (0 : Int32)), (.int (0 : Int32)), (.int (0 : Int32))] (.int (0 : Int32))) (E_o0 : Exa Z h0 o0 "com/example/gramsmith/gramsmith/parse/Ints") (g_o0 : n0 ≤ o0) (ne_o2_o0 : o2 ≠ o0) (g_o2 : n0 ≤ o2) :
    MetFree l (⟨"com/example/gramsmith/gramsmith/parse/Ints", "add", "(I)V"⟩ : MethodName) (head1 (Jvm.Cond.code (⟨"com/example/gramsmith/gramsmith/parse/Ints", "add", "(I)V"⟩ : MethodName) prog_73_method_2_code 2 none :: ws) ({ frames := 0, cells := 0, slots := 0, locals := 0 } : Room)) (fun a U => a = #[(.ref o0), (.int p1)] ∧ Z.Warmed39 U.vm ∧ U.heap = h0) (fun _ _ _ _ _ => True) (fun _ U o U' => ∃ v L, o = .returned v ∧ Q3 Z o0 p1 o2 k3 h0 n0 v U'.heap L ∧ FrameEnd U o U' L ({ frames := 0, cells := 0, slots := 0, locals := 0 } : Room).cells ({ frames := 0, cells := 0, slots := 0, locals := 0 } : Room).slots) := by
  refine MetFree.of_bodySF (plainFor_of_name pn_0) hisR ?_
  intro p e s m args below meth c s₁ Bd hml0 hP hK
  obtain ⟨rfl, hZ, hh⟩ := hP
  have hx := Bd.exec
  have hby := Bd.bytes
  have hml : c.maxLocals = 2 := hml0
  have hown : s.vm.findClass "com/example/gramsmith/gramsmith/parse/Ints" = some m.cls := findClass_of_methodNamed Bd.named
  have hnm := (name_of_methodNamed Bd.named Bd.method).1
  have X0 : Stand p l e ({ frames := 0, cells := 0, slots := 0, locals := 0 } : Room) s m #[(.ref o0), (.int p1)] below meth c s₁ [] 0 0 := Stand.of_body Bd
  have e0 : s₁.heap = h0 := by rw [← hh, Bd.state]; rfl
  have N0 := Fr.nil n0
  refine OGl.start (ef_3 m o0 p1) ?_
  show OGl _ _ _ _ s₁ (mkF m 0 #[.val (.ref o0), .val (.int p1)] [])
  refine OGl.go (fun t k => XS.aloadN X0.here hx rfl (hb hby d3_0) rfl rfl k) ?_
  show OGl _ _ _ _ s₁ (mkF m 1 #[.val (.ref o0), .val (.int p1)] [(.ref o0)])
  obtain ⟨T13, X13, e13, st13⟩ := getF X0 hx hZ hown (host := "") (Or.inl (hw _ (List.mem_of_getElem? (i := 17) rfl))) Via.refl e0 F0_o0 (g := (mkF m 1 #[.val (.ref o0), .val (.int p1)] [(.ref o0)])) rfl rfl (hb hby d3_1)
  refine OGl.go st13 ?_
  show OGl _ _ _ _ T13 (mkF m 4 #[.val (.ref o0), .val (.int p1)] [(.int (0 : Int32))])
  refine OGl.go (fun t k => XS.aloadN X13.here hx rfl (hb hby d3_4) rfl rfl k) ?_
  show OGl _ _ _ _ T13 (mkF m 5 #[.val (.ref o0), .val (.int p1)] [(.ref o0), (.int (0 : Int32))])
  obtain ⟨T14, X14, e14, st14⟩ := getF X13 hx hZ hown (host := "") (Or.inl (hw _ (List.mem_of_getElem? (i := 10) rfl))) Via.refl e13 F1_o0 (g := (mkF m 5 #[.val (.ref o0), .val (.int p1)] [(.ref o0), (.int (0 : Int32))])) rfl rfl (hb hby d3_5)
  refine OGl.go st14 ?_
  show OGl _ _ _ _ T14 (mkF m 8 #[.val (.ref o0), .val (.int p1)] [(.ref o2), (.int (0 : Int32))])
  obtain ⟨cl15, Ar15, -, Sz15, Nn15, -, -⟩ := id V_o2
  refine OGl.go (fun t k => own_len X14 hx (by rw [e14]; exact Ar15.1) (State.isArrayOf_alike hZ.alike Ar15.2.1) Sz15 Nn15 rfl rfl (hb hby d3_8) (XS.icmpYes X14.here hx rfl (pc0 := 9) (pc' := 29) rfl (hb hby d3_9) rfl (feq (by decide : ¬ ((0 : Int32) = (16 : Int32)))).2 (by decide) (by decide) (XS.aloadN X14.here hx rfl (hb hby d3_29) rfl rfl k))) ?_
  show OGl _ _ _ _ T14 (mkF m 30 #[.val (.ref o0), .val (.int p1)] [(.ref o0)])
  obtain ⟨T16, X16, e16, st16⟩ := getF X14 hx hZ hown (host := "") (Or.inl (hw _ (List.mem_of_getElem? (i := 10) rfl))) Via.refl e14 F1_o0 (g := (mkF m 30 #[.val (.ref o0), .val (.int p1)] [(.ref o0)])) rfl rfl (hb hby d3_30)
  refine OGl.go st16 ?_
  show OGl _ _ _ _ T16 (mkF m 33 #[.val (.ref o0), .val (.int p1)] [(.ref o2)])
  refine OGl.go (fun t k => XS.aloadN X16.here hx rfl (hb hby d3_33) rfl rfl (XS.dup X16.here hx rfl (hb hby d3_34) rfl rfl k)) ?_
  show OGl _ _ _ _ T16 (mkF m 35 #[.val (.ref o0), .val (.int p1)] [(.ref o0), (.ref o0), (.ref o2)])
  obtain ⟨T17, X17, e17, st17⟩ := getF X16 hx hZ hown (host := "") (Or.inl (hw _ (List.mem_of_getElem? (i := 17) rfl))) Via.refl e16 F0_o0 (g := (mkF m 35 #[.val (.ref o0), .val (.int p1)] [(.ref o0), (.ref o0), (.ref o2)])) rfl rfl (hb hby d3_35)
  refine OGl.go st17 ?_
  show OGl _ _ _ _ T17 (mkF m 38 #[.val (.ref o0), .val (.int p1)] [(.int (0 : Int32)), (.ref o0), (.ref o2)])
  refine OGl.go (fun t k => XS.dupX1 X17.here hx rfl (hb hby d3_38) rfl rfl rfl (XS.iconst X17.here hx rfl (hb hby d3_39) (XS.iadd X17.here hx rfl (hb hby d3_40) rfl k))) ?_
  show OGl _ _ _ _ T17 (mkF m 41 #[.val (.ref o0), .val (.int p1)] [(.int (1 : Int32)), (.ref o0), (.int (0 : Int32)), (.ref o2)])
  obtain ⟨T18, h18, X18, e18, W18, st18⟩ := putF X17 hx hZ hown (host := "") (Or.inl (hw _ (List.mem_of_getElem? (i := 17) rfl))) Via.refl e17 F0_o0 E_o0 (Or.inl (hw _ (List.mem_of_getElem? (i := 18) rfl))) (hw _ (List.mem_of_getElem? (i := 1) rfl)) (ty := .int) (by decide) rfl rfl (g := (mkF m 41 #[.val (.ref o0), .val (.int p1)] [(.int (1 : Int32)), (.ref o0), (.int (0 : Int32)), (.ref o2)])) rfl rfl (hb hby d3_41)
  refine OGl.go st18 ?_
  have N18 := Fr.snoc X18 N0 g_o0
  have Fw18 := F0_o0.same W18
  have KK18 : Keep h0 h18 [o0, o2] := (Keep.refl h0 [o0, o2]).wr W18 (Or.inl (List.mem_of_getElem? (i := 0) rfl))
  show OGl _ _ _ _ T18 (mkF m 44 #[.val (.ref o0), .val (.int p1)] [(.int (0 : Int32)), (.ref o2)])
  refine OGl.go (fun t k => XS.iloadN X18.here hx rfl (hb hby d3_44) rfl k) ?_
  show OGl _ _ _ _ T18 (mkF m 45 #[.val (.ref o0), .val (.int p1)] [(.int p1), (.int (0 : Int32)), (.ref o2)])
  have F19 := (V_o2.other W18 ne_o2_o0)
  obtain ⟨cl20, Ar20, qk20, Sz20, Nn20, Ha20, Gf20⟩ := id F19
  have hin20 : ¬ ((0 : Int32) < 0 ∨ cl20.slots.size ≤ ((0 : Int32)).toNatClampNeg) := inb_of Sz20 ⟨by decide, by decide⟩
  obtain ⟨T20, h20, X20, e20, W20, st20⟩ := stI X18 hx hZ e18 Ar20 (j := (0 : Int32)) hin20 (g := (mkF m 45 #[.val (.ref o0), .val (.int p1)] [(.int p1), (.int (0 : Int32)), (.ref o2)])) rfl rfl (hb hby d3_45)
  have V20 : Arv Z h20 o2 k3 .int (16 : Int32) [(.int p1), (.int (0 : Int32)), (.int (0 : Int32)), (.int (0 : Int32)), (.int (0 : Int32)), (.int (0 : Int32)), (.int (0 : Int32)), (.int (0 : Int32)), (.int (0 : Int32)), (.int (0 : Int32)), (.int (0 : Int32)), (.int (0 : Int32)), (.int (0 : Int32)), (.int (0 : Int32)), (.int (0 : Int32)), (.int (0 : Int32))] (.int (0 : Int32)) := Arv.set Ar20 qk20 Sz20 Nn20 Ha20 Gf20 rfl W20 0 rfl (Nat.le_of_ble_eq_true rfl)
  refine OGl.go st20 ?_
  have N20 := Fr.snoc X20 N18 g_o2
  have KK20 : Keep h0 h20 [o0, o2] := KK18.wr W20 (Or.inl (List.mem_of_getElem? (i := 1) rfl))
  show OGl _ _ _ _ T20 (mkF m 46 #[.val (.ref o0), .val (.int p1)] [])
  obtain ⟨fs, hr, hrun, hended, hW, hsame⟩ := X20.leave (v := none) (fun _ => rfl)
  refine ⟨_, _, X20.returnOut hx Bd.returns (hb hby d3_46) hr, hrun, hended, _, _, rfl, ?_, ⟨_, rfl⟩, hW, hsame.mono (by decide) (by decide)⟩
  show Q3 Z o0 p1 o2 k3 h0 n0 _ T20.heap _
  rw [e20]
  have F21 := (Fw18.other W20 (Or.inl (Ne.symm ne_o2_o0)))
  have F22 := ((F1_o0.other W18 (Or.inr (slot_ne (Or.inl (hw _ (List.mem_of_getElem? (i := 11) rfl))) (Or.inl (hw _ (List.mem_of_getElem? (i := 18) rfl))) (by decide) (t := (.array .int)) (t' := .int) (by decide) (by decide)))).other W20 (Or.inl (Ne.symm ne_o2_o0)))
  exact ⟨rfl, N20, KK20, F21, F22, V20⟩
theorem pd_1 : parseMethodDescriptor "(I)V" = some ⟨[.int], none⟩ := by decide +kernel
def Q3a (Z : State) (o0 : Addr) (p1 : Int32) (o2 : Addr) (k3 : ClassId) (p4 : Int32) (h0 : Heap) (n0 : Nat) (v : Option Value) (h : Heap) (L : List Loc) : Prop := v = none ∧ Fr n0 L ∧ Keep h0 h [o0, o2] ∧ Fld Z h o0 "com/example/gramsmith/gramsmith/parse/Ints" "size" "I" (.int (2 : Int32)) ∧ Fld Z h o0 "com/example/gramsmith/gramsmith/parse/Ints" "values" "[I" (.ref o2) ∧ Arv Z h o2 k3 .int (16 : Int32) [(.int p4), (.int p1), (.int (0 : Int32)), (.int (0 : Int32)), (.int (0 : Int32)), (.int (0 : Int32)), (.int (0 : Int32)), (.int (0 : Int32)), (.int (0 : Int32)), (.int (0 : Int32)), (.int (0 : Int32)), (.int (0 : Int32)), (.int (0 : Int32)), (.int (0 : Int32)), (.int (0 : Int32)), (.int (0 : Int32))] (.int (0 : Int32))
set_option maxRecDepth 65536 in
set_option maxHeartbeats 40000000 in
theorem rm3a (l : Launch) (Z : State) (a0 : Array Value) (hw : ∀ d ∈ tables_1, d.before a0 Z = true) (ws : List Jvm.Cond) (o0 : Addr) (p1 : Int32) (o2 : Addr) (k3 : ClassId) (p4 : Int32) (h0 : Heap) (n0 : Nat) (Z0 : n0 ≤ h0.size) (F0_o0 : Fld Z h0 o0 "com/example/gramsmith/gramsmith/parse/Ints" "size" "I" (.int (1 : Int32))) (F1_o0 : Fld Z h0 o0 "com/example/gramsmith/gramsmith/parse/Ints" "values" "[I" (.ref o2)) (V_o2 : Arv Z h0 o2 k3 .int (16 : Int32) [(.int p4), (.int (0 : Int32)), (.int (0 : Int32)), (.int (0 : Int32)), (.int (0 : Int32)), (.int (0 : Int32)), (.int (0 : Int32)), (.int (0 : Int32)), (.int (0 : Int32)), (.int (0 : Int32)), (.int (0 : Int32)), (.int (0 : Int32)), (.int (0 : Int32)), (.int (0 : Int32)), (.int (0 : Int32)), (.int (0 : Int32))] (.int (0 : Int32))) (E_o0 : Exa Z h0 o0 "com/example/gramsmith/gramsmith/parse/Ints") (g_o0 : n0 ≤ o0) (ne_o2_o0 : o2 ≠ o0) (g_o2 : n0 ≤ o2) :
    MetFree l (⟨"com/example/gramsmith/gramsmith/parse/Ints", "add", "(I)V"⟩ : MethodName) (head1 (Jvm.Cond.code (⟨"com/example/gramsmith/gramsmith/parse/Ints", "add", "(I)V"⟩ : MethodName) prog_73_method_2_code 2 none :: ws) ({ frames := 0, cells := 0, slots := 0, locals := 0 } : Room)) (fun a U => a = #[(.ref o0), (.int p1)] ∧ Z.Warmed39 U.vm ∧ U.heap = h0) (fun _ _ _ _ _ => True) (fun _ U o U' => ∃ v L, o = .returned v ∧ Q3a Z o0 p1 o2 k3 p4 h0 n0 v U'.heap L ∧ FrameEnd U o U' L ({ frames := 0, cells := 0, slots := 0, locals := 0 } : Room).cells ({ frames := 0, cells := 0, slots := 0, locals := 0 } : Room).slots) := by
  refine MetFree.of_bodySF (plainFor_of_name pn_0) hisR ?_
  intro p e s m args below meth c s₁ Bd hml0 hP hK
  obtain ⟨rfl, hZ, hh⟩ := hP
  have hx := Bd.exec
  have hby := Bd.bytes
  have hml : c.maxLocals = 2 := hml0
  have hown : s.vm.findClass "com/example/gramsmith/gramsmith/parse/Ints" = some m.cls := findClass_of_methodNamed Bd.named
  have hnm := (name_of_methodNamed Bd.named Bd.method).1
  have X0 : Stand p l e ({ frames := 0, cells := 0, slots := 0, locals := 0 } : Room) s m #[(.ref o0), (.int p1)] below meth c s₁ [] 0 0 := Stand.of_body Bd
  have e0 : s₁.heap = h0 := by rw [← hh, Bd.state]; rfl
  have N0 := Fr.nil n0
  refine OGl.start (ef_3 m o0 p1) ?_
  show OGl _ _ _ _ s₁ (mkF m 0 #[.val (.ref o0), .val (.int p1)] [])
  refine OGl.go (fun t k => XS.aloadN X0.here hx rfl (hb hby d3_0) rfl rfl k) ?_
  show OGl _ _ _ _ s₁ (mkF m 1 #[.val (.ref o0), .val (.int p1)] [(.ref o0)])
  obtain ⟨T25, X25, e25, st25⟩ := getF X0 hx hZ hown (host := "") (Or.inl (hw _ (List.mem_of_getElem? (i := 17) rfl))) Via.refl e0 F0_o0 (g := (mkF m 1 #[.val (.ref o0), .val (.int p1)] [(.ref o0)])) rfl rfl (hb hby d3_1)
  refine OGl.go st25 ?_
  show OGl _ _ _ _ T25 (mkF m 4 #[.val (.ref o0), .val (.int p1)] [(.int (1 : Int32))])
  refine OGl.go (fun t k => XS.aloadN X25.here hx rfl (hb hby d3_4) rfl rfl k) ?_
  show OGl _ _ _ _ T25 (mkF m 5 #[.val (.ref o0), .val (.int p1)] [(.ref o0), (.int (1 : Int32))])
  obtain ⟨T26, X26, e26, st26⟩ := getF X25 hx hZ hown (host := "") (Or.inl (hw _ (List.mem_of_getElem? (i := 10) rfl))) Via.refl e25 F1_o0 (g := (mkF m 5 #[.val (.ref o0), .val (.int p1)] [(.ref o0), (.int (1 : Int32))])) rfl rfl (hb hby d3_5)
  refine OGl.go st26 ?_
  show OGl _ _ _ _ T26 (mkF m 8 #[.val (.ref o0), .val (.int p1)] [(.ref o2), (.int (1 : Int32))])
  obtain ⟨cl27, Ar27, -, Sz27, Nn27, -, -⟩ := id V_o2
  refine OGl.go (fun t k => own_len X26 hx (by rw [e26]; exact Ar27.1) (State.isArrayOf_alike hZ.alike Ar27.2.1) Sz27 Nn27 rfl rfl (hb hby d3_8) (XS.icmpYes X26.here hx rfl (pc0 := 9) (pc' := 29) rfl (hb hby d3_9) rfl (feq (by decide : ¬ ((1 : Int32) = (16 : Int32)))).2 (by decide) (by decide) (XS.aloadN X26.here hx rfl (hb hby d3_29) rfl rfl k))) ?_
  show OGl _ _ _ _ T26 (mkF m 30 #[.val (.ref o0), .val (.int p1)] [(.ref o0)])
  obtain ⟨T28, X28, e28, st28⟩ := getF X26 hx hZ hown (host := "") (Or.inl (hw _ (List.mem_of_getElem? (i := 10) rfl))) Via.refl e26 F1_o0 (g := (mkF m 30 #[.val (.ref o0), .val (.int p1)] [(.ref o0)])) rfl rfl (hb hby d3_30)
  refine OGl.go st28 ?_
  show OGl _ _ _ _ T28 (mkF m 33 #[.val (.ref o0), .val (.int p1)] [(.ref o2)])
  refine OGl.go (fun t k => XS.aloadN X28.here hx rfl (hb hby d3_33) rfl rfl (XS.dup X28.here hx rfl (hb hby d3_34) rfl rfl k)) ?_
  show OGl _ _ _ _ T28 (mkF m 35 #[.val (.ref o0), .val (.int p1)] [(.ref o0), (.ref o0), (.ref o2)])
  obtain ⟨T29, X29, e29, st29⟩ := getF X28 hx hZ hown (host := "") (Or.inl (hw _ (List.mem_of_getElem? (i := 17) rfl))) Via.refl e28 F0_o0 (g := (mkF m 35 #[.val (.ref o0), .val (.int p1)] [(.ref o0), (.ref o0), (.ref o2)])) rfl rfl (hb hby d3_35)
  refine OGl.go st29 ?_
  show OGl _ _ _ _ T29 (mkF m 38 #[.val (.ref o0), .val (.int p1)] [(.int (1 : Int32)), (.ref o0), (.ref o2)])
  refine OGl.go (fun t k => XS.dupX1 X29.here hx rfl (hb hby d3_38) rfl rfl rfl (XS.iconst X29.here hx rfl (hb hby d3_39) (XS.iadd X29.here hx rfl (hb hby d3_40) rfl k))) ?_
  show OGl _ _ _ _ T29 (mkF m 41 #[.val (.ref o0), .val (.int p1)] [(.int (2 : Int32)), (.ref o0), (.int (1 : Int32)), (.ref o2)])
  obtain ⟨T30, h30, X30, e30, W30, st30⟩ := putF X29 hx hZ hown (host := "") (Or.inl (hw _ (List.mem_of_getElem? (i := 17) rfl))) Via.refl e29 F0_o0 E_o0 (Or.inl (hw _ (List.mem_of_getElem? (i := 18) rfl))) (hw _ (List.mem_of_getElem? (i := 1) rfl)) (ty := .int) (by decide) rfl rfl (g := (mkF m 41 #[.val (.ref o0), .val (.int p1)] [(.int (2 : Int32)), (.ref o0), (.int (1 : Int32)), (.ref o2)])) rfl rfl (hb hby d3_41)
  refine OGl.go st30 ?_
  have N30 := Fr.snoc X30 N0 g_o0
  have Fw30 := F0_o0.same W30
  have KK30 : Keep h0 h30 [o0, o2] := (Keep.refl h0 [o0, o2]).wr W30 (Or.inl (List.mem_of_getElem? (i := 0) rfl))
  show OGl _ _ _ _ T30 (mkF m 44 #[.val (.ref o0), .val (.int p1)] [(.int (1 : Int32)), (.ref o2)])
  refine OGl.go (fun t k => XS.iloadN X30.here hx rfl (hb hby d3_44) rfl k) ?_
  show OGl _ _ _ _ T30 (mkF m 45 #[.val (.ref o0), .val (.int p1)] [(.int p1), (.int (1 : Int32)), (.ref o2)])
  have F31 := (V_o2.other W30 ne_o2_o0)
  obtain ⟨cl32, Ar32, qk32, Sz32, Nn32, Ha32, Gf32⟩ := id F31
  have hin32 : ¬ ((1 : Int32) < 0 ∨ cl32.slots.size ≤ ((1 : Int32)).toNatClampNeg) := inb_of Sz32 ⟨by decide, by decide⟩
  obtain ⟨T32, h32, X32, e32, W32, st32⟩ := stI X30 hx hZ e30 Ar32 (j := (1 : Int32)) hin32 (g := (mkF m 45 #[.val (.ref o0), .val (.int p1)] [(.int p1), (.int (1 : Int32)), (.ref o2)])) rfl rfl (hb hby d3_45)
  have V32 : Arv Z h32 o2 k3 .int (16 : Int32) [(.int p4), (.int p1), (.int (0 : Int32)), (.int (0 : Int32)), (.int (0 : Int32)), (.int (0 : Int32)), (.int (0 : Int32)), (.int (0 : Int32)), (.int (0 : Int32)), (.int (0 : Int32)), (.int (0 : Int32)), (.int (0 : Int32)), (.int (0 : Int32)), (.int (0 : Int32)), (.int (0 : Int32)), (.int (0 : Int32))] (.int (0 : Int32)) := Arv.set Ar32 qk32 Sz32 Nn32 Ha32 Gf32 rfl W32 1 rfl (Nat.le_of_ble_eq_true rfl)
  refine OGl.go st32 ?_
  have N32 := Fr.snoc X32 N30 g_o2
  have KK32 : Keep h0 h32 [o0, o2] := KK30.wr W32 (Or.inl (List.mem_of_getElem? (i := 1) rfl))
  show OGl _ _ _ _ T32 (mkF m 46 #[.val (.ref o0), .val (.int p1)] [])
  obtain ⟨fs, hr, hrun, hended, hW, hsame⟩ := X32.leave (v := none) (fun _ => rfl)
  refine ⟨_, _, X32.returnOut hx Bd.returns (hb hby d3_46) hr, hrun, hended, _, _, rfl, ?_, ⟨_, rfl⟩, hW, hsame.mono (by decide) (by decide)⟩
  show Q3a Z o0 p1 o2 k3 p4 h0 n0 _ T32.heap _
  rw [e32]
  have F33 := (Fw30.other W32 (Or.inl (Ne.symm ne_o2_o0)))
  have F34 := ((F1_o0.other W30 (Or.inr (slot_ne (Or.inl (hw _ (List.mem_of_getElem? (i := 11) rfl))) (Or.inl (hw _ (List.mem_of_getElem? (i := 18) rfl))) (by decide) (t := (.array .int)) (t' := .int) (by decide) (by decide)))).other W32 (Or.inl (Ne.symm ne_o2_o0)))
  exact ⟨rfl, N32, KK32, F33, F34, V32⟩
def Q3b (Z : State) (o0 : Addr) (p1 : Int32) (o2 : Addr) (k3 : ClassId) (p4 : Int32) (p5 : Int32) (h0 : Heap) (n0 : Nat) (v : Option Value) (h : Heap) (L : List Loc) : Prop := v = none ∧ Fr n0 L ∧ Keep h0 h [o0, o2] ∧ Fld Z h o0 "com/example/gramsmith/gramsmith/parse/Ints" "size" "I" (.int (3 : Int32)) ∧ Fld Z h o0 "com/example/gramsmith/gramsmith/parse/Ints" "values" "[I" (.ref o2) ∧ Arv Z h o2 k3 .int (16 : Int32) [(.int p4), (.int p5), (.int p1), (.int (0 : Int32)), (.int (0 : Int32)), (.int (0 : Int32)), (.int (0 : Int32)), (.int (0 : Int32)), (.int (0 : Int32)), (.int (0 : Int32)), (.int (0 : Int32)), (.int (0 : Int32)), (.int (0 : Int32)), (.int (0 : Int32)), (.int (0 : Int32)), (.int (0 : Int32))] (.int (0 : Int32))
set_option maxRecDepth 65536 in
set_option maxHeartbeats 40000000 in
theorem rm3b (l : Launch) (Z : State) (a0 : Array Value) (hw : ∀ d ∈ tables_1, d.before a0 Z = true) (ws : List Jvm.Cond) (o0 : Addr) (p1 : Int32) (o2 : Addr) (k3 : ClassId) (p4 : Int32) (p5 : Int32) (h0 : Heap) (n0 : Nat) (Z0 : n0 ≤ h0.size) (F0_o0 : Fld Z h0 o0 "com/example/gramsmith/gramsmith/parse/Ints" "size" "I" (.int (2 : Int32))) (F1_o0 : Fld Z h0 o0 "com/example/gramsmith/gramsmith/parse/Ints" "values" "[I" (.ref o2)) (V_o2 : Arv Z h0 o2 k3 .int (16 : Int32) [(.int p4), (.int p5), (.int (0 : Int32)), (.int (0 : Int32)), (.int (0 : Int32)), (.int (0 : Int32)), (.int (0 : Int32)), (.int (0 : Int32)), (.int (0 : Int32)), (.int (0 : Int32)), (.int (0 : Int32)), (.int (0 : Int32)), (.int (0 : Int32)), (.int (0 : Int32)), (.int (0 : Int32)), (.int (0 : Int32))] (.int (0 : Int32))) (E_o0 : Exa Z h0 o0 "com/example/gramsmith/gramsmith/parse/Ints") (g_o0 : n0 ≤ o0) (ne_o2_o0 : o2 ≠ o0) (g_o2 : n0 ≤ o2) :
    MetFree l (⟨"com/example/gramsmith/gramsmith/parse/Ints", "add", "(I)V"⟩ : MethodName) (head1 (Jvm.Cond.code (⟨"com/example/gramsmith/gramsmith/parse/Ints", "add", "(I)V"⟩ : MethodName) prog_73_method_2_code 2 none :: ws) ({ frames := 0, cells := 0, slots := 0, locals := 0 } : Room)) (fun a U => a = #[(.ref o0), (.int p1)] ∧ Z.Warmed39 U.vm ∧ U.heap = h0) (fun _ _ _ _ _ => True) (fun _ U o U' => ∃ v L, o = .returned v ∧ Q3b Z o0 p1 o2 k3 p4 p5 h0 n0 v U'.heap L ∧ FrameEnd U o U' L ({ frames := 0, cells := 0, slots := 0, locals := 0 } : Room).cells ({ frames := 0, cells := 0, slots := 0, locals := 0 } : Room).slots) := by
  refine MetFree.of_bodySF (plainFor_of_name pn_0) hisR ?_
  intro p e s m args below meth c s₁ Bd hml0 hP hK
  obtain ⟨rfl, hZ, hh⟩ := hP
  have hx := Bd.exec
  have hby := Bd.bytes
  have hml : c.maxLocals = 2 := hml0
  have hown : s.vm.findClass "com/example/gramsmith/gramsmith/parse/Ints" = some m.cls := findClass_of_methodNamed Bd.named
  have hnm := (name_of_methodNamed Bd.named Bd.method).1
  have X0 : Stand p l e ({ frames := 0, cells := 0, slots := 0, locals := 0 } : Room) s m #[(.ref o0), (.int p1)] below meth c s₁ [] 0 0 := Stand.of_body Bd
  have e0 : s₁.heap = h0 := by rw [← hh, Bd.state]; rfl
  have N0 := Fr.nil n0
  refine OGl.start (ef_3 m o0 p1) ?_
  show OGl _ _ _ _ s₁ (mkF m 0 #[.val (.ref o0), .val (.int p1)] [])
  refine OGl.go (fun t k => XS.aloadN X0.here hx rfl (hb hby d3_0) rfl rfl k) ?_
  show OGl _ _ _ _ s₁ (mkF m 1 #[.val (.ref o0), .val (.int p1)] [(.ref o0)])
  obtain ⟨T40, X40, e40, st40⟩ := getF X0 hx hZ hown (host := "") (Or.inl (hw _ (List.mem_of_getElem? (i := 17) rfl))) Via.refl e0 F0_o0 (g := (mkF m 1 #[.val (.ref o0), .val (.int p1)] [(.ref o0)])) rfl rfl (hb hby d3_1)
  refine OGl.go st40 ?_
  show OGl _ _ _ _ T40 (mkF m 4 #[.val (.ref o0), .val (.int p1)] [(.int (2 : Int32))])
  refine OGl.go (fun t k => XS.aloadN X40.here hx rfl (hb hby d3_4) rfl rfl k) ?_
  show OGl _ _ _ _ T40 (mkF m 5 #[.val (.ref o0), .val (.int p1)] [(.ref o0), (.int (2 : Int32))])
  obtain ⟨T41, X41, e41, st41⟩ := getF X40 hx hZ hown (host := "") (Or.inl (hw _ (List.mem_of_getElem? (i := 10) rfl))) Via.refl e40 F1_o0 (g := (mkF m 5 #[.val (.ref o0), .val (.int p1)] [(.ref o0), (.int (2 : Int32))])) rfl rfl (hb hby d3_5)
  refine OGl.go st41 ?_
  show OGl _ _ _ _ T41 (mkF m 8 #[.val (.ref o0), .val (.int p1)] [(.ref o2), (.int (2 : Int32))])
  obtain ⟨cl42, Ar42, -, Sz42, Nn42, -, -⟩ := id V_o2
  refine OGl.go (fun t k => own_len X41 hx (by rw [e41]; exact Ar42.1) (State.isArrayOf_alike hZ.alike Ar42.2.1) Sz42 Nn42 rfl rfl (hb hby d3_8) (XS.icmpYes X41.here hx rfl (pc0 := 9) (pc' := 29) rfl (hb hby d3_9) rfl (feq (by decide : ¬ ((2 : Int32) = (16 : Int32)))).2 (by decide) (by decide) (XS.aloadN X41.here hx rfl (hb hby d3_29) rfl rfl k))) ?_
  show OGl _ _ _ _ T41 (mkF m 30 #[.val (.ref o0), .val (.int p1)] [(.ref o0)])
  obtain ⟨T43, X43, e43, st43⟩ := getF X41 hx hZ hown (host := "") (Or.inl (hw _ (List.mem_of_getElem? (i := 10) rfl))) Via.refl e41 F1_o0 (g := (mkF m 30 #[.val (.ref o0), .val (.int p1)] [(.ref o0)])) rfl rfl (hb hby d3_30)
  refine OGl.go st43 ?_
  show OGl _ _ _ _ T43 (mkF m 33 #[.val (.ref o0), .val (.int p1)] [(.ref o2)])
  refine OGl.go (fun t k => XS.aloadN X43.here hx rfl (hb hby d3_33) rfl rfl (XS.dup X43.here hx rfl (hb hby d3_34) rfl rfl k)) ?_
  show OGl _ _ _ _ T43 (mkF m 35 #[.val (.ref o0), .val (.int p1)] [(.ref o0), (.ref o0), (.ref o2)])
  obtain ⟨T44, X44, e44, st44⟩ := getF X43 hx hZ hown (host := "") (Or.inl (hw _ (List.mem_of_getElem? (i := 17) rfl))) Via.refl e43 F0_o0 (g := (mkF m 35 #[.val (.ref o0), .val (.int p1)] [(.ref o0), (.ref o0), (.ref o2)])) rfl rfl (hb hby d3_35)
  refine OGl.go st44 ?_
  show OGl _ _ _ _ T44 (mkF m 38 #[.val (.ref o0), .val (.int p1)] [(.int (2 : Int32)), (.ref o0), (.ref o2)])
  refine OGl.go (fun t k => XS.dupX1 X44.here hx rfl (hb hby d3_38) rfl rfl rfl (XS.iconst X44.here hx rfl (hb hby d3_39) (XS.iadd X44.here hx rfl (hb hby d3_40) rfl k))) ?_
  show OGl _ _ _ _ T44 (mkF m 41 #[.val (.ref o0), .val (.int p1)] [(.int (3 : Int32)), (.ref o0), (.int (2 : Int32)), (.ref o2)])
  obtain ⟨T45, h45, X45, e45, W45, st45⟩ := putF X44 hx hZ hown (host := "") (Or.inl (hw _ (List.mem_of_getElem? (i := 17) rfl))) Via.refl e44 F0_o0 E_o0 (Or.inl (hw _ (List.mem_of_getElem? (i := 18) rfl))) (hw _ (List.mem_of_getElem? (i := 1) rfl)) (ty := .int) (by decide) rfl rfl (g := (mkF m 41 #[.val (.ref o0), .val (.int p1)] [(.int (3 : Int32)), (.ref o0), (.int (2 : Int32)), (.ref o2)])) rfl rfl (hb hby d3_41)
  refine OGl.go st45 ?_
  have N45 := Fr.snoc X45 N0 g_o0
  have Fw45 := F0_o0.same W45
  have KK45 : Keep h0 h45 [o0, o2] := (Keep.refl h0 [o0, o2]).wr W45 (Or.inl (List.mem_of_getElem? (i := 0) rfl))
  show OGl _ _ _ _ T45 (mkF m 44 #[.val (.ref o0), .val (.int p1)] [(.int (2 : Int32)), (.ref o2)])
  refine OGl.go (fun t k => XS.iloadN X45.here hx rfl (hb hby d3_44) rfl k) ?_
  show OGl _ _ _ _ T45 (mkF m 45 #[.val (.ref o0), .val (.int p1)] [(.int p1), (.int (2 : Int32)), (.ref o2)])
  have F46 := (V_o2.other W45 ne_o2_o0)
  obtain ⟨cl47, Ar47, qk47, Sz47, Nn47, Ha47, Gf47⟩ := id F46
  have hin47 : ¬ ((2 : Int32) < 0 ∨ cl47.slots.size ≤ ((2 : Int32)).toNatClampNeg) := inb_of Sz47 ⟨by decide, by decide⟩
  obtain ⟨T47, h47, X47, e47, W47, st47⟩ := stI X45 hx hZ e45 Ar47 (j := (2 : Int32)) hin47 (g := (mkF m 45 #[.val (.ref o0), .val (.int p1)] [(.int p1), (.int (2 : Int32)), (.ref o2)])) rfl rfl (hb hby d3_45)
  have V47 : Arv Z h47 o2 k3 .int (16 : Int32) [(.int p4), (.int p5), (.int p1), (.int (0 : Int32)), (.int (0 : Int32)), (.int (0 : Int32)), (.int (0 : Int32)), (.int (0 : Int32)), (.int (0 : Int32)), (.int (0 : Int32)), (.int (0 : Int32)), (.int (0 : Int32)), (.int (0 : Int32)), (.int (0 : Int32)), (.int (0 : Int32)), (.int (0 : Int32))] (.int (0 : Int32)) := Arv.set Ar47 qk47 Sz47 Nn47 Ha47 Gf47 rfl W47 2 rfl (Nat.le_of_ble_eq_true rfl)
  refine OGl.go st47 ?_
  have N47 := Fr.snoc X47 N45 g_o2
  have KK47 : Keep h0 h47 [o0, o2] := KK45.wr W47 (Or.inl (List.mem_of_getElem? (i := 1) rfl))
  show OGl _ _ _ _ T47 (mkF m 46 #[.val (.ref o0), .val (.int p1)] [])
  obtain ⟨fs, hr, hrun, hended, hW, hsame⟩ := X47.leave (v := none) (fun _ => rfl)
  refine ⟨_, _, X47.returnOut hx Bd.returns (hb hby d3_46) hr, hrun, hended, _, _, rfl, ?_, ⟨_, rfl⟩, hW, hsame.mono (by decide) (by decide)⟩
  show Q3b Z o0 p1 o2 k3 p4 p5 h0 n0 _ T47.heap _
  rw [e47]
  have F48 := (Fw45.other W47 (Or.inl (Ne.symm ne_o2_o0)))
  have F49 := ((F1_o0.other W45 (Or.inr (slot_ne (Or.inl (hw _ (List.mem_of_getElem? (i := 11) rfl))) (Or.inl (hw _ (List.mem_of_getElem? (i := 18) rfl))) (by decide) (t := (.array .int)) (t' := .int) (by decide) (by decide)))).other W47 (Or.inl (Ne.symm ne_o2_o0)))
  exact ⟨rfl, N47, KK47, F48, F49, V47⟩
theorem d4_0 : decode prog_73_method_6_code 0 = .ok (.aload_n 0, 1) := by decide +kernel
theorem d4_1 : decode prog_73_method_6_code 1 = .ok (.getfield 7, 3) := by decide +kernel
theorem d4_4 : decode prog_73_method_6_code 4 = .ok (.aload_n 0, 1) := by decide +kernel
theorem d4_5 : decode prog_73_method_6_code 5 = .ok (.dup, 1) := by decide +kernel
theorem d4_6 : decode prog_73_method_6_code 6 = .ok (.getfield 13, 3) := by decide +kernel
theorem d4_9 : decode prog_73_method_6_code 9 = .ok (.iconst 1, 1) := by decide +kernel
theorem d4_10 : decode prog_73_method_6_code 10 = .ok (.isub, 1) := by decide +kernel
theorem d4_11 : decode prog_73_method_6_code 11 = .ok (.dup_x1, 1) := by decide +kernel
theorem d4_12 : decode prog_73_method_6_code 12 = .ok (.putfield 13, 3) := by decide +kernel
theorem d4_15 : decode prog_73_method_6_code 15 = .ok (.iaload, 1) := by decide +kernel
theorem d4_16 : decode prog_73_method_6_code 16 = .ok (.ireturn, 1) := by decide +kernel
theorem ef_4 (m : MethodId) (x0 : Addr) : entryFrame m #[(.ref x0)] 1 = mkF m 0 #[.val (.ref x0)] [] := by first | (simp [entryFrame, mkF, argsToLocals, Value.category]; done) | rfl
def Q4 (Z : State) (o0 : Addr) (o1 : Addr) (k2 : ClassId) (p3 : Int32) (p4 : Int32) (p5 : Int32) (h0 : Heap) (n0 : Nat) (v : Option Value) (h : Heap) (L : List Loc) : Prop := v = some (.int p5) ∧ Fr n0 L ∧ Keep h0 h [o0] ∧ Fld Z h o0 "com/example/gramsmith/gramsmith/parse/Ints" "size" "I" (.int (2 : Int32)) ∧ Fld Z h o0 "com/example/gramsmith/gramsmith/parse/Ints" "values" "[I" (.ref o1)
set_option maxRecDepth 65536 in
set_option maxHeartbeats 40000000 in
theorem rm4 (l : Launch) (Z : State) (a0 : Array Value) (hw : ∀ d ∈ tables_1, d.before a0 Z = true) (ws : List Jvm.Cond) (o0 : Addr) (o1 : Addr) (k2 : ClassId) (p3 : Int32) (p4 : Int32) (p5 : Int32) (h0 : Heap) (n0 : Nat) (Z0 : n0 ≤ h0.size) (F0_o0 : Fld Z h0 o0 "com/example/gramsmith/gramsmith/parse/Ints" "values" "[I" (.ref o1)) (F1_o0 : Fld Z h0 o0 "com/example/gramsmith/gramsmith/parse/Ints" "size" "I" (.int (3 : Int32))) (E_o0 : Exa Z h0 o0 "com/example/gramsmith/gramsmith/parse/Ints") (g_o0 : n0 ≤ o0) (V_o1 : Arv Z h0 o1 k2 .int (16 : Int32) [(.int p3), (.int p4), (.int p5), (.int (0 : Int32)), (.int (0 : Int32)), (.int (0 : Int32)), (.int (0 : Int32)), (.int (0 : Int32)), (.int (0 : Int32)), (.int (0 : Int32)), (.int (0 : Int32)), (.int (0 : Int32)), (.int (0 : Int32)), (.int (0 : Int32)), (.int (0 : Int32)), (.int (0 : Int32))] (.int (0 : Int32))) (ne_o1_o0 : o1 ≠ o0) :
    MetFree l (⟨"com/example/gramsmith/gramsmith/parse/Ints", "removeLast", "()I"⟩ : MethodName) (head1 (Jvm.Cond.code (⟨"com/example/gramsmith/gramsmith/parse/Ints", "removeLast", "()I"⟩ : MethodName) prog_73_method_6_code 1 (some .int) :: ws) ({ frames := 0, cells := 0, slots := 0, locals := 0 } : Room)) (fun a U => a = #[(.ref o0)] ∧ Z.Warmed39 U.vm ∧ U.heap = h0) (fun _ _ _ _ _ => True) (fun _ U o U' => ∃ v L, o = .returned v ∧ Q4 Z o0 o1 k2 p3 p4 p5 h0 n0 v U'.heap L ∧ FrameEnd U o U' L ({ frames := 0, cells := 0, slots := 0, locals := 0 } : Room).cells ({ frames := 0, cells := 0, slots := 0, locals := 0 } : Room).slots) := by
  refine MetFree.of_bodySF (plainFor_of_name pn_0) hisR ?_
  intro p e s m args below meth c s₁ Bd hml0 hP hK
  obtain ⟨rfl, hZ, hh⟩ := hP
  have hx := Bd.exec
  have hby := Bd.bytes
  have hml : c.maxLocals = 1 := hml0
  have hown : s.vm.findClass "com/example/gramsmith/gramsmith/parse/Ints" = some m.cls := findClass_of_methodNamed Bd.named
  have hnm := (name_of_methodNamed Bd.named Bd.method).1
  have X0 : Stand p l e ({ frames := 0, cells := 0, slots := 0, locals := 0 } : Room) s m #[(.ref o0)] below meth c s₁ [] 0 0 := Stand.of_body Bd
  have e0 : s₁.heap = h0 := by rw [← hh, Bd.state]; rfl
  have N0 := Fr.nil n0
  refine OGl.start (ef_4 m o0) ?_
  show OGl _ _ _ _ s₁ (mkF m 0 #[.val (.ref o0)] [])
  refine OGl.go (fun t k => XS.aloadN X0.here hx rfl (hb hby d4_0) rfl rfl k) ?_
  show OGl _ _ _ _ s₁ (mkF m 1 #[.val (.ref o0)] [(.ref o0)])
  obtain ⟨T52, X52, e52, st52⟩ := getF X0 hx hZ hown (host := "") (Or.inl (hw _ (List.mem_of_getElem? (i := 10) rfl))) Via.refl e0 F0_o0 (g := (mkF m 1 #[.val (.ref o0)] [(.ref o0)])) rfl rfl (hb hby d4_1)
  refine OGl.go st52 ?_
  show OGl _ _ _ _ T52 (mkF m 4 #[.val (.ref o0)] [(.ref o1)])
  refine OGl.go (fun t k => XS.aloadN X52.here hx rfl (hb hby d4_4) rfl rfl (XS.dup X52.here hx rfl (hb hby d4_5) rfl rfl k)) ?_
  show OGl _ _ _ _ T52 (mkF m 6 #[.val (.ref o0)] [(.ref o0), (.ref o0), (.ref o1)])
  obtain ⟨T53, X53, e53, st53⟩ := getF X52 hx hZ hown (host := "") (Or.inl (hw _ (List.mem_of_getElem? (i := 17) rfl))) Via.refl e52 F1_o0 (g := (mkF m 6 #[.val (.ref o0)] [(.ref o0), (.ref o0), (.ref o1)])) rfl rfl (hb hby d4_6)
  refine OGl.go st53 ?_
  show OGl _ _ _ _ T53 (mkF m 9 #[.val (.ref o0)] [(.int (3 : Int32)), (.ref o0), (.ref o1)])
  refine OGl.go (fun t k => XS.iconst X53.here hx rfl (hb hby d4_9) (XS.isub X53.here hx rfl (hb hby d4_10) rfl (XS.dupX1 X53.here hx rfl (hb hby d4_11) rfl rfl rfl k))) ?_
  show OGl _ _ _ _ T53 (mkF m 12 #[.val (.ref o0)] [(.int (2 : Int32)), (.ref o0), (.int (2 : Int32)), (.ref o1)])
  obtain ⟨T54, h54, X54, e54, W54, st54⟩ := putF X53 hx hZ hown (host := "") (Or.inl (hw _ (List.mem_of_getElem? (i := 17) rfl))) Via.refl e53 F1_o0 E_o0 (Or.inl (hw _ (List.mem_of_getElem? (i := 18) rfl))) (hw _ (List.mem_of_getElem? (i := 1) rfl)) (ty := .int) (by decide) rfl rfl (g := (mkF m 12 #[.val (.ref o0)] [(.int (2 : Int32)), (.ref o0), (.int (2 : Int32)), (.ref o1)])) rfl rfl (hb hby d4_12)
  refine OGl.go st54 ?_
  have N54 := Fr.snoc X54 N0 g_o0
  have Fw54 := F1_o0.same W54
  have KK54 : Keep h0 h54 [o0] := (Keep.refl h0 [o0]).wr W54 (Or.inl (List.mem_of_getElem? (i := 0) rfl))
  show OGl _ _ _ _ T54 (mkF m 15 #[.val (.ref o0)] [(.int (2 : Int32)), (.ref o1)])
  have F55 := (V_o1.other W54 ne_o1_o0)
  obtain ⟨cl56, Ar56, -, Sz56, -, Ha56, -⟩ := id F55
  have hin56 : ¬ ((2 : Int32) < 0 ∨ cl56.slots.size ≤ ((2 : Int32)).toNatClampNeg) := inb_of Sz56 ⟨by decide, by decide⟩
  refine OGl.go (fun t k => own_iaload X54 hx (j := (2 : Int32)) (v := (.int p5)) (by rw [e54]; exact Ar56.1) (State.isArrayOf_alike hZ.alike Ar56.2.1) Ar56.2.2 hin56 (Has.at Ha56 hin56 rfl) rfl rfl (hb hby d4_15) k) ?_
  show OGl _ _ _ _ T54 (mkF m 16 #[.val (.ref o0)] [(.int p5)])
  obtain ⟨fs, hr, hrun, hended, hW, hsame⟩ := X54.leave (v := some (.int p5)) (fun h => by rw [Bd.returns] at h; cases h)
  refine ⟨_, _, retI X54 hx Bd.returns (hb hby d4_16) hr, hrun, hended, _, _, rfl, ?_, ⟨_, rfl⟩, hW, hsame.mono (by decide) (by decide)⟩
  show Q4 Z o0 o1 k2 p3 p4 p5 h0 n0 _ T54.heap _
  rw [e54]
  have F57 := (F0_o0.other W54 (Or.inr (slot_ne (Or.inl (hw _ (List.mem_of_getElem? (i := 11) rfl))) (Or.inl (hw _ (List.mem_of_getElem? (i := 18) rfl))) (by decide) (t := (.array .int)) (t' := .int) (by decide) (by decide))))
  exact ⟨rfl, N54, KK54, Fw54, F57⟩
theorem pd_2 : parseMethodDescriptor "()I" = some ⟨[], some .int⟩ := by decide +kernel
theorem d5_0 : decode prog_73_method_8_code 0 = .ok (.aload_n 0, 1) := by decide +kernel
theorem d5_1 : decode prog_73_method_8_code 1 = .ok (.getfield 13, 3) := by decide +kernel
theorem d5_4 : decode prog_73_method_8_code 4 = .ok (.ireturn, 1) := by decide +kernel
theorem ef_5 (m : MethodId) (x0 : Addr) : entryFrame m #[(.ref x0)] 1 = mkF m 0 #[.val (.ref x0)] [] := by first | (simp [entryFrame, mkF, argsToLocals, Value.category]; done) | rfl
def Q5 (Z : State) (o0 : Addr) (h0 : Heap) (n0 : Nat) (v : Option Value) (h : Heap) (L : List Loc) : Prop := v = some (.int (2 : Int32)) ∧ Fr n0 L ∧ h = h0
set_option maxRecDepth 65536 in
set_option maxHeartbeats 40000000 in
theorem rm5 (l : Launch) (Z : State) (a0 : Array Value) (hw : ∀ d ∈ tables_1, d.before a0 Z = true) (ws : List Jvm.Cond) (o0 : Addr) (h0 : Heap) (n0 : Nat) (Z0 : n0 ≤ h0.size) (F0_o0 : Fld Z h0 o0 "com/example/gramsmith/gramsmith/parse/Ints" "size" "I" (.int (2 : Int32))) :
    MetFree l (⟨"com/example/gramsmith/gramsmith/parse/Ints", "size", "()I"⟩ : MethodName) (head1 (Jvm.Cond.code (⟨"com/example/gramsmith/gramsmith/parse/Ints", "size", "()I"⟩ : MethodName) prog_73_method_8_code 1 (some .int) :: ws) ({ frames := 0, cells := 0, slots := 0, locals := 0 } : Room)) (fun a U => a = #[(.ref o0)] ∧ Z.Warmed39 U.vm ∧ U.heap = h0) (fun _ _ _ _ _ => True) (fun _ U o U' => ∃ v L, o = .returned v ∧ Q5 Z o0 h0 n0 v U'.heap L ∧ FrameEnd U o U' L ({ frames := 0, cells := 0, slots := 0, locals := 0 } : Room).cells ({ frames := 0, cells := 0, slots := 0, locals := 0 } : Room).slots) := by
  refine MetFree.of_bodySF (plainFor_of_name pn_0) hisR ?_
  intro p e s m args below meth c s₁ Bd hml0 hP hK
  obtain ⟨rfl, hZ, hh⟩ := hP
  have hx := Bd.exec
  have hby := Bd.bytes
  have hml : c.maxLocals = 1 := hml0
  have hown : s.vm.findClass "com/example/gramsmith/gramsmith/parse/Ints" = some m.cls := findClass_of_methodNamed Bd.named
  have hnm := (name_of_methodNamed Bd.named Bd.method).1
  have X0 : Stand p l e ({ frames := 0, cells := 0, slots := 0, locals := 0 } : Room) s m #[(.ref o0)] below meth c s₁ [] 0 0 := Stand.of_body Bd
  have e0 : s₁.heap = h0 := by rw [← hh, Bd.state]; rfl
  have N0 := Fr.nil n0
  refine OGl.start (ef_5 m o0) ?_
  show OGl _ _ _ _ s₁ (mkF m 0 #[.val (.ref o0)] [])
  refine OGl.go (fun t k => XS.aloadN X0.here hx rfl (hb hby d5_0) rfl rfl k) ?_
  show OGl _ _ _ _ s₁ (mkF m 1 #[.val (.ref o0)] [(.ref o0)])
  obtain ⟨T60, X60, e60, st60⟩ := getF X0 hx hZ hown (host := "") (Or.inl (hw _ (List.mem_of_getElem? (i := 17) rfl))) Via.refl e0 F0_o0 (g := (mkF m 1 #[.val (.ref o0)] [(.ref o0)])) rfl rfl (hb hby d5_1)
  refine OGl.go st60 ?_
  show OGl _ _ _ _ T60 (mkF m 4 #[.val (.ref o0)] [(.int (2 : Int32))])
  obtain ⟨fs, hr, hrun, hended, hW, hsame⟩ := X60.leave (v := some (.int (2 : Int32))) (fun h => by rw [Bd.returns] at h; cases h)
  refine ⟨_, _, retI X60 hx Bd.returns (hb hby d5_4) hr, hrun, hended, _, _, rfl, ?_, ⟨_, rfl⟩, hW, hsame.mono (by decide) (by decide)⟩
  show Q5 Z o0 h0 n0 _ T60.heap _
  rw [e60]
  exact ⟨rfl, N0, rfl⟩
theorem d6_0 : decode prog_73_method_5_code 0 = .ok (.aload_n 0, 1) := by decide +kernel
theorem d6_1 : decode prog_73_method_5_code 1 = .ok (.getfield 7, 3) := by decide +kernel
theorem d6_4 : decode prog_73_method_5_code 4 = .ok (.aload_n 0, 1) := by decide +kernel
theorem d6_5 : decode prog_73_method_5_code 5 = .ok (.getfield 13, 3) := by decide +kernel
theorem d6_8 : decode prog_73_method_5_code 8 = .ok (.iconst 1, 1) := by decide +kernel
theorem d6_9 : decode prog_73_method_5_code 9 = .ok (.isub, 1) := by decide +kernel
theorem d6_10 : decode prog_73_method_5_code 10 = .ok (.iaload, 1) := by decide +kernel
theorem d6_11 : decode prog_73_method_5_code 11 = .ok (.ireturn, 1) := by decide +kernel
theorem ef_6 (m : MethodId) (x0 : Addr) : entryFrame m #[(.ref x0)] 1 = mkF m 0 #[.val (.ref x0)] [] := by first | (simp [entryFrame, mkF, argsToLocals, Value.category]; done) | rfl
def Q6 (Z : State) (o0 : Addr) (o1 : Addr) (k2 : ClassId) (p3 : Int32) (p4 : Int32) (p5 : Int32) (h0 : Heap) (n0 : Nat) (v : Option Value) (h : Heap) (L : List Loc) : Prop := v = some (.int p4) ∧ Fr n0 L ∧ h = h0
set_option maxRecDepth 65536 in
set_option maxHeartbeats 40000000 in
theorem rm6 (l : Launch) (Z : State) (a0 : Array Value) (hw : ∀ d ∈ tables_1, d.before a0 Z = true) (ws : List Jvm.Cond) (o0 : Addr) (o1 : Addr) (k2 : ClassId) (p3 : Int32) (p4 : Int32) (p5 : Int32) (h0 : Heap) (n0 : Nat) (Z0 : n0 ≤ h0.size) (F0_o0 : Fld Z h0 o0 "com/example/gramsmith/gramsmith/parse/Ints" "values" "[I" (.ref o1)) (F1_o0 : Fld Z h0 o0 "com/example/gramsmith/gramsmith/parse/Ints" "size" "I" (.int (2 : Int32))) (V_o1 : Arv Z h0 o1 k2 .int (16 : Int32) [(.int p3), (.int p4), (.int p5), (.int (0 : Int32)), (.int (0 : Int32)), (.int (0 : Int32)), (.int (0 : Int32)), (.int (0 : Int32)), (.int (0 : Int32)), (.int (0 : Int32)), (.int (0 : Int32)), (.int (0 : Int32)), (.int (0 : Int32)), (.int (0 : Int32)), (.int (0 : Int32)), (.int (0 : Int32))] (.int (0 : Int32))) :
    MetFree l (⟨"com/example/gramsmith/gramsmith/parse/Ints", "last", "()I"⟩ : MethodName) (head1 (Jvm.Cond.code (⟨"com/example/gramsmith/gramsmith/parse/Ints", "last", "()I"⟩ : MethodName) prog_73_method_5_code 1 (some .int) :: ws) ({ frames := 0, cells := 0, slots := 0, locals := 0 } : Room)) (fun a U => a = #[(.ref o0)] ∧ Z.Warmed39 U.vm ∧ U.heap = h0) (fun _ _ _ _ _ => True) (fun _ U o U' => ∃ v L, o = .returned v ∧ Q6 Z o0 o1 k2 p3 p4 p5 h0 n0 v U'.heap L ∧ FrameEnd U o U' L ({ frames := 0, cells := 0, slots := 0, locals := 0 } : Room).cells ({ frames := 0, cells := 0, slots := 0, locals := 0 } : Room).slots) := by
  refine MetFree.of_bodySF (plainFor_of_name pn_0) hisR ?_
  intro p e s m args below meth c s₁ Bd hml0 hP hK
  obtain ⟨rfl, hZ, hh⟩ := hP
  have hx := Bd.exec
  have hby := Bd.bytes
  have hml : c.maxLocals = 1 := hml0
  have hown : s.vm.findClass "com/example/gramsmith/gramsmith/parse/Ints" = some m.cls := findClass_of_methodNamed Bd.named
  have hnm := (name_of_methodNamed Bd.named Bd.method).1
  have X0 : Stand p l e ({ frames := 0, cells := 0, slots := 0, locals := 0 } : Room) s m #[(.ref o0)] below meth c s₁ [] 0 0 := Stand.of_body Bd
  have e0 : s₁.heap = h0 := by rw [← hh, Bd.state]; rfl
  have N0 := Fr.nil n0
  refine OGl.start (ef_6 m o0) ?_
  show OGl _ _ _ _ s₁ (mkF m 0 #[.val (.ref o0)] [])
  refine OGl.go (fun t k => XS.aloadN X0.here hx rfl (hb hby d6_0) rfl rfl k) ?_
  show OGl _ _ _ _ s₁ (mkF m 1 #[.val (.ref o0)] [(.ref o0)])
  obtain ⟨T63, X63, e63, st63⟩ := getF X0 hx hZ hown (host := "") (Or.inl (hw _ (List.mem_of_getElem? (i := 10) rfl))) Via.refl e0 F0_o0 (g := (mkF m 1 #[.val (.ref o0)] [(.ref o0)])) rfl rfl (hb hby d6_1)
  refine OGl.go st63 ?_
  show OGl _ _ _ _ T63 (mkF m 4 #[.val (.ref o0)] [(.ref o1)])
  refine OGl.go (fun t k => XS.aloadN X63.here hx rfl (hb hby d6_4) rfl rfl k) ?_
  show OGl _ _ _ _ T63 (mkF m 5 #[.val (.ref o0)] [(.ref o0), (.ref o1)])
  obtain ⟨T64, X64, e64, st64⟩ := getF X63 hx hZ hown (host := "") (Or.inl (hw _ (List.mem_of_getElem? (i := 17) rfl))) Via.refl e63 F1_o0 (g := (mkF m 5 #[.val (.ref o0)] [(.ref o0), (.ref o1)])) rfl rfl (hb hby d6_5)
  refine OGl.go st64 ?_
  show OGl _ _ _ _ T64 (mkF m 8 #[.val (.ref o0)] [(.int (2 : Int32)), (.ref o1)])
  obtain ⟨cl65, Ar65, -, Sz65, -, Ha65, -⟩ := id V_o1
  have hin65 : ¬ ((1 : Int32) < 0 ∨ cl65.slots.size ≤ ((1 : Int32)).toNatClampNeg) := inb_of Sz65 ⟨by decide, by decide⟩
  refine OGl.go (fun t k => XS.iconst X64.here hx rfl (hb hby d6_8) (XS.isub X64.here hx rfl (hb hby d6_9) rfl (own_iaload X64 hx (j := (1 : Int32)) (v := (.int p4)) (by rw [e64]; exact Ar65.1) (State.isArrayOf_alike hZ.alike Ar65.2.1) Ar65.2.2 hin65 (Has.at Ha65 hin65 rfl) rfl rfl (hb hby d6_10) k))) ?_
  show OGl _ _ _ _ T64 (mkF m 11 #[.val (.ref o0)] [(.int p4)])
  obtain ⟨fs, hr, hrun, hended, hW, hsame⟩ := X64.leave (v := some (.int p4)) (fun h => by rw [Bd.returns] at h; cases h)
  refine ⟨_, _, retI X64 hx Bd.returns (hb hby d6_11) hr, hrun, hended, _, _, rfl, ?_, ⟨_, rfl⟩, hW, hsame.mono (by decide) (by decide)⟩
  show Q6 Z o0 o1 k2 p3 p4 p5 h0 n0 _ T64.heap _
  rw [e64]
  exact ⟨rfl, N0, rfl⟩
def Q4a (Z : State) (o0 : Addr) (o1 : Addr) (k2 : ClassId) (p3 : Int32) (p4 : Int32) (p5 : Int32) (h0 : Heap) (n0 : Nat) (v : Option Value) (h : Heap) (L : List Loc) : Prop := v = some (.int p4) ∧ Fr n0 L ∧ Keep h0 h [o0] ∧ Fld Z h o0 "com/example/gramsmith/gramsmith/parse/Ints" "size" "I" (.int (1 : Int32)) ∧ Fld Z h o0 "com/example/gramsmith/gramsmith/parse/Ints" "values" "[I" (.ref o1)
set_option maxRecDepth 65536 in
set_option maxHeartbeats 40000000 in
theorem rm4a (l : Launch) (Z : State) (a0 : Array Value) (hw : ∀ d ∈ tables_1, d.before a0 Z = true) (ws : List Jvm.Cond) (o0 : Addr) (o1 : Addr) (k2 : ClassId) (p3 : Int32) (p4 : Int32) (p5 : Int32) (h0 : Heap) (n0 : Nat) (Z0 : n0 ≤ h0.size) (F0_o0 : Fld Z h0 o0 "com/example/gramsmith/gramsmith/parse/Ints" "values" "[I" (.ref o1)) (F1_o0 : Fld Z h0 o0 "com/example/gramsmith/gramsmith/parse/Ints" "size" "I" (.int (2 : Int32))) (E_o0 : Exa Z h0 o0 "com/example/gramsmith/gramsmith/parse/Ints") (g_o0 : n0 ≤ o0) (V_o1 : Arv Z h0 o1 k2 .int (16 : Int32) [(.int p3), (.int p4), (.int p5), (.int (0 : Int32)), (.int (0 : Int32)), (.int (0 : Int32)), (.int (0 : Int32)), (.int (0 : Int32)), (.int (0 : Int32)), (.int (0 : Int32)), (.int (0 : Int32)), (.int (0 : Int32)), (.int (0 : Int32)), (.int (0 : Int32)), (.int (0 : Int32)), (.int (0 : Int32))] (.int (0 : Int32))) (ne_o1_o0 : o1 ≠ o0) :
    MetFree l (⟨"com/example/gramsmith/gramsmith/parse/Ints", "removeLast", "()I"⟩ : MethodName) (head1 (Jvm.Cond.code (⟨"com/example/gramsmith/gramsmith/parse/Ints", "removeLast", "()I"⟩ : MethodName) prog_73_method_6_code 1 (some .int) :: ws) ({ frames := 0, cells := 0, slots := 0, locals := 0 } : Room)) (fun a U => a = #[(.ref o0)] ∧ Z.Warmed39 U.vm ∧ U.heap = h0) (fun _ _ _ _ _ => True) (fun _ U o U' => ∃ v L, o = .returned v ∧ Q4a Z o0 o1 k2 p3 p4 p5 h0 n0 v U'.heap L ∧ FrameEnd U o U' L ({ frames := 0, cells := 0, slots := 0, locals := 0 } : Room).cells ({ frames := 0, cells := 0, slots := 0, locals := 0 } : Room).slots) := by
  refine MetFree.of_bodySF (plainFor_of_name pn_0) hisR ?_
  intro p e s m args below meth c s₁ Bd hml0 hP hK
  obtain ⟨rfl, hZ, hh⟩ := hP
  have hx := Bd.exec
  have hby := Bd.bytes
  have hml : c.maxLocals = 1 := hml0
  have hown : s.vm.findClass "com/example/gramsmith/gramsmith/parse/Ints" = some m.cls := findClass_of_methodNamed Bd.named
  have hnm := (name_of_methodNamed Bd.named Bd.method).1
  have X0 : Stand p l e ({ frames := 0, cells := 0, slots := 0, locals := 0 } : Room) s m #[(.ref o0)] below meth c s₁ [] 0 0 := Stand.of_body Bd
  have e0 : s₁.heap = h0 := by rw [← hh, Bd.state]; rfl
  have N0 := Fr.nil n0
  refine OGl.start (ef_4 m o0) ?_
  show OGl _ _ _ _ s₁ (mkF m 0 #[.val (.ref o0)] [])
  refine OGl.go (fun t k => XS.aloadN X0.here hx rfl (hb hby d4_0) rfl rfl k) ?_
  show OGl _ _ _ _ s₁ (mkF m 1 #[.val (.ref o0)] [(.ref o0)])
  obtain ⟨T68, X68, e68, st68⟩ := getF X0 hx hZ hown (host := "") (Or.inl (hw _ (List.mem_of_getElem? (i := 10) rfl))) Via.refl e0 F0_o0 (g := (mkF m 1 #[.val (.ref o0)] [(.ref o0)])) rfl rfl (hb hby d4_1)
  refine OGl.go st68 ?_
  show OGl _ _ _ _ T68 (mkF m 4 #[.val (.ref o0)] [(.ref o1)])
  refine OGl.go (fun t k => XS.aloadN X68.here hx rfl (hb hby d4_4) rfl rfl (XS.dup X68.here hx rfl (hb hby d4_5) rfl rfl k)) ?_
  show OGl _ _ _ _ T68 (mkF m 6 #[.val (.ref o0)] [(.ref o0), (.ref o0), (.ref o1)])
  obtain ⟨T69, X69, e69, st69⟩ := getF X68 hx hZ hown (host := "") (Or.inl (hw _ (List.mem_of_getElem? (i := 17) rfl))) Via.refl e68 F1_o0 (g := (mkF m 6 #[.val (.ref o0)] [(.ref o0), (.ref o0), (.ref o1)])) rfl rfl (hb hby d4_6)
  refine OGl.go st69 ?_
  show OGl _ _ _ _ T69 (mkF m 9 #[.val (.ref o0)] [(.int (2 : Int32)), (.ref o0), (.ref o1)])
  refine OGl.go (fun t k => XS.iconst X69.here hx rfl (hb hby d4_9) (XS.isub X69.here hx rfl (hb hby d4_10) rfl (XS.dupX1 X69.here hx rfl (hb hby d4_11) rfl rfl rfl k))) ?_
  show OGl _ _ _ _ T69 (mkF m 12 #[.val (.ref o0)] [(.int (1 : Int32)), (.ref o0), (.int (1 : Int32)), (.ref o1)])
  obtain ⟨T70, h70, X70, e70, W70, st70⟩ := putF X69 hx hZ hown (host := "") (Or.inl (hw _ (List.mem_of_getElem? (i := 17) rfl))) Via.refl e69 F1_o0 E_o0 (Or.inl (hw _ (List.mem_of_getElem? (i := 18) rfl))) (hw _ (List.mem_of_getElem? (i := 1) rfl)) (ty := .int) (by decide) rfl rfl (g := (mkF m 12 #[.val (.ref o0)] [(.int (1 : Int32)), (.ref o0), (.int (1 : Int32)), (.ref o1)])) rfl rfl (hb hby d4_12)
  refine OGl.go st70 ?_
  have N70 := Fr.snoc X70 N0 g_o0
  have Fw70 := F1_o0.same W70
  have KK70 : Keep h0 h70 [o0] := (Keep.refl h0 [o0]).wr W70 (Or.inl (List.mem_of_getElem? (i := 0) rfl))
  show OGl _ _ _ _ T70 (mkF m 15 #[.val (.ref o0)] [(.int (1 : Int32)), (.ref o1)])
  have F71 := (V_o1.other W70 ne_o1_o0)
  obtain ⟨cl72, Ar72, -, Sz72, -, Ha72, -⟩ := id F71
  have hin72 : ¬ ((1 : Int32) < 0 ∨ cl72.slots.size ≤ ((1 : Int32)).toNatClampNeg) := inb_of Sz72 ⟨by decide, by decide⟩
  refine OGl.go (fun t k => own_iaload X70 hx (j := (1 : Int32)) (v := (.int p4)) (by rw [e70]; exact Ar72.1) (State.isArrayOf_alike hZ.alike Ar72.2.1) Ar72.2.2 hin72 (Has.at Ha72 hin72 rfl) rfl rfl (hb hby d4_15) k) ?_
  show OGl _ _ _ _ T70 (mkF m 16 #[.val (.ref o0)] [(.int p4)])
  obtain ⟨fs, hr, hrun, hended, hW, hsame⟩ := X70.leave (v := some (.int p4)) (fun h => by rw [Bd.returns] at h; cases h)
  refine ⟨_, _, retI X70 hx Bd.returns (hb hby d4_16) hr, hrun, hended, _, _, rfl, ?_, ⟨_, rfl⟩, hW, hsame.mono (by decide) (by decide)⟩
  show Q4a Z o0 o1 k2 p3 p4 p5 h0 n0 _ T70.heap _
  rw [e70]
  have F73 := (F0_o0.other W70 (Or.inr (slot_ne (Or.inl (hw _ (List.mem_of_getElem? (i := 11) rfl))) (Or.inl (hw _ (List.mem_of_getElem? (i := 18) rfl))) (by decide) (t := (.array .int)) (t' := .int) (by decide) (by decide))))
  exact ⟨rfl, N70, KK70, Fw70, F73⟩
def Q5a (Z : State) (o0 : Addr) (h0 : Heap) (n0 : Nat) (v : Option Value) (h : Heap) (L : List Loc) : Prop := v = some (.int (1 : Int32)) ∧ Fr n0 L ∧ h = h0
set_option maxRecDepth 65536 in
set_option maxHeartbeats 40000000 in
theorem rm5a (l : Launch) (Z : State) (a0 : Array Value) (hw : ∀ d ∈ tables_1, d.before a0 Z = true) (ws : List Jvm.Cond) (o0 : Addr) (h0 : Heap) (n0 : Nat) (Z0 : n0 ≤ h0.size) (F0_o0 : Fld Z h0 o0 "com/example/gramsmith/gramsmith/parse/Ints" "size" "I" (.int (1 : Int32))) :
    MetFree l (⟨"com/example/gramsmith/gramsmith/parse/Ints", "size", "()I"⟩ : MethodName) (head1 (Jvm.Cond.code (⟨"com/example/gramsmith/gramsmith/parse/Ints", "size", "()I"⟩ : MethodName) prog_73_method_8_code 1 (some .int) :: ws) ({ frames := 0, cells := 0, slots := 0, locals := 0 } : Room)) (fun a U => a = #[(.ref o0)] ∧ Z.Warmed39 U.vm ∧ U.heap = h0) (fun _ _ _ _ _ => True) (fun _ U o U' => ∃ v L, o = .returned v ∧ Q5a Z o0 h0 n0 v U'.heap L ∧ FrameEnd U o U' L ({ frames := 0, cells := 0, slots := 0, locals := 0 } : Room).cells ({ frames := 0, cells := 0, slots := 0, locals := 0 } : Room).slots) := by
  refine MetFree.of_bodySF (plainFor_of_name pn_0) hisR ?_
  intro p e s m args below meth c s₁ Bd hml0 hP hK
  obtain ⟨rfl, hZ, hh⟩ := hP
  have hx := Bd.exec
  have hby := Bd.bytes
  have hml : c.maxLocals = 1 := hml0
  have hown : s.vm.findClass "com/example/gramsmith/gramsmith/parse/Ints" = some m.cls := findClass_of_methodNamed Bd.named
  have hnm := (name_of_methodNamed Bd.named Bd.method).1
  have X0 : Stand p l e ({ frames := 0, cells := 0, slots := 0, locals := 0 } : Room) s m #[(.ref o0)] below meth c s₁ [] 0 0 := Stand.of_body Bd
  have e0 : s₁.heap = h0 := by rw [← hh, Bd.state]; rfl
  have N0 := Fr.nil n0
  refine OGl.start (ef_5 m o0) ?_
  show OGl _ _ _ _ s₁ (mkF m 0 #[.val (.ref o0)] [])
  refine OGl.go (fun t k => XS.aloadN X0.here hx rfl (hb hby d5_0) rfl rfl k) ?_
  show OGl _ _ _ _ s₁ (mkF m 1 #[.val (.ref o0)] [(.ref o0)])
  obtain ⟨T75, X75, e75, st75⟩ := getF X0 hx hZ hown (host := "") (Or.inl (hw _ (List.mem_of_getElem? (i := 17) rfl))) Via.refl e0 F0_o0 (g := (mkF m 1 #[.val (.ref o0)] [(.ref o0)])) rfl rfl (hb hby d5_1)
  refine OGl.go st75 ?_
  show OGl _ _ _ _ T75 (mkF m 4 #[.val (.ref o0)] [(.int (1 : Int32))])
  obtain ⟨fs, hr, hrun, hended, hW, hsame⟩ := X75.leave (v := some (.int (1 : Int32))) (fun h => by rw [Bd.returns] at h; cases h)
  refine ⟨_, _, retI X75 hx Bd.returns (hb hby d5_4) hr, hrun, hended, _, _, rfl, ?_, ⟨_, rfl⟩, hW, hsame.mono (by decide) (by decide)⟩
  show Q5a Z o0 h0 n0 _ T75.heap _
  rw [e75]
  exact ⟨rfl, N0, rfl⟩
def Q4b (Z : State) (o0 : Addr) (o1 : Addr) (k2 : ClassId) (p3 : Int32) (p4 : Int32) (h0 : Heap) (n0 : Nat) (v : Option Value) (h : Heap) (L : List Loc) : Prop := v = some (.int p4) ∧ Fr n0 L ∧ Keep h0 h [o0] ∧ Fld Z h o0 "com/example/gramsmith/gramsmith/parse/Ints" "size" "I" (.int (1 : Int32)) ∧ Fld Z h o0 "com/example/gramsmith/gramsmith/parse/Ints" "values" "[I" (.ref o1)
set_option maxRecDepth 65536 in
set_option maxHeartbeats 40000000 in
theorem rm4b (l : Launch) (Z : State) (a0 : Array Value) (hw : ∀ d ∈ tables_1, d.before a0 Z = true) (ws : List Jvm.Cond) (o0 : Addr) (o1 : Addr) (k2 : ClassId) (p3 : Int32) (p4 : Int32) (h0 : Heap) (n0 : Nat) (Z0 : n0 ≤ h0.size) (F0_o0 : Fld Z h0 o0 "com/example/gramsmith/gramsmith/parse/Ints" "values" "[I" (.ref o1)) (F1_o0 : Fld Z h0 o0 "com/example/gramsmith/gramsmith/parse/Ints" "size" "I" (.int (2 : Int32))) (E_o0 : Exa Z h0 o0 "com/example/gramsmith/gramsmith/parse/Ints") (g_o0 : n0 ≤ o0) (V_o1 : Arv Z h0 o1 k2 .int (16 : Int32) [(.int p3), (.int p4), (.int (0 : Int32)), (.int (0 : Int32)), (.int (0 : Int32)), (.int (0 : Int32)), (.int (0 : Int32)), (.int (0 : Int32)), (.int (0 : Int32)), (.int (0 : Int32)), (.int (0 : Int32)), (.int (0 : Int32)), (.int (0 : Int32)), (.int (0 : Int32)), (.int (0 : Int32)), (.int (0 : Int32))] (.int (0 : Int32))) (ne_o1_o0 : o1 ≠ o0) :
    MetFree l (⟨"com/example/gramsmith/gramsmith/parse/Ints", "removeLast", "()I"⟩ : MethodName) (head1 (Jvm.Cond.code (⟨"com/example/gramsmith/gramsmith/parse/Ints", "removeLast", "()I"⟩ : MethodName) prog_73_method_6_code 1 (some .int) :: ws) ({ frames := 0, cells := 0, slots := 0, locals := 0 } : Room)) (fun a U => a = #[(.ref o0)] ∧ Z.Warmed39 U.vm ∧ U.heap = h0) (fun _ _ _ _ _ => True) (fun _ U o U' => ∃ v L, o = .returned v ∧ Q4b Z o0 o1 k2 p3 p4 h0 n0 v U'.heap L ∧ FrameEnd U o U' L ({ frames := 0, cells := 0, slots := 0, locals := 0 } : Room).cells ({ frames := 0, cells := 0, slots := 0, locals := 0 } : Room).slots) := by
  refine MetFree.of_bodySF (plainFor_of_name pn_0) hisR ?_
  intro p e s m args below meth c s₁ Bd hml0 hP hK
  obtain ⟨rfl, hZ, hh⟩ := hP
  have hx := Bd.exec
  have hby := Bd.bytes
  have hml : c.maxLocals = 1 := hml0
  have hown : s.vm.findClass "com/example/gramsmith/gramsmith/parse/Ints" = some m.cls := findClass_of_methodNamed Bd.named
  have hnm := (name_of_methodNamed Bd.named Bd.method).1
  have X0 : Stand p l e ({ frames := 0, cells := 0, slots := 0, locals := 0 } : Room) s m #[(.ref o0)] below meth c s₁ [] 0 0 := Stand.of_body Bd
  have e0 : s₁.heap = h0 := by rw [← hh, Bd.state]; rfl
  have N0 := Fr.nil n0
  refine OGl.start (ef_4 m o0) ?_
  show OGl _ _ _ _ s₁ (mkF m 0 #[.val (.ref o0)] [])
  refine OGl.go (fun t k => XS.aloadN X0.here hx rfl (hb hby d4_0) rfl rfl k) ?_
  show OGl _ _ _ _ s₁ (mkF m 1 #[.val (.ref o0)] [(.ref o0)])
  obtain ⟨T78, X78, e78, st78⟩ := getF X0 hx hZ hown (host := "") (Or.inl (hw _ (List.mem_of_getElem? (i := 10) rfl))) Via.refl e0 F0_o0 (g := (mkF m 1 #[.val (.ref o0)] [(.ref o0)])) rfl rfl (hb hby d4_1)
  refine OGl.go st78 ?_
  show OGl _ _ _ _ T78 (mkF m 4 #[.val (.ref o0)] [(.ref o1)])
  refine OGl.go (fun t k => XS.aloadN X78.here hx rfl (hb hby d4_4) rfl rfl (XS.dup X78.here hx rfl (hb hby d4_5) rfl rfl k)) ?_
  show OGl _ _ _ _ T78 (mkF m 6 #[.val (.ref o0)] [(.ref o0), (.ref o0), (.ref o1)])
  obtain ⟨T79, X79, e79, st79⟩ := getF X78 hx hZ hown (host := "") (Or.inl (hw _ (List.mem_of_getElem? (i := 17) rfl))) Via.refl e78 F1_o0 (g := (mkF m 6 #[.val (.ref o0)] [(.ref o0), (.ref o0), (.ref o1)])) rfl rfl (hb hby d4_6)
  refine OGl.go st79 ?_
  show OGl _ _ _ _ T79 (mkF m 9 #[.val (.ref o0)] [(.int (2 : Int32)), (.ref o0), (.ref o1)])
  refine OGl.go (fun t k => XS.iconst X79.here hx rfl (hb hby d4_9) (XS.isub X79.here hx rfl (hb hby d4_10) rfl (XS.dupX1 X79.here hx rfl (hb hby d4_11) rfl rfl rfl k))) ?_
  show OGl _ _ _ _ T79 (mkF m 12 #[.val (.ref o0)] [(.int (1 : Int32)), (.ref o0), (.int (1 : Int32)), (.ref o1)])
  obtain ⟨T80, h80, X80, e80, W80, st80⟩ := putF X79 hx hZ hown (host := "") (Or.inl (hw _ (List.mem_of_getElem? (i := 17) rfl))) Via.refl e79 F1_o0 E_o0 (Or.inl (hw _ (List.mem_of_getElem? (i := 18) rfl))) (hw _ (List.mem_of_getElem? (i := 1) rfl)) (ty := .int) (by decide) rfl rfl (g := (mkF m 12 #[.val (.ref o0)] [(.int (1 : Int32)), (.ref o0), (.int (1 : Int32)), (.ref o1)])) rfl rfl (hb hby d4_12)
  refine OGl.go st80 ?_
  have N80 := Fr.snoc X80 N0 g_o0
  have Fw80 := F1_o0.same W80
  have KK80 : Keep h0 h80 [o0] := (Keep.refl h0 [o0]).wr W80 (Or.inl (List.mem_of_getElem? (i := 0) rfl))
  show OGl _ _ _ _ T80 (mkF m 15 #[.val (.ref o0)] [(.int (1 : Int32)), (.ref o1)])
  have F81 := (V_o1.other W80 ne_o1_o0)
  obtain ⟨cl82, Ar82, -, Sz82, -, Ha82, -⟩ := id F81
  have hin82 : ¬ ((1 : Int32) < 0 ∨ cl82.slots.size ≤ ((1 : Int32)).toNatClampNeg) := inb_of Sz82 ⟨by decide, by decide⟩
  refine OGl.go (fun t k => own_iaload X80 hx (j := (1 : Int32)) (v := (.int p4)) (by rw [e80]; exact Ar82.1) (State.isArrayOf_alike hZ.alike Ar82.2.1) Ar82.2.2 hin82 (Has.at Ha82 hin82 rfl) rfl rfl (hb hby d4_15) k) ?_
  show OGl _ _ _ _ T80 (mkF m 16 #[.val (.ref o0)] [(.int p4)])
  obtain ⟨fs, hr, hrun, hended, hW, hsame⟩ := X80.leave (v := some (.int p4)) (fun h => by rw [Bd.returns] at h; cases h)
  refine ⟨_, _, retI X80 hx Bd.returns (hb hby d4_16) hr, hrun, hended, _, _, rfl, ?_, ⟨_, rfl⟩, hW, hsame.mono (by decide) (by decide)⟩
  show Q4b Z o0 o1 k2 p3 p4 h0 n0 _ T80.heap _
  rw [e80]
  have F83 := (F0_o0.other W80 (Or.inr (slot_ne (Or.inl (hw _ (List.mem_of_getElem? (i := 11) rfl))) (Or.inl (hw _ (List.mem_of_getElem? (i := 18) rfl))) (by decide) (t := (.array .int)) (t' := .int) (by decide) (by decide))))
  exact ⟨rfl, N80, KK80, Fw80, F83⟩
def Q6a (Z : State) (o0 : Addr) (o1 : Addr) (k2 : ClassId) (p3 : Int32) (p4 : Int32) (h0 : Heap) (n0 : Nat) (v : Option Value) (h : Heap) (L : List Loc) : Prop := v = some (.int p3) ∧ Fr n0 L ∧ h = h0
set_option maxRecDepth 65536 in
set_option maxHeartbeats 40000000 in
theorem rm6a (l : Launch) (Z : State) (a0 : Array Value) (hw : ∀ d ∈ tables_1, d.before a0 Z = true) (ws : List Jvm.Cond) (o0 : Addr) (o1 : Addr) (k2 : ClassId) (p3 : Int32) (p4 : Int32) (h0 : Heap) (n0 : Nat) (Z0 : n0 ≤ h0.size) (F0_o0 : Fld Z h0 o0 "com/example/gramsmith/gramsmith/parse/Ints" "values" "[I" (.ref o1)) (F1_o0 : Fld Z h0 o0 "com/example/gramsmith/gramsmith/parse/Ints" "size" "I" (.int (1 : Int32))) (V_o1 : Arv Z h0 o1 k2 .int (16 : Int32) [(.int p3), (.int p4), (.int (0 : Int32)), (.int (0 : Int32)), (.int (0 : Int32)), (.int (0 : Int32)), (.int (0 : Int32)), (.int (0 : Int32)), (.int (0 : Int32)), (.int (0 : Int32)), (.int (0 : Int32)), (.int (0 : Int32)), (.int (0 : Int32)), (.int (0 : Int32)), (.int (0 : Int32)), (.int (0 : Int32))] (.int (0 : Int32))) :
    MetFree l (⟨"com/example/gramsmith/gramsmith/parse/Ints", "last", "()I"⟩ : MethodName) (head1 (Jvm.Cond.code (⟨"com/example/gramsmith/gramsmith/parse/Ints", "last", "()I"⟩ : MethodName) prog_73_method_5_code 1 (some .int) :: ws) ({ frames := 0, cells := 0, slots := 0, locals := 0 } : Room)) (fun a U => a = #[(.ref o0)] ∧ Z.Warmed39 U.vm ∧ U.heap = h0) (fun _ _ _ _ _ => True) (fun _ U o U' => ∃ v L, o = .returned v ∧ Q6a Z o0 o1 k2 p3 p4 h0 n0 v U'.heap L ∧ FrameEnd U o U' L ({ frames := 0, cells := 0, slots := 0, locals := 0 } : Room).cells ({ frames := 0, cells := 0, slots := 0, locals := 0 } : Room).slots) := by
  refine MetFree.of_bodySF (plainFor_of_name pn_0) hisR ?_
  intro p e s m args below meth c s₁ Bd hml0 hP hK
  obtain ⟨rfl, hZ, hh⟩ := hP
  have hx := Bd.exec
  have hby := Bd.bytes
  have hml : c.maxLocals = 1 := hml0
  have hown : s.vm.findClass "com/example/gramsmith/gramsmith/parse/Ints" = some m.cls := findClass_of_methodNamed Bd.named
  have hnm := (name_of_methodNamed Bd.named Bd.method).1
  have X0 : Stand p l e ({ frames := 0, cells := 0, slots := 0, locals := 0 } : Room) s m #[(.ref o0)] below meth c s₁ [] 0 0 := Stand.of_body Bd
  have e0 : s₁.heap = h0 := by rw [← hh, Bd.state]; rfl
  have N0 := Fr.nil n0
  refine OGl.start (ef_6 m o0) ?_
  show OGl _ _ _ _ s₁ (mkF m 0 #[.val (.ref o0)] [])
  refine OGl.go (fun t k => XS.aloadN X0.here hx rfl (hb hby d6_0) rfl rfl k) ?_
  show OGl _ _ _ _ s₁ (mkF m 1 #[.val (.ref o0)] [(.ref o0)])
  obtain ⟨T88, X88, e88, st88⟩ := getF X0 hx hZ hown (host := "") (Or.inl (hw _ (List.mem_of_getElem? (i := 10) rfl))) Via.refl e0 F0_o0 (g := (mkF m 1 #[.val (.ref o0)] [(.ref o0)])) rfl rfl (hb hby d6_1)
  refine OGl.go st88 ?_
  show OGl _ _ _ _ T88 (mkF m 4 #[.val (.ref o0)] [(.ref o1)])
  refine OGl.go (fun t k => XS.aloadN X88.here hx rfl (hb hby d6_4) rfl rfl k) ?_
  show OGl _ _ _ _ T88 (mkF m 5 #[.val (.ref o0)] [(.ref o0), (.ref o1)])
  obtain ⟨T89, X89, e89, st89⟩ := getF X88 hx hZ hown (host := "") (Or.inl (hw _ (List.mem_of_getElem? (i := 17) rfl))) Via.refl e88 F1_o0 (g := (mkF m 5 #[.val (.ref o0)] [(.ref o0), (.ref o1)])) rfl rfl (hb hby d6_5)
  refine OGl.go st89 ?_
  show OGl _ _ _ _ T89 (mkF m 8 #[.val (.ref o0)] [(.int (1 : Int32)), (.ref o1)])
  obtain ⟨cl90, Ar90, -, Sz90, -, Ha90, -⟩ := id V_o1
  have hin90 : ¬ ((0 : Int32) < 0 ∨ cl90.slots.size ≤ ((0 : Int32)).toNatClampNeg) := inb_of Sz90 ⟨by decide, by decide⟩
  refine OGl.go (fun t k => XS.iconst X89.here hx rfl (hb hby d6_8) (XS.isub X89.here hx rfl (hb hby d6_9) rfl (own_iaload X89 hx (j := (0 : Int32)) (v := (.int p3)) (by rw [e89]; exact Ar90.1) (State.isArrayOf_alike hZ.alike Ar90.2.1) Ar90.2.2 hin90 (Has.at Ha90 hin90 rfl) rfl rfl (hb hby d6_10) k))) ?_
  show OGl _ _ _ _ T89 (mkF m 11 #[.val (.ref o0)] [(.int p3)])
  obtain ⟨fs, hr, hrun, hended, hW, hsame⟩ := X89.leave (v := some (.int p3)) (fun h => by rw [Bd.returns] at h; cases h)
  refine ⟨_, _, retI X89 hx Bd.returns (hb hby d6_11) hr, hrun, hended, _, _, rfl, ?_, ⟨_, rfl⟩, hW, hsame.mono (by decide) (by decide)⟩
  show Q6a Z o0 o1 k2 p3 p4 h0 n0 _ T89.heap _
  rw [e89]
  exact ⟨rfl, N0, rfl⟩
def Q4c (Z : State) (o0 : Addr) (o1 : Addr) (k2 : ClassId) (p3 : Int32) (p4 : Int32) (h0 : Heap) (n0 : Nat) (v : Option Value) (h : Heap) (L : List Loc) : Prop := v = some (.int p3) ∧ Fr n0 L ∧ Keep h0 h [o0] ∧ Fld Z h o0 "com/example/gramsmith/gramsmith/parse/Ints" "size" "I" (.int (0 : Int32)) ∧ Fld Z h o0 "com/example/gramsmith/gramsmith/parse/Ints" "values" "[I" (.ref o1)
set_option maxRecDepth 65536 in
set_option maxHeartbeats 40000000 in
theorem rm4c (l : Launch) (Z : State) (a0 : Array Value) (hw : ∀ d ∈ tables_1, d.before a0 Z = true) (ws : List Jvm.Cond) (o0 : Addr) (o1 : Addr) (k2 : ClassId) (p3 : Int32) (p4 : Int32) (h0 : Heap) (n0 : Nat) (Z0 : n0 ≤ h0.size) (F0_o0 : Fld Z h0 o0 "com/example/gramsmith/gramsmith/parse/Ints" "values" "[I" (.ref o1)) (F1_o0 : Fld Z h0 o0 "com/example/gramsmith/gramsmith/parse/Ints" "size" "I" (.int (1 : Int32))) (E_o0 : Exa Z h0 o0 "com/example/gramsmith/gramsmith/parse/Ints") (g_o0 : n0 ≤ o0) (V_o1 : Arv Z h0 o1 k2 .int (16 : Int32) [(.int p3), (.int p4), (.int (0 : Int32)), (.int (0 : Int32)), (.int (0 : Int32)), (.int (0 : Int32)), (.int (0 : Int32)), (.int (0 : Int32)), (.int (0 : Int32)), (.int (0 : Int32)), (.int (0 : Int32)), (.int (0 : Int32)), (.int (0 : Int32)), (.int (0 : Int32)), (.int (0 : Int32)), (.int (0 : Int32))] (.int (0 : Int32))) (ne_o1_o0 : o1 ≠ o0) :
    MetFree l (⟨"com/example/gramsmith/gramsmith/parse/Ints", "removeLast", "()I"⟩ : MethodName) (head1 (Jvm.Cond.code (⟨"com/example/gramsmith/gramsmith/parse/Ints", "removeLast", "()I"⟩ : MethodName) prog_73_method_6_code 1 (some .int) :: ws) ({ frames := 0, cells := 0, slots := 0, locals := 0 } : Room)) (fun a U => a = #[(.ref o0)] ∧ Z.Warmed39 U.vm ∧ U.heap = h0) (fun _ _ _ _ _ => True) (fun _ U o U' => ∃ v L, o = .returned v ∧ Q4c Z o0 o1 k2 p3 p4 h0 n0 v U'.heap L ∧ FrameEnd U o U' L ({ frames := 0, cells := 0, slots := 0, locals := 0 } : Room).cells ({ frames := 0, cells := 0, slots := 0, locals := 0 } : Room).slots) := by
  refine MetFree.of_bodySF (plainFor_of_name pn_0) hisR ?_
  intro p e s m args below meth c s₁ Bd hml0 hP hK
  obtain ⟨rfl, hZ, hh⟩ := hP
  have hx := Bd.exec
  have hby := Bd.bytes
  have hml : c.maxLocals = 1 := hml0
  have hown : s.vm.findClass "com/example/gramsmith/gramsmith/parse/Ints" = some m.cls := findClass_of_methodNamed Bd.named
  have hnm := (name_of_methodNamed Bd.named Bd.method).1
  have X0 : Stand p l e ({ frames := 0, cells := 0, slots := 0, locals := 0 } : Room) s m #[(.ref o0)] below meth c s₁ [] 0 0 := Stand.of_body Bd
  have e0 : s₁.heap = h0 := by rw [← hh, Bd.state]; rfl
  have N0 := Fr.nil n0
  refine OGl.start (ef_4 m o0) ?_
  show OGl _ _ _ _ s₁ (mkF m 0 #[.val (.ref o0)] [])
  refine OGl.go (fun t k => XS.aloadN X0.here hx rfl (hb hby d4_0) rfl rfl k) ?_
  show OGl _ _ _ _ s₁ (mkF m 1 #[.val (.ref o0)] [(.ref o0)])
  obtain ⟨T93, X93, e93, st93⟩ := getF X0 hx hZ hown (host := "") (Or.inl (hw _ (List.mem_of_getElem? (i := 10) rfl))) Via.refl e0 F0_o0 (g := (mkF m 1 #[.val (.ref o0)] [(.ref o0)])) rfl rfl (hb hby d4_1)
  refine OGl.go st93 ?_
  show OGl _ _ _ _ T93 (mkF m 4 #[.val (.ref o0)] [(.ref o1)])
  refine OGl.go (fun t k => XS.aloadN X93.here hx rfl (hb hby d4_4) rfl rfl (XS.dup X93.here hx rfl (hb hby d4_5) rfl rfl k)) ?_
  show OGl _ _ _ _ T93 (mkF m 6 #[.val (.ref o0)] [(.ref o0), (.ref o0), (.ref o1)])
  obtain ⟨T94, X94, e94, st94⟩ := getF X93 hx hZ hown (host := "") (Or.inl (hw _ (List.mem_of_getElem? (i := 17) rfl))) Via.refl e93 F1_o0 (g := (mkF m 6 #[.val (.ref o0)] [(.ref o0), (.ref o0), (.ref o1)])) rfl rfl (hb hby d4_6)
  refine OGl.go st94 ?_
  show OGl _ _ _ _ T94 (mkF m 9 #[.val (.ref o0)] [(.int (1 : Int32)), (.ref o0), (.ref o1)])
  refine OGl.go (fun t k => XS.iconst X94.here hx rfl (hb hby d4_9) (XS.isub X94.here hx rfl (hb hby d4_10) rfl (XS.dupX1 X94.here hx rfl (hb hby d4_11) rfl rfl rfl k))) ?_
  show OGl _ _ _ _ T94 (mkF m 12 #[.val (.ref o0)] [(.int (0 : Int32)), (.ref o0), (.int (0 : Int32)), (.ref o1)])
  obtain ⟨T95, h95, X95, e95, W95, st95⟩ := putF X94 hx hZ hown (host := "") (Or.inl (hw _ (List.mem_of_getElem? (i := 17) rfl))) Via.refl e94 F1_o0 E_o0 (Or.inl (hw _ (List.mem_of_getElem? (i := 18) rfl))) (hw _ (List.mem_of_getElem? (i := 1) rfl)) (ty := .int) (by decide) rfl rfl (g := (mkF m 12 #[.val (.ref o0)] [(.int (0 : Int32)), (.ref o0), (.int (0 : Int32)), (.ref o1)])) rfl rfl (hb hby d4_12)
  refine OGl.go st95 ?_
  have N95 := Fr.snoc X95 N0 g_o0
  have Fw95 := F1_o0.same W95
  have KK95 : Keep h0 h95 [o0] := (Keep.refl h0 [o0]).wr W95 (Or.inl (List.mem_of_getElem? (i := 0) rfl))
  show OGl _ _ _ _ T95 (mkF m 15 #[.val (.ref o0)] [(.int (0 : Int32)), (.ref o1)])
  have F96 := (V_o1.other W95 ne_o1_o0)
  obtain ⟨cl97, Ar97, -, Sz97, -, Ha97, -⟩ := id F96
  have hin97 : ¬ ((0 : Int32) < 0 ∨ cl97.slots.size ≤ ((0 : Int32)).toNatClampNeg) := inb_of Sz97 ⟨by decide, by decide⟩
  refine OGl.go (fun t k => own_iaload X95 hx (j := (0 : Int32)) (v := (.int p3)) (by rw [e95]; exact Ar97.1) (State.isArrayOf_alike hZ.alike Ar97.2.1) Ar97.2.2 hin97 (Has.at Ha97 hin97 rfl) rfl rfl (hb hby d4_15) k) ?_
  show OGl _ _ _ _ T95 (mkF m 16 #[.val (.ref o0)] [(.int p3)])
  obtain ⟨fs, hr, hrun, hended, hW, hsame⟩ := X95.leave (v := some (.int p3)) (fun h => by rw [Bd.returns] at h; cases h)
  refine ⟨_, _, retI X95 hx Bd.returns (hb hby d4_16) hr, hrun, hended, _, _, rfl, ?_, ⟨_, rfl⟩, hW, hsame.mono (by decide) (by decide)⟩
  show Q4c Z o0 o1 k2 p3 p4 h0 n0 _ T95.heap _
  rw [e95]
  have F98 := (F0_o0.other W95 (Or.inr (slot_ne (Or.inl (hw _ (List.mem_of_getElem? (i := 11) rfl))) (Or.inl (hw _ (List.mem_of_getElem? (i := 18) rfl))) (by decide) (t := (.array .int)) (t' := .int) (by decide) (by decide))))
  exact ⟨rfl, N95, KK95, Fw95, F98⟩
def Q5b (Z : State) (o0 : Addr) (h0 : Heap) (n0 : Nat) (v : Option Value) (h : Heap) (L : List Loc) : Prop := v = some (.int (0 : Int32)) ∧ Fr n0 L ∧ h = h0
set_option maxRecDepth 65536 in
set_option maxHeartbeats 40000000 in
theorem rm5b (l : Launch) (Z : State) (a0 : Array Value) (hw : ∀ d ∈ tables_1, d.before a0 Z = true) (ws : List Jvm.Cond) (o0 : Addr) (h0 : Heap) (n0 : Nat) (Z0 : n0 ≤ h0.size) (F0_o0 : Fld Z h0 o0 "com/example/gramsmith/gramsmith/parse/Ints" "size" "I" (.int (0 : Int32))) :
    MetFree l (⟨"com/example/gramsmith/gramsmith/parse/Ints", "size", "()I"⟩ : MethodName) (head1 (Jvm.Cond.code (⟨"com/example/gramsmith/gramsmith/parse/Ints", "size", "()I"⟩ : MethodName) prog_73_method_8_code 1 (some .int) :: ws) ({ frames := 0, cells := 0, slots := 0, locals := 0 } : Room)) (fun a U => a = #[(.ref o0)] ∧ Z.Warmed39 U.vm ∧ U.heap = h0) (fun _ _ _ _ _ => True) (fun _ U o U' => ∃ v L, o = .returned v ∧ Q5b Z o0 h0 n0 v U'.heap L ∧ FrameEnd U o U' L ({ frames := 0, cells := 0, slots := 0, locals := 0 } : Room).cells ({ frames := 0, cells := 0, slots := 0, locals := 0 } : Room).slots) := by
  refine MetFree.of_bodySF (plainFor_of_name pn_0) hisR ?_
  intro p e s m args below meth c s₁ Bd hml0 hP hK
  obtain ⟨rfl, hZ, hh⟩ := hP
  have hx := Bd.exec
  have hby := Bd.bytes
  have hml : c.maxLocals = 1 := hml0
  have hown : s.vm.findClass "com/example/gramsmith/gramsmith/parse/Ints" = some m.cls := findClass_of_methodNamed Bd.named
  have hnm := (name_of_methodNamed Bd.named Bd.method).1
  have X0 : Stand p l e ({ frames := 0, cells := 0, slots := 0, locals := 0 } : Room) s m #[(.ref o0)] below meth c s₁ [] 0 0 := Stand.of_body Bd
  have e0 : s₁.heap = h0 := by rw [← hh, Bd.state]; rfl
  have N0 := Fr.nil n0
  refine OGl.start (ef_5 m o0) ?_
  show OGl _ _ _ _ s₁ (mkF m 0 #[.val (.ref o0)] [])
  refine OGl.go (fun t k => XS.aloadN X0.here hx rfl (hb hby d5_0) rfl rfl k) ?_
  show OGl _ _ _ _ s₁ (mkF m 1 #[.val (.ref o0)] [(.ref o0)])
  obtain ⟨T100, X100, e100, st100⟩ := getF X0 hx hZ hown (host := "") (Or.inl (hw _ (List.mem_of_getElem? (i := 17) rfl))) Via.refl e0 F0_o0 (g := (mkF m 1 #[.val (.ref o0)] [(.ref o0)])) rfl rfl (hb hby d5_1)
  refine OGl.go st100 ?_
  show OGl _ _ _ _ T100 (mkF m 4 #[.val (.ref o0)] [(.int (0 : Int32))])
  obtain ⟨fs, hr, hrun, hended, hW, hsame⟩ := X100.leave (v := some (.int (0 : Int32))) (fun h => by rw [Bd.returns] at h; cases h)
  refine ⟨_, _, retI X100 hx Bd.returns (hb hby d5_4) hr, hrun, hended, _, _, rfl, ?_, ⟨_, rfl⟩, hW, hsame.mono (by decide) (by decide)⟩
  show Q5b Z o0 h0 n0 _ T100.heap _
  rw [e100]
  exact ⟨rfl, N0, rfl⟩
def e0_0 (p3 : Int32) : Int32 := (if (p3 &&& (1 : Int32)) = (0 : Int32) then (0 : Int32) else (1 : Int32))
theorem ef_0 (m : MethodId) (x0 : Int32) (x1 : Int32) (x2 : Int32) (x3 : Int32) : entryFrame m #[(.int x0), (.int x1), (.int x2), (.int x3)] maxLocals = mkF m 0 #[.val (.int x0), .val (.int x1), .val (.int x2), .val (.int x3), .unset, .unset, .unset, .unset, .unset, .unset] [] := by first | (simp [entryFrame, mkF, argsToLocals, Value.category, maxLocals]; done) | rfl
theorem pn_1 : plainName "com/example/gramsmith/gramsmith/parse/IntsRemoveLastPinLaw" = true := by first | (simp [plainName, overriddenIn]; done) | decide +kernel
def t0_0 (p0 : Int32) (p1 : Int32) (p2 : Int32) (p3 : Int32) : Int32 := (1 : Int32)
def Q0 (Z : State) (p0 : Int32) (p1 : Int32) (p2 : Int32) (p3 : Int32) (h0 : Heap) (n0 : Nat) (v : Option Value) (h : Heap) (L : List Loc) : Prop := v = some (.int (t0_0 p0 p1 p2 p3)) ∧ Fr n0 L
set_option maxRecDepth 65536 in
set_option maxHeartbeats 40000000 in
theorem rm0 (l : Launch) (Z : State) (a0 : Array Value) (hw : ∀ d ∈ tables_1, d.before a0 Z = true) (ws : List Jvm.Cond) (p0 : Int32) (p1 : Int32) (p2 : Int32) (p3 : Int32) (h0 : Heap) (n0 : Nat) (Z0 : n0 ≤ h0.size) :
    MetFree l x (head1 (Jvm.Cond.code x code maxLocals ret :: ws) room_1) (fun a U => a = #[(.int p0), (.int p1), (.int p2), (.int p3)] ∧ Z.Warmed39 U.vm ∧ U.heap = h0) (fun _ _ _ _ _ => True) (fun _ U o U' => ∃ v L, o = .returned v ∧ Q0 Z p0 p1 p2 p3 h0 n0 v U'.heap L ∧ FrameEnd U o U' L 2 18) := by
  refine MetFree.of_bodySF (plainFor_of_name pn_1) hisR ?_
  intro p e s m args below meth c s₁ Bd hml0 hP hK
  obtain ⟨rfl, hZ, hh⟩ := hP
  have hx := Bd.exec
  have hby := Bd.bytes
  have hml : c.maxLocals = 10 := hml0
  have hown : s.vm.findClass "com/example/gramsmith/gramsmith/parse/IntsRemoveLastPinLaw" = some m.cls := findClass_of_methodNamed Bd.named
  have hnm := (name_of_methodNamed Bd.named Bd.method).1
  have X0 : Stand p l e room_1 s m #[(.int p0), (.int p1), (.int p2), (.int p3)] below meth c s₁ [] 0 0 := Stand.of_body Bd
  have e0 : s₁.heap = h0 := by rw [← hh, Bd.state]; rfl
  have N0 := Fr.nil n0
  refine OGl.start (ef_0 m p0 p1 p2 p3) ?_
  show OGl _ _ _ _ s₁ (mkF m 0 #[.val (.int p0), .val (.int p1), .val (.int p2), .val (.int p3), .unset, .unset, .unset, .unset, .unset, .unset] [])
  obtain ⟨T1, h1, X1, e1, E1, A1, D1, -, st1⟩ := newO X0 hx hZ hown (hw _ (List.mem_of_getElem? (i := 0) rfl)) (hw _ (List.mem_of_getElem? (i := 1) rfl)) (hw _ (List.mem_of_getElem? (i := 2) rfl)) e0 (g := (mkF m 0 #[.val (.int p0), .val (.int p1), .val (.int p2), .val (.int p3), .unset, .unset, .unset, .unset, .unset, .unset] [])) rfl (hb hby at_0) (by decide) (by decide)
  obtain ⟨b1, gb1⟩ : ∃ z, z = h0.size := ⟨_, rfl⟩
  rw [← gb1] at A1 D1 st1
  have sz_b1 : h0.size ≤ b1 := Nat.le_trans (Keep.refl h0 []).1 (Nat.le_of_eq gb1.symm)
  have g_b1 : n0 ≤ b1 := Nat.le_trans Z0 sz_b1
  have F2 : Fld Z h1 b1 "com/example/gramsmith/gramsmith/parse/Ints" "values" "[I" .null := D1 (Or.inl (hw _ (List.mem_of_getElem? (i := 11) rfl))) (ty := (.array .int)) (by decide)
  have F3 : Fld Z h1 b1 "com/example/gramsmith/gramsmith/parse/Ints" "size" "I" (.int (0 : Int32)) := D1 (Or.inl (hw _ (List.mem_of_getElem? (i := 18) rfl))) (ty := .int) (by decide)
  have KK1 : Keep h0 h1 [] := (Keep.refl h0 []).ext E1
  refine OGl.go st1 ?_
  show OGl _ _ _ _ T1 (mkF m 3 #[.val (.int p0), .val (.int p1), .val (.int p2), .val (.int p3), .unset, .unset, .unset, .unset, .unset, .unset] [(.ref b1)])
  refine OGl.go (fun t k => XS.dup X1.here hx rfl (hb hby at_3) rfl rfl k) ?_
  show OGl _ _ _ _ T1 (mkF m 4 #[.val (.int p0), .val (.int p1), .val (.int p2), .val (.int p3), .unset, .unset, .unset, .unset, .unset, .unset] [(.ref b1), (.ref b1)])
  obtain ⟨_, _, ⟨T4, L4, kk4, n4⟩, -, X4, ⟨Lc4, hQ4, l4, y4, z4⟩, st4⟩ := X1.specialBack hx (y := (⟨"com/example/gramsmith/gramsmith/parse/Ints", "<init>", "()V"⟩ : MethodName)) rfl hown (mvT hZ (hw _ (List.mem_of_getElem? (i := 3) rfl))) (mvT hZ (hw _ (List.mem_of_getElem? (i := 4) rfl))) (mvT hZ (hw _ (List.mem_of_getElem? (i := 5) rfl))) (by decide) (backOf (W := 1) (rm1 l Z a0 hw [] b1 h1 n0 (Nat.le_trans Z0 KK1.1) A1 F2 F3 g_b1) hZ (hw _ (List.mem_of_getElem? (i := 5) rfl)) (hw _ (List.mem_of_getElem? (i := 2) rfl)) (by decide) (by decide)) (g := (mkF m 4 #[.val (.int p0), .val (.int p1), .val (.int p2), .val (.int p3), .unset, .unset, .unset, .unset, .unset, .unset] [(.ref b1), (.ref b1)])) rfl (by rw [hml]; rfl) (Steps.refl _) (a := b1) (argsL := []) (rest := [(.ref b1)]) (lenOf pd_0 rfl) rfl (by show 2 * 0 + _ ≤ _; exact Nat.le_of_eq rfl) (hb hby at_4) (fun _ _ => ⟨rfl, e1, (by decide : 1 + 1 ≤ _), (by decide : 2 + 16 ≤ _)⟩)
  dsimp only [Pt.U, Pt.locs, Pt.cells, Pt.slots] at X4 l4 y4 z4 st4 hQ4
  subst l4 y4 z4
  obtain ⟨b4_0, kb4_1, rfl, Nq4, K4, sb_b4_0, Fq4_0, Fq4_1, Fq4_2⟩ := hQ4
  have ne_b1_b4_0 : b1 ≠ b4_0 := Nat.ne_of_lt (Nat.lt_of_lt_of_le A1.lt sb_b4_0)
  have sz_b4_0 : h0.size ≤ b4_0 := Nat.le_trans KK1.1 sb_b4_0
  have g_b4_0 : n0 ≤ b4_0 := Nat.le_trans Z0 sz_b4_0
  have KK4 : Keep h0 T4.heap [] := KK1.trans K4 (allS (Or.inr sz_b1) all0)
  have N4 := Fr.app N0 Nq4
  refine OGl.go (fun t k => st4.trans k) ?_
  show OGl _ _ _ _ T4 (mkF m 7 #[.val (.int p0), .val (.int p1), .val (.int p2), .val (.int p3), .unset, .unset, .unset, .unset, .unset, .unset] [(.ref b1)])
  refine OGl.go (fun t k => XS.astore X4.here hx rfl (hb hby at_7) rfl rfl (l' := #[.val (.int p0), .val (.int p1), .val (.int p2), .val (.int p3), .val (.ref b1), .unset, .unset, .unset, .unset, .unset]) rfl (XS.aload X4.here hx rfl (hb hby at_9) rfl rfl (XS.iloadN X4.here hx rfl (hb hby at_11) rfl k))) ?_
  show OGl _ _ _ _ T4 (mkF m 12 #[.val (.int p0), .val (.int p1), .val (.int p2), .val (.int p3), .val (.ref b1), .unset, .unset, .unset, .unset, .unset] [(.int p0), (.ref b1)])
  have F23 := (A1.keep K4)
  obtain ⟨cq12, kq12, q12a, q12b, q12c⟩ := isOf hZ rfl F23
  obtain ⟨_, _, ⟨T12, L12, kk12, n12⟩, -, X12, ⟨Lc12, hQ12, l12, y12, z12⟩, st12⟩ := X4.virtualBack hx (y := (⟨"com/example/gramsmith/gramsmith/parse/Ints", "add", "(I)V"⟩ : MethodName)) (z := (⟨"com/example/gramsmith/gramsmith/parse/Ints", "add", "(I)V"⟩ : MethodName)) hown (mvT hZ (hw _ (List.mem_of_getElem? (i := 12) rfl))) (mvT hZ (hw _ (List.mem_of_getElem? (i := 13) rfl))) (notFace_of_selects (args := #[]) (mvT hZ (hw _ (List.mem_of_getElem? (i := 15) rfl)))) (mvT hZ (hw _ (List.mem_of_getElem? (i := 15) rfl))) (mvT hZ (hw _ (List.mem_of_getElem? (i := 14) rfl))) (by decide) (backOf (W := 0) (rm3 l Z a0 hw [] b1 p0 b4_0 kb4_1 T4.heap n0 (Nat.le_trans Z0 KK4.1) Fq4_0 Fq4_1 Fq4_2 F23 g_b1 (Ne.symm ne_b1_b4_0) g_b4_0) hZ (hw _ (List.mem_of_getElem? (i := 16) rfl)) (hw _ (List.mem_of_getElem? (i := 2) rfl)) (by decide) (by decide)) q12a q12c (g := (mkF m 12 #[.val (.int p0), .val (.int p1), .val (.int p2), .val (.int p3), .val (.ref b1), .unset, .unset, .unset, .unset, .unset] [(.int p0), (.ref b1)])) rfl (by rw [hml]; rfl) (Steps.refl _) (argsL := [(.int p0)]) (rest := []) (lenOf pd_1 rfl) rfl (by show 2 * 0 + _ ≤ _; exact Nat.le_of_eq rfl) (hb hby at_12) (fun _ _ => ⟨rfl, rfl, (by decide : 2 + 0 ≤ _), (by decide : 18 + 0 ≤ _)⟩)
  dsimp only [Pt.U, Pt.locs, Pt.cells, Pt.slots] at X12 l12 y12 z12 st12 hQ12
  subst l12 y12 z12
  obtain ⟨rfl, Nq12, K12, Fq12_0, Fq12_1, Fq12_2⟩ := hQ12
  have KK12 : Keep h0 T12.heap [] := KK4.trans K12 (allS (Or.inr sz_b1) (allS (Or.inr sz_b4_0) all0))
  have N12 := Fr.app N4 Nq12
  refine OGl.go (fun t k => st12.trans k) ?_
  show OGl _ _ _ _ T12 (mkF m 15 #[.val (.int p0), .val (.int p1), .val (.int p2), .val (.int p3), .val (.ref b1), .unset, .unset, .unset, .unset, .unset] [])
  refine OGl.go (fun t k => XS.aload X12.here hx rfl (hb hby at_15) rfl rfl (XS.iloadN X12.here hx rfl (hb hby at_17) rfl k)) ?_
  show OGl _ _ _ _ T12 (mkF m 18 #[.val (.int p0), .val (.int p1), .val (.int p2), .val (.int p3), .val (.ref b1), .unset, .unset, .unset, .unset, .unset] [(.int p1), (.ref b1)])
  have F35 := (F23.keep K12)
  obtain ⟨cq24, kq24, q24a, q24b, q24c⟩ := isOf hZ rfl F35
  obtain ⟨_, _, ⟨T24, L24, kk24, n24⟩, -, X24, ⟨Lc24, hQ24, l24, y24, z24⟩, st24⟩ := X12.virtualBack hx (y := (⟨"com/example/gramsmith/gramsmith/parse/Ints", "add", "(I)V"⟩ : MethodName)) (z := (⟨"com/example/gramsmith/gramsmith/parse/Ints", "add", "(I)V"⟩ : MethodName)) hown (mvT hZ (hw _ (List.mem_of_getElem? (i := 12) rfl))) (mvT hZ (hw _ (List.mem_of_getElem? (i := 13) rfl))) (notFace_of_selects (args := #[]) (mvT hZ (hw _ (List.mem_of_getElem? (i := 15) rfl)))) (mvT hZ (hw _ (List.mem_of_getElem? (i := 15) rfl))) (mvT hZ (hw _ (List.mem_of_getElem? (i := 14) rfl))) (by decide) (backOf (W := 0) (rm3a l Z a0 hw [] b1 p1 b4_0 kb4_1 p0 T12.heap n0 (Nat.le_trans Z0 KK12.1) Fq12_0 Fq12_1 Fq12_2 F35 g_b1 (Ne.symm ne_b1_b4_0) g_b4_0) hZ (hw _ (List.mem_of_getElem? (i := 16) rfl)) (hw _ (List.mem_of_getElem? (i := 2) rfl)) (by decide) (by decide)) q24a q24c (g := (mkF m 18 #[.val (.int p0), .val (.int p1), .val (.int p2), .val (.int p3), .val (.ref b1), .unset, .unset, .unset, .unset, .unset] [(.int p1), (.ref b1)])) rfl (by rw [hml]; rfl) (Steps.refl _) (argsL := [(.int p1)]) (rest := []) (lenOf pd_1 rfl) rfl (by show 2 * 0 + _ ≤ _; exact Nat.le_of_eq rfl) (hb hby at_18) (fun _ _ => ⟨rfl, rfl, (by decide : 2 + 0 ≤ _), (by decide : 18 + 0 ≤ _)⟩)
  dsimp only [Pt.U, Pt.locs, Pt.cells, Pt.slots] at X24 l24 y24 z24 st24 hQ24
  subst l24 y24 z24
  obtain ⟨rfl, Nq24, K24, Fq24_0, Fq24_1, Fq24_2⟩ := hQ24
  have KK24 : Keep h0 T24.heap [] := KK12.trans K24 (allS (Or.inr sz_b1) (allS (Or.inr sz_b4_0) all0))
  have N24 := Fr.app N12 Nq24
  refine OGl.go (fun t k => st24.trans k) ?_
  show OGl _ _ _ _ T24 (mkF m 21 #[.val (.int p0), .val (.int p1), .val (.int p2), .val (.int p3), .val (.ref b1), .unset, .unset, .unset, .unset, .unset] [])
  refine OGl.go (fun t k => XS.iloadN X24.here hx rfl (hb hby at_21) rfl (XS.iconst X24.here hx rfl (hb hby at_22) (XS.iand X24.here hx rfl (hb hby at_23) rfl k))) ?_
  show OGl _ _ _ _ T24 (mkF m 24 #[.val (.int p0), .val (.int p1), .val (.int p2), .val (.int p3), .val (.ref b1), .unset, .unset, .unset, .unset, .unset] [(.int (p3 &&& (1 : Int32)))])
  have m36 : ∀ t, Steps p.tables e below (T24.setTop (mkF m 32 #[.val (.int p0), .val (.int p1), .val (.int p2), .val (.int p3), .val (.ref b1), .unset, .unset, .unset, .unset, .unset] [(.int (e0_0 p3))])) t → Steps p.tables e below (T24.setTop (mkF m 24 #[.val (.int p0), .val (.int p1), .val (.int p2), .val (.int p3), .val (.ref b1), .unset, .unset, .unset, .unset, .unset] [(.int (p3 &&& (1 : Int32)))])) t := by
    intro t k
    by_cases hm36 : (p3 &&& (1 : Int32)) = (0 : Int32)
    · rw [show (e0_0 p3) = (0 : Int32) from if_pos hm36] at k
      refine XS.ifYes X24.here hx rfl (pc0 := 24) (pc' := 31) rfl (hb hby at_24) rfl ((if0 _ _).trans (teq hm36).1) (by decide) (by decide) (XS.iconst X24.here hx rfl (hb hby at_31) ?_)
      show Steps _ _ _ (T24.setTop (mkF m 32 #[.val (.int p0), .val (.int p1), .val (.int p2), .val (.int p3), .val (.ref b1), .unset, .unset, .unset, .unset, .unset] [(.int (0 : Int32))])) _
      exact k
    · rw [show (e0_0 p3) = (1 : Int32) from if_neg hm36] at k
      refine XS.ifNo X24.here hx rfl (hb hby at_24) rfl ((if0 _ _).trans (feq hm36).1) (XS.iconst X24.here hx rfl (hb hby at_27) (XS.goto X24.here hx rfl (pc0 := 28) (pc' := 32) rfl (hb hby at_28) (by decide) (by decide) ?_))
      show Steps _ _ _ (T24.setTop (mkF m 32 #[.val (.int p0), .val (.int p1), .val (.int p2), .val (.int p3), .val (.ref b1), .unset, .unset, .unset, .unset, .unset] [(.int (1 : Int32))])) _
      exact k
  refine OGl.go (fun t k => m36 _ (XS.istore X24.here hx rfl (hb hby at_32) rfl (l' := #[.val (.int p0), .val (.int p1), .val (.int p2), .val (.int p3), .val (.ref b1), .val (.int (e0_0 p3)), .unset, .unset, .unset, .unset]) rfl (XS.iload X24.here hx rfl (hb hby at_34) rfl k))) ?_
  show OGl _ _ _ _ T24 (mkF m 36 #[.val (.int p0), .val (.int p1), .val (.int p2), .val (.int p3), .val (.ref b1), .val (.int (e0_0 p3)), .unset, .unset, .unset, .unset] [(.int (e0_0 p3))])
  by_cases hc38 : (e0_0 p3) = (0 : Int32)
  · refine OGl.go (fun t k => XS.ifYes X24.here hx rfl (pc0 := 36) (pc' := 80) rfl (hb hby at_36) rfl ((if0 _ _).trans (teq hc38).1) (by decide) (by decide) (XS.aload X24.here hx rfl (hb hby at_80) rfl rfl (XS.iloadN X24.here hx rfl (hb hby at_82) rfl k))) ?_
    show OGl _ _ _ _ T24 (mkF m 83 #[.val (.int p0), .val (.int p1), .val (.int p2), .val (.int p3), .val (.ref b1), .val (.int (e0_0 p3)), .unset, .unset, .unset, .unset] [(.int p2), (.ref b1)])
    have F50 := (F35.keep K24)
    obtain ⟨cq39, kq39, q39a, q39b, q39c⟩ := isOf hZ rfl F50
    obtain ⟨_, _, ⟨T39, L39, kk39, n39⟩, -, X39, ⟨Lc39, hQ39, l39, y39, z39⟩, st39⟩ := X24.virtualBack hx (y := (⟨"com/example/gramsmith/gramsmith/parse/Ints", "add", "(I)V"⟩ : MethodName)) (z := (⟨"com/example/gramsmith/gramsmith/parse/Ints", "add", "(I)V"⟩ : MethodName)) hown (mvT hZ (hw _ (List.mem_of_getElem? (i := 12) rfl))) (mvT hZ (hw _ (List.mem_of_getElem? (i := 13) rfl))) (notFace_of_selects (args := #[]) (mvT hZ (hw _ (List.mem_of_getElem? (i := 15) rfl)))) (mvT hZ (hw _ (List.mem_of_getElem? (i := 15) rfl))) (mvT hZ (hw _ (List.mem_of_getElem? (i := 14) rfl))) (by decide) (backOf (W := 0) (rm3b l Z a0 hw [] b1 p2 b4_0 kb4_1 p0 p1 T24.heap n0 (Nat.le_trans Z0 KK24.1) Fq24_0 Fq24_1 Fq24_2 F50 g_b1 (Ne.symm ne_b1_b4_0) g_b4_0) hZ (hw _ (List.mem_of_getElem? (i := 16) rfl)) (hw _ (List.mem_of_getElem? (i := 2) rfl)) (by decide) (by decide)) q39a q39c (g := (mkF m 83 #[.val (.int p0), .val (.int p1), .val (.int p2), .val (.int p3), .val (.ref b1), .val (.int (e0_0 p3)), .unset, .unset, .unset, .unset] [(.int p2), (.ref b1)])) rfl (by rw [hml]; rfl) (Steps.refl _) (argsL := [(.int p2)]) (rest := []) (lenOf pd_1 rfl) rfl (by show 2 * 0 + _ ≤ _; exact Nat.le_of_eq rfl) (hb hby at_83) (fun _ _ => ⟨rfl, rfl, (by decide : 2 + 0 ≤ _), (by decide : 18 + 0 ≤ _)⟩)
    dsimp only [Pt.U, Pt.locs, Pt.cells, Pt.slots] at X39 l39 y39 z39 st39 hQ39
    subst l39 y39 z39
    obtain ⟨rfl, Nq39, K39, Fq39_0, Fq39_1, Fq39_2⟩ := hQ39
    have KK39 : Keep h0 T39.heap [] := KK24.trans K39 (allS (Or.inr sz_b1) (allS (Or.inr sz_b4_0) all0))
    have N39 := Fr.app N24 Nq39
    refine OGl.go (fun t k => st39.trans k) ?_
    show OGl _ _ _ _ T39 (mkF m 86 #[.val (.int p0), .val (.int p1), .val (.int p2), .val (.int p3), .val (.ref b1), .val (.int (e0_0 p3)), .unset, .unset, .unset, .unset] [])
    refine OGl.go (fun t k => XS.aload X39.here hx rfl (hb hby at_86) rfl rfl k) ?_
    show OGl _ _ _ _ T39 (mkF m 88 #[.val (.int p0), .val (.int p1), .val (.int p2), .val (.int p3), .val (.ref b1), .val (.int (e0_0 p3)), .unset, .unset, .unset, .unset] [(.ref b1)])
    have F58 := (F50.keep K39)
    obtain ⟨cq51, kq51, q51a, q51b, q51c⟩ := isOf hZ rfl F58
    obtain ⟨_, _, ⟨T51, L51, kk51, n51⟩, -, X51, ⟨Lc51, hQ51, l51, y51, z51⟩, st51⟩ := X39.virtualBack hx (y := (⟨"com/example/gramsmith/gramsmith/parse/Ints", "removeLast", "()I"⟩ : MethodName)) (z := (⟨"com/example/gramsmith/gramsmith/parse/Ints", "removeLast", "()I"⟩ : MethodName)) hown (mvT hZ (hw _ (List.mem_of_getElem? (i := 19) rfl))) (mvT hZ (hw _ (List.mem_of_getElem? (i := 20) rfl))) (notFace_of_selects (args := #[]) (mvT hZ (hw _ (List.mem_of_getElem? (i := 22) rfl)))) (mvT hZ (hw _ (List.mem_of_getElem? (i := 22) rfl))) (mvT hZ (hw _ (List.mem_of_getElem? (i := 21) rfl))) (by decide) (backOf (W := 0) (rm4 l Z a0 hw [] b1 b4_0 kb4_1 p0 p1 p2 T39.heap n0 (Nat.le_trans Z0 KK39.1) Fq39_1 Fq39_0 F58 g_b1 Fq39_2 (Ne.symm ne_b1_b4_0)) hZ (hw _ (List.mem_of_getElem? (i := 23) rfl)) (hw _ (List.mem_of_getElem? (i := 2) rfl)) (by decide) (by decide)) q51a q51c (g := (mkF m 88 #[.val (.int p0), .val (.int p1), .val (.int p2), .val (.int p3), .val (.ref b1), .val (.int (e0_0 p3)), .unset, .unset, .unset, .unset] [(.ref b1)])) rfl (by rw [hml]; rfl) (Steps.refl _) (argsL := []) (rest := []) (lenOf pd_2 rfl) rfl (by show 2 * 0 + _ ≤ _; exact Nat.le_of_eq rfl) (hb hby at_88) (fun _ _ => ⟨rfl, rfl, (by decide : 2 + 0 ≤ _), (by decide : 18 + 0 ≤ _)⟩)
    dsimp only [Pt.U, Pt.locs, Pt.cells, Pt.slots] at X51 l51 y51 z51 st51 hQ51
    subst l51 y51 z51
    obtain ⟨rfl, Nq51, K51, Fq51_0, Fq51_1⟩ := hQ51
    have KK51 : Keep h0 T51.heap [] := KK39.trans K51 (allS (Or.inr sz_b1) all0)
    have N51 := Fr.app N39 Nq51
    refine OGl.go (fun t k => st51.trans k) ?_
    show OGl _ _ _ _ T51 (mkF m 91 #[.val (.int p0), .val (.int p1), .val (.int p2), .val (.int p3), .val (.ref b1), .val (.int (e0_0 p3)), .unset, .unset, .unset, .unset] [(.int p2)])
    refine OGl.go (fun t k => XS.istore X51.here hx rfl (hb hby at_91) rfl (l' := #[.val (.int p0), .val (.int p1), .val (.int p2), .val (.int p3), .val (.ref b1), .val (.int (e0_0 p3)), .unset, .val (.int p2), .unset, .unset]) rfl (XS.iload X51.here hx rfl (hb hby at_93) rfl (XS.iloadN X51.here hx rfl (hb hby at_95) rfl (XS.icmpNo X51.here hx rfl (hb hby at_96) rfl (teq (rfl : p2 = p2)).2 (XS.aload X51.here hx rfl (hb hby at_99) rfl rfl k))))) ?_
    show OGl _ _ _ _ T51 (mkF m 101 #[.val (.int p0), .val (.int p1), .val (.int p2), .val (.int p3), .val (.ref b1), .val (.int (e0_0 p3)), .unset, .val (.int p2), .unset, .unset] [(.ref b1)])
    have F61 := (F58.keep K51)
    obtain ⟨cq59, kq59, q59a, q59b, q59c⟩ := isOf hZ rfl F61
    obtain ⟨_, _, ⟨T59, L59, kk59, n59⟩, -, X59, ⟨Lc59, hQ59, l59, y59, z59⟩, st59⟩ := X51.virtualBack hx (y := (⟨"com/example/gramsmith/gramsmith/parse/Ints", "size", "()I"⟩ : MethodName)) (z := (⟨"com/example/gramsmith/gramsmith/parse/Ints", "size", "()I"⟩ : MethodName)) hown (mvT hZ (hw _ (List.mem_of_getElem? (i := 24) rfl))) (mvT hZ (hw _ (List.mem_of_getElem? (i := 25) rfl))) (notFace_of_selects (args := #[]) (mvT hZ (hw _ (List.mem_of_getElem? (i := 27) rfl)))) (mvT hZ (hw _ (List.mem_of_getElem? (i := 27) rfl))) (mvT hZ (hw _ (List.mem_of_getElem? (i := 26) rfl))) (by decide) (backOf (W := 0) (rm5 l Z a0 hw [] b1 T51.heap n0 (Nat.le_trans Z0 KK51.1) Fq51_0) hZ (hw _ (List.mem_of_getElem? (i := 28) rfl)) (hw _ (List.mem_of_getElem? (i := 2) rfl)) (by decide) (by decide)) q59a q59c (g := (mkF m 101 #[.val (.int p0), .val (.int p1), .val (.int p2), .val (.int p3), .val (.ref b1), .val (.int (e0_0 p3)), .unset, .val (.int p2), .unset, .unset] [(.ref b1)])) rfl (by rw [hml]; rfl) (Steps.refl _) (argsL := []) (rest := []) (lenOf pd_2 rfl) rfl (by show 2 * 0 + _ ≤ _; exact Nat.le_of_eq rfl) (hb hby at_101) (fun _ _ => ⟨rfl, rfl, (by decide : 2 + 0 ≤ _), (by decide : 18 + 0 ≤ _)⟩)
    dsimp only [Pt.U, Pt.locs, Pt.cells, Pt.slots] at X59 l59 y59 z59 st59 hQ59
    subst l59 y59 z59
    obtain ⟨rfl, Nq59, e59⟩ := hQ59
    have N59 := Fr.app N51 Nq59
    refine OGl.go (fun t k => st59.trans k) ?_
    show OGl _ _ _ _ T59 (mkF m 104 #[.val (.int p0), .val (.int p1), .val (.int p2), .val (.int p3), .val (.ref b1), .val (.int (e0_0 p3)), .unset, .val (.int p2), .unset, .unset] [(.int (2 : Int32))])
    refine OGl.go (fun t k => XS.iconst X59.here hx rfl (hb hby at_104) (XS.icmpNo X59.here hx rfl (hb hby at_105) rfl (teq (by decide : (2 : Int32) = (2 : Int32))).2 (XS.aload X59.here hx rfl (hb hby at_108) rfl rfl k))) ?_
    show OGl _ _ _ _ T59 (mkF m 110 #[.val (.int p0), .val (.int p1), .val (.int p2), .val (.int p3), .val (.ref b1), .val (.int (e0_0 p3)), .unset, .val (.int p2), .unset, .unset] [(.ref b1)])
    have F66 := (Fq39_2.keep K51 (ninS (Ne.symm ne_b1_b4_0) nin0))
    obtain ⟨cq62, kq62, q62a, q62b, q62c⟩ := isOf hZ e59 F61
    obtain ⟨_, _, ⟨T62, L62, kk62, n62⟩, -, X62, ⟨Lc62, hQ62, l62, y62, z62⟩, st62⟩ := X59.virtualBack hx (y := (⟨"com/example/gramsmith/gramsmith/parse/Ints", "last", "()I"⟩ : MethodName)) (z := (⟨"com/example/gramsmith/gramsmith/parse/Ints", "last", "()I"⟩ : MethodName)) hown (mvT hZ (hw _ (List.mem_of_getElem? (i := 29) rfl))) (mvT hZ (hw _ (List.mem_of_getElem? (i := 30) rfl))) (notFace_of_selects (args := #[]) (mvT hZ (hw _ (List.mem_of_getElem? (i := 32) rfl)))) (mvT hZ (hw _ (List.mem_of_getElem? (i := 32) rfl))) (mvT hZ (hw _ (List.mem_of_getElem? (i := 31) rfl))) (by decide) (backOf (W := 0) (rm6 l Z a0 hw [] b1 b4_0 kb4_1 p0 p1 p2 T51.heap n0 (Nat.le_trans Z0 KK51.1) Fq51_1 Fq51_0 F66) hZ (hw _ (List.mem_of_getElem? (i := 33) rfl)) (hw _ (List.mem_of_getElem? (i := 2) rfl)) (by decide) (by decide)) q62a q62c (g := (mkF m 110 #[.val (.int p0), .val (.int p1), .val (.int p2), .val (.int p3), .val (.ref b1), .val (.int (e0_0 p3)), .unset, .val (.int p2), .unset, .unset] [(.ref b1)])) rfl (by rw [hml]; rfl) (Steps.refl _) (argsL := []) (rest := []) (lenOf pd_2 rfl) rfl (by show 2 * 0 + _ ≤ _; exact Nat.le_of_eq rfl) (hb hby at_110) (fun _ _ => ⟨rfl, e59, (by decide : 2 + 0 ≤ _), (by decide : 18 + 0 ≤ _)⟩)
    dsimp only [Pt.U, Pt.locs, Pt.cells, Pt.slots] at X62 l62 y62 z62 st62 hQ62
    subst l62 y62 z62
    obtain ⟨rfl, Nq62, e62⟩ := hQ62
    have N62 := Fr.app N59 Nq62
    refine OGl.go (fun t k => st62.trans k) ?_
    show OGl _ _ _ _ T62 (mkF m 113 #[.val (.int p0), .val (.int p1), .val (.int p2), .val (.int p3), .val (.ref b1), .val (.int (e0_0 p3)), .unset, .val (.int p2), .unset, .unset] [(.int p1)])
    refine OGl.go (fun t k => XS.iloadN X62.here hx rfl (hb hby at_113) rfl (XS.icmpNo X62.here hx rfl (hb hby at_114) rfl (teq (rfl : p1 = p1)).2 (XS.iconst X62.here hx rfl (hb hby at_117) (XS.goto X62.here hx rfl (pc0 := 118) (pc' := 122) rfl (hb hby at_118) (by decide) (by decide) (XS.istore X62.here hx rfl (hb hby at_122) rfl (l' := #[.val (.int p0), .val (.int p1), .val (.int p2), .val (.int p3), .val (.ref b1), .val (.int (e0_0 p3)), .val (.int (1 : Int32)), .val (.int p2), .unset, .unset]) rfl (XS.aload X62.here hx rfl (hb hby at_124) rfl rfl k)))))) ?_
    show OGl _ _ _ _ T62 (mkF m 126 #[.val (.int p0), .val (.int p1), .val (.int p2), .val (.int p3), .val (.ref b1), .val (.int (e0_0 p3)), .val (.int (1 : Int32)), .val (.int p2), .unset, .unset] [(.ref b1)])
    obtain ⟨cq67, kq67, q67a, q67b, q67c⟩ := isOf hZ e62 F61
    obtain ⟨_, _, ⟨T67, L67, kk67, n67⟩, -, X67, ⟨Lc67, hQ67, l67, y67, z67⟩, st67⟩ := X62.virtualBack hx (y := (⟨"com/example/gramsmith/gramsmith/parse/Ints", "removeLast", "()I"⟩ : MethodName)) (z := (⟨"com/example/gramsmith/gramsmith/parse/Ints", "removeLast", "()I"⟩ : MethodName)) hown (mvT hZ (hw _ (List.mem_of_getElem? (i := 19) rfl))) (mvT hZ (hw _ (List.mem_of_getElem? (i := 20) rfl))) (notFace_of_selects (args := #[]) (mvT hZ (hw _ (List.mem_of_getElem? (i := 22) rfl)))) (mvT hZ (hw _ (List.mem_of_getElem? (i := 22) rfl))) (mvT hZ (hw _ (List.mem_of_getElem? (i := 21) rfl))) (by decide) (backOf (W := 0) (rm4a l Z a0 hw [] b1 b4_0 kb4_1 p0 p1 p2 T51.heap n0 (Nat.le_trans Z0 KK51.1) Fq51_1 Fq51_0 F61 g_b1 F66 (Ne.symm ne_b1_b4_0)) hZ (hw _ (List.mem_of_getElem? (i := 23) rfl)) (hw _ (List.mem_of_getElem? (i := 2) rfl)) (by decide) (by decide)) q67a q67c (g := (mkF m 126 #[.val (.int p0), .val (.int p1), .val (.int p2), .val (.int p3), .val (.ref b1), .val (.int (e0_0 p3)), .val (.int (1 : Int32)), .val (.int p2), .unset, .unset] [(.ref b1)])) rfl (by rw [hml]; rfl) (Steps.refl _) (argsL := []) (rest := []) (lenOf pd_2 rfl) rfl (by show 2 * 0 + _ ≤ _; exact Nat.le_of_eq rfl) (hb hby at_126) (fun _ _ => ⟨rfl, e62, (by decide : 2 + 0 ≤ _), (by decide : 18 + 0 ≤ _)⟩)
    dsimp only [Pt.U, Pt.locs, Pt.cells, Pt.slots] at X67 l67 y67 z67 st67 hQ67
    subst l67 y67 z67
    obtain ⟨rfl, Nq67, K67, Fq67_0, Fq67_1⟩ := hQ67
    have KK67 : Keep h0 T67.heap [] := KK51.trans K67 (allS (Or.inr sz_b1) all0)
    have N67 := Fr.app N62 Nq67
    refine OGl.go (fun t k => st67.trans k) ?_
    show OGl _ _ _ _ T67 (mkF m 129 #[.val (.int p0), .val (.int p1), .val (.int p2), .val (.int p3), .val (.ref b1), .val (.int (e0_0 p3)), .val (.int (1 : Int32)), .val (.int p2), .unset, .unset] [(.int p1)])
    refine OGl.go (fun t k => XS.istore X67.here hx rfl (hb hby at_129) rfl (l' := #[.val (.int p0), .val (.int p1), .val (.int p2), .val (.int p3), .val (.ref b1), .val (.int (e0_0 p3)), .val (.int (1 : Int32)), .val (.int p1), .unset, .unset]) rfl (XS.iload X67.here hx rfl (hb hby at_131) rfl (XS.ifYes X67.here hx rfl (pc0 := 133) (pc' := 140) rfl (hb hby at_133) rfl ((if0 _ _).trans (teq hc38).1) (by decide) (by decide) (XS.iloadN X67.here hx rfl (hb hby at_140) rfl (XS.istore X67.here hx rfl (hb hby at_141) rfl (l' := #[.val (.int p0), .val (.int p1), .val (.int p2), .val (.int p3), .val (.ref b1), .val (.int (e0_0 p3)), .val (.int (1 : Int32)), .val (.int p1), .val (.int p1), .unset]) rfl (XS.iload X67.here hx rfl (hb hby at_143) rfl (XS.ifYes X67.here hx rfl (pc0 := 145) (pc' := 152) rfl (hb hby at_145) rfl ((if0 _ _).trans (teq hc38).1) (by decide) (by decide) (XS.iconst X67.here hx rfl (hb hby at_152) k)))))))) ?_
    show OGl _ _ _ _ T67 (mkF m 153 #[.val (.int p0), .val (.int p1), .val (.int p2), .val (.int p3), .val (.ref b1), .val (.int (e0_0 p3)), .val (.int (1 : Int32)), .val (.int p1), .val (.int p1), .unset] [(.int (1 : Int32))])
    refine OGl.go (fun t k => XS.istore X67.here hx rfl (hb hby at_153) rfl (l' := #[.val (.int p0), .val (.int p1), .val (.int p2), .val (.int p3), .val (.ref b1), .val (.int (e0_0 p3)), .val (.int (1 : Int32)), .val (.int p1), .val (.int p1), .val (.int (1 : Int32))]) rfl (XS.iload X67.here hx rfl (hb hby at_155) rfl (XS.ifNo X67.here hx rfl (hb hby at_157) rfl ((if0 _ _).trans (feq (by decide : ¬ ((1 : Int32) = (0 : Int32)))).1) (XS.iload X67.here hx rfl (hb hby at_160) rfl (XS.iload X67.here hx rfl (hb hby at_162) rfl (XS.icmpNo X67.here hx rfl (hb hby at_164) rfl (teq (rfl : p1 = p1)).2 (XS.aload X67.here hx rfl (hb hby at_167) rfl rfl k))))))) ?_
    show OGl _ _ _ _ T67 (mkF m 169 #[.val (.int p0), .val (.int p1), .val (.int p2), .val (.int p3), .val (.ref b1), .val (.int (e0_0 p3)), .val (.int (1 : Int32)), .val (.int p1), .val (.int p1), .val (.int (1 : Int32))] [(.ref b1)])
    have F76 := (F61.keep K67)
    obtain ⟨cq74, kq74, q74a, q74b, q74c⟩ := isOf hZ rfl F76
    obtain ⟨_, _, ⟨T74, L74, kk74, n74⟩, -, X74, ⟨Lc74, hQ74, l74, y74, z74⟩, st74⟩ := X67.virtualBack hx (y := (⟨"com/example/gramsmith/gramsmith/parse/Ints", "size", "()I"⟩ : MethodName)) (z := (⟨"com/example/gramsmith/gramsmith/parse/Ints", "size", "()I"⟩ : MethodName)) hown (mvT hZ (hw _ (List.mem_of_getElem? (i := 24) rfl))) (mvT hZ (hw _ (List.mem_of_getElem? (i := 25) rfl))) (notFace_of_selects (args := #[]) (mvT hZ (hw _ (List.mem_of_getElem? (i := 27) rfl)))) (mvT hZ (hw _ (List.mem_of_getElem? (i := 27) rfl))) (mvT hZ (hw _ (List.mem_of_getElem? (i := 26) rfl))) (by decide) (backOf (W := 0) (rm5a l Z a0 hw [] b1 T67.heap n0 (Nat.le_trans Z0 KK67.1) Fq67_0) hZ (hw _ (List.mem_of_getElem? (i := 28) rfl)) (hw _ (List.mem_of_getElem? (i := 2) rfl)) (by decide) (by decide)) q74a q74c (g := (mkF m 169 #[.val (.int p0), .val (.int p1), .val (.int p2), .val (.int p3), .val (.ref b1), .val (.int (e0_0 p3)), .val (.int (1 : Int32)), .val (.int p1), .val (.int p1), .val (.int (1 : Int32))] [(.ref b1)])) rfl (by rw [hml]; rfl) (Steps.refl _) (argsL := []) (rest := []) (lenOf pd_2 rfl) rfl (by show 2 * 0 + _ ≤ _; exact Nat.le_of_eq rfl) (hb hby at_169) (fun _ _ => ⟨rfl, rfl, (by decide : 2 + 0 ≤ _), (by decide : 18 + 0 ≤ _)⟩)
    dsimp only [Pt.U, Pt.locs, Pt.cells, Pt.slots] at X74 l74 y74 z74 st74 hQ74
    subst l74 y74 z74
    obtain ⟨rfl, Nq74, e74⟩ := hQ74
    have N74 := Fr.app N67 Nq74
    refine OGl.go (fun t k => st74.trans k) ?_
    show OGl _ _ _ _ T74 (mkF m 172 #[.val (.int p0), .val (.int p1), .val (.int p2), .val (.int p3), .val (.ref b1), .val (.int (e0_0 p3)), .val (.int (1 : Int32)), .val (.int p1), .val (.int p1), .val (.int (1 : Int32))] [(.int (1 : Int32))])
    refine OGl.go (fun t k => XS.iload X74.here hx rfl (hb hby at_172) rfl (XS.icmpNo X74.here hx rfl (hb hby at_174) rfl (teq (by decide : (1 : Int32) = (1 : Int32))).2 (XS.iconst X74.here hx rfl (hb hby at_177) (XS.goto X74.here hx rfl (pc0 := 178) (pc' := 182) rfl (hb hby at_178) (by decide) (by decide) k)))) ?_
    show OGl _ _ _ _ T74 (mkF m 182 #[.val (.int p0), .val (.int p1), .val (.int p2), .val (.int p3), .val (.ref b1), .val (.int (e0_0 p3)), .val (.int (1 : Int32)), .val (.int p1), .val (.int p1), .val (.int (1 : Int32))] [(.int (1 : Int32))])
    obtain ⟨fs, hr, hrun, hended, hW, hsame⟩ := X74.leave (v := some (.int (1 : Int32))) (fun h => by rw [Bd.returns] at h; cases h)
    refine ⟨_, _, retN X74 hx (t := .boolean) Bd.returns (by simp) (hb hby at_182) hr, hrun, hended, _, _, rfl, ?_, ⟨_, rfl⟩, hW, hsame.mono (by decide) (by decide)⟩
    have hv102 : (t0_0 p0 p1 p2 p3) = (1 : Int32) := by unfold t0_0; rfl
    show Q0 Z p0 p1 p2 p3 h0 n0 _ T74.heap _
    rw [e74]
    exact ⟨(by rw [hv102]), N74⟩
  · refine OGl.go (fun t k => XS.ifNo X24.here hx rfl (hb hby at_36) rfl ((if0 _ _).trans (feq hc38).1) (XS.aload X24.here hx rfl (hb hby at_39) rfl rfl k)) ?_
    show OGl _ _ _ _ T24 (mkF m 41 #[.val (.int p0), .val (.int p1), .val (.int p2), .val (.int p3), .val (.ref b1), .val (.int (e0_0 p3)), .unset, .unset, .unset, .unset] [(.ref b1)])
    have F84 := (F35.keep K24)
    obtain ⟨cq77, kq77, q77a, q77b, q77c⟩ := isOf hZ rfl F84
    obtain ⟨_, _, ⟨T77, L77, kk77, n77⟩, -, X77, ⟨Lc77, hQ77, l77, y77, z77⟩, st77⟩ := X24.virtualBack hx (y := (⟨"com/example/gramsmith/gramsmith/parse/Ints", "removeLast", "()I"⟩ : MethodName)) (z := (⟨"com/example/gramsmith/gramsmith/parse/Ints", "removeLast", "()I"⟩ : MethodName)) hown (mvT hZ (hw _ (List.mem_of_getElem? (i := 19) rfl))) (mvT hZ (hw _ (List.mem_of_getElem? (i := 20) rfl))) (notFace_of_selects (args := #[]) (mvT hZ (hw _ (List.mem_of_getElem? (i := 22) rfl)))) (mvT hZ (hw _ (List.mem_of_getElem? (i := 22) rfl))) (mvT hZ (hw _ (List.mem_of_getElem? (i := 21) rfl))) (by decide) (backOf (W := 0) (rm4b l Z a0 hw [] b1 b4_0 kb4_1 p0 p1 T24.heap n0 (Nat.le_trans Z0 KK24.1) Fq24_1 Fq24_0 F84 g_b1 Fq24_2 (Ne.symm ne_b1_b4_0)) hZ (hw _ (List.mem_of_getElem? (i := 23) rfl)) (hw _ (List.mem_of_getElem? (i := 2) rfl)) (by decide) (by decide)) q77a q77c (g := (mkF m 41 #[.val (.int p0), .val (.int p1), .val (.int p2), .val (.int p3), .val (.ref b1), .val (.int (e0_0 p3)), .unset, .unset, .unset, .unset] [(.ref b1)])) rfl (by rw [hml]; rfl) (Steps.refl _) (argsL := []) (rest := []) (lenOf pd_2 rfl) rfl (by show 2 * 0 + _ ≤ _; exact Nat.le_of_eq rfl) (hb hby at_41) (fun _ _ => ⟨rfl, rfl, (by decide : 2 + 0 ≤ _), (by decide : 18 + 0 ≤ _)⟩)
    dsimp only [Pt.U, Pt.locs, Pt.cells, Pt.slots] at X77 l77 y77 z77 st77 hQ77
    subst l77 y77 z77
    obtain ⟨rfl, Nq77, K77, Fq77_0, Fq77_1⟩ := hQ77
    have KK77 : Keep h0 T77.heap [] := KK24.trans K77 (allS (Or.inr sz_b1) all0)
    have N77 := Fr.app N24 Nq77
    refine OGl.go (fun t k => st77.trans k) ?_
    show OGl _ _ _ _ T77 (mkF m 44 #[.val (.int p0), .val (.int p1), .val (.int p2), .val (.int p3), .val (.ref b1), .val (.int (e0_0 p3)), .unset, .unset, .unset, .unset] [(.int p1)])
    refine OGl.go (fun t k => XS.istore X77.here hx rfl (hb hby at_44) rfl (l' := #[.val (.int p0), .val (.int p1), .val (.int p2), .val (.int p3), .val (.ref b1), .val (.int (e0_0 p3)), .unset, .val (.int p1), .unset, .unset]) rfl (XS.iload X77.here hx rfl (hb hby at_46) rfl (XS.iloadN X77.here hx rfl (hb hby at_48) rfl (XS.icmpNo X77.here hx rfl (hb hby at_49) rfl (teq (rfl : p1 = p1)).2 (XS.aload X77.here hx rfl (hb hby at_52) rfl rfl k))))) ?_
    show OGl _ _ _ _ T77 (mkF m 54 #[.val (.int p0), .val (.int p1), .val (.int p2), .val (.int p3), .val (.ref b1), .val (.int (e0_0 p3)), .unset, .val (.int p1), .unset, .unset] [(.ref b1)])
    have F86 := (F84.keep K77)
    obtain ⟨cq85, kq85, q85a, q85b, q85c⟩ := isOf hZ rfl F86
    obtain ⟨_, _, ⟨T85, L85, kk85, n85⟩, -, X85, ⟨Lc85, hQ85, l85, y85, z85⟩, st85⟩ := X77.virtualBack hx (y := (⟨"com/example/gramsmith/gramsmith/parse/Ints", "size", "()I"⟩ : MethodName)) (z := (⟨"com/example/gramsmith/gramsmith/parse/Ints", "size", "()I"⟩ : MethodName)) hown (mvT hZ (hw _ (List.mem_of_getElem? (i := 24) rfl))) (mvT hZ (hw _ (List.mem_of_getElem? (i := 25) rfl))) (notFace_of_selects (args := #[]) (mvT hZ (hw _ (List.mem_of_getElem? (i := 27) rfl)))) (mvT hZ (hw _ (List.mem_of_getElem? (i := 27) rfl))) (mvT hZ (hw _ (List.mem_of_getElem? (i := 26) rfl))) (by decide) (backOf (W := 0) (rm5a l Z a0 hw [] b1 T77.heap n0 (Nat.le_trans Z0 KK77.1) Fq77_0) hZ (hw _ (List.mem_of_getElem? (i := 28) rfl)) (hw _ (List.mem_of_getElem? (i := 2) rfl)) (by decide) (by decide)) q85a q85c (g := (mkF m 54 #[.val (.int p0), .val (.int p1), .val (.int p2), .val (.int p3), .val (.ref b1), .val (.int (e0_0 p3)), .unset, .val (.int p1), .unset, .unset] [(.ref b1)])) rfl (by rw [hml]; rfl) (Steps.refl _) (argsL := []) (rest := []) (lenOf pd_2 rfl) rfl (by show 2 * 0 + _ ≤ _; exact Nat.le_of_eq rfl) (hb hby at_54) (fun _ _ => ⟨rfl, rfl, (by decide : 2 + 0 ≤ _), (by decide : 18 + 0 ≤ _)⟩)
    dsimp only [Pt.U, Pt.locs, Pt.cells, Pt.slots] at X85 l85 y85 z85 st85 hQ85
    subst l85 y85 z85
    obtain ⟨rfl, Nq85, e85⟩ := hQ85
    have N85 := Fr.app N77 Nq85
    refine OGl.go (fun t k => st85.trans k) ?_
    show OGl _ _ _ _ T85 (mkF m 57 #[.val (.int p0), .val (.int p1), .val (.int p2), .val (.int p3), .val (.ref b1), .val (.int (e0_0 p3)), .unset, .val (.int p1), .unset, .unset] [(.int (1 : Int32))])
    refine OGl.go (fun t k => XS.iconst X85.here hx rfl (hb hby at_57) (XS.icmpNo X85.here hx rfl (hb hby at_58) rfl (teq (by decide : (1 : Int32) = (1 : Int32))).2 (XS.aload X85.here hx rfl (hb hby at_61) rfl rfl k))) ?_
    show OGl _ _ _ _ T85 (mkF m 63 #[.val (.int p0), .val (.int p1), .val (.int p2), .val (.int p3), .val (.ref b1), .val (.int (e0_0 p3)), .unset, .val (.int p1), .unset, .unset] [(.ref b1)])
    have F91 := (Fq24_2.keep K77 (ninS (Ne.symm ne_b1_b4_0) nin0))
    obtain ⟨cq87, kq87, q87a, q87b, q87c⟩ := isOf hZ e85 F86
    obtain ⟨_, _, ⟨T87, L87, kk87, n87⟩, -, X87, ⟨Lc87, hQ87, l87, y87, z87⟩, st87⟩ := X85.virtualBack hx (y := (⟨"com/example/gramsmith/gramsmith/parse/Ints", "last", "()I"⟩ : MethodName)) (z := (⟨"com/example/gramsmith/gramsmith/parse/Ints", "last", "()I"⟩ : MethodName)) hown (mvT hZ (hw _ (List.mem_of_getElem? (i := 29) rfl))) (mvT hZ (hw _ (List.mem_of_getElem? (i := 30) rfl))) (notFace_of_selects (args := #[]) (mvT hZ (hw _ (List.mem_of_getElem? (i := 32) rfl)))) (mvT hZ (hw _ (List.mem_of_getElem? (i := 32) rfl))) (mvT hZ (hw _ (List.mem_of_getElem? (i := 31) rfl))) (by decide) (backOf (W := 0) (rm6a l Z a0 hw [] b1 b4_0 kb4_1 p0 p1 T77.heap n0 (Nat.le_trans Z0 KK77.1) Fq77_1 Fq77_0 F91) hZ (hw _ (List.mem_of_getElem? (i := 33) rfl)) (hw _ (List.mem_of_getElem? (i := 2) rfl)) (by decide) (by decide)) q87a q87c (g := (mkF m 63 #[.val (.int p0), .val (.int p1), .val (.int p2), .val (.int p3), .val (.ref b1), .val (.int (e0_0 p3)), .unset, .val (.int p1), .unset, .unset] [(.ref b1)])) rfl (by rw [hml]; rfl) (Steps.refl _) (argsL := []) (rest := []) (lenOf pd_2 rfl) rfl (by show 2 * 0 + _ ≤ _; exact Nat.le_of_eq rfl) (hb hby at_63) (fun _ _ => ⟨rfl, e85, (by decide : 2 + 0 ≤ _), (by decide : 18 + 0 ≤ _)⟩)
    dsimp only [Pt.U, Pt.locs, Pt.cells, Pt.slots] at X87 l87 y87 z87 st87 hQ87
    subst l87 y87 z87
    obtain ⟨rfl, Nq87, e87⟩ := hQ87
    have N87 := Fr.app N85 Nq87
    refine OGl.go (fun t k => st87.trans k) ?_
    show OGl _ _ _ _ T87 (mkF m 66 #[.val (.int p0), .val (.int p1), .val (.int p2), .val (.int p3), .val (.ref b1), .val (.int (e0_0 p3)), .unset, .val (.int p1), .unset, .unset] [(.int p0)])
    refine OGl.go (fun t k => XS.iloadN X87.here hx rfl (hb hby at_66) rfl (XS.icmpNo X87.here hx rfl (hb hby at_67) rfl (teq (rfl : p0 = p0)).2 (XS.iconst X87.here hx rfl (hb hby at_70) (XS.goto X87.here hx rfl (pc0 := 71) (pc' := 75) rfl (hb hby at_71) (by decide) (by decide) (XS.istore X87.here hx rfl (hb hby at_75) rfl (l' := #[.val (.int p0), .val (.int p1), .val (.int p2), .val (.int p3), .val (.ref b1), .val (.int (e0_0 p3)), .val (.int (1 : Int32)), .val (.int p1), .unset, .unset]) rfl (XS.goto X87.here hx rfl (pc0 := 77) (pc' := 124) rfl (hb hby at_77) (by decide) (by decide) (XS.aload X87.here hx rfl (hb hby at_124) rfl rfl k))))))) ?_
    show OGl _ _ _ _ T87 (mkF m 126 #[.val (.int p0), .val (.int p1), .val (.int p2), .val (.int p3), .val (.ref b1), .val (.int (e0_0 p3)), .val (.int (1 : Int32)), .val (.int p1), .unset, .unset] [(.ref b1)])
    obtain ⟨cq92, kq92, q92a, q92b, q92c⟩ := isOf hZ e87 F86
    obtain ⟨_, _, ⟨T92, L92, kk92, n92⟩, -, X92, ⟨Lc92, hQ92, l92, y92, z92⟩, st92⟩ := X87.virtualBack hx (y := (⟨"com/example/gramsmith/gramsmith/parse/Ints", "removeLast", "()I"⟩ : MethodName)) (z := (⟨"com/example/gramsmith/gramsmith/parse/Ints", "removeLast", "()I"⟩ : MethodName)) hown (mvT hZ (hw _ (List.mem_of_getElem? (i := 19) rfl))) (mvT hZ (hw _ (List.mem_of_getElem? (i := 20) rfl))) (notFace_of_selects (args := #[]) (mvT hZ (hw _ (List.mem_of_getElem? (i := 22) rfl)))) (mvT hZ (hw _ (List.mem_of_getElem? (i := 22) rfl))) (mvT hZ (hw _ (List.mem_of_getElem? (i := 21) rfl))) (by decide) (backOf (W := 0) (rm4c l Z a0 hw [] b1 b4_0 kb4_1 p0 p1 T77.heap n0 (Nat.le_trans Z0 KK77.1) Fq77_1 Fq77_0 F86 g_b1 F91 (Ne.symm ne_b1_b4_0)) hZ (hw _ (List.mem_of_getElem? (i := 23) rfl)) (hw _ (List.mem_of_getElem? (i := 2) rfl)) (by decide) (by decide)) q92a q92c (g := (mkF m 126 #[.val (.int p0), .val (.int p1), .val (.int p2), .val (.int p3), .val (.ref b1), .val (.int (e0_0 p3)), .val (.int (1 : Int32)), .val (.int p1), .unset, .unset] [(.ref b1)])) rfl (by rw [hml]; rfl) (Steps.refl _) (argsL := []) (rest := []) (lenOf pd_2 rfl) rfl (by show 2 * 0 + _ ≤ _; exact Nat.le_of_eq rfl) (hb hby at_126) (fun _ _ => ⟨rfl, e87, (by decide : 2 + 0 ≤ _), (by decide : 18 + 0 ≤ _)⟩)
    dsimp only [Pt.U, Pt.locs, Pt.cells, Pt.slots] at X92 l92 y92 z92 st92 hQ92
    subst l92 y92 z92
    obtain ⟨rfl, Nq92, K92, Fq92_0, Fq92_1⟩ := hQ92
    have KK92 : Keep h0 T92.heap [] := KK77.trans K92 (allS (Or.inr sz_b1) all0)
    have N92 := Fr.app N87 Nq92
    refine OGl.go (fun t k => st92.trans k) ?_
    show OGl _ _ _ _ T92 (mkF m 129 #[.val (.int p0), .val (.int p1), .val (.int p2), .val (.int p3), .val (.ref b1), .val (.int (e0_0 p3)), .val (.int (1 : Int32)), .val (.int p1), .unset, .unset] [(.int p0)])
    refine OGl.go (fun t k => XS.istore X92.here hx rfl (hb hby at_129) rfl (l' := #[.val (.int p0), .val (.int p1), .val (.int p2), .val (.int p3), .val (.ref b1), .val (.int (e0_0 p3)), .val (.int (1 : Int32)), .val (.int p0), .unset, .unset]) rfl (XS.iload X92.here hx rfl (hb hby at_131) rfl (XS.ifNo X92.here hx rfl (hb hby at_133) rfl ((if0 _ _).trans (feq hc38).1) (XS.iloadN X92.here hx rfl (hb hby at_136) rfl (XS.goto X92.here hx rfl (pc0 := 137) (pc' := 141) rfl (hb hby at_137) (by decide) (by decide) (XS.istore X92.here hx rfl (hb hby at_141) rfl (l' := #[.val (.int p0), .val (.int p1), .val (.int p2), .val (.int p3), .val (.ref b1), .val (.int (e0_0 p3)), .val (.int (1 : Int32)), .val (.int p0), .val (.int p0), .unset]) rfl (XS.iload X92.here hx rfl (hb hby at_143) rfl (XS.ifNo X92.here hx rfl (hb hby at_145) rfl ((if0 _ _).trans (feq hc38).1) k)))))))) ?_
    show OGl _ _ _ _ T92 (mkF m 148 #[.val (.int p0), .val (.int p1), .val (.int p2), .val (.int p3), .val (.ref b1), .val (.int (e0_0 p3)), .val (.int (1 : Int32)), .val (.int p0), .val (.int p0), .unset] [])
    refine OGl.go (fun t k => XS.iconst X92.here hx rfl (hb hby at_148) (XS.goto X92.here hx rfl (pc0 := 149) (pc' := 153) rfl (hb hby at_149) (by decide) (by decide) (XS.istore X92.here hx rfl (hb hby at_153) rfl (l' := #[.val (.int p0), .val (.int p1), .val (.int p2), .val (.int p3), .val (.ref b1), .val (.int (e0_0 p3)), .val (.int (1 : Int32)), .val (.int p0), .val (.int p0), .val (.int (0 : Int32))]) rfl (XS.iload X92.here hx rfl (hb hby at_155) rfl (XS.ifNo X92.here hx rfl (hb hby at_157) rfl ((if0 _ _).trans (feq (by decide : ¬ ((1 : Int32) = (0 : Int32)))).1) (XS.iload X92.here hx rfl (hb hby at_160) rfl (XS.iload X92.here hx rfl (hb hby at_162) rfl (XS.icmpNo X92.here hx rfl (hb hby at_164) rfl (teq (rfl : p0 = p0)).2 k)))))))) ?_
    show OGl _ _ _ _ T92 (mkF m 167 #[.val (.int p0), .val (.int p1), .val (.int p2), .val (.int p3), .val (.ref b1), .val (.int (e0_0 p3)), .val (.int (1 : Int32)), .val (.int p0), .val (.int p0), .val (.int (0 : Int32))] [])
    refine OGl.go (fun t k => XS.aload X92.here hx rfl (hb hby at_167) rfl rfl k) ?_
    show OGl _ _ _ _ T92 (mkF m 169 #[.val (.int p0), .val (.int p1), .val (.int p2), .val (.int p3), .val (.ref b1), .val (.int (e0_0 p3)), .val (.int (1 : Int32)), .val (.int p0), .val (.int p0), .val (.int (0 : Int32))] [(.ref b1)])
    have F101 := (F86.keep K92)
    obtain ⟨cq99, kq99, q99a, q99b, q99c⟩ := isOf hZ rfl F101
    obtain ⟨_, _, ⟨T99, L99, kk99, n99⟩, -, X99, ⟨Lc99, hQ99, l99, y99, z99⟩, st99⟩ := X92.virtualBack hx (y := (⟨"com/example/gramsmith/gramsmith/parse/Ints", "size", "()I"⟩ : MethodName)) (z := (⟨"com/example/gramsmith/gramsmith/parse/Ints", "size", "()I"⟩ : MethodName)) hown (mvT hZ (hw _ (List.mem_of_getElem? (i := 24) rfl))) (mvT hZ (hw _ (List.mem_of_getElem? (i := 25) rfl))) (notFace_of_selects (args := #[]) (mvT hZ (hw _ (List.mem_of_getElem? (i := 27) rfl)))) (mvT hZ (hw _ (List.mem_of_getElem? (i := 27) rfl))) (mvT hZ (hw _ (List.mem_of_getElem? (i := 26) rfl))) (by decide) (backOf (W := 0) (rm5b l Z a0 hw [] b1 T92.heap n0 (Nat.le_trans Z0 KK92.1) Fq92_0) hZ (hw _ (List.mem_of_getElem? (i := 28) rfl)) (hw _ (List.mem_of_getElem? (i := 2) rfl)) (by decide) (by decide)) q99a q99c (g := (mkF m 169 #[.val (.int p0), .val (.int p1), .val (.int p2), .val (.int p3), .val (.ref b1), .val (.int (e0_0 p3)), .val (.int (1 : Int32)), .val (.int p0), .val (.int p0), .val (.int (0 : Int32))] [(.ref b1)])) rfl (by rw [hml]; rfl) (Steps.refl _) (argsL := []) (rest := []) (lenOf pd_2 rfl) rfl (by show 2 * 0 + _ ≤ _; exact Nat.le_of_eq rfl) (hb hby at_169) (fun _ _ => ⟨rfl, rfl, (by decide : 2 + 0 ≤ _), (by decide : 18 + 0 ≤ _)⟩)
    dsimp only [Pt.U, Pt.locs, Pt.cells, Pt.slots] at X99 l99 y99 z99 st99 hQ99
    subst l99 y99 z99
    obtain ⟨rfl, Nq99, e99⟩ := hQ99
    have N99 := Fr.app N92 Nq99
    refine OGl.go (fun t k => st99.trans k) ?_
    show OGl _ _ _ _ T99 (mkF m 172 #[.val (.int p0), .val (.int p1), .val (.int p2), .val (.int p3), .val (.ref b1), .val (.int (e0_0 p3)), .val (.int (1 : Int32)), .val (.int p0), .val (.int p0), .val (.int (0 : Int32))] [(.int (0 : Int32))])
    refine OGl.go (fun t k => XS.iload X99.here hx rfl (hb hby at_172) rfl (XS.icmpNo X99.here hx rfl (hb hby at_174) rfl (teq (by decide : (0 : Int32) = (0 : Int32))).2 (XS.iconst X99.here hx rfl (hb hby at_177) (XS.goto X99.here hx rfl (pc0 := 178) (pc' := 182) rfl (hb hby at_178) (by decide) (by decide) k)))) ?_
    show OGl _ _ _ _ T99 (mkF m 182 #[.val (.int p0), .val (.int p1), .val (.int p2), .val (.int p3), .val (.ref b1), .val (.int (e0_0 p3)), .val (.int (1 : Int32)), .val (.int p0), .val (.int p0), .val (.int (0 : Int32))] [(.int (1 : Int32))])
    obtain ⟨fs, hr, hrun, hended, hW, hsame⟩ := X99.leave (v := some (.int (1 : Int32))) (fun h => by rw [Bd.returns] at h; cases h)
    refine ⟨_, _, retN X99 hx (t := .boolean) Bd.returns (by simp) (hb hby at_182) hr, hrun, hended, _, _, rfl, ?_, ⟨_, rfl⟩, hW, hsame.mono (by decide) (by decide)⟩
    have hv103 : (t0_0 p0 p1 p2 p3) = (1 : Int32) := by unfold t0_0; rfl
    show Q0 Z p0 p1 p2 p3 h0 n0 _ T99.heap _
    rw [e99]
    exact ⟨(by rw [hv103]), N99⟩
theorem own_law (a b c d : Int32) : t0_0 a b c d = 1 := rfl
set_option maxRecDepth 65536 in
set_option maxHeartbeats 40000000 in
theorem comes_1 {Post : Tables → Env → Array Value → State → Outcome → State → Prop} (hpost : ∀ tb e args s v u, (limb_1_1.after args s (.returned v) u = true ∧ limb_1_2.after args s (.returned v) u = true ∧ True) → FrameEnd s (.returned v) u (Jvm.fieldLocs frame_1_writes args s ++ Jvm.arrayLocs frame_1_arrays args s ++ Jvm.staticLocs frame_1_statics s) 16 128 → Post tb e args s (.returned v) u) :
    ArmFor flags0 classFile x code maxLocals ret World_1 tables_1 room_1 Calls_1 rest_1 Pre_1 Post := by
  intro l hfl _ _ p e ha hc hk s m args below hf hA hF happ hP
  obtain ⟨hcalls, hrest, hpre⟩ := hP
  obtain ⟨-, -, -, hnamed, -, -, -, hat⟩ := (Spec.applies_iff hf).mp happ
  obtain ⟨hg, hn⟩ := and_e (Cond.before_iff.mp (show (Jvm.Cond.and given_1 narrow_1).before args s = true from hpre))
  obtain ⟨hz, hy0⟩ := and_e hg
  obtain ⟨ha0, hy1⟩ := and_e hy0
  obtain ⟨ha1, hy2⟩ := and_e hy1
  obtain ⟨ha2, hy3⟩ := and_e hy2
  obtain ⟨w0, w1, w2, w3, rfl⟩ : ∃ w0 w1 w2 w3 : Value, args = #[w0, w1, w2, w3] := by
    have hs : args.size = 4 := by simpa [Cond.value, given_1] using hz
    obtain ⟨L⟩ := args
    match L, hs with
    | [w0, w1, w2, w3], _ => exact ⟨w0, w1, w2, w3, rfl⟩
  have hw := fun d (hd : d ∈ tables_1) => atoms_spec (ws := Jvm.Cond.code x code maxLocals ret :: tables_1) hat d (List.mem_cons_of_mem _ hd)
  obtain ⟨i0, ev0⟩ := is_v ha0
  obtain rfl : w0 = (.int i0) := Option.some.inj ev0
  obtain ⟨i1, ev1⟩ := is_v ha1
  obtain rfl : w1 = (.int i1) := Option.some.inj ev1
  obtain ⟨i2, ev2⟩ := is_v ha2
  obtain rfl : w2 = (.int i2) := Option.some.inj ev2
  obtain ⟨i3, ev3⟩ := is_v hy3
  obtain rfl : w3 = (.int i3) := Option.some.inj ev3
  obtain ⟨n, o, h1, h2, h3, _, L, rfl, ⟨hv, N⟩, hq⟩ := rm0 l s _ hw tables_1 i0 i1 i2 i3  s.heap s.heap.size (Nat.le_refl _)  p e ha hc hk s m _ below hf ((Spec.applies_iff_loose hf).mp happ).1 ⟨rfl, State.Warmed39.refl s, rfl⟩ trivial
  rw [own_law] at hv
  subst hv
  refine ⟨n, _, h1, h2, h3, hpost _ _ _ _ _ _ ⟨Cond.after_iff.mpr rfl, Cond.after_iff.mpr (eq_i res_at (Term.int_eval (1)) rfl), trivial⟩ ⟨hq.1, hq.2.1, (hq.2.2.sift fun y hy => Or.inr (N y hy)).mono (by decide) (by decide)⟩⟩
theorem main_1_1 : Claimed_1_1 := comes_1 fun _ _ _ _ _ _ h hF => ⟨h.1, hF⟩
theorem main_1_2 : Claimed_1_2 := comes_1 fun _ _ _ _ _ _ h hF => ⟨h.2.1, hF⟩
end Jvm.Pilot.@@N@@
namespace Jvm.Pilot.@@N@@
open Jvm Jvm.ClassFile Sem Op Lib Jvm.Free Jvm.Stand Jvm.Pilot.@@N@@.Jvm.D
/-! MADE BY PROGRAM (witnessworld.py) out of the Statement's table words and the real class files: 9 classes; the members and pool entries that the words name. The judged class is class 1, her method 1. -/
namespace start1
open Jvm.ClassFile
def u (s : String) : CpInfo := .utf8 (stringToUtf16 s)
/-- a pool by its gaps: so many unusable entries, then the entry; so many at the end -/
def gap : Nat → List CpInfo → List CpInfo
  | 0, r => r
  | n + 1, r => .unusable :: gap n r
def poolList (es : List (Nat × CpInfo)) (last : Nat) : List CpInfo := es.foldr (fun e r => gap e.1 (e.2 :: r)) (gap last [])
def pool (es : List (Nat × CpInfo)) (last : Nat) : Array CpInfo := ⟨poolList es last⟩
def fileOf (pool : Array CpInfo) (this : Nat) (attrs : Array Attribute := #[]) (ms : Array MethodInfo := #[]) (fl : Nat := 33) (sup : Nat := 0) (ifs : Array Nat := #[]) (fds : Array FieldInfo := #[]) : ClassFile where
  minorVersion := 0
  majorVersion := 65
  constantPool := pool
  accessFlags := fl
  thisClass := this
  superClass := sup
  interfaces := ifs
  fields := fds
  methods := ms
  attributes := attrs
def plain (name : String) (sup : Option ClassId) : Class where
  name := name
  kind := .ordinary
  loader := none
  accessFlags := 33
  super := sup
  interfaces := #[]
  cf := none
  fields := #[]
  methods := #[]
  instanceTypes := #[]
  staticTypes := #[]
  resolved := #[]
  callSites := []
  init := .initialized
  statics := none
  mirror := none

def pool0 : Array CpInfo := pool [(5, u "<init>"), (0, u "()V"), (1, .class_ 10), (1, u "java/lang/Object")] 113

def k0c0 : Code := { maxStack := 0, maxLocals := 1, code := object_method_1_code, exceptionTable := #[], attributes := #[] }
def k0m0 : Method := { name := "<init>", desc := "()V", sig := { parameters := [], returnType := none }, accessFlags := 1, code := some k0c0 }
/-- java/lang/Object -/
def k0 : Class := { plain "java/lang/Object" none with
  accessFlags := 33
  interfaces := #[]
  cf := some (fileOf pool0 8 #[] #[{ accessFlags := 1, nameIndex := 5, descriptorIndex := 6, attributes := #[] }] 33 0 #[] #[])
  fields := #[]
  methods := #[k0m0]
  instanceTypes := #[]
  staticTypes := #[]
  resolved := Array.replicate 124 none
  statics := none }

def pool1 : Array CpInfo := pool [(2, .class_ 4), (0, .nameAndType 5 6), (0, u "java/lang/Object"), (0, u "<init>"), (0, u "()V"), (0, .class_ 8), (0, u "com/example/gramsmith/gramsmith/parse/Ints"), (0, .methodref 7 3), (0, .methodref 7 11), (0, .nameAndType 12 13), (0, u "add"), (0, u "(I)V"), (0, .methodref 7 15), (0, .nameAndType 16 17), (0, u "removeLast"), (0, u "()I"), (0, .methodref 7 19), (0, .nameAndType 20 17), (0, u "size"), (0, .methodref 7 22), (0, .nameAndType 23 17), (0, u "last"), (0, .class_ 25), (0, u "com/example/gramsmith/gramsmith/parse/IntsRemoveLastPinLaw"), (2, u "law"), (0, u "(IIII)Z")] 3

def k1m0 : Method := { name := "<init>", desc := "()V", sig := { parameters := [], returnType := none }, accessFlags := 1, code := none }
def k1c1 : Code := { maxStack := 2, maxLocals := 10, code := code, exceptionTable := #[], attributes := #[] }
def k1m1 : Method := { name := "law", desc := "(IIII)Z", sig := { parameters := [.int, .int, .int, .int], returnType := some .boolean }, accessFlags := 9, code := some k1c1 }
/-- com/example/gramsmith/gramsmith/parse/IntsRemoveLastPinLaw -/
def k1 : Class := { plain "com/example/gramsmith/gramsmith/parse/IntsRemoveLastPinLaw" (some 0) with
  accessFlags := 49
  interfaces := #[]
  cf := some (fileOf pool1 24 #[] #[{ accessFlags := 1, nameIndex := 5, descriptorIndex := 6, attributes := #[] }, { accessFlags := 9, nameIndex := 28, descriptorIndex := 29, attributes := #[] }] 49 2 #[] #[])
  fields := #[]
  methods := #[k1m0, k1m1]
  instanceTypes := #[]
  staticTypes := #[]
  resolved := Array.replicate 33 none
  statics := none }

def pool2 : Array CpInfo := pool [(1, .methodref 2 3), (0, .class_ 4), (0, .nameAndType 5 6), (0, u "java/lang/Object"), (0, u "<init>"), (0, u "()V"), (0, .fieldref 8 9), (0, .class_ 10), (0, .nameAndType 11 12), (0, u "com/example/gramsmith/gramsmith/parse/Ints"), (0, u "values"), (0, u "[I"), (0, .fieldref 8 14), (0, .nameAndType 15 16), (0, u "size"), (0, u "I"), (8, u "add"), (0, u "(I)V"), (5, u "last"), (0, u "()I"), (0, u "removeLast")] 5

def k2c0 : Code := { maxStack := 2, maxLocals := 1, code := prog_73_method_1_code, exceptionTable := #[], attributes := #[] }
def k2m0 : Method := { name := "<init>", desc := "()V", sig := { parameters := [], returnType := none }, accessFlags := 0, code := some k2c0 }
def k2c1 : Code := { maxStack := 5, maxLocals := 2, code := prog_73_method_2_code, exceptionTable := #[], attributes := #[] }
def k2m1 : Method := { name := "add", desc := "(I)V", sig := { parameters := [.int], returnType := none }, accessFlags := 0, code := some k2c1 }
def k2c2 : Code := { maxStack := 3, maxLocals := 1, code := prog_73_method_5_code, exceptionTable := #[], attributes := #[] }
def k2m2 : Method := { name := "last", desc := "()I", sig := { parameters := [], returnType := some .int }, accessFlags := 0, code := some k2c2 }
def k2c3 : Code := { maxStack := 4, maxLocals := 1, code := prog_73_method_6_code, exceptionTable := #[], attributes := #[] }
def k2m3 : Method := { name := "removeLast", desc := "()I", sig := { parameters := [], returnType := some .int }, accessFlags := 0, code := some k2c3 }
def k2c4 : Code := { maxStack := 1, maxLocals := 1, code := prog_73_method_8_code, exceptionTable := #[], attributes := #[] }
def k2m4 : Method := { name := "size", desc := "()I", sig := { parameters := [], returnType := some .int }, accessFlags := 0, code := some k2c4 }
/-- com/example/gramsmith/gramsmith/parse/Ints -/
def k2 : Class := { plain "com/example/gramsmith/gramsmith/parse/Ints" (some 0) with
  accessFlags := 48
  interfaces := #[]
  cf := some (fileOf pool2 8 #[] #[{ accessFlags := 0, nameIndex := 5, descriptorIndex := 6, attributes := #[] }, { accessFlags := 0, nameIndex := 25, descriptorIndex := 26, attributes := #[] }, { accessFlags := 0, nameIndex := 32, descriptorIndex := 33, attributes := #[] }, { accessFlags := 0, nameIndex := 34, descriptorIndex := 33, attributes := #[] }, { accessFlags := 0, nameIndex := 15, descriptorIndex := 33, attributes := #[] }] 48 2 #[] #[{ accessFlags := 2, nameIndex := 11, descriptorIndex := 12, attributes := #[] }, { accessFlags := 2, nameIndex := 15, descriptorIndex := 16, attributes := #[] }])
  fields := #[{ name := "values", type := (.array .int), accessFlags := 2, slot := 0, constantValue := 0 }, { name := "size", type := .int, accessFlags := 2, slot := 1, constantValue := 0 }]
  methods := #[k2m0, k2m1, k2m2, k2m3, k2m4]
  instanceTypes := #[(.array .int), .int]
  staticTypes := #[]
  resolved := Array.replicate 40 none
  statics := none }

def pool3 : Array CpInfo := pool [(1, u "java/lang/Cloneable"), (0, .class_ 1), (0, u "java/lang/Object"), (0, .class_ 3)] 3

/-- java/lang/Cloneable -/
def k3 : Class := { plain "java/lang/Cloneable" (some 0) with
  accessFlags := 1537
  interfaces := #[]
  cf := some (fileOf pool3 2 #[] #[] 1537 4 #[] #[])
  fields := #[]
  methods := #[]
  instanceTypes := #[]
  staticTypes := #[]
  resolved := Array.replicate 8 none
  statics := none }

def pool4 : Array CpInfo := pool [(1, u "java/io/Serializable"), (0, .class_ 1), (0, u "java/lang/Object"), (0, .class_ 3)] 3

/-- java/io/Serializable -/
def k4 : Class := { plain "java/io/Serializable" (some 0) with
  accessFlags := 1537
  interfaces := #[]
  cf := some (fileOf pool4 2 #[] #[] 1537 4 #[] #[])
  fields := #[]
  methods := #[]
  instanceTypes := #[]
  staticTypes := #[]
  resolved := Array.replicate 8 none
  statics := none }

/-- the primitive byte -/
def k5 : Class := { plain "byte" none with kind := .primitive 'B', accessFlags := 0x411 }
/-- [B -/
def k6 : Class := { plain "[B" (some 0) with kind := .array 5 .byte, interfaces := #[3, 4], accessFlags := 1041 }

/-- the primitive int -/
def k7 : Class := { plain "int" none with kind := .primitive 'I', accessFlags := 0x411 }
/-- [I -/
def k8 : Class := { plain "[I" (some 0) with kind := .array 7 .int, interfaces := #[3, 4], accessFlags := 1041 }

def heap : Heap := #[]
def classes : Array Class := #[k0, k1, k2, k3, k4, k5, k6, k7, k8]
def interned : List (Array UInt16 × Addr) := []
def slotsUsed : Nat := 0
def theMethod : MethodId := ⟨1, 1⟩
def args0 : Array Value := #[.int 5, .int 5, .int 5, .int 5]
def aboutOver (below : List Frame) : State where
  vm := { classes := classes, interned := interned.toArray }
  heap := heap
  slotsUsed := slotsUsed
  threads := #[{ frames := .invoking theMethod args0 :: below }]
def below0 : List Frame := [.native { method := ⟨0, 0⟩, args := #[] }]
def about1 : State := aboutOver below0
def p0 : Program := .bare "" "" ""
def e0 : Env := launch0.env 0 0 0
theorem w_frames : about1.frames = Frame.invoking theMethod args0 :: below0 := rfl
set_option maxRecDepth 65536 in
theorem w_args : argsFit about1.vm theMethod args0 = true := by decide +kernel
set_option maxRecDepth 65536 in
theorem w_heap : heapFits about1 = true := by decide +kernel
set_option maxRecDepth 65536 in
theorem w_runnable : about1.curStatus? = some .runnable := by decide +kernel
set_option maxRecDepth 65536 in
theorem w_alone : about1.alone = true := by decide +kernel
set_option maxRecDepth 65536 in
theorem w_named : about1.methodNamed? x = some theMethod := by decide +kernel
set_option maxRecDepth 65536 in
theorem w_hears : about1.hears theMethod below0 = true := by decide +kernel
set_option maxRecDepth 65536 in
theorem w_ripe : about1.ripe theMethod args0 below0 = true := by decide +kernel
theorem w_running : about1.status = .running := rfl
set_option maxRecDepth 65536 in
theorem w_room : about1.hasRoom e0.platform room_1 = true :=
  launch0.hasRoom_least _ room_1 (by decide +kernel) (by decide +kernel) (by decide +kernel) (by decide +kernel) (by decide +kernel) (by decide +kernel)
theorem allAtoms_all (ts : List Jvm.Cond) (a : Array Jvm.Value) (st : Jvm.State) : (allAtoms ts).before a st = ts.all (fun c => c.before a st) := by
  induction ts with
  | nil => rfl
  | cons c t ih =>
    show (Jvm.Cond.and c (allAtoms t)).before a st = _
    rw [Jvm.Cond.before_and, ih, List.all_cons]
def words1 : List Jvm.Cond := Jvm.Cond.code x code maxLocals ret :: tables_1
/-- a 'code' word, met by the world's own term for the bytes: nothing is compared byte by byte -/
theorem code_word {y : MethodName} {bytes : ByteArray} {mx : Nat} {rt : Option FieldType} {a : Array Value} {s : State} {m : MethodId} {meth : Method} {c : Code} (h1 : s.methodNamed? y = some m) (h2 : s.vm.method? m = some meth) (h3 : meth.code = some c) (h4 : c.code = bytes)
    (h5 : (c.maxLocals == mx && c.exceptionTable.isEmpty && decide (c.maxStack ≤ mostOperands) && decide (meth.sig.returnType = rt) && !meth.locks && decide (parseMethodDescriptor y.desc = some meth.sig)) = true) : (Jvm.Cond.code y bytes mx rt).before a s = true := by
  simp only [Bool.and_eq_true, beq_iff_eq, Bool.not_eq_true', decide_eq_true_eq] at h5
  obtain ⟨⟨⟨⟨⟨g1, g2⟩, g3⟩, g4⟩, g5⟩, g6⟩ := h5
  simp [Cond.before, Cond.holds, Cond.value, h1, h2, h3, h4, g1, g2, g3, g4, g5, g6]
def isCode : Jvm.Cond → Bool
  | .code _ _ _ _ => true
  | _ => false
theorem all_split {L : List Jvm.Cond} {P : Jvm.Cond → Bool} (h1 : L.all (fun c => isCode c || P c) = true) (h2 : ∀ c ∈ L.filter isCode, P c = true) : L.all P = true := by
  refine List.all_eq_true.mpr fun c hc => ?_
  have h := List.all_eq_true.mp h1 c hc
  rcases Bool.eq_false_or_eq_true (isCode c) with hi | hi
  · exact h2 c (List.mem_filter.mpr ⟨hc, hi⟩)
  · simpa [hi] using h
set_option maxRecDepth 65536 in
theorem w_c0 : (Jvm.Cond.code x code maxLocals ret).before args0 about1 = true := code_word (m := ⟨1, 1⟩) (meth := k1m1) (c := k1c1) (by decide +kernel) rfl rfl rfl (by decide +kernel)
set_option maxRecDepth 65536 in
theorem w_c1 : (Jvm.Cond.code ({ cls := "com/example/gramsmith/gramsmith/parse/Ints", name := "<init>", desc := "()V" } : Jvm.MethodName) prog_73_method_1_code (1 : Nat) (Option.none : Option Jvm.ClassFile.FieldType)).before args0 about1 = true := code_word (m := ⟨2, 0⟩) (meth := k2m0) (c := k2c0) (by decide +kernel) rfl rfl rfl (by decide +kernel)
set_option maxRecDepth 65536 in
theorem w_c2 : (Jvm.Cond.code ({ cls := "java/lang/Object", name := "<init>", desc := "()V" } : Jvm.MethodName) object_method_1_code (1 : Nat) (Option.none : Option Jvm.ClassFile.FieldType)).before args0 about1 = true := code_word (m := ⟨0, 0⟩) (meth := k0m0) (c := k0c0) (by decide +kernel) rfl rfl rfl (by decide +kernel)
set_option maxRecDepth 65536 in
theorem w_c3 : (Jvm.Cond.code ({ cls := "com/example/gramsmith/gramsmith/parse/Ints", name := "add", desc := "(I)V" } : Jvm.MethodName) prog_73_method_2_code (2 : Nat) (Option.none : Option Jvm.ClassFile.FieldType)).before args0 about1 = true := code_word (m := ⟨2, 1⟩) (meth := k2m1) (c := k2c1) (by decide +kernel) rfl rfl rfl (by decide +kernel)
set_option maxRecDepth 65536 in
theorem w_c4 : (Jvm.Cond.code ({ cls := "com/example/gramsmith/gramsmith/parse/Ints", name := "removeLast", desc := "()I" } : Jvm.MethodName) prog_73_method_6_code (1 : Nat) (Option.some Jvm.ClassFile.FieldType.int)).before args0 about1 = true := code_word (m := ⟨2, 3⟩) (meth := k2m3) (c := k2c3) (by decide +kernel) rfl rfl rfl (by decide +kernel)
set_option maxRecDepth 65536 in
theorem w_c5 : (Jvm.Cond.code ({ cls := "com/example/gramsmith/gramsmith/parse/Ints", name := "size", desc := "()I" } : Jvm.MethodName) prog_73_method_8_code (1 : Nat) (Option.some Jvm.ClassFile.FieldType.int)).before args0 about1 = true := code_word (m := ⟨2, 4⟩) (meth := k2m4) (c := k2c4) (by decide +kernel) rfl rfl rfl (by decide +kernel)
set_option maxRecDepth 65536 in
theorem w_c6 : (Jvm.Cond.code ({ cls := "com/example/gramsmith/gramsmith/parse/Ints", name := "last", desc := "()I" } : Jvm.MethodName) prog_73_method_5_code (1 : Nat) (Option.some Jvm.ClassFile.FieldType.int)).before args0 about1 = true := code_word (m := ⟨2, 2⟩) (meth := k2m2) (c := k2c2) (by decide +kernel) rfl rfl rfl (by decide +kernel)
def codes1 : List Jvm.Cond := [Jvm.Cond.code x code maxLocals ret, Jvm.Cond.code ({ cls := "com/example/gramsmith/gramsmith/parse/Ints", name := "<init>", desc := "()V" } : Jvm.MethodName) prog_73_method_1_code (1 : Nat) (Option.none : Option Jvm.ClassFile.FieldType), Jvm.Cond.code ({ cls := "java/lang/Object", name := "<init>", desc := "()V" } : Jvm.MethodName) object_method_1_code (1 : Nat) (Option.none : Option Jvm.ClassFile.FieldType), Jvm.Cond.code ({ cls := "com/example/gramsmith/gramsmith/parse/Ints", name := "add", desc := "(I)V" } : Jvm.MethodName) prog_73_method_2_code (2 : Nat) (Option.none : Option Jvm.ClassFile.FieldType), Jvm.Cond.code ({ cls := "com/example/gramsmith/gramsmith/parse/Ints", name := "removeLast", desc := "()I" } : Jvm.MethodName) prog_73_method_6_code (1 : Nat) (Option.some Jvm.ClassFile.FieldType.int), Jvm.Cond.code ({ cls := "com/example/gramsmith/gramsmith/parse/Ints", name := "size", desc := "()I" } : Jvm.MethodName) prog_73_method_8_code (1 : Nat) (Option.some Jvm.ClassFile.FieldType.int), Jvm.Cond.code ({ cls := "com/example/gramsmith/gramsmith/parse/Ints", name := "last", desc := "()I" } : Jvm.MethodName) prog_73_method_5_code (1 : Nat) (Option.some Jvm.ClassFile.FieldType.int)]
set_option maxRecDepth 65536 in
theorem codes_eq : words1.filter isCode = codes1 := rfl
theorem w_codes : ∀ c ∈ words1.filter isCode, c.before args0 about1 = true := by
  rw [codes_eq]
  intro c hc
  simp only [codes1, List.mem_cons, List.not_mem_nil, or_false] at hc
  rcases hc with rfl | rfl | rfl | rfl | rfl | rfl | rfl
  · exact w_c0
  · exact w_c1
  · exact w_c2
  · exact w_c3
  · exact w_c4
  · exact w_c5
  · exact w_c6
set_option maxRecDepth 65536 in
theorem w_t1 : (words1.take 24).all (fun c => isCode c || c.before args0 about1) = true := by decide +kernel
set_option maxRecDepth 65536 in
theorem w_t2 : (words1.drop 24).all (fun c => isCode c || c.before args0 about1) = true := by decide +kernel
theorem w_tables : (allAtoms (Jvm.Cond.code x code maxLocals ret :: tables_1)).before args0 about1 = true := by
  rw [allAtoms_all]
  show words1.all (fun c => c.before args0 about1) = true
  refine all_split ?_ w_codes
  rw [← List.take_append_drop 24 words1, List.all_append, w_t1, w_t2]
  rfl
set_option maxRecDepth 65536 in
theorem w_case : (Jvm.Cond.and given_1 narrow_1).before args0 about1 = true := by decide +kernel
theorem w_applies : (headSpec (Jvm.Cond.code x code maxLocals ret :: tables_1) room_1).applies x e0.platform about1 = true :=
  (Spec.applies_iff w_frames).mpr ⟨w_running, w_runnable, w_alone, w_named, w_hears, w_ripe, w_room, w_tables⟩
theorem atStart : AtStart classFile x code maxLocals ret World_1 tables_1 room_1 Calls_1 rest_1 Pre_1 launch0 p0 e0 about1 theMethod args0 below0 :=
  ⟨lists_1, trivial, launch0.admits_env _ _ _, launch0.least_env, fairChoices_fair.cas, fairChoices_fair.clock, w_frames, w_args, w_heap, w_applies, trivial, trivial, w_case⟩
end start1
theorem witness_1 : WitnessClaimed_1 := ⟨start1.p0, start1.e0, start1.about1, start1.theMethod, start1.args0, start1.below0, start1.atStart⟩
end Jvm.Pilot.@@N@@
