import JvmDerived
import JvmDerived.Pilot.@@N@@Statement
import JvmDerived.Pilot.@@N@@Code
set_option linter.unusedVariables false
set_option linter.unusedSimpArgs false
namespace Jvm.RoadKit
open Sem ClassFile Op Lib Jvm.Stand Jvm.Free Jvm.LawKit
section New
variable {p : Program} {l : Launch} {e : Env} {R : Room} {s : State} {m : MethodId} {args : Array Value} {below : List Frame} {meth : Method} {c : Code} {T : State} {locs : List Loc} {cells slots : Nat}
theorem retI (X : Stand p l e R s m args below meth c T locs cells slots) (hx : p.tables.exec = Jvm.exec) {pc : Nat} {Ls : Array Slot} {z : Int32} {rest : List Value} (hret : meth.sig.returnType = some .int) (hd : decode c.code pc = .ok (.ireturn, 1)) {fs : List Frame}
    (hl : ∀ (f : JFrame) (acts : List Action), f.method = m → f.locked = none → f.entered = [] → (doReturn e (T.setTop f) acts (some (.int z))).1 = T.setFrames fs) : Steps p.tables e below (T.setTop (mkF m pc Ls (.int z :: rest))) (T.setFrames fs) := by
  have hm' : T.vm.method? m = some meth := X.method'
  have hn : narrow .int (.int z) = .int z := rfl
  show Steps p.tables e below (T.setTop { method := m, pc := pc, locals := Ls, stack := _ :: rest, locked := none }) _
  jvm_step X.here [X.here.top, hx, hd, hm', hret, hn]
  first | (intro acts; rw [hl _ acts rfl rfl rfl]) | rw [hl _ _ rfl rfl rfl]
  exact Steps.refl _
theorem own_ldc {g : JFrame} {target : State} (X : Stand p l e R s m args below meth c T locs cells slots) (hx : p.tables.exec = Jvm.exec) {own : String} {index : Nat} {v : Int32} (hown : s.vm.findClass own = some m.cls) (w : (Cond.constant own index v).before args s = true) (hg : g.method = m) (hd : decode c.code g.pc = .ok (.ldc index, 2))
    (hr : Steps p.tables e below (T.setTop { g with pc := g.pc + 2, stack := .int v :: g.stack }) target) : Steps p.tables e below (T.setTop g) target := X.ldcInt hx hown w hg hd target hr
theorem own_ldc2 {g : JFrame} {target : State} (X : Stand p l e R s m args below meth c T locs cells slots) (hx : p.tables.exec = Jvm.exec) {own : String} {index : Nat} {v : Int64} (hown : s.vm.findClass own = some m.cls) (w : (Cond.constantLong own index v).before args s = true) (hg : g.method = m) (hd : decode c.code g.pc = .ok (.ldc2_w index, 3))
    (hr : Steps p.tables e below (T.setTop { g with pc := g.pc + 3, stack := .long v :: g.stack }) target) : Steps p.tables e below (T.setTop g) target := X.ldc2Long hx hown w hg hd target hr
theorem own_len {g : JFrame} {target : State} (X : Stand p l e R s m args below meth c T locs cells slots) (hx : p.tables.exec = Jvm.exec) {a : Addr} {cell : Cell} {ty : FieldType} {z : Int32} (hcell : T.heap[a]? = some cell) (harr : s.isArrayOf cell ty) (hz : cell.slots.size = z.toNatClampNeg) (hn : ¬ z < 0) (hg : g.method = m) {rest : List Value} (hs : g.stack = .ref a :: rest) (hd : decode c.code g.pc = .ok (.arraylength, 1))
    (hr : Steps p.tables e below (T.setTop { g with pc := g.pc + 1, stack := .int z :: rest }) target) : Steps p.tables e below (T.setTop g) target := X.arraylength hx hcell harr hg hs hd target (by rw [len_of hz hn]; exact hr)
theorem own_iaload {g : JFrame} {target : State} (X : Stand p l e R s m args below meth c T locs cells slots) (hx : p.tables.exec = Jvm.exec) {a : Addr} {cell : Cell} {j : Int32} {v : Value} (hcell : T.heap[a]? = some cell) (harr : s.isArrayOf cell .int) (hk : cell.vm ≠ .unknown) (hin : ¬ (j < 0 ∨ cell.slots.size ≤ j.toNatClampNeg)) (hv : cell.slots[j.toNatClampNeg]? = some v) (hg : g.method = m) {rest : List Value} (hs : g.stack = .int j :: .ref a :: rest) (hd : decode c.code g.pc = .ok (.iaload, 1))
    (hr : Steps p.tables e below (T.setTop { g with pc := g.pc + 1, stack := v :: rest }) target) : Steps p.tables e below (T.setTop g) target := X.iaload hx hcell harr hk hin hv hg hs hd target hr
theorem own_laload {g : JFrame} {target : State} (X : Stand p l e R s m args below meth c T locs cells slots) (hx : p.tables.exec = Jvm.exec) {a : Addr} {cell : Cell} {j : Int32} {v : Value} (hcell : T.heap[a]? = some cell) (harr : s.isArrayOf cell .long) (hk : cell.vm ≠ .unknown) (hin : ¬ (j < 0 ∨ cell.slots.size ≤ j.toNatClampNeg)) (hv : cell.slots[j.toNatClampNeg]? = some v) (hg : g.method = m) {rest : List Value} (hs : g.stack = .int j :: .ref a :: rest) (hd : decode c.code g.pc = .ok (.laload, 1))
    (hr : Steps p.tables e below (T.setTop { g with pc := g.pc + 1, stack := v :: rest }) target) : Steps p.tables e below (T.setTop g) target := X.laload hx hcell harr hk hin hv hg hs hd target hr
theorem own_baload {g : JFrame} {target : State} (X : Stand p l e R s m args below meth c T locs cells slots) (hx : p.tables.exec = Jvm.exec) {a : Addr} {cell : Cell} {j : Int32} {v : Value} (hcell : T.heap[a]? = some cell) (harr : s.isArrayOf cell .byte) (hk : cell.vm ≠ .unknown) (hin : ¬ (j < 0 ∨ cell.slots.size ≤ j.toNatClampNeg)) (hv : cell.slots[j.toNatClampNeg]? = some v) (hg : g.method = m) {rest : List Value} (hs : g.stack = .int j :: .ref a :: rest) (hd : decode c.code g.pc = .ok (.baload, 1))
    (hr : Steps p.tables e below (T.setTop { g with pc := g.pc + 1, stack := v :: rest }) target) : Steps p.tables e below (T.setTop g) target := X.baloadBytes hx hcell harr hk hin hv hg hs hd target hr
theorem own_lrem {g : JFrame} {target : State} (X : Stand p l e R s m args below meth c T locs cells slots) (hx : p.tables.exec = Jvm.exec) (hg : g.method = m) {x y : Int64} {rest : List Value} (hd : decode c.code g.pc = .ok (.lrem, 1)) (hs : g.stack = .long y :: .long x :: rest) (hy : y ≠ 0)
    (hr : Steps p.tables e below (T.setTop { g with pc := g.pc + 1, stack := .long (x % y) :: rest }) target) : Steps p.tables e below (T.setTop g) target :=
  XS.lrem X.here hx hg hd hs hy (by rw [lrem_mod]; exact hr)
theorem own_tltL {x y : Int64} (h : x < y) : ifCond.holds .lt (lcmpW x y) = true ∧ ifCond.holds .ge (lcmpW x y) = false ∧ ifCond.holds .gt (lcmpW y x) = true ∧ ifCond.holds .le (lcmpW y x) = false := by
  have h1 : lcmpW x y < 0 := by rw [lcW]; exact (lc_lt x y).mpr h
  have h2 : 0 < lcmpW y x := by rw [lcW]; exact (lc_gt y x).mpr h
  exact ⟨(if0 _ _).trans (tlt h1).1, (if0 _ _).trans (tlt h1).2.1, (if0 _ _).trans (tlt h2).2.2.1, (if0 _ _).trans (tlt h2).2.2.2⟩
theorem own_fltL {x y : Int64} (h : ¬ x < y) : ifCond.holds .lt (lcmpW x y) = false ∧ ifCond.holds .ge (lcmpW x y) = true ∧ ifCond.holds .gt (lcmpW y x) = false ∧ ifCond.holds .le (lcmpW y x) = true := by
  have h1 : ¬ lcmpW x y < 0 := by rw [lcW, lc_lt]; exact h
  have h2 : ¬ 0 < lcmpW y x := by rw [lcW, lc_gt]; exact h
  exact ⟨(if0 _ _).trans (flt h1).1, (if0 _ _).trans (flt h1).2.1, (if0 _ _).trans (flt h2).2.2.1, (if0 _ _).trans (flt h2).2.2.2⟩
theorem own_teqL {x y : Int64} (h : x = y) : ifCond.holds .eq (lcmpW x y) = true ∧ ifCond.holds .ne (lcmpW x y) = false := by
  have h1 : lcmpW x y = 0 := by rw [lcW, lc_eq]; exact h
  exact ⟨(if0 _ _).trans (teq h1).1, (if0 _ _).trans (teq h1).2⟩
theorem own_feqL {x y : Int64} (h : ¬ x = y) : ifCond.holds .eq (lcmpW x y) = false ∧ ifCond.holds .ne (lcmpW x y) = true := by
  have h1 : ¬ lcmpW x y = 0 := by rw [lcW, lc_eq]; exact h
  exact ⟨(if0 _ _).trans (feq h1).1, (if0 _ _).trans (feq h1).2⟩
end New
end Jvm.RoadKit
namespace Jvm.Pilot.@@N@@
open Jvm Jvm.ClassFile Sem Op Lib Jvm.Free Jvm.Stand Jvm.LawKit Jvm.RoadKit Bundle Jvm.Pilot.@@N@@.Jvm.D
/-- what is left to show from a place of the walk on -/
abbrev OGl (p : Program) (e : Env) (below : List Frame) (Q : Outcome → State → Prop) (T : State) (g : JFrame) : Prop :=
  ∃ s₂ o, Steps p.tables e below (T.setTop g) s₂ ∧ s₂.status = .running ∧ Ended s₂ below o ∧ Q o s₂
theorem OGl.go {p : Program} {e : Env} {below : List Frame} {Q : Outcome → State → Prop} {T T' : State} {g g' : JFrame} (h : ∀ t, Steps p.tables e below (T'.setTop g') t → Steps p.tables e below (T.setTop g) t) (k : OGl p e below Q T' g') : OGl p e below Q T g := by
  obtain ⟨s2, o, h1, h2⟩ := k
  exact ⟨s2, o, h _ h1, h2⟩
theorem OGl.start {p : Program} {e : Env} {below : List Frame} {Q : Outcome → State → Prop} {T : State} {g g' : JFrame} (q : g = g') (k : OGl p e below Q T g') : OGl p e below Q T g := q ▸ k
theorem own_selPriv {s : State} {args : Array Value} {y y' x' : MethodName} {C' : String} (hp : s.PrivateAt y) (hi : (Cond.instanceMethod y).before args s = true) (hs : (Cond.selects C' x' y').before args s = true) (hc : y'.cls = y.cls) (hy : y.cls ≠ "java/lang/invoke/MethodHandle" ∧ y.cls ≠ "java/lang/invoke/VarHandle" := by decide) : (Cond.selects y.cls y y).before args s = true := by
  obtain ⟨mk, meth, hn, hm, -, -⟩ := Cond.instanceMethod_spec hi
  obtain ⟨c2, r2, m2, -, -, q3, -, kP, hkP, hkPi⟩ := Cond.selects_spec hs
  have h1 := findClass_of_methodNamed hn
  have h2 := findClass_of_methodNamed q3
  rw [hc, h1] at h2
  have h3 : mk.cls = m2.cls := Option.some.inj h2
  have hf := State.methodFound?_of_named hn hy
  have hsel : selectMethod {} s.vm mk.cls mk = .method mk := selectMethod_private hm (hp mk meth hn hm)
  rw [← h3] at hkP
  simp [Cond.before, Cond.holds, Cond.value, h1, hf, hn, hsel, hkP, hkPi]
theorem own_weak {Z : State} {h : Heap} {a : Addr} {k : ClassId} {ty : FieldType} {z : Int32} {vs vs' : List Value} {d : Value} (F : Arv Z h a k ty z vs d) (q : ∀ i, i < z.toNatClampNeg → vs'.getD i d = vs.getD i d) : Arv Z h a k ty z vs' d := by
  obtain ⟨c, A, r1, r2, r3, H, G⟩ := F
  exact ⟨c, A, r1, r2, r3, fun i hi => by rw [q i (r2 ▸ hi)]; exact H i hi, fun i hi => by rw [q i (r2 ▸ hi)]; exact G i hi⟩
theorem own_cl {z j : Int32} {k i : Nat} (h : ¬ j < z) (hk : j.toInt = k) (hi : i < z.toNatClampNeg) : i < k := by
  rw [Int32.lt_iff_toInt_lt] at h
  have : z.toNatClampNeg = z.toInt.toNat := rfl
  omega
theorem own_irr {α : Type} [LT α] [Std.Irrefl (α := α) (· < ·)] (x : α) : ¬ x < x := Std.Irrefl.irrefl x
theorem d1_0 : decode prog_12_method_2_code 0 = .ok (.iconst (-1), 1) := by decide +kernel
theorem d1_1 : decode prog_12_method_2_code 1 = .ok (.istore 4, 2) := by decide +kernel
theorem d1_3 : decode prog_12_method_2_code 3 = .ok (.iconst 0, 1) := by decide +kernel
theorem d1_4 : decode prog_12_method_2_code 4 = .ok (.istore 5, 2) := by decide +kernel
theorem d1_6 : decode prog_12_method_2_code 6 = .ok (.iload 5, 2) := by decide +kernel
theorem d1_8 : decode prog_12_method_2_code 8 = .ok (.aload_n 0, 1) := by decide +kernel
theorem d1_9 : decode prog_12_method_2_code 9 = .ok (.arraylength, 1) := by decide +kernel
theorem d1_10 : decode prog_12_method_2_code 10 = .ok (.if_icmp .ge 42, 3) := by decide +kernel
theorem d1_13 : decode prog_12_method_2_code 13 = .ok (.aload_n 0, 1) := by decide +kernel
theorem d1_14 : decode prog_12_method_2_code 14 = .ok (.iload 5, 2) := by decide +kernel
theorem d1_16 : decode prog_12_method_2_code 16 = .ok (.iaload, 1) := by decide +kernel
theorem d1_17 : decode prog_12_method_2_code 17 = .ok (.i2l, 1) := by decide +kernel
theorem d1_18 : decode prog_12_method_2_code 18 = .ok (.iload_n 3, 1) := by decide +kernel
theorem d1_19 : decode prog_12_method_2_code 19 = .ok (.i2l, 1) := by decide +kernel
theorem d1_20 : decode prog_12_method_2_code 20 = .ok (.lmul, 1) := by decide +kernel
theorem d1_21 : decode prog_12_method_2_code 21 = .ok (.lload_n 1, 1) := by decide +kernel
theorem d1_22 : decode prog_12_method_2_code 22 = .ok (.lcmp, 1) := by decide +kernel
theorem d1_23 : decode prog_12_method_2_code 23 = .ok (.ifCond .le 23, 3) := by decide +kernel
theorem d1_26 : decode prog_12_method_2_code 26 = .ok (.iload 4, 2) := by decide +kernel
theorem d1_28 : decode prog_12_method_2_code 28 = .ok (.ifCond .lt 14, 3) := by decide +kernel
theorem d1_42 : decode prog_12_method_2_code 42 = .ok (.iload 5, 2) := by decide +kernel
theorem d1_44 : decode prog_12_method_2_code 44 = .ok (.istore 4, 2) := by decide +kernel
theorem d1_46 : decode prog_12_method_2_code 46 = .ok (.iinc 5 1, 3) := by decide +kernel
theorem d1_49 : decode prog_12_method_2_code 49 = .ok (.goto (-43), 3) := by decide +kernel
theorem d1_31 : decode prog_12_method_2_code 31 = .ok (.aload_n 0, 1) := by decide +kernel
theorem d1_32 : decode prog_12_method_2_code 32 = .ok (.iload 5, 2) := by decide +kernel
theorem d1_34 : decode prog_12_method_2_code 34 = .ok (.iaload, 1) := by decide +kernel
theorem d1_35 : decode prog_12_method_2_code 35 = .ok (.aload_n 0, 1) := by decide +kernel
theorem d1_36 : decode prog_12_method_2_code 36 = .ok (.iload 4, 2) := by decide +kernel
theorem d1_38 : decode prog_12_method_2_code 38 = .ok (.iaload, 1) := by decide +kernel
theorem d1_39 : decode prog_12_method_2_code 39 = .ok (.if_icmp .le 7, 3) := by decide +kernel
theorem d1_52 : decode prog_12_method_2_code 52 = .ok (.iload 4, 2) := by decide +kernel
theorem d1_54 : decode prog_12_method_2_code 54 = .ok (.ireturn, 1) := by decide +kernel
theorem ef_1 (m : MethodId) (x0 : Addr) (x1 : Int64) (x2 : Int32) : entryFrame m #[(.ref x0), (.long x1), (.int x2)] 6 = mkF m 0 #[.val (.ref x0), .val (.long x1), .second, .val (.int x2), .unset, .unset] [] := by first | (simp [entryFrame, mkF, argsToLocals, Value.category]; done) | rfl
theorem pn_0 : plainName "com/example/tokumei/tokumei/anatomize/Groups" = true := by first | (simp [plainName, overriddenIn]; done) | decide +kernel
def t1_0 (q1 : Int64) (p2 : Int32) (p4 : Int32) (p5 : Int32) (p6 : Int32) : Int32 := (if q1 < (((p4).toInt64) * ((p2).toInt64)) then (if q1 < (((p5).toInt64) * ((p2).toInt64)) then (if p4 < p5 then (if q1 < (((p6).toInt64) * ((p2).toInt64)) then (if p5 < p6 then (2 : Int32) else (1 : Int32)) else (1 : Int32)) else (if q1 < (((p6).toInt64) * ((p2).toInt64)) then (if p4 < p6 then (2 : Int32) else (0 : Int32)) else (0 : Int32))) else (if q1 < (((p6).toInt64) * ((p2).toInt64)) then (if p4 < p6 then (2 : Int32) else (0 : Int32)) else (0 : Int32))) else (if q1 < (((p5).toInt64) * ((p2).toInt64)) then (if q1 < (((p6).toInt64) * ((p2).toInt64)) then (if p5 < p6 then (2 : Int32) else (1 : Int32)) else (1 : Int32)) else (if q1 < (((p6).toInt64) * ((p2).toInt64)) then (2 : Int32) else (-1 : Int32))))
def Q1 (Z : State) (o0 : Addr) (q1 : Int64) (p2 : Int32) (k3 : ClassId) (p4 : Int32) (p5 : Int32) (p6 : Int32) (h0 : Heap) (n0 : Nat) (v : Option Value) (h : Heap) (L : List Loc) : Prop := v = some (.int (t1_0 q1 p2 p4 p5 p6)) ∧ Fr n0 L ∧ h = h0
set_option maxRecDepth 65536 in
set_option maxHeartbeats 40000000 in
theorem rm1 (l : Launch) (Z : State) (a0 : Array Value) (hw : ∀ d ∈ tables_1, d.before a0 Z = true) (ws : List Jvm.Cond) (o0 : Addr) (q1 : Int64) (p2 : Int32) (k3 : ClassId) (p4 : Int32) (p5 : Int32) (p6 : Int32) (h0 : Heap) (n0 : Nat) (Z0 : n0 ≤ h0.size) (V_o0 : Arv Z h0 o0 k3 .int (3 : Int32) [(.int p4), (.int p5), (.int p6)] (.int (0 : Int32))) :
    MetFree l (⟨"com/example/tokumei/tokumei/anatomize/Groups", "tooFrequent", "([IJI)I"⟩ : MethodName) (head1 (Jvm.Cond.code (⟨"com/example/tokumei/tokumei/anatomize/Groups", "tooFrequent", "([IJI)I"⟩ : MethodName) prog_12_method_2_code 6 (some .int) :: ws) ({ frames := 0, cells := 0, slots := 0, locals := 0 } : Room)) (fun a U => a = #[(.ref o0), (.long q1), (.int p2)] ∧ Z.Warmed39 U.vm ∧ U.heap = h0) (fun _ _ _ _ _ => True) (fun _ U o U' => ∃ v L, o = .returned v ∧ Q1 Z o0 q1 p2 k3 p4 p5 p6 h0 n0 v U'.heap L ∧ FrameEnd U o U' L ({ frames := 0, cells := 0, slots := 0, locals := 0 } : Room).cells ({ frames := 0, cells := 0, slots := 0, locals := 0 } : Room).slots) := by
  refine MetFree.of_bodySF (plainFor_of_name pn_0) hisR ?_
  intro p e s m args below meth c s₁ Bd hml0 hP hK
  obtain ⟨rfl, hZ, hh⟩ := hP
  have hx := Bd.exec
  have hby := Bd.bytes
  have hml : c.maxLocals = 6 := hml0
  have hown : s.vm.findClass "com/example/tokumei/tokumei/anatomize/Groups" = some m.cls := findClass_of_methodNamed Bd.named
  have hnm := (name_of_methodNamed Bd.named Bd.method).1
  have X0 : Stand p l e ({ frames := 0, cells := 0, slots := 0, locals := 0 } : Room) s m #[(.ref o0), (.long q1), (.int p2)] below meth c s₁ [] 0 0 := Stand.of_body Bd
  have e0 : s₁.heap = h0 := by rw [← hh, Bd.state]; rfl
  have N0 := Fr.nil n0
  refine OGl.start (ef_1 m o0 q1 p2) ?_
  show OGl _ _ _ _ s₁ (mkF m 0 #[.val (.ref o0), .val (.long q1), .second, .val (.int p2), .unset, .unset] [])
  obtain ⟨cl10, Ar10, -, Sz10, Nn10, -, -⟩ := id V_o0
  refine OGl.go (fun t k => XS.iconst X0.here hx rfl (hb hby d1_0) (XS.istore X0.here hx rfl (hb hby d1_1) rfl (l' := #[.val (.ref o0), .val (.long q1), .second, .val (.int p2), .val (.int (-1 : Int32)), .unset]) rfl (XS.iconst X0.here hx rfl (hb hby d1_3) (XS.istore X0.here hx rfl (hb hby d1_4) rfl (l' := #[.val (.ref o0), .val (.long q1), .second, .val (.int p2), .val (.int (-1 : Int32)), .val (.int (0 : Int32))]) rfl (XS.iload X0.here hx rfl (hb hby d1_6) rfl (XS.aloadN X0.here hx rfl (hb hby d1_8) rfl rfl (own_len X0 hx (by rw [e0]; exact Ar10.1) (State.isArrayOf_alike hZ.alike Ar10.2.1) Sz10 Nn10 rfl rfl (hb hby d1_9) (XS.icmpNo X0.here hx rfl (hb hby d1_10) rfl (tlt (by decide : (0 : Int32) < (3 : Int32))).2.1 k)))))))) ?_
  show OGl _ _ _ _ s₁ (mkF m 13 #[.val (.ref o0), .val (.long q1), .second, .val (.int p2), .val (.int (-1 : Int32)), .val (.int (0 : Int32))] [])
  obtain ⟨cl11, Ar11, -, Sz11, -, Ha11, -⟩ := id V_o0
  have hin11 : ¬ ((0 : Int32) < 0 ∨ cl11.slots.size ≤ ((0 : Int32)).toNatClampNeg) := inb_of Sz11 ⟨by decide, by decide⟩
  refine OGl.go (fun t k => XS.aloadN X0.here hx rfl (hb hby d1_13) rfl rfl (XS.iload X0.here hx rfl (hb hby d1_14) rfl (own_iaload X0 hx (j := (0 : Int32)) (v := (.int p4)) (by rw [e0]; exact Ar11.1) (State.isArrayOf_alike hZ.alike Ar11.2.1) Ar11.2.2 hin11 (Has.at Ha11 hin11 rfl) rfl rfl (hb hby d1_16) (XS.i2l X0.here hx rfl (hb hby d1_17) rfl (XS.iloadN X0.here hx rfl (hb hby d1_18) rfl (XS.i2l X0.here hx rfl (hb hby d1_19) rfl (XS.lmul X0.here hx rfl (hb hby d1_20) rfl (XS.lloadN X0.here hx rfl (hb hby d1_21) rfl k)))))))) ?_
  show OGl _ _ _ _ s₁ (mkF m 22 #[.val (.ref o0), .val (.long q1), .second, .val (.int p2), .val (.int (-1 : Int32)), .val (.int (0 : Int32))] [(.long q1), (.long (((p4).toInt64) * ((p2).toInt64)))])
  refine OGl.go (fun t k => XS.lcmp X0.here hx rfl (hb hby d1_22) rfl k) ?_
  show OGl _ _ _ _ s₁ (mkF m 23 #[.val (.ref o0), .val (.long q1), .second, .val (.int p2), .val (.int (-1 : Int32)), .val (.int (0 : Int32))] [(.int (lcmpW (((p4).toInt64) * ((p2).toInt64)) q1))])
  by_cases hc12 : q1 < (((p4).toInt64) * ((p2).toInt64))
  · refine OGl.go (fun t k => XS.ifNo X0.here hx rfl (hb hby d1_23) rfl (own_tltL hc12).2.2.2 (XS.iload X0.here hx rfl (hb hby d1_26) rfl (XS.ifYes X0.here hx rfl (pc0 := 28) (pc' := 42) rfl (hb hby d1_28) rfl ((if0 _ _).trans (tlt (by decide : (-1 : Int32) < (0 : Int32))).1) (by decide) (by decide) (XS.iload X0.here hx rfl (hb hby d1_42) rfl (XS.istore X0.here hx rfl (hb hby d1_44) rfl (l' := #[.val (.ref o0), .val (.long q1), .second, .val (.int p2), .val (.int (0 : Int32)), .val (.int (0 : Int32))]) rfl (XS.iinc X0.here hx rfl (hb hby d1_46) rfl (l' := #[.val (.ref o0), .val (.long q1), .second, .val (.int p2), .val (.int (0 : Int32)), .val (.int (1 : Int32))]) rfl (XS.goto X0.here hx rfl (pc0 := 49) (pc' := 6) rfl (hb hby d1_49) (by decide) (by decide) (XS.iload X0.here hx rfl (hb hby d1_6) rfl k)))))))) ?_
    show OGl _ _ _ _ s₁ (mkF m 8 #[.val (.ref o0), .val (.long q1), .second, .val (.int p2), .val (.int (0 : Int32)), .val (.int (1 : Int32))] [(.int (1 : Int32))])
    obtain ⟨cl13, Ar13, -, Sz13, Nn13, -, -⟩ := id V_o0
    obtain ⟨cl14, Ar14, -, Sz14, -, Ha14, -⟩ := id V_o0
    have hin14 : ¬ ((1 : Int32) < 0 ∨ cl14.slots.size ≤ ((1 : Int32)).toNatClampNeg) := inb_of Sz14 ⟨by decide, by decide⟩
    refine OGl.go (fun t k => XS.aloadN X0.here hx rfl (hb hby d1_8) rfl rfl (own_len X0 hx (by rw [e0]; exact Ar13.1) (State.isArrayOf_alike hZ.alike Ar13.2.1) Sz13 Nn13 rfl rfl (hb hby d1_9) (XS.icmpNo X0.here hx rfl (hb hby d1_10) rfl (tlt (by decide : (1 : Int32) < (3 : Int32))).2.1 (XS.aloadN X0.here hx rfl (hb hby d1_13) rfl rfl (XS.iload X0.here hx rfl (hb hby d1_14) rfl (own_iaload X0 hx (j := (1 : Int32)) (v := (.int p5)) (by rw [e0]; exact Ar14.1) (State.isArrayOf_alike hZ.alike Ar14.2.1) Ar14.2.2 hin14 (Has.at Ha14 hin14 rfl) rfl rfl (hb hby d1_16) (XS.i2l X0.here hx rfl (hb hby d1_17) rfl (XS.iloadN X0.here hx rfl (hb hby d1_18) rfl k)))))))) ?_
    show OGl _ _ _ _ s₁ (mkF m 19 #[.val (.ref o0), .val (.long q1), .second, .val (.int p2), .val (.int (0 : Int32)), .val (.int (1 : Int32))] [(.int p2), (.long ((p5).toInt64))])
    refine OGl.go (fun t k => XS.i2l X0.here hx rfl (hb hby d1_19) rfl (XS.lmul X0.here hx rfl (hb hby d1_20) rfl (XS.lloadN X0.here hx rfl (hb hby d1_21) rfl (XS.lcmp X0.here hx rfl (hb hby d1_22) rfl k)))) ?_
    show OGl _ _ _ _ s₁ (mkF m 23 #[.val (.ref o0), .val (.long q1), .second, .val (.int p2), .val (.int (0 : Int32)), .val (.int (1 : Int32))] [(.int (lcmpW (((p5).toInt64) * ((p2).toInt64)) q1))])
    by_cases hc15 : q1 < (((p5).toInt64) * ((p2).toInt64))
    · obtain ⟨cl16, Ar16, -, Sz16, -, Ha16, -⟩ := id V_o0
      have hin16 : ¬ ((1 : Int32) < 0 ∨ cl16.slots.size ≤ ((1 : Int32)).toNatClampNeg) := inb_of Sz16 ⟨by decide, by decide⟩
      refine OGl.go (fun t k => XS.ifNo X0.here hx rfl (hb hby d1_23) rfl (own_tltL hc15).2.2.2 (XS.iload X0.here hx rfl (hb hby d1_26) rfl (XS.ifNo X0.here hx rfl (hb hby d1_28) rfl ((if0 _ _).trans (flt (by decide : ¬ ((0 : Int32) < (0 : Int32)))).1) (XS.aloadN X0.here hx rfl (hb hby d1_31) rfl rfl (XS.iload X0.here hx rfl (hb hby d1_32) rfl (own_iaload X0 hx (j := (1 : Int32)) (v := (.int p5)) (by rw [e0]; exact Ar16.1) (State.isArrayOf_alike hZ.alike Ar16.2.1) Ar16.2.2 hin16 (Has.at Ha16 hin16 rfl) rfl rfl (hb hby d1_34) (XS.aloadN X0.here hx rfl (hb hby d1_35) rfl rfl (XS.iload X0.here hx rfl (hb hby d1_36) rfl k)))))))) ?_
      show OGl _ _ _ _ s₁ (mkF m 38 #[.val (.ref o0), .val (.long q1), .second, .val (.int p2), .val (.int (0 : Int32)), .val (.int (1 : Int32))] [(.int (0 : Int32)), (.ref o0), (.int p5)])
      obtain ⟨cl17, Ar17, -, Sz17, -, Ha17, -⟩ := id V_o0
      have hin17 : ¬ ((0 : Int32) < 0 ∨ cl17.slots.size ≤ ((0 : Int32)).toNatClampNeg) := inb_of Sz17 ⟨by decide, by decide⟩
      refine OGl.go (fun t k => own_iaload X0 hx (j := (0 : Int32)) (v := (.int p4)) (by rw [e0]; exact Ar17.1) (State.isArrayOf_alike hZ.alike Ar17.2.1) Ar17.2.2 hin17 (Has.at Ha17 hin17 rfl) rfl rfl (hb hby d1_38) k) ?_
      show OGl _ _ _ _ s₁ (mkF m 39 #[.val (.ref o0), .val (.long q1), .second, .val (.int p2), .val (.int (0 : Int32)), .val (.int (1 : Int32))] [(.int p4), (.int p5)])
      by_cases hc18 : p4 < p5
      · obtain ⟨cl19, Ar19, -, Sz19, Nn19, -, -⟩ := id V_o0
        refine OGl.go (fun t k => XS.icmpNo X0.here hx rfl (hb hby d1_39) rfl (tlt hc18).2.2.2 (XS.iload X0.here hx rfl (hb hby d1_42) rfl (XS.istore X0.here hx rfl (hb hby d1_44) rfl (l' := #[.val (.ref o0), .val (.long q1), .second, .val (.int p2), .val (.int (1 : Int32)), .val (.int (1 : Int32))]) rfl (XS.iinc X0.here hx rfl (hb hby d1_46) rfl (l' := #[.val (.ref o0), .val (.long q1), .second, .val (.int p2), .val (.int (1 : Int32)), .val (.int (2 : Int32))]) rfl (XS.goto X0.here hx rfl (pc0 := 49) (pc' := 6) rfl (hb hby d1_49) (by decide) (by decide) (XS.iload X0.here hx rfl (hb hby d1_6) rfl (XS.aloadN X0.here hx rfl (hb hby d1_8) rfl rfl (own_len X0 hx (by rw [e0]; exact Ar19.1) (State.isArrayOf_alike hZ.alike Ar19.2.1) Sz19 Nn19 rfl rfl (hb hby d1_9) k)))))))) ?_
        show OGl _ _ _ _ s₁ (mkF m 10 #[.val (.ref o0), .val (.long q1), .second, .val (.int p2), .val (.int (1 : Int32)), .val (.int (2 : Int32))] [(.int (3 : Int32)), (.int (2 : Int32))])
        obtain ⟨cl20, Ar20, -, Sz20, -, Ha20, -⟩ := id V_o0
        have hin20 : ¬ ((2 : Int32) < 0 ∨ cl20.slots.size ≤ ((2 : Int32)).toNatClampNeg) := inb_of Sz20 ⟨by decide, by decide⟩
        refine OGl.go (fun t k => XS.icmpNo X0.here hx rfl (hb hby d1_10) rfl (tlt (by decide : (2 : Int32) < (3 : Int32))).2.1 (XS.aloadN X0.here hx rfl (hb hby d1_13) rfl rfl (XS.iload X0.here hx rfl (hb hby d1_14) rfl (own_iaload X0 hx (j := (2 : Int32)) (v := (.int p6)) (by rw [e0]; exact Ar20.1) (State.isArrayOf_alike hZ.alike Ar20.2.1) Ar20.2.2 hin20 (Has.at Ha20 hin20 rfl) rfl rfl (hb hby d1_16) (XS.i2l X0.here hx rfl (hb hby d1_17) rfl (XS.iloadN X0.here hx rfl (hb hby d1_18) rfl (XS.i2l X0.here hx rfl (hb hby d1_19) rfl (XS.lmul X0.here hx rfl (hb hby d1_20) rfl k)))))))) ?_
        show OGl _ _ _ _ s₁ (mkF m 21 #[.val (.ref o0), .val (.long q1), .second, .val (.int p2), .val (.int (1 : Int32)), .val (.int (2 : Int32))] [(.long (((p6).toInt64) * ((p2).toInt64)))])
        refine OGl.go (fun t k => XS.lloadN X0.here hx rfl (hb hby d1_21) rfl (XS.lcmp X0.here hx rfl (hb hby d1_22) rfl k)) ?_
        show OGl _ _ _ _ s₁ (mkF m 23 #[.val (.ref o0), .val (.long q1), .second, .val (.int p2), .val (.int (1 : Int32)), .val (.int (2 : Int32))] [(.int (lcmpW (((p6).toInt64) * ((p2).toInt64)) q1))])
        by_cases hc21 : q1 < (((p6).toInt64) * ((p2).toInt64))
        · obtain ⟨cl22, Ar22, -, Sz22, -, Ha22, -⟩ := id V_o0
          have hin22 : ¬ ((2 : Int32) < 0 ∨ cl22.slots.size ≤ ((2 : Int32)).toNatClampNeg) := inb_of Sz22 ⟨by decide, by decide⟩
          refine OGl.go (fun t k => XS.ifNo X0.here hx rfl (hb hby d1_23) rfl (own_tltL hc21).2.2.2 (XS.iload X0.here hx rfl (hb hby d1_26) rfl (XS.ifNo X0.here hx rfl (hb hby d1_28) rfl ((if0 _ _).trans (flt (by decide : ¬ ((1 : Int32) < (0 : Int32)))).1) (XS.aloadN X0.here hx rfl (hb hby d1_31) rfl rfl (XS.iload X0.here hx rfl (hb hby d1_32) rfl (own_iaload X0 hx (j := (2 : Int32)) (v := (.int p6)) (by rw [e0]; exact Ar22.1) (State.isArrayOf_alike hZ.alike Ar22.2.1) Ar22.2.2 hin22 (Has.at Ha22 hin22 rfl) rfl rfl (hb hby d1_34) (XS.aloadN X0.here hx rfl (hb hby d1_35) rfl rfl (XS.iload X0.here hx rfl (hb hby d1_36) rfl k)))))))) ?_
          show OGl _ _ _ _ s₁ (mkF m 38 #[.val (.ref o0), .val (.long q1), .second, .val (.int p2), .val (.int (1 : Int32)), .val (.int (2 : Int32))] [(.int (1 : Int32)), (.ref o0), (.int p6)])
          obtain ⟨cl23, Ar23, -, Sz23, -, Ha23, -⟩ := id V_o0
          have hin23 : ¬ ((1 : Int32) < 0 ∨ cl23.slots.size ≤ ((1 : Int32)).toNatClampNeg) := inb_of Sz23 ⟨by decide, by decide⟩
          refine OGl.go (fun t k => own_iaload X0 hx (j := (1 : Int32)) (v := (.int p5)) (by rw [e0]; exact Ar23.1) (State.isArrayOf_alike hZ.alike Ar23.2.1) Ar23.2.2 hin23 (Has.at Ha23 hin23 rfl) rfl rfl (hb hby d1_38) k) ?_
          show OGl _ _ _ _ s₁ (mkF m 39 #[.val (.ref o0), .val (.long q1), .second, .val (.int p2), .val (.int (1 : Int32)), .val (.int (2 : Int32))] [(.int p5), (.int p6)])
          by_cases hc24 : p5 < p6
          · obtain ⟨cl25, Ar25, -, Sz25, Nn25, -, -⟩ := id V_o0
            refine OGl.go (fun t k => XS.icmpNo X0.here hx rfl (hb hby d1_39) rfl (tlt hc24).2.2.2 (XS.iload X0.here hx rfl (hb hby d1_42) rfl (XS.istore X0.here hx rfl (hb hby d1_44) rfl (l' := #[.val (.ref o0), .val (.long q1), .second, .val (.int p2), .val (.int (2 : Int32)), .val (.int (2 : Int32))]) rfl (XS.iinc X0.here hx rfl (hb hby d1_46) rfl (l' := #[.val (.ref o0), .val (.long q1), .second, .val (.int p2), .val (.int (2 : Int32)), .val (.int (3 : Int32))]) rfl (XS.goto X0.here hx rfl (pc0 := 49) (pc' := 6) rfl (hb hby d1_49) (by decide) (by decide) (XS.iload X0.here hx rfl (hb hby d1_6) rfl (XS.aloadN X0.here hx rfl (hb hby d1_8) rfl rfl (own_len X0 hx (by rw [e0]; exact Ar25.1) (State.isArrayOf_alike hZ.alike Ar25.2.1) Sz25 Nn25 rfl rfl (hb hby d1_9) k)))))))) ?_
            show OGl _ _ _ _ s₁ (mkF m 10 #[.val (.ref o0), .val (.long q1), .second, .val (.int p2), .val (.int (2 : Int32)), .val (.int (3 : Int32))] [(.int (3 : Int32)), (.int (3 : Int32))])
            refine OGl.go (fun t k => XS.icmpYes X0.here hx rfl (pc0 := 10) (pc' := 52) rfl (hb hby d1_10) rfl (flt (by decide : ¬ ((3 : Int32) < (3 : Int32)))).2.1 (by decide) (by decide) (XS.iload X0.here hx rfl (hb hby d1_52) rfl k)) ?_
            show OGl _ _ _ _ s₁ (mkF m 54 #[.val (.ref o0), .val (.long q1), .second, .val (.int p2), .val (.int (2 : Int32)), .val (.int (3 : Int32))] [(.int (2 : Int32))])
            obtain ⟨fs, hr, hrun, hended, hW, hsame⟩ := X0.leave (v := some (.int (2 : Int32))) (fun h => by rw [Bd.returns] at h; cases h)
            refine ⟨_, _, retI X0 hx Bd.returns (hb hby d1_54) hr, hrun, hended, _, _, rfl, ?_, ⟨_, rfl⟩, hW, hsame.mono (by decide) (by decide)⟩
            have hv63 : (t1_0 q1 p2 p4 p5 p6) = (2 : Int32) := by unfold t1_0; rw [if_pos hc12, if_pos hc15, if_pos hc18, if_pos hc21, if_pos hc24]
            show Q1 Z o0 q1 p2 k3 p4 p5 p6 h0 n0 _ s₁.heap _
            rw [e0]
            exact ⟨(by rw [hv63]), N0, rfl⟩
          · obtain ⟨cl26, Ar26, -, Sz26, Nn26, -, -⟩ := id V_o0
            refine OGl.go (fun t k => XS.icmpYes X0.here hx rfl (pc0 := 39) (pc' := 46) rfl (hb hby d1_39) rfl (flt hc24).2.2.2 (by decide) (by decide) (XS.iinc X0.here hx rfl (hb hby d1_46) rfl (l' := #[.val (.ref o0), .val (.long q1), .second, .val (.int p2), .val (.int (1 : Int32)), .val (.int (3 : Int32))]) rfl (XS.goto X0.here hx rfl (pc0 := 49) (pc' := 6) rfl (hb hby d1_49) (by decide) (by decide) (XS.iload X0.here hx rfl (hb hby d1_6) rfl (XS.aloadN X0.here hx rfl (hb hby d1_8) rfl rfl (own_len X0 hx (by rw [e0]; exact Ar26.1) (State.isArrayOf_alike hZ.alike Ar26.2.1) Sz26 Nn26 rfl rfl (hb hby d1_9) (XS.icmpYes X0.here hx rfl (pc0 := 10) (pc' := 52) rfl (hb hby d1_10) rfl (flt (by decide : ¬ ((3 : Int32) < (3 : Int32)))).2.1 (by decide) (by decide) (XS.iload X0.here hx rfl (hb hby d1_52) rfl k)))))))) ?_
            show OGl _ _ _ _ s₁ (mkF m 54 #[.val (.ref o0), .val (.long q1), .second, .val (.int p2), .val (.int (1 : Int32)), .val (.int (3 : Int32))] [(.int (1 : Int32))])
            obtain ⟨fs, hr, hrun, hended, hW, hsame⟩ := X0.leave (v := some (.int (1 : Int32))) (fun h => by rw [Bd.returns] at h; cases h)
            refine ⟨_, _, retI X0 hx Bd.returns (hb hby d1_54) hr, hrun, hended, _, _, rfl, ?_, ⟨_, rfl⟩, hW, hsame.mono (by decide) (by decide)⟩
            have hv64 : (t1_0 q1 p2 p4 p5 p6) = (1 : Int32) := by unfold t1_0; rw [if_pos hc12, if_pos hc15, if_pos hc18, if_pos hc21, if_neg hc24]
            show Q1 Z o0 q1 p2 k3 p4 p5 p6 h0 n0 _ s₁.heap _
            rw [e0]
            exact ⟨(by rw [hv64]), N0, rfl⟩
        · obtain ⟨cl27, Ar27, -, Sz27, Nn27, -, -⟩ := id V_o0
          refine OGl.go (fun t k => XS.ifYes X0.here hx rfl (pc0 := 23) (pc' := 46) rfl (hb hby d1_23) rfl (own_fltL hc21).2.2.2 (by decide) (by decide) (XS.iinc X0.here hx rfl (hb hby d1_46) rfl (l' := #[.val (.ref o0), .val (.long q1), .second, .val (.int p2), .val (.int (1 : Int32)), .val (.int (3 : Int32))]) rfl (XS.goto X0.here hx rfl (pc0 := 49) (pc' := 6) rfl (hb hby d1_49) (by decide) (by decide) (XS.iload X0.here hx rfl (hb hby d1_6) rfl (XS.aloadN X0.here hx rfl (hb hby d1_8) rfl rfl (own_len X0 hx (by rw [e0]; exact Ar27.1) (State.isArrayOf_alike hZ.alike Ar27.2.1) Sz27 Nn27 rfl rfl (hb hby d1_9) (XS.icmpYes X0.here hx rfl (pc0 := 10) (pc' := 52) rfl (hb hby d1_10) rfl (flt (by decide : ¬ ((3 : Int32) < (3 : Int32)))).2.1 (by decide) (by decide) (XS.iload X0.here hx rfl (hb hby d1_52) rfl k)))))))) ?_
          show OGl _ _ _ _ s₁ (mkF m 54 #[.val (.ref o0), .val (.long q1), .second, .val (.int p2), .val (.int (1 : Int32)), .val (.int (3 : Int32))] [(.int (1 : Int32))])
          obtain ⟨fs, hr, hrun, hended, hW, hsame⟩ := X0.leave (v := some (.int (1 : Int32))) (fun h => by rw [Bd.returns] at h; cases h)
          refine ⟨_, _, retI X0 hx Bd.returns (hb hby d1_54) hr, hrun, hended, _, _, rfl, ?_, ⟨_, rfl⟩, hW, hsame.mono (by decide) (by decide)⟩
          have hv65 : (t1_0 q1 p2 p4 p5 p6) = (1 : Int32) := by unfold t1_0; rw [if_pos hc12, if_pos hc15, if_pos hc18, if_neg hc21]
          show Q1 Z o0 q1 p2 k3 p4 p5 p6 h0 n0 _ s₁.heap _
          rw [e0]
          exact ⟨(by rw [hv65]), N0, rfl⟩
      · obtain ⟨cl28, Ar28, -, Sz28, Nn28, -, -⟩ := id V_o0
        refine OGl.go (fun t k => XS.icmpYes X0.here hx rfl (pc0 := 39) (pc' := 46) rfl (hb hby d1_39) rfl (flt hc18).2.2.2 (by decide) (by decide) (XS.iinc X0.here hx rfl (hb hby d1_46) rfl (l' := #[.val (.ref o0), .val (.long q1), .second, .val (.int p2), .val (.int (0 : Int32)), .val (.int (2 : Int32))]) rfl (XS.goto X0.here hx rfl (pc0 := 49) (pc' := 6) rfl (hb hby d1_49) (by decide) (by decide) (XS.iload X0.here hx rfl (hb hby d1_6) rfl (XS.aloadN X0.here hx rfl (hb hby d1_8) rfl rfl (own_len X0 hx (by rw [e0]; exact Ar28.1) (State.isArrayOf_alike hZ.alike Ar28.2.1) Sz28 Nn28 rfl rfl (hb hby d1_9) (XS.icmpNo X0.here hx rfl (hb hby d1_10) rfl (tlt (by decide : (2 : Int32) < (3 : Int32))).2.1 (XS.aloadN X0.here hx rfl (hb hby d1_13) rfl rfl k)))))))) ?_
        show OGl _ _ _ _ s₁ (mkF m 14 #[.val (.ref o0), .val (.long q1), .second, .val (.int p2), .val (.int (0 : Int32)), .val (.int (2 : Int32))] [(.ref o0)])
        obtain ⟨cl29, Ar29, -, Sz29, -, Ha29, -⟩ := id V_o0
        have hin29 : ¬ ((2 : Int32) < 0 ∨ cl29.slots.size ≤ ((2 : Int32)).toNatClampNeg) := inb_of Sz29 ⟨by decide, by decide⟩
        refine OGl.go (fun t k => XS.iload X0.here hx rfl (hb hby d1_14) rfl (own_iaload X0 hx (j := (2 : Int32)) (v := (.int p6)) (by rw [e0]; exact Ar29.1) (State.isArrayOf_alike hZ.alike Ar29.2.1) Ar29.2.2 hin29 (Has.at Ha29 hin29 rfl) rfl rfl (hb hby d1_16) (XS.i2l X0.here hx rfl (hb hby d1_17) rfl (XS.iloadN X0.here hx rfl (hb hby d1_18) rfl (XS.i2l X0.here hx rfl (hb hby d1_19) rfl (XS.lmul X0.here hx rfl (hb hby d1_20) rfl (XS.lloadN X0.here hx rfl (hb hby d1_21) rfl (XS.lcmp X0.here hx rfl (hb hby d1_22) rfl k)))))))) ?_
        show OGl _ _ _ _ s₁ (mkF m 23 #[.val (.ref o0), .val (.long q1), .second, .val (.int p2), .val (.int (0 : Int32)), .val (.int (2 : Int32))] [(.int (lcmpW (((p6).toInt64) * ((p2).toInt64)) q1))])
        by_cases hc30 : q1 < (((p6).toInt64) * ((p2).toInt64))
        · obtain ⟨cl31, Ar31, -, Sz31, -, Ha31, -⟩ := id V_o0
          have hin31 : ¬ ((2 : Int32) < 0 ∨ cl31.slots.size ≤ ((2 : Int32)).toNatClampNeg) := inb_of Sz31 ⟨by decide, by decide⟩
          refine OGl.go (fun t k => XS.ifNo X0.here hx rfl (hb hby d1_23) rfl (own_tltL hc30).2.2.2 (XS.iload X0.here hx rfl (hb hby d1_26) rfl (XS.ifNo X0.here hx rfl (hb hby d1_28) rfl ((if0 _ _).trans (flt (by decide : ¬ ((0 : Int32) < (0 : Int32)))).1) (XS.aloadN X0.here hx rfl (hb hby d1_31) rfl rfl (XS.iload X0.here hx rfl (hb hby d1_32) rfl (own_iaload X0 hx (j := (2 : Int32)) (v := (.int p6)) (by rw [e0]; exact Ar31.1) (State.isArrayOf_alike hZ.alike Ar31.2.1) Ar31.2.2 hin31 (Has.at Ha31 hin31 rfl) rfl rfl (hb hby d1_34) (XS.aloadN X0.here hx rfl (hb hby d1_35) rfl rfl (XS.iload X0.here hx rfl (hb hby d1_36) rfl k)))))))) ?_
          show OGl _ _ _ _ s₁ (mkF m 38 #[.val (.ref o0), .val (.long q1), .second, .val (.int p2), .val (.int (0 : Int32)), .val (.int (2 : Int32))] [(.int (0 : Int32)), (.ref o0), (.int p6)])
          obtain ⟨cl32, Ar32, -, Sz32, -, Ha32, -⟩ := id V_o0
          have hin32 : ¬ ((0 : Int32) < 0 ∨ cl32.slots.size ≤ ((0 : Int32)).toNatClampNeg) := inb_of Sz32 ⟨by decide, by decide⟩
          refine OGl.go (fun t k => own_iaload X0 hx (j := (0 : Int32)) (v := (.int p4)) (by rw [e0]; exact Ar32.1) (State.isArrayOf_alike hZ.alike Ar32.2.1) Ar32.2.2 hin32 (Has.at Ha32 hin32 rfl) rfl rfl (hb hby d1_38) k) ?_
          show OGl _ _ _ _ s₁ (mkF m 39 #[.val (.ref o0), .val (.long q1), .second, .val (.int p2), .val (.int (0 : Int32)), .val (.int (2 : Int32))] [(.int p4), (.int p6)])
          by_cases hc33 : p4 < p6
          · obtain ⟨cl34, Ar34, -, Sz34, Nn34, -, -⟩ := id V_o0
            refine OGl.go (fun t k => XS.icmpNo X0.here hx rfl (hb hby d1_39) rfl (tlt hc33).2.2.2 (XS.iload X0.here hx rfl (hb hby d1_42) rfl (XS.istore X0.here hx rfl (hb hby d1_44) rfl (l' := #[.val (.ref o0), .val (.long q1), .second, .val (.int p2), .val (.int (2 : Int32)), .val (.int (2 : Int32))]) rfl (XS.iinc X0.here hx rfl (hb hby d1_46) rfl (l' := #[.val (.ref o0), .val (.long q1), .second, .val (.int p2), .val (.int (2 : Int32)), .val (.int (3 : Int32))]) rfl (XS.goto X0.here hx rfl (pc0 := 49) (pc' := 6) rfl (hb hby d1_49) (by decide) (by decide) (XS.iload X0.here hx rfl (hb hby d1_6) rfl (XS.aloadN X0.here hx rfl (hb hby d1_8) rfl rfl (own_len X0 hx (by rw [e0]; exact Ar34.1) (State.isArrayOf_alike hZ.alike Ar34.2.1) Sz34 Nn34 rfl rfl (hb hby d1_9) k)))))))) ?_
            show OGl _ _ _ _ s₁ (mkF m 10 #[.val (.ref o0), .val (.long q1), .second, .val (.int p2), .val (.int (2 : Int32)), .val (.int (3 : Int32))] [(.int (3 : Int32)), (.int (3 : Int32))])
            refine OGl.go (fun t k => XS.icmpYes X0.here hx rfl (pc0 := 10) (pc' := 52) rfl (hb hby d1_10) rfl (flt (by decide : ¬ ((3 : Int32) < (3 : Int32)))).2.1 (by decide) (by decide) (XS.iload X0.here hx rfl (hb hby d1_52) rfl k)) ?_
            show OGl _ _ _ _ s₁ (mkF m 54 #[.val (.ref o0), .val (.long q1), .second, .val (.int p2), .val (.int (2 : Int32)), .val (.int (3 : Int32))] [(.int (2 : Int32))])
            obtain ⟨fs, hr, hrun, hended, hW, hsame⟩ := X0.leave (v := some (.int (2 : Int32))) (fun h => by rw [Bd.returns] at h; cases h)
            refine ⟨_, _, retI X0 hx Bd.returns (hb hby d1_54) hr, hrun, hended, _, _, rfl, ?_, ⟨_, rfl⟩, hW, hsame.mono (by decide) (by decide)⟩
            have hv66 : (t1_0 q1 p2 p4 p5 p6) = (2 : Int32) := by unfold t1_0; rw [if_pos hc12, if_pos hc15, if_neg hc18, if_pos hc30, if_pos hc33]
            show Q1 Z o0 q1 p2 k3 p4 p5 p6 h0 n0 _ s₁.heap _
            rw [e0]
            exact ⟨(by rw [hv66]), N0, rfl⟩
          · obtain ⟨cl35, Ar35, -, Sz35, Nn35, -, -⟩ := id V_o0
            refine OGl.go (fun t k => XS.icmpYes X0.here hx rfl (pc0 := 39) (pc' := 46) rfl (hb hby d1_39) rfl (flt hc33).2.2.2 (by decide) (by decide) (XS.iinc X0.here hx rfl (hb hby d1_46) rfl (l' := #[.val (.ref o0), .val (.long q1), .second, .val (.int p2), .val (.int (0 : Int32)), .val (.int (3 : Int32))]) rfl (XS.goto X0.here hx rfl (pc0 := 49) (pc' := 6) rfl (hb hby d1_49) (by decide) (by decide) (XS.iload X0.here hx rfl (hb hby d1_6) rfl (XS.aloadN X0.here hx rfl (hb hby d1_8) rfl rfl (own_len X0 hx (by rw [e0]; exact Ar35.1) (State.isArrayOf_alike hZ.alike Ar35.2.1) Sz35 Nn35 rfl rfl (hb hby d1_9) (XS.icmpYes X0.here hx rfl (pc0 := 10) (pc' := 52) rfl (hb hby d1_10) rfl (flt (by decide : ¬ ((3 : Int32) < (3 : Int32)))).2.1 (by decide) (by decide) (XS.iload X0.here hx rfl (hb hby d1_52) rfl k)))))))) ?_
            show OGl _ _ _ _ s₁ (mkF m 54 #[.val (.ref o0), .val (.long q1), .second, .val (.int p2), .val (.int (0 : Int32)), .val (.int (3 : Int32))] [(.int (0 : Int32))])
            obtain ⟨fs, hr, hrun, hended, hW, hsame⟩ := X0.leave (v := some (.int (0 : Int32))) (fun h => by rw [Bd.returns] at h; cases h)
            refine ⟨_, _, retI X0 hx Bd.returns (hb hby d1_54) hr, hrun, hended, _, _, rfl, ?_, ⟨_, rfl⟩, hW, hsame.mono (by decide) (by decide)⟩
            have hv67 : (t1_0 q1 p2 p4 p5 p6) = (0 : Int32) := by unfold t1_0; rw [if_pos hc12, if_pos hc15, if_neg hc18, if_pos hc30, if_neg hc33]
            show Q1 Z o0 q1 p2 k3 p4 p5 p6 h0 n0 _ s₁.heap _
            rw [e0]
            exact ⟨(by rw [hv67]), N0, rfl⟩
        · obtain ⟨cl36, Ar36, -, Sz36, Nn36, -, -⟩ := id V_o0
          refine OGl.go (fun t k => XS.ifYes X0.here hx rfl (pc0 := 23) (pc' := 46) rfl (hb hby d1_23) rfl (own_fltL hc30).2.2.2 (by decide) (by decide) (XS.iinc X0.here hx rfl (hb hby d1_46) rfl (l' := #[.val (.ref o0), .val (.long q1), .second, .val (.int p2), .val (.int (0 : Int32)), .val (.int (3 : Int32))]) rfl (XS.goto X0.here hx rfl (pc0 := 49) (pc' := 6) rfl (hb hby d1_49) (by decide) (by decide) (XS.iload X0.here hx rfl (hb hby d1_6) rfl (XS.aloadN X0.here hx rfl (hb hby d1_8) rfl rfl (own_len X0 hx (by rw [e0]; exact Ar36.1) (State.isArrayOf_alike hZ.alike Ar36.2.1) Sz36 Nn36 rfl rfl (hb hby d1_9) (XS.icmpYes X0.here hx rfl (pc0 := 10) (pc' := 52) rfl (hb hby d1_10) rfl (flt (by decide : ¬ ((3 : Int32) < (3 : Int32)))).2.1 (by decide) (by decide) (XS.iload X0.here hx rfl (hb hby d1_52) rfl k)))))))) ?_
          show OGl _ _ _ _ s₁ (mkF m 54 #[.val (.ref o0), .val (.long q1), .second, .val (.int p2), .val (.int (0 : Int32)), .val (.int (3 : Int32))] [(.int (0 : Int32))])
          obtain ⟨fs, hr, hrun, hended, hW, hsame⟩ := X0.leave (v := some (.int (0 : Int32))) (fun h => by rw [Bd.returns] at h; cases h)
          refine ⟨_, _, retI X0 hx Bd.returns (hb hby d1_54) hr, hrun, hended, _, _, rfl, ?_, ⟨_, rfl⟩, hW, hsame.mono (by decide) (by decide)⟩
          have hv68 : (t1_0 q1 p2 p4 p5 p6) = (0 : Int32) := by unfold t1_0; rw [if_pos hc12, if_pos hc15, if_neg hc18, if_neg hc30]
          show Q1 Z o0 q1 p2 k3 p4 p5 p6 h0 n0 _ s₁.heap _
          rw [e0]
          exact ⟨(by rw [hv68]), N0, rfl⟩
    · obtain ⟨cl37, Ar37, -, Sz37, Nn37, -, -⟩ := id V_o0
      refine OGl.go (fun t k => XS.ifYes X0.here hx rfl (pc0 := 23) (pc' := 46) rfl (hb hby d1_23) rfl (own_fltL hc15).2.2.2 (by decide) (by decide) (XS.iinc X0.here hx rfl (hb hby d1_46) rfl (l' := #[.val (.ref o0), .val (.long q1), .second, .val (.int p2), .val (.int (0 : Int32)), .val (.int (2 : Int32))]) rfl (XS.goto X0.here hx rfl (pc0 := 49) (pc' := 6) rfl (hb hby d1_49) (by decide) (by decide) (XS.iload X0.here hx rfl (hb hby d1_6) rfl (XS.aloadN X0.here hx rfl (hb hby d1_8) rfl rfl (own_len X0 hx (by rw [e0]; exact Ar37.1) (State.isArrayOf_alike hZ.alike Ar37.2.1) Sz37 Nn37 rfl rfl (hb hby d1_9) (XS.icmpNo X0.here hx rfl (hb hby d1_10) rfl (tlt (by decide : (2 : Int32) < (3 : Int32))).2.1 (XS.aloadN X0.here hx rfl (hb hby d1_13) rfl rfl k)))))))) ?_
      show OGl _ _ _ _ s₁ (mkF m 14 #[.val (.ref o0), .val (.long q1), .second, .val (.int p2), .val (.int (0 : Int32)), .val (.int (2 : Int32))] [(.ref o0)])
      obtain ⟨cl38, Ar38, -, Sz38, -, Ha38, -⟩ := id V_o0
      have hin38 : ¬ ((2 : Int32) < 0 ∨ cl38.slots.size ≤ ((2 : Int32)).toNatClampNeg) := inb_of Sz38 ⟨by decide, by decide⟩
      refine OGl.go (fun t k => XS.iload X0.here hx rfl (hb hby d1_14) rfl (own_iaload X0 hx (j := (2 : Int32)) (v := (.int p6)) (by rw [e0]; exact Ar38.1) (State.isArrayOf_alike hZ.alike Ar38.2.1) Ar38.2.2 hin38 (Has.at Ha38 hin38 rfl) rfl rfl (hb hby d1_16) (XS.i2l X0.here hx rfl (hb hby d1_17) rfl (XS.iloadN X0.here hx rfl (hb hby d1_18) rfl (XS.i2l X0.here hx rfl (hb hby d1_19) rfl (XS.lmul X0.here hx rfl (hb hby d1_20) rfl (XS.lloadN X0.here hx rfl (hb hby d1_21) rfl (XS.lcmp X0.here hx rfl (hb hby d1_22) rfl k)))))))) ?_
      show OGl _ _ _ _ s₁ (mkF m 23 #[.val (.ref o0), .val (.long q1), .second, .val (.int p2), .val (.int (0 : Int32)), .val (.int (2 : Int32))] [(.int (lcmpW (((p6).toInt64) * ((p2).toInt64)) q1))])
      by_cases hc39 : q1 < (((p6).toInt64) * ((p2).toInt64))
      · obtain ⟨cl40, Ar40, -, Sz40, -, Ha40, -⟩ := id V_o0
        have hin40 : ¬ ((2 : Int32) < 0 ∨ cl40.slots.size ≤ ((2 : Int32)).toNatClampNeg) := inb_of Sz40 ⟨by decide, by decide⟩
        refine OGl.go (fun t k => XS.ifNo X0.here hx rfl (hb hby d1_23) rfl (own_tltL hc39).2.2.2 (XS.iload X0.here hx rfl (hb hby d1_26) rfl (XS.ifNo X0.here hx rfl (hb hby d1_28) rfl ((if0 _ _).trans (flt (by decide : ¬ ((0 : Int32) < (0 : Int32)))).1) (XS.aloadN X0.here hx rfl (hb hby d1_31) rfl rfl (XS.iload X0.here hx rfl (hb hby d1_32) rfl (own_iaload X0 hx (j := (2 : Int32)) (v := (.int p6)) (by rw [e0]; exact Ar40.1) (State.isArrayOf_alike hZ.alike Ar40.2.1) Ar40.2.2 hin40 (Has.at Ha40 hin40 rfl) rfl rfl (hb hby d1_34) (XS.aloadN X0.here hx rfl (hb hby d1_35) rfl rfl (XS.iload X0.here hx rfl (hb hby d1_36) rfl k)))))))) ?_
        show OGl _ _ _ _ s₁ (mkF m 38 #[.val (.ref o0), .val (.long q1), .second, .val (.int p2), .val (.int (0 : Int32)), .val (.int (2 : Int32))] [(.int (0 : Int32)), (.ref o0), (.int p6)])
        obtain ⟨cl41, Ar41, -, Sz41, -, Ha41, -⟩ := id V_o0
        have hin41 : ¬ ((0 : Int32) < 0 ∨ cl41.slots.size ≤ ((0 : Int32)).toNatClampNeg) := inb_of Sz41 ⟨by decide, by decide⟩
        refine OGl.go (fun t k => own_iaload X0 hx (j := (0 : Int32)) (v := (.int p4)) (by rw [e0]; exact Ar41.1) (State.isArrayOf_alike hZ.alike Ar41.2.1) Ar41.2.2 hin41 (Has.at Ha41 hin41 rfl) rfl rfl (hb hby d1_38) k) ?_
        show OGl _ _ _ _ s₁ (mkF m 39 #[.val (.ref o0), .val (.long q1), .second, .val (.int p2), .val (.int (0 : Int32)), .val (.int (2 : Int32))] [(.int p4), (.int p6)])
        by_cases hc42 : p4 < p6
        · obtain ⟨cl43, Ar43, -, Sz43, Nn43, -, -⟩ := id V_o0
          refine OGl.go (fun t k => XS.icmpNo X0.here hx rfl (hb hby d1_39) rfl (tlt hc42).2.2.2 (XS.iload X0.here hx rfl (hb hby d1_42) rfl (XS.istore X0.here hx rfl (hb hby d1_44) rfl (l' := #[.val (.ref o0), .val (.long q1), .second, .val (.int p2), .val (.int (2 : Int32)), .val (.int (2 : Int32))]) rfl (XS.iinc X0.here hx rfl (hb hby d1_46) rfl (l' := #[.val (.ref o0), .val (.long q1), .second, .val (.int p2), .val (.int (2 : Int32)), .val (.int (3 : Int32))]) rfl (XS.goto X0.here hx rfl (pc0 := 49) (pc' := 6) rfl (hb hby d1_49) (by decide) (by decide) (XS.iload X0.here hx rfl (hb hby d1_6) rfl (XS.aloadN X0.here hx rfl (hb hby d1_8) rfl rfl (own_len X0 hx (by rw [e0]; exact Ar43.1) (State.isArrayOf_alike hZ.alike Ar43.2.1) Sz43 Nn43 rfl rfl (hb hby d1_9) k)))))))) ?_
          show OGl _ _ _ _ s₁ (mkF m 10 #[.val (.ref o0), .val (.long q1), .second, .val (.int p2), .val (.int (2 : Int32)), .val (.int (3 : Int32))] [(.int (3 : Int32)), (.int (3 : Int32))])
          refine OGl.go (fun t k => XS.icmpYes X0.here hx rfl (pc0 := 10) (pc' := 52) rfl (hb hby d1_10) rfl (flt (by decide : ¬ ((3 : Int32) < (3 : Int32)))).2.1 (by decide) (by decide) (XS.iload X0.here hx rfl (hb hby d1_52) rfl k)) ?_
          show OGl _ _ _ _ s₁ (mkF m 54 #[.val (.ref o0), .val (.long q1), .second, .val (.int p2), .val (.int (2 : Int32)), .val (.int (3 : Int32))] [(.int (2 : Int32))])
          obtain ⟨fs, hr, hrun, hended, hW, hsame⟩ := X0.leave (v := some (.int (2 : Int32))) (fun h => by rw [Bd.returns] at h; cases h)
          refine ⟨_, _, retI X0 hx Bd.returns (hb hby d1_54) hr, hrun, hended, _, _, rfl, ?_, ⟨_, rfl⟩, hW, hsame.mono (by decide) (by decide)⟩
          have hv69 : (t1_0 q1 p2 p4 p5 p6) = (2 : Int32) := by unfold t1_0; rw [if_pos hc12, if_neg hc15, if_pos hc39, if_pos hc42]
          show Q1 Z o0 q1 p2 k3 p4 p5 p6 h0 n0 _ s₁.heap _
          rw [e0]
          exact ⟨(by rw [hv69]), N0, rfl⟩
        · obtain ⟨cl44, Ar44, -, Sz44, Nn44, -, -⟩ := id V_o0
          refine OGl.go (fun t k => XS.icmpYes X0.here hx rfl (pc0 := 39) (pc' := 46) rfl (hb hby d1_39) rfl (flt hc42).2.2.2 (by decide) (by decide) (XS.iinc X0.here hx rfl (hb hby d1_46) rfl (l' := #[.val (.ref o0), .val (.long q1), .second, .val (.int p2), .val (.int (0 : Int32)), .val (.int (3 : Int32))]) rfl (XS.goto X0.here hx rfl (pc0 := 49) (pc' := 6) rfl (hb hby d1_49) (by decide) (by decide) (XS.iload X0.here hx rfl (hb hby d1_6) rfl (XS.aloadN X0.here hx rfl (hb hby d1_8) rfl rfl (own_len X0 hx (by rw [e0]; exact Ar44.1) (State.isArrayOf_alike hZ.alike Ar44.2.1) Sz44 Nn44 rfl rfl (hb hby d1_9) (XS.icmpYes X0.here hx rfl (pc0 := 10) (pc' := 52) rfl (hb hby d1_10) rfl (flt (by decide : ¬ ((3 : Int32) < (3 : Int32)))).2.1 (by decide) (by decide) (XS.iload X0.here hx rfl (hb hby d1_52) rfl k)))))))) ?_
          show OGl _ _ _ _ s₁ (mkF m 54 #[.val (.ref o0), .val (.long q1), .second, .val (.int p2), .val (.int (0 : Int32)), .val (.int (3 : Int32))] [(.int (0 : Int32))])
          obtain ⟨fs, hr, hrun, hended, hW, hsame⟩ := X0.leave (v := some (.int (0 : Int32))) (fun h => by rw [Bd.returns] at h; cases h)
          refine ⟨_, _, retI X0 hx Bd.returns (hb hby d1_54) hr, hrun, hended, _, _, rfl, ?_, ⟨_, rfl⟩, hW, hsame.mono (by decide) (by decide)⟩
          have hv70 : (t1_0 q1 p2 p4 p5 p6) = (0 : Int32) := by unfold t1_0; rw [if_pos hc12, if_neg hc15, if_pos hc39, if_neg hc42]
          show Q1 Z o0 q1 p2 k3 p4 p5 p6 h0 n0 _ s₁.heap _
          rw [e0]
          exact ⟨(by rw [hv70]), N0, rfl⟩
      · obtain ⟨cl45, Ar45, -, Sz45, Nn45, -, -⟩ := id V_o0
        refine OGl.go (fun t k => XS.ifYes X0.here hx rfl (pc0 := 23) (pc' := 46) rfl (hb hby d1_23) rfl (own_fltL hc39).2.2.2 (by decide) (by decide) (XS.iinc X0.here hx rfl (hb hby d1_46) rfl (l' := #[.val (.ref o0), .val (.long q1), .second, .val (.int p2), .val (.int (0 : Int32)), .val (.int (3 : Int32))]) rfl (XS.goto X0.here hx rfl (pc0 := 49) (pc' := 6) rfl (hb hby d1_49) (by decide) (by decide) (XS.iload X0.here hx rfl (hb hby d1_6) rfl (XS.aloadN X0.here hx rfl (hb hby d1_8) rfl rfl (own_len X0 hx (by rw [e0]; exact Ar45.1) (State.isArrayOf_alike hZ.alike Ar45.2.1) Sz45 Nn45 rfl rfl (hb hby d1_9) (XS.icmpYes X0.here hx rfl (pc0 := 10) (pc' := 52) rfl (hb hby d1_10) rfl (flt (by decide : ¬ ((3 : Int32) < (3 : Int32)))).2.1 (by decide) (by decide) (XS.iload X0.here hx rfl (hb hby d1_52) rfl k)))))))) ?_
        show OGl _ _ _ _ s₁ (mkF m 54 #[.val (.ref o0), .val (.long q1), .second, .val (.int p2), .val (.int (0 : Int32)), .val (.int (3 : Int32))] [(.int (0 : Int32))])
        obtain ⟨fs, hr, hrun, hended, hW, hsame⟩ := X0.leave (v := some (.int (0 : Int32))) (fun h => by rw [Bd.returns] at h; cases h)
        refine ⟨_, _, retI X0 hx Bd.returns (hb hby d1_54) hr, hrun, hended, _, _, rfl, ?_, ⟨_, rfl⟩, hW, hsame.mono (by decide) (by decide)⟩
        have hv71 : (t1_0 q1 p2 p4 p5 p6) = (0 : Int32) := by unfold t1_0; rw [if_pos hc12, if_neg hc15, if_neg hc39]
        show Q1 Z o0 q1 p2 k3 p4 p5 p6 h0 n0 _ s₁.heap _
        rw [e0]
        exact ⟨(by rw [hv71]), N0, rfl⟩
  · obtain ⟨cl46, Ar46, -, Sz46, Nn46, -, -⟩ := id V_o0
    refine OGl.go (fun t k => XS.ifYes X0.here hx rfl (pc0 := 23) (pc' := 46) rfl (hb hby d1_23) rfl (own_fltL hc12).2.2.2 (by decide) (by decide) (XS.iinc X0.here hx rfl (hb hby d1_46) rfl (l' := #[.val (.ref o0), .val (.long q1), .second, .val (.int p2), .val (.int (-1 : Int32)), .val (.int (1 : Int32))]) rfl (XS.goto X0.here hx rfl (pc0 := 49) (pc' := 6) rfl (hb hby d1_49) (by decide) (by decide) (XS.iload X0.here hx rfl (hb hby d1_6) rfl (XS.aloadN X0.here hx rfl (hb hby d1_8) rfl rfl (own_len X0 hx (by rw [e0]; exact Ar46.1) (State.isArrayOf_alike hZ.alike Ar46.2.1) Sz46 Nn46 rfl rfl (hb hby d1_9) (XS.icmpNo X0.here hx rfl (hb hby d1_10) rfl (tlt (by decide : (1 : Int32) < (3 : Int32))).2.1 (XS.aloadN X0.here hx rfl (hb hby d1_13) rfl rfl k)))))))) ?_
    show OGl _ _ _ _ s₁ (mkF m 14 #[.val (.ref o0), .val (.long q1), .second, .val (.int p2), .val (.int (-1 : Int32)), .val (.int (1 : Int32))] [(.ref o0)])
    obtain ⟨cl47, Ar47, -, Sz47, -, Ha47, -⟩ := id V_o0
    have hin47 : ¬ ((1 : Int32) < 0 ∨ cl47.slots.size ≤ ((1 : Int32)).toNatClampNeg) := inb_of Sz47 ⟨by decide, by decide⟩
    refine OGl.go (fun t k => XS.iload X0.here hx rfl (hb hby d1_14) rfl (own_iaload X0 hx (j := (1 : Int32)) (v := (.int p5)) (by rw [e0]; exact Ar47.1) (State.isArrayOf_alike hZ.alike Ar47.2.1) Ar47.2.2 hin47 (Has.at Ha47 hin47 rfl) rfl rfl (hb hby d1_16) (XS.i2l X0.here hx rfl (hb hby d1_17) rfl (XS.iloadN X0.here hx rfl (hb hby d1_18) rfl (XS.i2l X0.here hx rfl (hb hby d1_19) rfl (XS.lmul X0.here hx rfl (hb hby d1_20) rfl (XS.lloadN X0.here hx rfl (hb hby d1_21) rfl (XS.lcmp X0.here hx rfl (hb hby d1_22) rfl k)))))))) ?_
    show OGl _ _ _ _ s₁ (mkF m 23 #[.val (.ref o0), .val (.long q1), .second, .val (.int p2), .val (.int (-1 : Int32)), .val (.int (1 : Int32))] [(.int (lcmpW (((p5).toInt64) * ((p2).toInt64)) q1))])
    by_cases hc48 : q1 < (((p5).toInt64) * ((p2).toInt64))
    · refine OGl.go (fun t k => XS.ifNo X0.here hx rfl (hb hby d1_23) rfl (own_tltL hc48).2.2.2 (XS.iload X0.here hx rfl (hb hby d1_26) rfl (XS.ifYes X0.here hx rfl (pc0 := 28) (pc' := 42) rfl (hb hby d1_28) rfl ((if0 _ _).trans (tlt (by decide : (-1 : Int32) < (0 : Int32))).1) (by decide) (by decide) (XS.iload X0.here hx rfl (hb hby d1_42) rfl (XS.istore X0.here hx rfl (hb hby d1_44) rfl (l' := #[.val (.ref o0), .val (.long q1), .second, .val (.int p2), .val (.int (1 : Int32)), .val (.int (1 : Int32))]) rfl (XS.iinc X0.here hx rfl (hb hby d1_46) rfl (l' := #[.val (.ref o0), .val (.long q1), .second, .val (.int p2), .val (.int (1 : Int32)), .val (.int (2 : Int32))]) rfl (XS.goto X0.here hx rfl (pc0 := 49) (pc' := 6) rfl (hb hby d1_49) (by decide) (by decide) (XS.iload X0.here hx rfl (hb hby d1_6) rfl k)))))))) ?_
      show OGl _ _ _ _ s₁ (mkF m 8 #[.val (.ref o0), .val (.long q1), .second, .val (.int p2), .val (.int (1 : Int32)), .val (.int (2 : Int32))] [(.int (2 : Int32))])
      obtain ⟨cl49, Ar49, -, Sz49, Nn49, -, -⟩ := id V_o0
      obtain ⟨cl50, Ar50, -, Sz50, -, Ha50, -⟩ := id V_o0
      have hin50 : ¬ ((2 : Int32) < 0 ∨ cl50.slots.size ≤ ((2 : Int32)).toNatClampNeg) := inb_of Sz50 ⟨by decide, by decide⟩
      refine OGl.go (fun t k => XS.aloadN X0.here hx rfl (hb hby d1_8) rfl rfl (own_len X0 hx (by rw [e0]; exact Ar49.1) (State.isArrayOf_alike hZ.alike Ar49.2.1) Sz49 Nn49 rfl rfl (hb hby d1_9) (XS.icmpNo X0.here hx rfl (hb hby d1_10) rfl (tlt (by decide : (2 : Int32) < (3 : Int32))).2.1 (XS.aloadN X0.here hx rfl (hb hby d1_13) rfl rfl (XS.iload X0.here hx rfl (hb hby d1_14) rfl (own_iaload X0 hx (j := (2 : Int32)) (v := (.int p6)) (by rw [e0]; exact Ar50.1) (State.isArrayOf_alike hZ.alike Ar50.2.1) Ar50.2.2 hin50 (Has.at Ha50 hin50 rfl) rfl rfl (hb hby d1_16) (XS.i2l X0.here hx rfl (hb hby d1_17) rfl (XS.iloadN X0.here hx rfl (hb hby d1_18) rfl k)))))))) ?_
      show OGl _ _ _ _ s₁ (mkF m 19 #[.val (.ref o0), .val (.long q1), .second, .val (.int p2), .val (.int (1 : Int32)), .val (.int (2 : Int32))] [(.int p2), (.long ((p6).toInt64))])
      refine OGl.go (fun t k => XS.i2l X0.here hx rfl (hb hby d1_19) rfl (XS.lmul X0.here hx rfl (hb hby d1_20) rfl (XS.lloadN X0.here hx rfl (hb hby d1_21) rfl (XS.lcmp X0.here hx rfl (hb hby d1_22) rfl k)))) ?_
      show OGl _ _ _ _ s₁ (mkF m 23 #[.val (.ref o0), .val (.long q1), .second, .val (.int p2), .val (.int (1 : Int32)), .val (.int (2 : Int32))] [(.int (lcmpW (((p6).toInt64) * ((p2).toInt64)) q1))])
      by_cases hc51 : q1 < (((p6).toInt64) * ((p2).toInt64))
      · obtain ⟨cl52, Ar52, -, Sz52, -, Ha52, -⟩ := id V_o0
        have hin52 : ¬ ((2 : Int32) < 0 ∨ cl52.slots.size ≤ ((2 : Int32)).toNatClampNeg) := inb_of Sz52 ⟨by decide, by decide⟩
        refine OGl.go (fun t k => XS.ifNo X0.here hx rfl (hb hby d1_23) rfl (own_tltL hc51).2.2.2 (XS.iload X0.here hx rfl (hb hby d1_26) rfl (XS.ifNo X0.here hx rfl (hb hby d1_28) rfl ((if0 _ _).trans (flt (by decide : ¬ ((1 : Int32) < (0 : Int32)))).1) (XS.aloadN X0.here hx rfl (hb hby d1_31) rfl rfl (XS.iload X0.here hx rfl (hb hby d1_32) rfl (own_iaload X0 hx (j := (2 : Int32)) (v := (.int p6)) (by rw [e0]; exact Ar52.1) (State.isArrayOf_alike hZ.alike Ar52.2.1) Ar52.2.2 hin52 (Has.at Ha52 hin52 rfl) rfl rfl (hb hby d1_34) (XS.aloadN X0.here hx rfl (hb hby d1_35) rfl rfl (XS.iload X0.here hx rfl (hb hby d1_36) rfl k)))))))) ?_
        show OGl _ _ _ _ s₁ (mkF m 38 #[.val (.ref o0), .val (.long q1), .second, .val (.int p2), .val (.int (1 : Int32)), .val (.int (2 : Int32))] [(.int (1 : Int32)), (.ref o0), (.int p6)])
        obtain ⟨cl53, Ar53, -, Sz53, -, Ha53, -⟩ := id V_o0
        have hin53 : ¬ ((1 : Int32) < 0 ∨ cl53.slots.size ≤ ((1 : Int32)).toNatClampNeg) := inb_of Sz53 ⟨by decide, by decide⟩
        refine OGl.go (fun t k => own_iaload X0 hx (j := (1 : Int32)) (v := (.int p5)) (by rw [e0]; exact Ar53.1) (State.isArrayOf_alike hZ.alike Ar53.2.1) Ar53.2.2 hin53 (Has.at Ha53 hin53 rfl) rfl rfl (hb hby d1_38) k) ?_
        show OGl _ _ _ _ s₁ (mkF m 39 #[.val (.ref o0), .val (.long q1), .second, .val (.int p2), .val (.int (1 : Int32)), .val (.int (2 : Int32))] [(.int p5), (.int p6)])
        by_cases hc54 : p5 < p6
        · obtain ⟨cl55, Ar55, -, Sz55, Nn55, -, -⟩ := id V_o0
          refine OGl.go (fun t k => XS.icmpNo X0.here hx rfl (hb hby d1_39) rfl (tlt hc54).2.2.2 (XS.iload X0.here hx rfl (hb hby d1_42) rfl (XS.istore X0.here hx rfl (hb hby d1_44) rfl (l' := #[.val (.ref o0), .val (.long q1), .second, .val (.int p2), .val (.int (2 : Int32)), .val (.int (2 : Int32))]) rfl (XS.iinc X0.here hx rfl (hb hby d1_46) rfl (l' := #[.val (.ref o0), .val (.long q1), .second, .val (.int p2), .val (.int (2 : Int32)), .val (.int (3 : Int32))]) rfl (XS.goto X0.here hx rfl (pc0 := 49) (pc' := 6) rfl (hb hby d1_49) (by decide) (by decide) (XS.iload X0.here hx rfl (hb hby d1_6) rfl (XS.aloadN X0.here hx rfl (hb hby d1_8) rfl rfl (own_len X0 hx (by rw [e0]; exact Ar55.1) (State.isArrayOf_alike hZ.alike Ar55.2.1) Sz55 Nn55 rfl rfl (hb hby d1_9) k)))))))) ?_
          show OGl _ _ _ _ s₁ (mkF m 10 #[.val (.ref o0), .val (.long q1), .second, .val (.int p2), .val (.int (2 : Int32)), .val (.int (3 : Int32))] [(.int (3 : Int32)), (.int (3 : Int32))])
          refine OGl.go (fun t k => XS.icmpYes X0.here hx rfl (pc0 := 10) (pc' := 52) rfl (hb hby d1_10) rfl (flt (by decide : ¬ ((3 : Int32) < (3 : Int32)))).2.1 (by decide) (by decide) (XS.iload X0.here hx rfl (hb hby d1_52) rfl k)) ?_
          show OGl _ _ _ _ s₁ (mkF m 54 #[.val (.ref o0), .val (.long q1), .second, .val (.int p2), .val (.int (2 : Int32)), .val (.int (3 : Int32))] [(.int (2 : Int32))])
          obtain ⟨fs, hr, hrun, hended, hW, hsame⟩ := X0.leave (v := some (.int (2 : Int32))) (fun h => by rw [Bd.returns] at h; cases h)
          refine ⟨_, _, retI X0 hx Bd.returns (hb hby d1_54) hr, hrun, hended, _, _, rfl, ?_, ⟨_, rfl⟩, hW, hsame.mono (by decide) (by decide)⟩
          have hv72 : (t1_0 q1 p2 p4 p5 p6) = (2 : Int32) := by unfold t1_0; rw [if_neg hc12, if_pos hc48, if_pos hc51, if_pos hc54]
          show Q1 Z o0 q1 p2 k3 p4 p5 p6 h0 n0 _ s₁.heap _
          rw [e0]
          exact ⟨(by rw [hv72]), N0, rfl⟩
        · obtain ⟨cl56, Ar56, -, Sz56, Nn56, -, -⟩ := id V_o0
          refine OGl.go (fun t k => XS.icmpYes X0.here hx rfl (pc0 := 39) (pc' := 46) rfl (hb hby d1_39) rfl (flt hc54).2.2.2 (by decide) (by decide) (XS.iinc X0.here hx rfl (hb hby d1_46) rfl (l' := #[.val (.ref o0), .val (.long q1), .second, .val (.int p2), .val (.int (1 : Int32)), .val (.int (3 : Int32))]) rfl (XS.goto X0.here hx rfl (pc0 := 49) (pc' := 6) rfl (hb hby d1_49) (by decide) (by decide) (XS.iload X0.here hx rfl (hb hby d1_6) rfl (XS.aloadN X0.here hx rfl (hb hby d1_8) rfl rfl (own_len X0 hx (by rw [e0]; exact Ar56.1) (State.isArrayOf_alike hZ.alike Ar56.2.1) Sz56 Nn56 rfl rfl (hb hby d1_9) (XS.icmpYes X0.here hx rfl (pc0 := 10) (pc' := 52) rfl (hb hby d1_10) rfl (flt (by decide : ¬ ((3 : Int32) < (3 : Int32)))).2.1 (by decide) (by decide) (XS.iload X0.here hx rfl (hb hby d1_52) rfl k)))))))) ?_
          show OGl _ _ _ _ s₁ (mkF m 54 #[.val (.ref o0), .val (.long q1), .second, .val (.int p2), .val (.int (1 : Int32)), .val (.int (3 : Int32))] [(.int (1 : Int32))])
          obtain ⟨fs, hr, hrun, hended, hW, hsame⟩ := X0.leave (v := some (.int (1 : Int32))) (fun h => by rw [Bd.returns] at h; cases h)
          refine ⟨_, _, retI X0 hx Bd.returns (hb hby d1_54) hr, hrun, hended, _, _, rfl, ?_, ⟨_, rfl⟩, hW, hsame.mono (by decide) (by decide)⟩
          have hv73 : (t1_0 q1 p2 p4 p5 p6) = (1 : Int32) := by unfold t1_0; rw [if_neg hc12, if_pos hc48, if_pos hc51, if_neg hc54]
          show Q1 Z o0 q1 p2 k3 p4 p5 p6 h0 n0 _ s₁.heap _
          rw [e0]
          exact ⟨(by rw [hv73]), N0, rfl⟩
      · obtain ⟨cl57, Ar57, -, Sz57, Nn57, -, -⟩ := id V_o0
        refine OGl.go (fun t k => XS.ifYes X0.here hx rfl (pc0 := 23) (pc' := 46) rfl (hb hby d1_23) rfl (own_fltL hc51).2.2.2 (by decide) (by decide) (XS.iinc X0.here hx rfl (hb hby d1_46) rfl (l' := #[.val (.ref o0), .val (.long q1), .second, .val (.int p2), .val (.int (1 : Int32)), .val (.int (3 : Int32))]) rfl (XS.goto X0.here hx rfl (pc0 := 49) (pc' := 6) rfl (hb hby d1_49) (by decide) (by decide) (XS.iload X0.here hx rfl (hb hby d1_6) rfl (XS.aloadN X0.here hx rfl (hb hby d1_8) rfl rfl (own_len X0 hx (by rw [e0]; exact Ar57.1) (State.isArrayOf_alike hZ.alike Ar57.2.1) Sz57 Nn57 rfl rfl (hb hby d1_9) (XS.icmpYes X0.here hx rfl (pc0 := 10) (pc' := 52) rfl (hb hby d1_10) rfl (flt (by decide : ¬ ((3 : Int32) < (3 : Int32)))).2.1 (by decide) (by decide) (XS.iload X0.here hx rfl (hb hby d1_52) rfl k)))))))) ?_
        show OGl _ _ _ _ s₁ (mkF m 54 #[.val (.ref o0), .val (.long q1), .second, .val (.int p2), .val (.int (1 : Int32)), .val (.int (3 : Int32))] [(.int (1 : Int32))])
        obtain ⟨fs, hr, hrun, hended, hW, hsame⟩ := X0.leave (v := some (.int (1 : Int32))) (fun h => by rw [Bd.returns] at h; cases h)
        refine ⟨_, _, retI X0 hx Bd.returns (hb hby d1_54) hr, hrun, hended, _, _, rfl, ?_, ⟨_, rfl⟩, hW, hsame.mono (by decide) (by decide)⟩
        have hv74 : (t1_0 q1 p2 p4 p5 p6) = (1 : Int32) := by unfold t1_0; rw [if_neg hc12, if_pos hc48, if_neg hc51]
        show Q1 Z o0 q1 p2 k3 p4 p5 p6 h0 n0 _ s₁.heap _
        rw [e0]
        exact ⟨(by rw [hv74]), N0, rfl⟩
    · obtain ⟨cl58, Ar58, -, Sz58, Nn58, -, -⟩ := id V_o0
      refine OGl.go (fun t k => XS.ifYes X0.here hx rfl (pc0 := 23) (pc' := 46) rfl (hb hby d1_23) rfl (own_fltL hc48).2.2.2 (by decide) (by decide) (XS.iinc X0.here hx rfl (hb hby d1_46) rfl (l' := #[.val (.ref o0), .val (.long q1), .second, .val (.int p2), .val (.int (-1 : Int32)), .val (.int (2 : Int32))]) rfl (XS.goto X0.here hx rfl (pc0 := 49) (pc' := 6) rfl (hb hby d1_49) (by decide) (by decide) (XS.iload X0.here hx rfl (hb hby d1_6) rfl (XS.aloadN X0.here hx rfl (hb hby d1_8) rfl rfl (own_len X0 hx (by rw [e0]; exact Ar58.1) (State.isArrayOf_alike hZ.alike Ar58.2.1) Sz58 Nn58 rfl rfl (hb hby d1_9) (XS.icmpNo X0.here hx rfl (hb hby d1_10) rfl (tlt (by decide : (2 : Int32) < (3 : Int32))).2.1 (XS.aloadN X0.here hx rfl (hb hby d1_13) rfl rfl k)))))))) ?_
      show OGl _ _ _ _ s₁ (mkF m 14 #[.val (.ref o0), .val (.long q1), .second, .val (.int p2), .val (.int (-1 : Int32)), .val (.int (2 : Int32))] [(.ref o0)])
      obtain ⟨cl59, Ar59, -, Sz59, -, Ha59, -⟩ := id V_o0
      have hin59 : ¬ ((2 : Int32) < 0 ∨ cl59.slots.size ≤ ((2 : Int32)).toNatClampNeg) := inb_of Sz59 ⟨by decide, by decide⟩
      refine OGl.go (fun t k => XS.iload X0.here hx rfl (hb hby d1_14) rfl (own_iaload X0 hx (j := (2 : Int32)) (v := (.int p6)) (by rw [e0]; exact Ar59.1) (State.isArrayOf_alike hZ.alike Ar59.2.1) Ar59.2.2 hin59 (Has.at Ha59 hin59 rfl) rfl rfl (hb hby d1_16) (XS.i2l X0.here hx rfl (hb hby d1_17) rfl (XS.iloadN X0.here hx rfl (hb hby d1_18) rfl (XS.i2l X0.here hx rfl (hb hby d1_19) rfl (XS.lmul X0.here hx rfl (hb hby d1_20) rfl (XS.lloadN X0.here hx rfl (hb hby d1_21) rfl (XS.lcmp X0.here hx rfl (hb hby d1_22) rfl k)))))))) ?_
      show OGl _ _ _ _ s₁ (mkF m 23 #[.val (.ref o0), .val (.long q1), .second, .val (.int p2), .val (.int (-1 : Int32)), .val (.int (2 : Int32))] [(.int (lcmpW (((p6).toInt64) * ((p2).toInt64)) q1))])
      by_cases hc60 : q1 < (((p6).toInt64) * ((p2).toInt64))
      · refine OGl.go (fun t k => XS.ifNo X0.here hx rfl (hb hby d1_23) rfl (own_tltL hc60).2.2.2 (XS.iload X0.here hx rfl (hb hby d1_26) rfl (XS.ifYes X0.here hx rfl (pc0 := 28) (pc' := 42) rfl (hb hby d1_28) rfl ((if0 _ _).trans (tlt (by decide : (-1 : Int32) < (0 : Int32))).1) (by decide) (by decide) (XS.iload X0.here hx rfl (hb hby d1_42) rfl (XS.istore X0.here hx rfl (hb hby d1_44) rfl (l' := #[.val (.ref o0), .val (.long q1), .second, .val (.int p2), .val (.int (2 : Int32)), .val (.int (2 : Int32))]) rfl (XS.iinc X0.here hx rfl (hb hby d1_46) rfl (l' := #[.val (.ref o0), .val (.long q1), .second, .val (.int p2), .val (.int (2 : Int32)), .val (.int (3 : Int32))]) rfl (XS.goto X0.here hx rfl (pc0 := 49) (pc' := 6) rfl (hb hby d1_49) (by decide) (by decide) (XS.iload X0.here hx rfl (hb hby d1_6) rfl k)))))))) ?_
        show OGl _ _ _ _ s₁ (mkF m 8 #[.val (.ref o0), .val (.long q1), .second, .val (.int p2), .val (.int (2 : Int32)), .val (.int (3 : Int32))] [(.int (3 : Int32))])
        obtain ⟨cl61, Ar61, -, Sz61, Nn61, -, -⟩ := id V_o0
        refine OGl.go (fun t k => XS.aloadN X0.here hx rfl (hb hby d1_8) rfl rfl (own_len X0 hx (by rw [e0]; exact Ar61.1) (State.isArrayOf_alike hZ.alike Ar61.2.1) Sz61 Nn61 rfl rfl (hb hby d1_9) (XS.icmpYes X0.here hx rfl (pc0 := 10) (pc' := 52) rfl (hb hby d1_10) rfl (flt (by decide : ¬ ((3 : Int32) < (3 : Int32)))).2.1 (by decide) (by decide) (XS.iload X0.here hx rfl (hb hby d1_52) rfl k)))) ?_
        show OGl _ _ _ _ s₁ (mkF m 54 #[.val (.ref o0), .val (.long q1), .second, .val (.int p2), .val (.int (2 : Int32)), .val (.int (3 : Int32))] [(.int (2 : Int32))])
        obtain ⟨fs, hr, hrun, hended, hW, hsame⟩ := X0.leave (v := some (.int (2 : Int32))) (fun h => by rw [Bd.returns] at h; cases h)
        refine ⟨_, _, retI X0 hx Bd.returns (hb hby d1_54) hr, hrun, hended, _, _, rfl, ?_, ⟨_, rfl⟩, hW, hsame.mono (by decide) (by decide)⟩
        have hv75 : (t1_0 q1 p2 p4 p5 p6) = (2 : Int32) := by unfold t1_0; rw [if_neg hc12, if_neg hc48, if_pos hc60]
        show Q1 Z o0 q1 p2 k3 p4 p5 p6 h0 n0 _ s₁.heap _
        rw [e0]
        exact ⟨(by rw [hv75]), N0, rfl⟩
      · obtain ⟨cl62, Ar62, -, Sz62, Nn62, -, -⟩ := id V_o0
        refine OGl.go (fun t k => XS.ifYes X0.here hx rfl (pc0 := 23) (pc' := 46) rfl (hb hby d1_23) rfl (own_fltL hc60).2.2.2 (by decide) (by decide) (XS.iinc X0.here hx rfl (hb hby d1_46) rfl (l' := #[.val (.ref o0), .val (.long q1), .second, .val (.int p2), .val (.int (-1 : Int32)), .val (.int (3 : Int32))]) rfl (XS.goto X0.here hx rfl (pc0 := 49) (pc' := 6) rfl (hb hby d1_49) (by decide) (by decide) (XS.iload X0.here hx rfl (hb hby d1_6) rfl (XS.aloadN X0.here hx rfl (hb hby d1_8) rfl rfl (own_len X0 hx (by rw [e0]; exact Ar62.1) (State.isArrayOf_alike hZ.alike Ar62.2.1) Sz62 Nn62 rfl rfl (hb hby d1_9) (XS.icmpYes X0.here hx rfl (pc0 := 10) (pc' := 52) rfl (hb hby d1_10) rfl (flt (by decide : ¬ ((3 : Int32) < (3 : Int32)))).2.1 (by decide) (by decide) (XS.iload X0.here hx rfl (hb hby d1_52) rfl k)))))))) ?_
        show OGl _ _ _ _ s₁ (mkF m 54 #[.val (.ref o0), .val (.long q1), .second, .val (.int p2), .val (.int (-1 : Int32)), .val (.int (3 : Int32))] [(.int (-1 : Int32))])
        obtain ⟨fs, hr, hrun, hended, hW, hsame⟩ := X0.leave (v := some (.int (-1 : Int32))) (fun h => by rw [Bd.returns] at h; cases h)
        refine ⟨_, _, retI X0 hx Bd.returns (hb hby d1_54) hr, hrun, hended, _, _, rfl, ?_, ⟨_, rfl⟩, hW, hsame.mono (by decide) (by decide)⟩
        have hv76 : (t1_0 q1 p2 p4 p5 p6) = (-1 : Int32) := by unfold t1_0; rw [if_neg hc12, if_neg hc48, if_neg hc60]
        show Q1 Z o0 q1 p2 k3 p4 p5 p6 h0 n0 _ s₁.heap _
        rw [e0]
        exact ⟨(by rw [hv76]), N0, rfl⟩
theorem pd_0 : parseMethodDescriptor "([IJI)I" = some ⟨[(.array .int), .long, .int], some .int⟩ := by decide +kernel
def e0_0 (p0 : Int32) (p1 : Int32) (p2 : Int32) (p5 : Int32) : Int32 := (if (p5 &&& (4 : Int32)) = (0 : Int32) then (if (p5 &&& (2 : Int32)) = (0 : Int32) then p2 else p0) else (if (p5 &&& (1 : Int32)) = (0 : Int32) then p1 else p0))
def e0_1 (p0 : Int32) (q3 : Int64) (p4 : Int32) (p5 : Int32) : Int64 := (if (p5 &&& (8 : Int32)) = (0 : Int32) then q3 else (((p0).toInt64) * ((p4).toInt64)))
def e0_2 (p0 : Int32) (p1 : Int32) (p2 : Int32) (q3 : Int64) (p4 : Int32) (p5 : Int32) : Int32 := (t1_0 (e0_1 p0 q3 p4 p5) p4 p0 (if (p5 &&& (1 : Int32)) = (0 : Int32) then p1 else p0) (e0_0 p0 p1 p2 p5))
def e0_3 (p0 : Int32) (q3 : Int64) (p4 : Int32) (p5 : Int32) : Int32 := (if (e0_1 p0 q3 p4 p5) < (((p0).toInt64) * ((p4).toInt64)) then (1 : Int32) else (0 : Int32))
def e0_4 (p0 : Int32) (p1 : Int32) (p4 : Int32) (p5 : Int32) : Int64 := ((((if (p5 &&& (1 : Int32)) = (0 : Int32) then p1 else p0)).toInt64) * ((p4).toInt64))
def e0_5 (p0 : Int32) (p1 : Int32) (q3 : Int64) (p4 : Int32) (p5 : Int32) : Int32 := (if (e0_1 p0 q3 p4 p5) < (e0_4 p0 p1 p4 p5) then (1 : Int32) else (0 : Int32))
def e0_6 (p0 : Int32) (p1 : Int32) (p2 : Int32) (q3 : Int64) (p4 : Int32) (p5 : Int32) : Int32 := (if (e0_1 p0 q3 p4 p5) < ((((e0_0 p0 p1 p2 p5)).toInt64) * ((p4).toInt64)) then (1 : Int32) else (0 : Int32))
def e0_7 (p0 : Int32) (p1 : Int32) (p2 : Int32) (q3 : Int64) (p4 : Int32) (p5 : Int32) : Int32 := (if (e0_2 p0 p1 p2 q3 p4 p5) = (1 : Int32) then (if (p5 &&& (1 : Int32)) = (0 : Int32) then p1 else p0) else (e0_0 p0 p1 p2 p5))
def e0_8 (p0 : Int32) (p1 : Int32) (p2 : Int32) (q3 : Int64) (p4 : Int32) (p5 : Int32) : Int32 := (if (e0_2 p0 p1 p2 q3 p4 p5) = (0 : Int32) then p0 else (e0_7 p0 p1 p2 q3 p4 p5))
def e0_9 (p0 : Int32) (p1 : Int32) (p2 : Int32) (q3 : Int64) (p4 : Int32) (p5 : Int32) : Int32 := (if (e0_2 p0 p1 p2 q3 p4 p5) = (1 : Int32) then (e0_5 p0 p1 q3 p4 p5) else (e0_6 p0 p1 p2 q3 p4 p5))
def e0_10 (p0 : Int32) (p1 : Int32) (p2 : Int32) (q3 : Int64) (p4 : Int32) (p5 : Int32) : Int32 := (if (e0_2 p0 p1 p2 q3 p4 p5) = (0 : Int32) then (e0_3 p0 q3 p4 p5) else (e0_9 p0 p1 p2 q3 p4 p5))
def e0_11 (p0 : Int32) (p1 : Int32) (p2 : Int32) (q3 : Int64) (p4 : Int32) (p5 : Int32) : Int32 := (if (e0_3 p0 q3 p4 p5) = (0 : Int32) then (1 : Int32) else (if p0 < (e0_8 p0 p1 p2 q3 p4 p5) then (1 : Int32) else (0 : Int32)))
def e0_12 (p0 : Int32) (p1 : Int32) (p2 : Int32) (q3 : Int64) (p4 : Int32) (p5 : Int32) : Int32 := (if (e0_2 p0 p1 p2 q3 p4 p5) = (0 : Int32) then (1 : Int32) else (e0_11 p0 p1 p2 q3 p4 p5))
def e0_13 (p0 : Int32) (p1 : Int32) (p2 : Int32) (q3 : Int64) (p4 : Int32) (p5 : Int32) : Int32 := (if (if (p5 &&& (1 : Int32)) = (0 : Int32) then p1 else p0) < (e0_8 p0 p1 p2 q3 p4 p5) then (1 : Int32) else (0 : Int32))
def e0_14 (p0 : Int32) (p1 : Int32) (p2 : Int32) (q3 : Int64) (p4 : Int32) (p5 : Int32) : Int32 := (if (e0_8 p0 p1 p2 q3 p4 p5) < (if (p5 &&& (1 : Int32)) = (0 : Int32) then p1 else p0) then (0 : Int32) else (1 : Int32))
def e0_15 (p0 : Int32) (p1 : Int32) (p2 : Int32) (q3 : Int64) (p4 : Int32) (p5 : Int32) : Int32 := (if (e0_2 p0 p1 p2 q3 p4 p5) = (2 : Int32) then (e0_13 p0 p1 p2 q3 p4 p5) else (e0_14 p0 p1 p2 q3 p4 p5))
def e0_16 (p0 : Int32) (p1 : Int32) (p2 : Int32) (q3 : Int64) (p4 : Int32) (p5 : Int32) : Int32 := (if (e0_5 p0 p1 q3 p4 p5) = (0 : Int32) then (1 : Int32) else (e0_15 p0 p1 p2 q3 p4 p5))
def e0_17 (p0 : Int32) (p1 : Int32) (p2 : Int32) (q3 : Int64) (p4 : Int32) (p5 : Int32) : Int32 := (if (e0_2 p0 p1 p2 q3 p4 p5) = (1 : Int32) then (1 : Int32) else (e0_16 p0 p1 p2 q3 p4 p5))
def e0_18 (p0 : Int32) (p1 : Int32) (p2 : Int32) (q3 : Int64) (p4 : Int32) (p5 : Int32) : Int32 := (if (e0_8 p0 p1 p2 q3 p4 p5) < (e0_0 p0 p1 p2 p5) then (0 : Int32) else (1 : Int32))
def e0_19 (p0 : Int32) (p1 : Int32) (p2 : Int32) (q3 : Int64) (p4 : Int32) (p5 : Int32) : Int32 := (if (e0_6 p0 p1 p2 q3 p4 p5) = (0 : Int32) then (1 : Int32) else (e0_18 p0 p1 p2 q3 p4 p5))
def e0_20 (p0 : Int32) (p1 : Int32) (p2 : Int32) (q3 : Int64) (p4 : Int32) (p5 : Int32) : Int32 := (if (e0_2 p0 p1 p2 q3 p4 p5) = (2 : Int32) then (1 : Int32) else (e0_19 p0 p1 p2 q3 p4 p5))
theorem ef_0 (m : MethodId) (x0 : Int32) (x1 : Int32) (x2 : Int32) (x3 : Int64) (x4 : Int32) (x5 : Int32) : entryFrame m #[(.int x0), (.int x1), (.int x2), (.long x3), (.int x4), (.int x5)] maxLocals = mkF m 0 #[.val (.int x0), .val (.int x1), .val (.int x2), .val (.long x3), .second, .val (.int x4), .val (.int x5), .unset, .unset, .unset, .unset, .unset, .unset, .unset, .unset, .unset, .unset, .unset, .unset, .unset, .unset, .unset] [] := by first | (simp [entryFrame, mkF, argsToLocals, Value.category, maxLocals]; done) | rfl
theorem pn_1 : plainName "com/example/tokumei/tokumei/anatomize/GroupsTooFrequentPinLaw" = true := by first | (simp [plainName, overriddenIn]; done) | decide +kernel
def t0_0 (p0 : Int32) (p1 : Int32) (p2 : Int32) (q3 : Int64) (p4 : Int32) (p5 : Int32) : Int32 := (if (e0_2 p0 p1 p2 q3 p4 p5) = (-1 : Int32) then (if (e0_3 p0 q3 p4 p5) = (0 : Int32) then (if (e0_5 p0 p1 q3 p4 p5) = (0 : Int32) then (if (e0_6 p0 p1 p2 q3 p4 p5) = (0 : Int32) then (1 : Int32) else (0 : Int32)) else (0 : Int32)) else (0 : Int32)) else (if (e0_2 p0 p1 p2 q3 p4 p5) < (0 : Int32) then (0 : Int32) else (if (2 : Int32) < (e0_2 p0 p1 p2 q3 p4 p5) then (0 : Int32) else (if (e0_10 p0 p1 p2 q3 p4 p5) = (0 : Int32) then (0 : Int32) else (if (e0_12 p0 p1 p2 q3 p4 p5) = (0 : Int32) then (0 : Int32) else (if (e0_17 p0 p1 p2 q3 p4 p5) = (0 : Int32) then (0 : Int32) else (if (e0_20 p0 p1 p2 q3 p4 p5) = (0 : Int32) then (0 : Int32) else (1 : Int32))))))))
def Q0 (Z : State) (p0 : Int32) (p1 : Int32) (p2 : Int32) (q3 : Int64) (p4 : Int32) (p5 : Int32) (h0 : Heap) (n0 : Nat) (v : Option Value) (h : Heap) (L : List Loc) : Prop := v = some (.int (t0_0 p0 p1 p2 q3 p4 p5)) ∧ Fr n0 L
set_option maxRecDepth 65536 in
set_option maxHeartbeats 40000000 in
theorem rm0 (l : Launch) (Z : State) (a0 : Array Value) (hw : ∀ d ∈ tables_1, d.before a0 Z = true) (ws : List Jvm.Cond) (p0 : Int32) (p1 : Int32) (p2 : Int32) (q3 : Int64) (p4 : Int32) (p5 : Int32) (h0 : Heap) (n0 : Nat) (Z0 : n0 ≤ h0.size) :
    MetFree l x (head1 (Jvm.Cond.code x code maxLocals ret :: ws) room_1) (fun a U => a = #[(.int p0), (.int p1), (.int p2), (.long q3), (.int p4), (.int p5)] ∧ Z.Warmed39 U.vm ∧ U.heap = h0) (fun _ _ _ _ _ => True) (fun _ U o U' => ∃ v L, o = .returned v ∧ Q0 Z p0 p1 p2 q3 p4 p5 h0 n0 v U'.heap L ∧ FrameEnd U o U' L 1 3) := by
  refine MetFree.of_bodySF (plainFor_of_name pn_1) hisR ?_
  intro p e s m args below meth c s₁ Bd hml0 hP hK
  obtain ⟨rfl, hZ, hh⟩ := hP
  have hx := Bd.exec
  have hby := Bd.bytes
  have hml : c.maxLocals = 22 := hml0
  have hown : s.vm.findClass "com/example/tokumei/tokumei/anatomize/GroupsTooFrequentPinLaw" = some m.cls := findClass_of_methodNamed Bd.named
  have hnm := (name_of_methodNamed Bd.named Bd.method).1
  have X0 : Stand p l e room_1 s m #[(.int p0), (.int p1), (.int p2), (.long q3), (.int p4), (.int p5)] below meth c s₁ [] 0 0 := Stand.of_body Bd
  have e0 : s₁.heap = h0 := by rw [← hh, Bd.state]; rfl
  have N0 := Fr.nil n0
  refine OGl.start (ef_0 m p0 p1 p2 q3 p4 p5) ?_
  show OGl _ _ _ _ s₁ (mkF m 0 #[.val (.int p0), .val (.int p1), .val (.int p2), .val (.long q3), .second, .val (.int p4), .val (.int p5), .unset, .unset, .unset, .unset, .unset, .unset, .unset, .unset, .unset, .unset, .unset, .unset, .unset, .unset, .unset] [])
  refine OGl.go (fun t k => XS.iloadN X0.here hx rfl (hb hby at_0) rfl (XS.istore X0.here hx rfl (hb hby at_1) rfl (l' := #[.val (.int p0), .val (.int p1), .val (.int p2), .val (.long q3), .second, .val (.int p4), .val (.int p5), .val (.int p0), .unset, .unset, .unset, .unset, .unset, .unset, .unset, .unset, .unset, .unset, .unset, .unset, .unset, .unset]) rfl (XS.iloadN X0.here hx rfl (hb hby at_3) rfl (XS.istore X0.here hx rfl (hb hby at_4) rfl (l' := #[.val (.int p0), .val (.int p1), .val (.int p2), .val (.long q3), .second, .val (.int p4), .val (.int p5), .val (.int p0), .val (.int p1), .unset, .unset, .unset, .unset, .unset, .unset, .unset, .unset, .unset, .unset, .unset, .unset, .unset]) rfl (XS.iloadN X0.here hx rfl (hb hby at_6) rfl (XS.istore X0.here hx rfl (hb hby at_7) rfl (l' := #[.val (.int p0), .val (.int p1), .val (.int p2), .val (.long q3), .second, .val (.int p4), .val (.int p5), .val (.int p0), .val (.int p1), .val (.int p2), .unset, .unset, .unset, .unset, .unset, .unset, .unset, .unset, .unset, .unset, .unset, .unset]) rfl (XS.iload X0.here hx rfl (hb hby at_9) rfl (XS.iconst X0.here hx rfl (hb hby at_11) k)))))))) ?_
  show OGl _ _ _ _ s₁ (mkF m 12 #[.val (.int p0), .val (.int p1), .val (.int p2), .val (.long q3), .second, .val (.int p4), .val (.int p5), .val (.int p0), .val (.int p1), .val (.int p2), .unset, .unset, .unset, .unset, .unset, .unset, .unset, .unset, .unset, .unset, .unset, .unset] [(.int (1 : Int32)), (.int p5)])
  refine OGl.go (fun t k => XS.iand X0.here hx rfl (hb hby at_12) rfl k) ?_
  show OGl _ _ _ _ s₁ (mkF m 13 #[.val (.int p0), .val (.int p1), .val (.int p2), .val (.long q3), .second, .val (.int p4), .val (.int p5), .val (.int p0), .val (.int p1), .val (.int p2), .unset, .unset, .unset, .unset, .unset, .unset, .unset, .unset, .unset, .unset, .unset, .unset] [(.int (p5 &&& (1 : Int32)))])
  have m1 : ∀ t, Steps p.tables e below (s₁.setTop (mkF m 20 #[.val (.int p0), .val (.int p1), .val (.int p2), .val (.long q3), .second, .val (.int p4), .val (.int p5), .val (.int p0), .val (.int (if (p5 &&& (1 : Int32)) = (0 : Int32) then p1 else p0)), .val (.int p2), .unset, .unset, .unset, .unset, .unset, .unset, .unset, .unset, .unset, .unset, .unset, .unset] [])) t → Steps p.tables e below (s₁.setTop (mkF m 13 #[.val (.int p0), .val (.int p1), .val (.int p2), .val (.long q3), .second, .val (.int p4), .val (.int p5), .val (.int p0), .val (.int p1), .val (.int p2), .unset, .unset, .unset, .unset, .unset, .unset, .unset, .unset, .unset, .unset, .unset, .unset] [(.int (p5 &&& (1 : Int32)))])) t := by
    intro t k
    by_cases hm1 : (p5 &&& (1 : Int32)) = (0 : Int32)
    · rw [show (if (p5 &&& (1 : Int32)) = (0 : Int32) then p1 else p0) = p1 from if_pos hm1] at k
      refine XS.ifYes X0.here hx rfl (pc0 := 13) (pc' := 20) rfl (hb hby at_13) rfl ((if0 _ _).trans (teq hm1).1) (by decide) (by decide) ?_
      show Steps _ _ _ (s₁.setTop (mkF m 20 #[.val (.int p0), .val (.int p1), .val (.int p2), .val (.long q3), .second, .val (.int p4), .val (.int p5), .val (.int p0), .val (.int p1), .val (.int p2), .unset, .unset, .unset, .unset, .unset, .unset, .unset, .unset, .unset, .unset, .unset, .unset] [])) _
      exact k
    · rw [show (if (p5 &&& (1 : Int32)) = (0 : Int32) then p1 else p0) = p0 from if_neg hm1] at k
      refine XS.ifNo X0.here hx rfl (hb hby at_13) rfl ((if0 _ _).trans (feq hm1).1) (XS.iload X0.here hx rfl (hb hby at_16) rfl (XS.istore X0.here hx rfl (hb hby at_18) rfl (l' := #[.val (.int p0), .val (.int p1), .val (.int p2), .val (.long q3), .second, .val (.int p4), .val (.int p5), .val (.int p0), .val (.int p0), .val (.int p2), .unset, .unset, .unset, .unset, .unset, .unset, .unset, .unset, .unset, .unset, .unset, .unset]) rfl ?_))
      show Steps _ _ _ (s₁.setTop (mkF m 20 #[.val (.int p0), .val (.int p1), .val (.int p2), .val (.long q3), .second, .val (.int p4), .val (.int p5), .val (.int p0), .val (.int p0), .val (.int p2), .unset, .unset, .unset, .unset, .unset, .unset, .unset, .unset, .unset, .unset, .unset, .unset] [])) _
      exact k
  refine OGl.go (fun t k => m1 _ (XS.iload X0.here hx rfl (hb hby at_20) rfl (XS.iconst X0.here hx rfl (hb hby at_22) (XS.iand X0.here hx rfl (hb hby at_23) rfl k)))) ?_
  show OGl _ _ _ _ s₁ (mkF m 24 #[.val (.int p0), .val (.int p1), .val (.int p2), .val (.long q3), .second, .val (.int p4), .val (.int p5), .val (.int p0), .val (.int (if (p5 &&& (1 : Int32)) = (0 : Int32) then p1 else p0)), .val (.int p2), .unset, .unset, .unset, .unset, .unset, .unset, .unset, .unset, .unset, .unset, .unset, .unset] [(.int (p5 &&& (2 : Int32)))])
  have m2 : ∀ t, Steps p.tables e below (s₁.setTop (mkF m 31 #[.val (.int p0), .val (.int p1), .val (.int p2), .val (.long q3), .second, .val (.int p4), .val (.int p5), .val (.int p0), .val (.int (if (p5 &&& (1 : Int32)) = (0 : Int32) then p1 else p0)), .val (.int (if (p5 &&& (2 : Int32)) = (0 : Int32) then p2 else p0)), .unset, .unset, .unset, .unset, .unset, .unset, .unset, .unset, .unset, .unset, .unset, .unset] [])) t → Steps p.tables e below (s₁.setTop (mkF m 24 #[.val (.int p0), .val (.int p1), .val (.int p2), .val (.long q3), .second, .val (.int p4), .val (.int p5), .val (.int p0), .val (.int (if (p5 &&& (1 : Int32)) = (0 : Int32) then p1 else p0)), .val (.int p2), .unset, .unset, .unset, .unset, .unset, .unset, .unset, .unset, .unset, .unset, .unset, .unset] [(.int (p5 &&& (2 : Int32)))])) t := by
    intro t k
    by_cases hm2 : (p5 &&& (2 : Int32)) = (0 : Int32)
    · rw [show (if (p5 &&& (2 : Int32)) = (0 : Int32) then p2 else p0) = p2 from if_pos hm2] at k
      refine XS.ifYes X0.here hx rfl (pc0 := 24) (pc' := 31) rfl (hb hby at_24) rfl ((if0 _ _).trans (teq hm2).1) (by decide) (by decide) ?_
      show Steps _ _ _ (s₁.setTop (mkF m 31 #[.val (.int p0), .val (.int p1), .val (.int p2), .val (.long q3), .second, .val (.int p4), .val (.int p5), .val (.int p0), .val (.int (if (p5 &&& (1 : Int32)) = (0 : Int32) then p1 else p0)), .val (.int p2), .unset, .unset, .unset, .unset, .unset, .unset, .unset, .unset, .unset, .unset, .unset, .unset] [])) _
      exact k
    · rw [show (if (p5 &&& (2 : Int32)) = (0 : Int32) then p2 else p0) = p0 from if_neg hm2] at k
      refine XS.ifNo X0.here hx rfl (hb hby at_24) rfl ((if0 _ _).trans (feq hm2).1) (XS.iload X0.here hx rfl (hb hby at_27) rfl (XS.istore X0.here hx rfl (hb hby at_29) rfl (l' := #[.val (.int p0), .val (.int p1), .val (.int p2), .val (.long q3), .second, .val (.int p4), .val (.int p5), .val (.int p0), .val (.int (if (p5 &&& (1 : Int32)) = (0 : Int32) then p1 else p0)), .val (.int p0), .unset, .unset, .unset, .unset, .unset, .unset, .unset, .unset, .unset, .unset, .unset, .unset]) rfl ?_))
      show Steps _ _ _ (s₁.setTop (mkF m 31 #[.val (.int p0), .val (.int p1), .val (.int p2), .val (.long q3), .second, .val (.int p4), .val (.int p5), .val (.int p0), .val (.int (if (p5 &&& (1 : Int32)) = (0 : Int32) then p1 else p0)), .val (.int p0), .unset, .unset, .unset, .unset, .unset, .unset, .unset, .unset, .unset, .unset, .unset, .unset] [])) _
      exact k
  refine OGl.go (fun t k => m2 _ (XS.iload X0.here hx rfl (hb hby at_31) rfl (XS.iconst X0.here hx rfl (hb hby at_33) (XS.iand X0.here hx rfl (hb hby at_34) rfl k)))) ?_
  show OGl _ _ _ _ s₁ (mkF m 35 #[.val (.int p0), .val (.int p1), .val (.int p2), .val (.long q3), .second, .val (.int p4), .val (.int p5), .val (.int p0), .val (.int (if (p5 &&& (1 : Int32)) = (0 : Int32) then p1 else p0)), .val (.int (if (p5 &&& (2 : Int32)) = (0 : Int32) then p2 else p0)), .unset, .unset, .unset, .unset, .unset, .unset, .unset, .unset, .unset, .unset, .unset, .unset] [(.int (p5 &&& (4 : Int32)))])
  have m3 : ∀ t, Steps p.tables e below (s₁.setTop (mkF m 42 #[.val (.int p0), .val (.int p1), .val (.int p2), .val (.long q3), .second, .val (.int p4), .val (.int p5), .val (.int p0), .val (.int (if (p5 &&& (1 : Int32)) = (0 : Int32) then p1 else p0)), .val (.int (e0_0 p0 p1 p2 p5)), .unset, .unset, .unset, .unset, .unset, .unset, .unset, .unset, .unset, .unset, .unset, .unset] [])) t → Steps p.tables e below (s₁.setTop (mkF m 35 #[.val (.int p0), .val (.int p1), .val (.int p2), .val (.long q3), .second, .val (.int p4), .val (.int p5), .val (.int p0), .val (.int (if (p5 &&& (1 : Int32)) = (0 : Int32) then p1 else p0)), .val (.int (if (p5 &&& (2 : Int32)) = (0 : Int32) then p2 else p0)), .unset, .unset, .unset, .unset, .unset, .unset, .unset, .unset, .unset, .unset, .unset, .unset] [(.int (p5 &&& (4 : Int32)))])) t := by
    intro t k
    by_cases hm3 : (p5 &&& (4 : Int32)) = (0 : Int32)
    · rw [show (e0_0 p0 p1 p2 p5) = (if (p5 &&& (2 : Int32)) = (0 : Int32) then p2 else p0) from if_pos hm3] at k
      refine XS.ifYes X0.here hx rfl (pc0 := 35) (pc' := 42) rfl (hb hby at_35) rfl ((if0 _ _).trans (teq hm3).1) (by decide) (by decide) ?_
      show Steps _ _ _ (s₁.setTop (mkF m 42 #[.val (.int p0), .val (.int p1), .val (.int p2), .val (.long q3), .second, .val (.int p4), .val (.int p5), .val (.int p0), .val (.int (if (p5 &&& (1 : Int32)) = (0 : Int32) then p1 else p0)), .val (.int (if (p5 &&& (2 : Int32)) = (0 : Int32) then p2 else p0)), .unset, .unset, .unset, .unset, .unset, .unset, .unset, .unset, .unset, .unset, .unset, .unset] [])) _
      exact k
    · rw [show (e0_0 p0 p1 p2 p5) = (if (p5 &&& (1 : Int32)) = (0 : Int32) then p1 else p0) from if_neg hm3] at k
      refine XS.ifNo X0.here hx rfl (hb hby at_35) rfl ((if0 _ _).trans (feq hm3).1) (XS.iload X0.here hx rfl (hb hby at_38) rfl (XS.istore X0.here hx rfl (hb hby at_40) rfl (l' := #[.val (.int p0), .val (.int p1), .val (.int p2), .val (.long q3), .second, .val (.int p4), .val (.int p5), .val (.int p0), .val (.int (if (p5 &&& (1 : Int32)) = (0 : Int32) then p1 else p0)), .val (.int (if (p5 &&& (1 : Int32)) = (0 : Int32) then p1 else p0)), .unset, .unset, .unset, .unset, .unset, .unset, .unset, .unset, .unset, .unset, .unset, .unset]) rfl ?_))
      show Steps _ _ _ (s₁.setTop (mkF m 42 #[.val (.int p0), .val (.int p1), .val (.int p2), .val (.long q3), .second, .val (.int p4), .val (.int p5), .val (.int p0), .val (.int (if (p5 &&& (1 : Int32)) = (0 : Int32) then p1 else p0)), .val (.int (if (p5 &&& (1 : Int32)) = (0 : Int32) then p1 else p0)), .unset, .unset, .unset, .unset, .unset, .unset, .unset, .unset, .unset, .unset, .unset, .unset] [])) _
      exact k
  refine OGl.go (fun t k => m3 _ (XS.lloadN X0.here hx rfl (hb hby at_42) rfl (XS.lstore X0.here hx rfl (hb hby at_43) rfl (l' := #[.val (.int p0), .val (.int p1), .val (.int p2), .val (.long q3), .second, .val (.int p4), .val (.int p5), .val (.int p0), .val (.int (if (p5 &&& (1 : Int32)) = (0 : Int32) then p1 else p0)), .val (.int (e0_0 p0 p1 p2 p5)), .val (.long q3), .second, .unset, .unset, .unset, .unset, .unset, .unset, .unset, .unset, .unset, .unset]) rfl (XS.iload X0.here hx rfl (hb hby at_45) rfl (XS.bipush X0.here hx rfl (hb hby at_47) (XS.iand X0.here hx rfl (hb hby at_49) rfl k)))))) ?_
  show OGl _ _ _ _ s₁ (mkF m 50 #[.val (.int p0), .val (.int p1), .val (.int p2), .val (.long q3), .second, .val (.int p4), .val (.int p5), .val (.int p0), .val (.int (if (p5 &&& (1 : Int32)) = (0 : Int32) then p1 else p0)), .val (.int (e0_0 p0 p1 p2 p5)), .val (.long q3), .second, .unset, .unset, .unset, .unset, .unset, .unset, .unset, .unset, .unset, .unset] [(.int (p5 &&& (8 : Int32)))])
  have m4 : ∀ t, Steps p.tables e below (s₁.setTop (mkF m 62 #[.val (.int p0), .val (.int p1), .val (.int p2), .val (.long q3), .second, .val (.int p4), .val (.int p5), .val (.int p0), .val (.int (if (p5 &&& (1 : Int32)) = (0 : Int32) then p1 else p0)), .val (.int (e0_0 p0 p1 p2 p5)), .val (.long (e0_1 p0 q3 p4 p5)), .second, .unset, .unset, .unset, .unset, .unset, .unset, .unset, .unset, .unset, .unset] [])) t → Steps p.tables e below (s₁.setTop (mkF m 50 #[.val (.int p0), .val (.int p1), .val (.int p2), .val (.long q3), .second, .val (.int p4), .val (.int p5), .val (.int p0), .val (.int (if (p5 &&& (1 : Int32)) = (0 : Int32) then p1 else p0)), .val (.int (e0_0 p0 p1 p2 p5)), .val (.long q3), .second, .unset, .unset, .unset, .unset, .unset, .unset, .unset, .unset, .unset, .unset] [(.int (p5 &&& (8 : Int32)))])) t := by
    intro t k
    by_cases hm4 : (p5 &&& (8 : Int32)) = (0 : Int32)
    · rw [show (e0_1 p0 q3 p4 p5) = q3 from if_pos hm4] at k
      refine XS.ifYes X0.here hx rfl (pc0 := 50) (pc' := 62) rfl (hb hby at_50) rfl ((if0 _ _).trans (teq hm4).1) (by decide) (by decide) ?_
      show Steps _ _ _ (s₁.setTop (mkF m 62 #[.val (.int p0), .val (.int p1), .val (.int p2), .val (.long q3), .second, .val (.int p4), .val (.int p5), .val (.int p0), .val (.int (if (p5 &&& (1 : Int32)) = (0 : Int32) then p1 else p0)), .val (.int (e0_0 p0 p1 p2 p5)), .val (.long q3), .second, .unset, .unset, .unset, .unset, .unset, .unset, .unset, .unset, .unset, .unset] [])) _
      exact k
    · rw [show (e0_1 p0 q3 p4 p5) = (((p0).toInt64) * ((p4).toInt64)) from if_neg hm4] at k
      refine XS.ifNo X0.here hx rfl (hb hby at_50) rfl ((if0 _ _).trans (feq hm4).1) (XS.iload X0.here hx rfl (hb hby at_53) rfl (XS.i2l X0.here hx rfl (hb hby at_55) rfl (XS.iload X0.here hx rfl (hb hby at_56) rfl (XS.i2l X0.here hx rfl (hb hby at_58) rfl (XS.lmul X0.here hx rfl (hb hby at_59) rfl (XS.lstore X0.here hx rfl (hb hby at_60) rfl (l' := #[.val (.int p0), .val (.int p1), .val (.int p2), .val (.long q3), .second, .val (.int p4), .val (.int p5), .val (.int p0), .val (.int (if (p5 &&& (1 : Int32)) = (0 : Int32) then p1 else p0)), .val (.int (e0_0 p0 p1 p2 p5)), .val (.long (((p0).toInt64) * ((p4).toInt64))), .second, .unset, .unset, .unset, .unset, .unset, .unset, .unset, .unset, .unset, .unset]) rfl ?_))))))
      show Steps _ _ _ (s₁.setTop (mkF m 62 #[.val (.int p0), .val (.int p1), .val (.int p2), .val (.long q3), .second, .val (.int p4), .val (.int p5), .val (.int p0), .val (.int (if (p5 &&& (1 : Int32)) = (0 : Int32) then p1 else p0)), .val (.int (e0_0 p0 p1 p2 p5)), .val (.long (((p0).toInt64) * ((p4).toInt64))), .second, .unset, .unset, .unset, .unset, .unset, .unset, .unset, .unset, .unset, .unset] [])) _
      exact k
  refine OGl.go (fun t k => m4 _ (XS.iconst X0.here hx rfl (hb hby at_62) k)) ?_
  show OGl _ _ _ _ s₁ (mkF m 63 #[.val (.int p0), .val (.int p1), .val (.int p2), .val (.long q3), .second, .val (.int p4), .val (.int p5), .val (.int p0), .val (.int (if (p5 &&& (1 : Int32)) = (0 : Int32) then p1 else p0)), .val (.int (e0_0 p0 p1 p2 p5)), .val (.long (e0_1 p0 q3 p4 p5)), .second, .unset, .unset, .unset, .unset, .unset, .unset, .unset, .unset, .unset, .unset] [(.int (3 : Int32))])
  obtain ⟨T5, h5, k5, X5, e5, E5, A5, st5⟩ := newP X0 hx hZ (hw _ (List.mem_of_getElem? (i := 0) rfl)) e0 (g := (mkF m 63 #[.val (.int p0), .val (.int p1), .val (.int p2), .val (.long q3), .second, .val (.int p4), .val (.int p5), .val (.int p0), .val (.int (if (p5 &&& (1 : Int32)) = (0 : Int32) then p1 else p0)), .val (.int (e0_0 p0 p1 p2 p5)), .val (.long (e0_1 p0 q3 p4 p5)), .second, .unset, .unset, .unset, .unset, .unset, .unset, .unset, .unset, .unset, .unset] [(.int (3 : Int32))])) rfl (hb hby at_63) rfl (by decide) (cap := 3) (by decide) (by decide) (by decide) (by decide)
  obtain ⟨b5, gb5⟩ : ∃ z, z = h0.size := ⟨_, rfl⟩
  rw [← gb5] at A5 st5
  have sz_b5 : h0.size ≤ b5 := Nat.le_trans (Keep.refl h0 []).1 (Nat.le_of_eq gb5.symm)
  have g_b5 : n0 ≤ b5 := Nat.le_trans Z0 sz_b5
  have V5 : Arv Z h5 b5 k5 .int (3 : Int32) [(.int (0 : Int32)), (.int (0 : Int32)), (.int (0 : Int32))] (.int (0 : Int32)) := (Arv.new A5 (by decide)).pad (pad_rep [] (.int (0 : Int32)) 3)
  have KK5 : Keep h0 h5 [] := (Keep.refl h0 []).ext E5
  refine OGl.go st5 ?_
  show OGl _ _ _ _ T5 (mkF m 65 #[.val (.int p0), .val (.int p1), .val (.int p2), .val (.long q3), .second, .val (.int p4), .val (.int p5), .val (.int p0), .val (.int (if (p5 &&& (1 : Int32)) = (0 : Int32) then p1 else p0)), .val (.int (e0_0 p0 p1 p2 p5)), .val (.long (e0_1 p0 q3 p4 p5)), .second, .unset, .unset, .unset, .unset, .unset, .unset, .unset, .unset, .unset, .unset] [(.ref b5)])
  refine OGl.go (fun t k => XS.astore X5.here hx rfl (hb hby at_65) rfl rfl (l' := #[.val (.int p0), .val (.int p1), .val (.int p2), .val (.long q3), .second, .val (.int p4), .val (.int p5), .val (.int p0), .val (.int (if (p5 &&& (1 : Int32)) = (0 : Int32) then p1 else p0)), .val (.int (e0_0 p0 p1 p2 p5)), .val (.long (e0_1 p0 q3 p4 p5)), .second, .val (.ref b5), .unset, .unset, .unset, .unset, .unset, .unset, .unset, .unset, .unset]) rfl (XS.aload X5.here hx rfl (hb hby at_67) rfl rfl (XS.iconst X5.here hx rfl (hb hby at_69) (XS.iload X5.here hx rfl (hb hby at_70) rfl k)))) ?_
  show OGl _ _ _ _ T5 (mkF m 72 #[.val (.int p0), .val (.int p1), .val (.int p2), .val (.long q3), .second, .val (.int p4), .val (.int p5), .val (.int p0), .val (.int (if (p5 &&& (1 : Int32)) = (0 : Int32) then p1 else p0)), .val (.int (e0_0 p0 p1 p2 p5)), .val (.long (e0_1 p0 q3 p4 p5)), .second, .val (.ref b5), .unset, .unset, .unset, .unset, .unset, .unset, .unset, .unset, .unset] [(.int p0), (.int (0 : Int32)), (.ref b5)])
  obtain ⟨cl6, Ar6, qk6, Sz6, Nn6, Ha6, Gf6⟩ := id V5
  have hin6 : ¬ ((0 : Int32) < 0 ∨ cl6.slots.size ≤ ((0 : Int32)).toNatClampNeg) := inb_of Sz6 ⟨by decide, by decide⟩
  obtain ⟨T6, h6, X6, e6, W6, st6⟩ := stI X5 hx hZ e5 Ar6 (j := (0 : Int32)) hin6 (g := (mkF m 72 #[.val (.int p0), .val (.int p1), .val (.int p2), .val (.long q3), .second, .val (.int p4), .val (.int p5), .val (.int p0), .val (.int (if (p5 &&& (1 : Int32)) = (0 : Int32) then p1 else p0)), .val (.int (e0_0 p0 p1 p2 p5)), .val (.long (e0_1 p0 q3 p4 p5)), .second, .val (.ref b5), .unset, .unset, .unset, .unset, .unset, .unset, .unset, .unset, .unset] [(.int p0), (.int (0 : Int32)), (.ref b5)])) rfl rfl (hb hby at_72)
  have V6 : Arv Z h6 b5 k5 .int (3 : Int32) [(.int p0), (.int (0 : Int32)), (.int (0 : Int32))] (.int (0 : Int32)) := Arv.set Ar6 qk6 Sz6 Nn6 Ha6 Gf6 rfl W6 0 rfl (Nat.le_of_ble_eq_true rfl)
  refine OGl.go st6 ?_
  have N6 := Fr.snoc X6 N0 g_b5
  have KK6 : Keep h0 h6 [] := KK5.wr W6 (Or.inr sz_b5)
  show OGl _ _ _ _ T6 (mkF m 73 #[.val (.int p0), .val (.int p1), .val (.int p2), .val (.long q3), .second, .val (.int p4), .val (.int p5), .val (.int p0), .val (.int (if (p5 &&& (1 : Int32)) = (0 : Int32) then p1 else p0)), .val (.int (e0_0 p0 p1 p2 p5)), .val (.long (e0_1 p0 q3 p4 p5)), .second, .val (.ref b5), .unset, .unset, .unset, .unset, .unset, .unset, .unset, .unset, .unset] [])
  refine OGl.go (fun t k => XS.aload X6.here hx rfl (hb hby at_73) rfl rfl (XS.iconst X6.here hx rfl (hb hby at_75) (XS.iload X6.here hx rfl (hb hby at_76) rfl k))) ?_
  show OGl _ _ _ _ T6 (mkF m 78 #[.val (.int p0), .val (.int p1), .val (.int p2), .val (.long q3), .second, .val (.int p4), .val (.int p5), .val (.int p0), .val (.int (if (p5 &&& (1 : Int32)) = (0 : Int32) then p1 else p0)), .val (.int (e0_0 p0 p1 p2 p5)), .val (.long (e0_1 p0 q3 p4 p5)), .second, .val (.ref b5), .unset, .unset, .unset, .unset, .unset, .unset, .unset, .unset, .unset] [(.int (if (p5 &&& (1 : Int32)) = (0 : Int32) then p1 else p0)), (.int (1 : Int32)), (.ref b5)])
  obtain ⟨cl7, Ar7, qk7, Sz7, Nn7, Ha7, Gf7⟩ := id V6
  have hin7 : ¬ ((1 : Int32) < 0 ∨ cl7.slots.size ≤ ((1 : Int32)).toNatClampNeg) := inb_of Sz7 ⟨by decide, by decide⟩
  obtain ⟨T7, h7, X7, e7, W7, st7⟩ := stI X6 hx hZ e6 Ar7 (j := (1 : Int32)) hin7 (g := (mkF m 78 #[.val (.int p0), .val (.int p1), .val (.int p2), .val (.long q3), .second, .val (.int p4), .val (.int p5), .val (.int p0), .val (.int (if (p5 &&& (1 : Int32)) = (0 : Int32) then p1 else p0)), .val (.int (e0_0 p0 p1 p2 p5)), .val (.long (e0_1 p0 q3 p4 p5)), .second, .val (.ref b5), .unset, .unset, .unset, .unset, .unset, .unset, .unset, .unset, .unset] [(.int (if (p5 &&& (1 : Int32)) = (0 : Int32) then p1 else p0)), (.int (1 : Int32)), (.ref b5)])) rfl rfl (hb hby at_78)
  have V7 : Arv Z h7 b5 k5 .int (3 : Int32) [(.int p0), (.int (if (p5 &&& (1 : Int32)) = (0 : Int32) then p1 else p0)), (.int (0 : Int32))] (.int (0 : Int32)) := Arv.set Ar7 qk7 Sz7 Nn7 Ha7 Gf7 rfl W7 1 rfl (Nat.le_of_ble_eq_true rfl)
  refine OGl.go st7 ?_
  have N7 := Fr.snoc X7 N6 g_b5
  have KK7 : Keep h0 h7 [] := KK6.wr W7 (Or.inr sz_b5)
  show OGl _ _ _ _ T7 (mkF m 79 #[.val (.int p0), .val (.int p1), .val (.int p2), .val (.long q3), .second, .val (.int p4), .val (.int p5), .val (.int p0), .val (.int (if (p5 &&& (1 : Int32)) = (0 : Int32) then p1 else p0)), .val (.int (e0_0 p0 p1 p2 p5)), .val (.long (e0_1 p0 q3 p4 p5)), .second, .val (.ref b5), .unset, .unset, .unset, .unset, .unset, .unset, .unset, .unset, .unset] [])
  refine OGl.go (fun t k => XS.aload X7.here hx rfl (hb hby at_79) rfl rfl (XS.iconst X7.here hx rfl (hb hby at_81) (XS.iload X7.here hx rfl (hb hby at_82) rfl k))) ?_
  show OGl _ _ _ _ T7 (mkF m 84 #[.val (.int p0), .val (.int p1), .val (.int p2), .val (.long q3), .second, .val (.int p4), .val (.int p5), .val (.int p0), .val (.int (if (p5 &&& (1 : Int32)) = (0 : Int32) then p1 else p0)), .val (.int (e0_0 p0 p1 p2 p5)), .val (.long (e0_1 p0 q3 p4 p5)), .second, .val (.ref b5), .unset, .unset, .unset, .unset, .unset, .unset, .unset, .unset, .unset] [(.int (e0_0 p0 p1 p2 p5)), (.int (2 : Int32)), (.ref b5)])
  obtain ⟨cl8, Ar8, qk8, Sz8, Nn8, Ha8, Gf8⟩ := id V7
  have hin8 : ¬ ((2 : Int32) < 0 ∨ cl8.slots.size ≤ ((2 : Int32)).toNatClampNeg) := inb_of Sz8 ⟨by decide, by decide⟩
  obtain ⟨T8, h8, X8, e8, W8, st8⟩ := stI X7 hx hZ e7 Ar8 (j := (2 : Int32)) hin8 (g := (mkF m 84 #[.val (.int p0), .val (.int p1), .val (.int p2), .val (.long q3), .second, .val (.int p4), .val (.int p5), .val (.int p0), .val (.int (if (p5 &&& (1 : Int32)) = (0 : Int32) then p1 else p0)), .val (.int (e0_0 p0 p1 p2 p5)), .val (.long (e0_1 p0 q3 p4 p5)), .second, .val (.ref b5), .unset, .unset, .unset, .unset, .unset, .unset, .unset, .unset, .unset] [(.int (e0_0 p0 p1 p2 p5)), (.int (2 : Int32)), (.ref b5)])) rfl rfl (hb hby at_84)
  have V8 : Arv Z h8 b5 k5 .int (3 : Int32) [(.int p0), (.int (if (p5 &&& (1 : Int32)) = (0 : Int32) then p1 else p0)), (.int (e0_0 p0 p1 p2 p5))] (.int (0 : Int32)) := Arv.set Ar8 qk8 Sz8 Nn8 Ha8 Gf8 rfl W8 2 rfl (Nat.le_of_ble_eq_true rfl)
  refine OGl.go st8 ?_
  have N8 := Fr.snoc X8 N7 g_b5
  have KK8 : Keep h0 h8 [] := KK7.wr W8 (Or.inr sz_b5)
  show OGl _ _ _ _ T8 (mkF m 85 #[.val (.int p0), .val (.int p1), .val (.int p2), .val (.long q3), .second, .val (.int p4), .val (.int p5), .val (.int p0), .val (.int (if (p5 &&& (1 : Int32)) = (0 : Int32) then p1 else p0)), .val (.int (e0_0 p0 p1 p2 p5)), .val (.long (e0_1 p0 q3 p4 p5)), .second, .val (.ref b5), .unset, .unset, .unset, .unset, .unset, .unset, .unset, .unset, .unset] [])
  refine OGl.go (fun t k => XS.aload X8.here hx rfl (hb hby at_85) rfl rfl (XS.lload X8.here hx rfl (hb hby at_87) rfl (XS.iload X8.here hx rfl (hb hby at_89) rfl k))) ?_
  show OGl _ _ _ _ T8 (mkF m 91 #[.val (.int p0), .val (.int p1), .val (.int p2), .val (.long q3), .second, .val (.int p4), .val (.int p5), .val (.int p0), .val (.int (if (p5 &&& (1 : Int32)) = (0 : Int32) then p1 else p0)), .val (.int (e0_0 p0 p1 p2 p5)), .val (.long (e0_1 p0 q3 p4 p5)), .second, .val (.ref b5), .unset, .unset, .unset, .unset, .unset, .unset, .unset, .unset, .unset] [(.int p4), (.long (e0_1 p0 q3 p4 p5)), (.ref b5)])
  obtain ⟨_, _, ⟨T9, L9, kk9, n9⟩, -, X9, ⟨Lc9, hQ9, l9, y9, z9⟩, st9⟩ := Jvm.LawKit.callS X8 hx (y := (⟨"com/example/tokumei/tokumei/anatomize/Groups", "tooFrequent", "([IJI)I"⟩ : MethodName)) hown (mvT hZ (hw _ (List.mem_of_getElem? (i := 1) rfl))) (mvT hZ (hw _ (List.mem_of_getElem? (i := 2) rfl))) (mvT hZ (hw _ (List.mem_of_getElem? (i := 3) rfl))) (mvT hZ (hw _ (List.mem_of_getElem? (i := 4) rfl))) (by decide) (backOf (W := 0) (rm1 l Z a0 hw [] b5 (e0_1 p0 q3 p4 p5) p4 k5 p0 (if (p5 &&& (1 : Int32)) = (0 : Int32) then p1 else p0) (e0_0 p0 p1 p2 p5) h8 n0 (Nat.le_trans Z0 KK8.1) V8) hZ (hw _ (List.mem_of_getElem? (i := 4) rfl)) (hw _ (List.mem_of_getElem? (i := 3) rfl)) (by decide) (by decide)) (g := (mkF m 91 #[.val (.int p0), .val (.int p1), .val (.int p2), .val (.long q3), .second, .val (.int p4), .val (.int p5), .val (.int p0), .val (.int (if (p5 &&& (1 : Int32)) = (0 : Int32) then p1 else p0)), .val (.int (e0_0 p0 p1 p2 p5)), .val (.long (e0_1 p0 q3 p4 p5)), .second, .val (.ref b5), .unset, .unset, .unset, .unset, .unset, .unset, .unset, .unset, .unset] [(.int p4), (.long (e0_1 p0 q3 p4 p5)), (.ref b5)])) rfl (by rw [hml]; rfl) (argsL := [(.ref b5), (.long (e0_1 p0 q3 p4 p5)), (.int p4)]) (rest := []) (lenOf pd_0 rfl) rfl (by show 2 * 0 + _ ≤ _; exact Nat.le_of_eq rfl) (hb hby at_91) (fun _ _ => ⟨rfl, e8, (by decide : 1 + 0 ≤ _), (by decide : 3 + 0 ≤ _)⟩)
  dsimp only [Pt.U, Pt.locs, Pt.cells, Pt.slots] at X9 l9 y9 z9 st9 hQ9
  subst l9 y9 z9
  obtain ⟨rfl, Nq9, e9⟩ := hQ9
  have N9 := Fr.app N8 Nq9
  refine OGl.go st9 ?_
  show OGl _ _ _ _ T9 (mkF m 94 #[.val (.int p0), .val (.int p1), .val (.int p2), .val (.long q3), .second, .val (.int p4), .val (.int p5), .val (.int p0), .val (.int (if (p5 &&& (1 : Int32)) = (0 : Int32) then p1 else p0)), .val (.int (e0_0 p0 p1 p2 p5)), .val (.long (e0_1 p0 q3 p4 p5)), .second, .val (.ref b5), .unset, .unset, .unset, .unset, .unset, .unset, .unset, .unset, .unset] [(.int (e0_2 p0 p1 p2 q3 p4 p5))])
  refine OGl.go (fun t k => XS.istore X9.here hx rfl (hb hby at_94) rfl (l' := #[.val (.int p0), .val (.int p1), .val (.int p2), .val (.long q3), .second, .val (.int p4), .val (.int p5), .val (.int p0), .val (.int (if (p5 &&& (1 : Int32)) = (0 : Int32) then p1 else p0)), .val (.int (e0_0 p0 p1 p2 p5)), .val (.long (e0_1 p0 q3 p4 p5)), .second, .val (.ref b5), .val (.int (e0_2 p0 p1 p2 q3 p4 p5)), .unset, .unset, .unset, .unset, .unset, .unset, .unset, .unset]) rfl (XS.iload X9.here hx rfl (hb hby at_96) rfl (XS.i2l X9.here hx rfl (hb hby at_98) rfl (XS.iload X9.here hx rfl (hb hby at_99) rfl (XS.i2l X9.here hx rfl (hb hby at_101) rfl (XS.lmul X9.here hx rfl (hb hby at_102) rfl (XS.lload X9.here hx rfl (hb hby at_103) rfl (XS.lcmp X9.here hx rfl (hb hby at_105) rfl k)))))))) ?_
  show OGl _ _ _ _ T9 (mkF m 106 #[.val (.int p0), .val (.int p1), .val (.int p2), .val (.long q3), .second, .val (.int p4), .val (.int p5), .val (.int p0), .val (.int (if (p5 &&& (1 : Int32)) = (0 : Int32) then p1 else p0)), .val (.int (e0_0 p0 p1 p2 p5)), .val (.long (e0_1 p0 q3 p4 p5)), .second, .val (.ref b5), .val (.int (e0_2 p0 p1 p2 q3 p4 p5)), .unset, .unset, .unset, .unset, .unset, .unset, .unset, .unset] [(.int (lcmpW (((p0).toInt64) * ((p4).toInt64)) (e0_1 p0 q3 p4 p5)))])
  have m77 : ∀ t, Steps p.tables e below (T9.setTop (mkF m 114 #[.val (.int p0), .val (.int p1), .val (.int p2), .val (.long q3), .second, .val (.int p4), .val (.int p5), .val (.int p0), .val (.int (if (p5 &&& (1 : Int32)) = (0 : Int32) then p1 else p0)), .val (.int (e0_0 p0 p1 p2 p5)), .val (.long (e0_1 p0 q3 p4 p5)), .second, .val (.ref b5), .val (.int (e0_2 p0 p1 p2 q3 p4 p5)), .unset, .unset, .unset, .unset, .unset, .unset, .unset, .unset] [(.int (e0_3 p0 q3 p4 p5))])) t → Steps p.tables e below (T9.setTop (mkF m 106 #[.val (.int p0), .val (.int p1), .val (.int p2), .val (.long q3), .second, .val (.int p4), .val (.int p5), .val (.int p0), .val (.int (if (p5 &&& (1 : Int32)) = (0 : Int32) then p1 else p0)), .val (.int (e0_0 p0 p1 p2 p5)), .val (.long (e0_1 p0 q3 p4 p5)), .second, .val (.ref b5), .val (.int (e0_2 p0 p1 p2 q3 p4 p5)), .unset, .unset, .unset, .unset, .unset, .unset, .unset, .unset] [(.int (lcmpW (((p0).toInt64) * ((p4).toInt64)) (e0_1 p0 q3 p4 p5)))])) t := by
    intro t k
    by_cases hm77 : (e0_1 p0 q3 p4 p5) < (((p0).toInt64) * ((p4).toInt64))
    · rw [show (e0_3 p0 q3 p4 p5) = (1 : Int32) from if_pos hm77] at k
      refine XS.ifNo X9.here hx rfl (hb hby at_106) rfl (own_tltL hm77).2.2.2 (XS.iconst X9.here hx rfl (hb hby at_109) (XS.goto X9.here hx rfl (pc0 := 110) (pc' := 114) rfl (hb hby at_110) (by decide) (by decide) ?_))
      show Steps _ _ _ (T9.setTop (mkF m 114 #[.val (.int p0), .val (.int p1), .val (.int p2), .val (.long q3), .second, .val (.int p4), .val (.int p5), .val (.int p0), .val (.int (if (p5 &&& (1 : Int32)) = (0 : Int32) then p1 else p0)), .val (.int (e0_0 p0 p1 p2 p5)), .val (.long (e0_1 p0 q3 p4 p5)), .second, .val (.ref b5), .val (.int (e0_2 p0 p1 p2 q3 p4 p5)), .unset, .unset, .unset, .unset, .unset, .unset, .unset, .unset] [(.int (1 : Int32))])) _
      exact k
    · rw [show (e0_3 p0 q3 p4 p5) = (0 : Int32) from if_neg hm77] at k
      refine XS.ifYes X9.here hx rfl (pc0 := 106) (pc' := 113) rfl (hb hby at_106) rfl (own_fltL hm77).2.2.2 (by decide) (by decide) (XS.iconst X9.here hx rfl (hb hby at_113) ?_)
      show Steps _ _ _ (T9.setTop (mkF m 114 #[.val (.int p0), .val (.int p1), .val (.int p2), .val (.long q3), .second, .val (.int p4), .val (.int p5), .val (.int p0), .val (.int (if (p5 &&& (1 : Int32)) = (0 : Int32) then p1 else p0)), .val (.int (e0_0 p0 p1 p2 p5)), .val (.long (e0_1 p0 q3 p4 p5)), .second, .val (.ref b5), .val (.int (e0_2 p0 p1 p2 q3 p4 p5)), .unset, .unset, .unset, .unset, .unset, .unset, .unset, .unset] [(.int (0 : Int32))])) _
      exact k
  refine OGl.go (fun t k => m77 _ (XS.istore X9.here hx rfl (hb hby at_114) rfl (l' := #[.val (.int p0), .val (.int p1), .val (.int p2), .val (.long q3), .second, .val (.int p4), .val (.int p5), .val (.int p0), .val (.int (if (p5 &&& (1 : Int32)) = (0 : Int32) then p1 else p0)), .val (.int (e0_0 p0 p1 p2 p5)), .val (.long (e0_1 p0 q3 p4 p5)), .second, .val (.ref b5), .val (.int (e0_2 p0 p1 p2 q3 p4 p5)), .val (.int (e0_3 p0 q3 p4 p5)), .unset, .unset, .unset, .unset, .unset, .unset, .unset]) rfl (XS.iload X9.here hx rfl (hb hby at_116) rfl (XS.i2l X9.here hx rfl (hb hby at_118) rfl (XS.iload X9.here hx rfl (hb hby at_119) rfl (XS.i2l X9.here hx rfl (hb hby at_121) rfl (XS.lmul X9.here hx rfl (hb hby at_122) rfl (XS.lload X9.here hx rfl (hb hby at_123) rfl k)))))))) ?_
  show OGl _ _ _ _ T9 (mkF m 125 #[.val (.int p0), .val (.int p1), .val (.int p2), .val (.long q3), .second, .val (.int p4), .val (.int p5), .val (.int p0), .val (.int (if (p5 &&& (1 : Int32)) = (0 : Int32) then p1 else p0)), .val (.int (e0_0 p0 p1 p2 p5)), .val (.long (e0_1 p0 q3 p4 p5)), .second, .val (.ref b5), .val (.int (e0_2 p0 p1 p2 q3 p4 p5)), .val (.int (e0_3 p0 q3 p4 p5)), .unset, .unset, .unset, .unset, .unset, .unset, .unset] [(.long (e0_1 p0 q3 p4 p5)), (.long (e0_4 p0 p1 p4 p5))])
  refine OGl.go (fun t k => XS.lcmp X9.here hx rfl (hb hby at_125) rfl k) ?_
  show OGl _ _ _ _ T9 (mkF m 126 #[.val (.int p0), .val (.int p1), .val (.int p2), .val (.long q3), .second, .val (.int p4), .val (.int p5), .val (.int p0), .val (.int (if (p5 &&& (1 : Int32)) = (0 : Int32) then p1 else p0)), .val (.int (e0_0 p0 p1 p2 p5)), .val (.long (e0_1 p0 q3 p4 p5)), .second, .val (.ref b5), .val (.int (e0_2 p0 p1 p2 q3 p4 p5)), .val (.int (e0_3 p0 q3 p4 p5)), .unset, .unset, .unset, .unset, .unset, .unset, .unset] [(.int (lcmpW (e0_4 p0 p1 p4 p5) (e0_1 p0 q3 p4 p5)))])
  have m78 : ∀ t, Steps p.tables e below (T9.setTop (mkF m 134 #[.val (.int p0), .val (.int p1), .val (.int p2), .val (.long q3), .second, .val (.int p4), .val (.int p5), .val (.int p0), .val (.int (if (p5 &&& (1 : Int32)) = (0 : Int32) then p1 else p0)), .val (.int (e0_0 p0 p1 p2 p5)), .val (.long (e0_1 p0 q3 p4 p5)), .second, .val (.ref b5), .val (.int (e0_2 p0 p1 p2 q3 p4 p5)), .val (.int (e0_3 p0 q3 p4 p5)), .unset, .unset, .unset, .unset, .unset, .unset, .unset] [(.int (e0_5 p0 p1 q3 p4 p5))])) t → Steps p.tables e below (T9.setTop (mkF m 126 #[.val (.int p0), .val (.int p1), .val (.int p2), .val (.long q3), .second, .val (.int p4), .val (.int p5), .val (.int p0), .val (.int (if (p5 &&& (1 : Int32)) = (0 : Int32) then p1 else p0)), .val (.int (e0_0 p0 p1 p2 p5)), .val (.long (e0_1 p0 q3 p4 p5)), .second, .val (.ref b5), .val (.int (e0_2 p0 p1 p2 q3 p4 p5)), .val (.int (e0_3 p0 q3 p4 p5)), .unset, .unset, .unset, .unset, .unset, .unset, .unset] [(.int (lcmpW (e0_4 p0 p1 p4 p5) (e0_1 p0 q3 p4 p5)))])) t := by
    intro t k
    by_cases hm78 : (e0_1 p0 q3 p4 p5) < (e0_4 p0 p1 p4 p5)
    · rw [show (e0_5 p0 p1 q3 p4 p5) = (1 : Int32) from if_pos hm78] at k
      refine XS.ifNo X9.here hx rfl (hb hby at_126) rfl (own_tltL hm78).2.2.2 (XS.iconst X9.here hx rfl (hb hby at_129) (XS.goto X9.here hx rfl (pc0 := 130) (pc' := 134) rfl (hb hby at_130) (by decide) (by decide) ?_))
      show Steps _ _ _ (T9.setTop (mkF m 134 #[.val (.int p0), .val (.int p1), .val (.int p2), .val (.long q3), .second, .val (.int p4), .val (.int p5), .val (.int p0), .val (.int (if (p5 &&& (1 : Int32)) = (0 : Int32) then p1 else p0)), .val (.int (e0_0 p0 p1 p2 p5)), .val (.long (e0_1 p0 q3 p4 p5)), .second, .val (.ref b5), .val (.int (e0_2 p0 p1 p2 q3 p4 p5)), .val (.int (e0_3 p0 q3 p4 p5)), .unset, .unset, .unset, .unset, .unset, .unset, .unset] [(.int (1 : Int32))])) _
      exact k
    · rw [show (e0_5 p0 p1 q3 p4 p5) = (0 : Int32) from if_neg hm78] at k
      refine XS.ifYes X9.here hx rfl (pc0 := 126) (pc' := 133) rfl (hb hby at_126) rfl (own_fltL hm78).2.2.2 (by decide) (by decide) (XS.iconst X9.here hx rfl (hb hby at_133) ?_)
      show Steps _ _ _ (T9.setTop (mkF m 134 #[.val (.int p0), .val (.int p1), .val (.int p2), .val (.long q3), .second, .val (.int p4), .val (.int p5), .val (.int p0), .val (.int (if (p5 &&& (1 : Int32)) = (0 : Int32) then p1 else p0)), .val (.int (e0_0 p0 p1 p2 p5)), .val (.long (e0_1 p0 q3 p4 p5)), .second, .val (.ref b5), .val (.int (e0_2 p0 p1 p2 q3 p4 p5)), .val (.int (e0_3 p0 q3 p4 p5)), .unset, .unset, .unset, .unset, .unset, .unset, .unset] [(.int (0 : Int32))])) _
      exact k
  refine OGl.go (fun t k => m78 _ (XS.istore X9.here hx rfl (hb hby at_134) rfl (l' := #[.val (.int p0), .val (.int p1), .val (.int p2), .val (.long q3), .second, .val (.int p4), .val (.int p5), .val (.int p0), .val (.int (if (p5 &&& (1 : Int32)) = (0 : Int32) then p1 else p0)), .val (.int (e0_0 p0 p1 p2 p5)), .val (.long (e0_1 p0 q3 p4 p5)), .second, .val (.ref b5), .val (.int (e0_2 p0 p1 p2 q3 p4 p5)), .val (.int (e0_3 p0 q3 p4 p5)), .val (.int (e0_5 p0 p1 q3 p4 p5)), .unset, .unset, .unset, .unset, .unset, .unset]) rfl (XS.iload X9.here hx rfl (hb hby at_136) rfl (XS.i2l X9.here hx rfl (hb hby at_138) rfl (XS.iload X9.here hx rfl (hb hby at_139) rfl (XS.i2l X9.here hx rfl (hb hby at_141) rfl (XS.lmul X9.here hx rfl (hb hby at_142) rfl (XS.lload X9.here hx rfl (hb hby at_143) rfl k)))))))) ?_
  show OGl _ _ _ _ T9 (mkF m 145 #[.val (.int p0), .val (.int p1), .val (.int p2), .val (.long q3), .second, .val (.int p4), .val (.int p5), .val (.int p0), .val (.int (if (p5 &&& (1 : Int32)) = (0 : Int32) then p1 else p0)), .val (.int (e0_0 p0 p1 p2 p5)), .val (.long (e0_1 p0 q3 p4 p5)), .second, .val (.ref b5), .val (.int (e0_2 p0 p1 p2 q3 p4 p5)), .val (.int (e0_3 p0 q3 p4 p5)), .val (.int (e0_5 p0 p1 q3 p4 p5)), .unset, .unset, .unset, .unset, .unset, .unset] [(.long (e0_1 p0 q3 p4 p5)), (.long ((((e0_0 p0 p1 p2 p5)).toInt64) * ((p4).toInt64)))])
  refine OGl.go (fun t k => XS.lcmp X9.here hx rfl (hb hby at_145) rfl k) ?_
  show OGl _ _ _ _ T9 (mkF m 146 #[.val (.int p0), .val (.int p1), .val (.int p2), .val (.long q3), .second, .val (.int p4), .val (.int p5), .val (.int p0), .val (.int (if (p5 &&& (1 : Int32)) = (0 : Int32) then p1 else p0)), .val (.int (e0_0 p0 p1 p2 p5)), .val (.long (e0_1 p0 q3 p4 p5)), .second, .val (.ref b5), .val (.int (e0_2 p0 p1 p2 q3 p4 p5)), .val (.int (e0_3 p0 q3 p4 p5)), .val (.int (e0_5 p0 p1 q3 p4 p5)), .unset, .unset, .unset, .unset, .unset, .unset] [(.int (lcmpW ((((e0_0 p0 p1 p2 p5)).toInt64) * ((p4).toInt64)) (e0_1 p0 q3 p4 p5)))])
  have m79 : ∀ t, Steps p.tables e below (T9.setTop (mkF m 154 #[.val (.int p0), .val (.int p1), .val (.int p2), .val (.long q3), .second, .val (.int p4), .val (.int p5), .val (.int p0), .val (.int (if (p5 &&& (1 : Int32)) = (0 : Int32) then p1 else p0)), .val (.int (e0_0 p0 p1 p2 p5)), .val (.long (e0_1 p0 q3 p4 p5)), .second, .val (.ref b5), .val (.int (e0_2 p0 p1 p2 q3 p4 p5)), .val (.int (e0_3 p0 q3 p4 p5)), .val (.int (e0_5 p0 p1 q3 p4 p5)), .unset, .unset, .unset, .unset, .unset, .unset] [(.int (e0_6 p0 p1 p2 q3 p4 p5))])) t → Steps p.tables e below (T9.setTop (mkF m 146 #[.val (.int p0), .val (.int p1), .val (.int p2), .val (.long q3), .second, .val (.int p4), .val (.int p5), .val (.int p0), .val (.int (if (p5 &&& (1 : Int32)) = (0 : Int32) then p1 else p0)), .val (.int (e0_0 p0 p1 p2 p5)), .val (.long (e0_1 p0 q3 p4 p5)), .second, .val (.ref b5), .val (.int (e0_2 p0 p1 p2 q3 p4 p5)), .val (.int (e0_3 p0 q3 p4 p5)), .val (.int (e0_5 p0 p1 q3 p4 p5)), .unset, .unset, .unset, .unset, .unset, .unset] [(.int (lcmpW ((((e0_0 p0 p1 p2 p5)).toInt64) * ((p4).toInt64)) (e0_1 p0 q3 p4 p5)))])) t := by
    intro t k
    by_cases hm79 : (e0_1 p0 q3 p4 p5) < ((((e0_0 p0 p1 p2 p5)).toInt64) * ((p4).toInt64))
    · rw [show (e0_6 p0 p1 p2 q3 p4 p5) = (1 : Int32) from if_pos hm79] at k
      refine XS.ifNo X9.here hx rfl (hb hby at_146) rfl (own_tltL hm79).2.2.2 (XS.iconst X9.here hx rfl (hb hby at_149) (XS.goto X9.here hx rfl (pc0 := 150) (pc' := 154) rfl (hb hby at_150) (by decide) (by decide) ?_))
      show Steps _ _ _ (T9.setTop (mkF m 154 #[.val (.int p0), .val (.int p1), .val (.int p2), .val (.long q3), .second, .val (.int p4), .val (.int p5), .val (.int p0), .val (.int (if (p5 &&& (1 : Int32)) = (0 : Int32) then p1 else p0)), .val (.int (e0_0 p0 p1 p2 p5)), .val (.long (e0_1 p0 q3 p4 p5)), .second, .val (.ref b5), .val (.int (e0_2 p0 p1 p2 q3 p4 p5)), .val (.int (e0_3 p0 q3 p4 p5)), .val (.int (e0_5 p0 p1 q3 p4 p5)), .unset, .unset, .unset, .unset, .unset, .unset] [(.int (1 : Int32))])) _
      exact k
    · rw [show (e0_6 p0 p1 p2 q3 p4 p5) = (0 : Int32) from if_neg hm79] at k
      refine XS.ifYes X9.here hx rfl (pc0 := 146) (pc' := 153) rfl (hb hby at_146) rfl (own_fltL hm79).2.2.2 (by decide) (by decide) (XS.iconst X9.here hx rfl (hb hby at_153) ?_)
      show Steps _ _ _ (T9.setTop (mkF m 154 #[.val (.int p0), .val (.int p1), .val (.int p2), .val (.long q3), .second, .val (.int p4), .val (.int p5), .val (.int p0), .val (.int (if (p5 &&& (1 : Int32)) = (0 : Int32) then p1 else p0)), .val (.int (e0_0 p0 p1 p2 p5)), .val (.long (e0_1 p0 q3 p4 p5)), .second, .val (.ref b5), .val (.int (e0_2 p0 p1 p2 q3 p4 p5)), .val (.int (e0_3 p0 q3 p4 p5)), .val (.int (e0_5 p0 p1 q3 p4 p5)), .unset, .unset, .unset, .unset, .unset, .unset] [(.int (0 : Int32))])) _
      exact k
  refine OGl.go (fun t k => m79 _ (XS.istore X9.here hx rfl (hb hby at_154) rfl (l' := #[.val (.int p0), .val (.int p1), .val (.int p2), .val (.long q3), .second, .val (.int p4), .val (.int p5), .val (.int p0), .val (.int (if (p5 &&& (1 : Int32)) = (0 : Int32) then p1 else p0)), .val (.int (e0_0 p0 p1 p2 p5)), .val (.long (e0_1 p0 q3 p4 p5)), .second, .val (.ref b5), .val (.int (e0_2 p0 p1 p2 q3 p4 p5)), .val (.int (e0_3 p0 q3 p4 p5)), .val (.int (e0_5 p0 p1 q3 p4 p5)), .val (.int (e0_6 p0 p1 p2 q3 p4 p5)), .unset, .unset, .unset, .unset, .unset]) rfl (XS.iload X9.here hx rfl (hb hby at_156) rfl (XS.iconst X9.here hx rfl (hb hby at_158) k)))) ?_
  show OGl _ _ _ _ T9 (mkF m 159 #[.val (.int p0), .val (.int p1), .val (.int p2), .val (.long q3), .second, .val (.int p4), .val (.int p5), .val (.int p0), .val (.int (if (p5 &&& (1 : Int32)) = (0 : Int32) then p1 else p0)), .val (.int (e0_0 p0 p1 p2 p5)), .val (.long (e0_1 p0 q3 p4 p5)), .second, .val (.ref b5), .val (.int (e0_2 p0 p1 p2 q3 p4 p5)), .val (.int (e0_3 p0 q3 p4 p5)), .val (.int (e0_5 p0 p1 q3 p4 p5)), .val (.int (e0_6 p0 p1 p2 q3 p4 p5)), .unset, .unset, .unset, .unset, .unset] [(.int (-1 : Int32)), (.int (e0_2 p0 p1 p2 q3 p4 p5))])
  by_cases hc80 : (e0_2 p0 p1 p2 q3 p4 p5) = (-1 : Int32)
  · refine OGl.go (fun t k => XS.icmpNo X9.here hx rfl (hb hby at_159) rfl (teq hc80).2 (XS.iload X9.here hx rfl (hb hby at_162) rfl k)) ?_
    show OGl _ _ _ _ T9 (mkF m 164 #[.val (.int p0), .val (.int p1), .val (.int p2), .val (.long q3), .second, .val (.int p4), .val (.int p5), .val (.int p0), .val (.int (if (p5 &&& (1 : Int32)) = (0 : Int32) then p1 else p0)), .val (.int (e0_0 p0 p1 p2 p5)), .val (.long (e0_1 p0 q3 p4 p5)), .second, .val (.ref b5), .val (.int (e0_2 p0 p1 p2 q3 p4 p5)), .val (.int (e0_3 p0 q3 p4 p5)), .val (.int (e0_5 p0 p1 q3 p4 p5)), .val (.int (e0_6 p0 p1 p2 q3 p4 p5)), .unset, .unset, .unset, .unset, .unset] [(.int (e0_3 p0 q3 p4 p5))])
    by_cases hc81 : (e0_3 p0 q3 p4 p5) = (0 : Int32)
    · refine OGl.go (fun t k => XS.ifNo X9.here hx rfl (hb hby at_164) rfl ((if0 _ _).trans (teq hc81).2) (XS.iload X9.here hx rfl (hb hby at_167) rfl k)) ?_
      show OGl _ _ _ _ T9 (mkF m 169 #[.val (.int p0), .val (.int p1), .val (.int p2), .val (.long q3), .second, .val (.int p4), .val (.int p5), .val (.int p0), .val (.int (if (p5 &&& (1 : Int32)) = (0 : Int32) then p1 else p0)), .val (.int (e0_0 p0 p1 p2 p5)), .val (.long (e0_1 p0 q3 p4 p5)), .second, .val (.ref b5), .val (.int (e0_2 p0 p1 p2 q3 p4 p5)), .val (.int (e0_3 p0 q3 p4 p5)), .val (.int (e0_5 p0 p1 q3 p4 p5)), .val (.int (e0_6 p0 p1 p2 q3 p4 p5)), .unset, .unset, .unset, .unset, .unset] [(.int (e0_5 p0 p1 q3 p4 p5))])
      by_cases hc82 : (e0_5 p0 p1 q3 p4 p5) = (0 : Int32)
      · refine OGl.go (fun t k => XS.ifNo X9.here hx rfl (hb hby at_169) rfl ((if0 _ _).trans (teq hc82).2) (XS.iload X9.here hx rfl (hb hby at_172) rfl k)) ?_
        show OGl _ _ _ _ T9 (mkF m 174 #[.val (.int p0), .val (.int p1), .val (.int p2), .val (.long q3), .second, .val (.int p4), .val (.int p5), .val (.int p0), .val (.int (if (p5 &&& (1 : Int32)) = (0 : Int32) then p1 else p0)), .val (.int (e0_0 p0 p1 p2 p5)), .val (.long (e0_1 p0 q3 p4 p5)), .second, .val (.ref b5), .val (.int (e0_2 p0 p1 p2 q3 p4 p5)), .val (.int (e0_3 p0 q3 p4 p5)), .val (.int (e0_5 p0 p1 q3 p4 p5)), .val (.int (e0_6 p0 p1 p2 q3 p4 p5)), .unset, .unset, .unset, .unset, .unset] [(.int (e0_6 p0 p1 p2 q3 p4 p5))])
        by_cases hc83 : (e0_6 p0 p1 p2 q3 p4 p5) = (0 : Int32)
        · refine OGl.go (fun t k => XS.ifNo X9.here hx rfl (hb hby at_174) rfl ((if0 _ _).trans (teq hc83).2) (XS.iconst X9.here hx rfl (hb hby at_177) (XS.goto X9.here hx rfl (pc0 := 178) (pc' := 182) rfl (hb hby at_178) (by decide) (by decide) k))) ?_
          show OGl _ _ _ _ T9 (mkF m 182 #[.val (.int p0), .val (.int p1), .val (.int p2), .val (.long q3), .second, .val (.int p4), .val (.int p5), .val (.int p0), .val (.int (if (p5 &&& (1 : Int32)) = (0 : Int32) then p1 else p0)), .val (.int (e0_0 p0 p1 p2 p5)), .val (.long (e0_1 p0 q3 p4 p5)), .second, .val (.ref b5), .val (.int (e0_2 p0 p1 p2 q3 p4 p5)), .val (.int (e0_3 p0 q3 p4 p5)), .val (.int (e0_5 p0 p1 q3 p4 p5)), .val (.int (e0_6 p0 p1 p2 q3 p4 p5)), .unset, .unset, .unset, .unset, .unset] [(.int (1 : Int32))])
          obtain ⟨fs, hr, hrun, hended, hW, hsame⟩ := X9.leave (v := some (.int (1 : Int32))) (fun h => by rw [Bd.returns] at h; cases h)
          refine ⟨_, _, retN X9 hx (t := .boolean) Bd.returns (by simp) (hb hby at_182) hr, hrun, hended, _, _, rfl, ?_, ⟨_, rfl⟩, hW, hsame.mono (by decide) (by decide)⟩
          have hv105 : (t0_0 p0 p1 p2 q3 p4 p5) = (1 : Int32) := by unfold t0_0; rw [if_pos hc80, if_pos hc81, if_pos hc82, if_pos hc83]
          show Q0 Z p0 p1 p2 q3 p4 p5 h0 n0 _ T9.heap _
          rw [e9]
          exact ⟨(by rw [hv105]), N9⟩
        · refine OGl.go (fun t k => XS.ifYes X9.here hx rfl (pc0 := 174) (pc' := 181) rfl (hb hby at_174) rfl ((if0 _ _).trans (feq hc83).2) (by decide) (by decide) (XS.iconst X9.here hx rfl (hb hby at_181) k)) ?_
          show OGl _ _ _ _ T9 (mkF m 182 #[.val (.int p0), .val (.int p1), .val (.int p2), .val (.long q3), .second, .val (.int p4), .val (.int p5), .val (.int p0), .val (.int (if (p5 &&& (1 : Int32)) = (0 : Int32) then p1 else p0)), .val (.int (e0_0 p0 p1 p2 p5)), .val (.long (e0_1 p0 q3 p4 p5)), .second, .val (.ref b5), .val (.int (e0_2 p0 p1 p2 q3 p4 p5)), .val (.int (e0_3 p0 q3 p4 p5)), .val (.int (e0_5 p0 p1 q3 p4 p5)), .val (.int (e0_6 p0 p1 p2 q3 p4 p5)), .unset, .unset, .unset, .unset, .unset] [(.int (0 : Int32))])
          obtain ⟨fs, hr, hrun, hended, hW, hsame⟩ := X9.leave (v := some (.int (0 : Int32))) (fun h => by rw [Bd.returns] at h; cases h)
          refine ⟨_, _, retN X9 hx (t := .boolean) Bd.returns (by simp) (hb hby at_182) hr, hrun, hended, _, _, rfl, ?_, ⟨_, rfl⟩, hW, hsame.mono (by decide) (by decide)⟩
          have hv106 : (t0_0 p0 p1 p2 q3 p4 p5) = (0 : Int32) := by unfold t0_0; rw [if_pos hc80, if_pos hc81, if_pos hc82, if_neg hc83]
          show Q0 Z p0 p1 p2 q3 p4 p5 h0 n0 _ T9.heap _
          rw [e9]
          exact ⟨(by rw [hv106]), N9⟩
      · refine OGl.go (fun t k => XS.ifYes X9.here hx rfl (pc0 := 169) (pc' := 181) rfl (hb hby at_169) rfl ((if0 _ _).trans (feq hc82).2) (by decide) (by decide) (XS.iconst X9.here hx rfl (hb hby at_181) k)) ?_
        show OGl _ _ _ _ T9 (mkF m 182 #[.val (.int p0), .val (.int p1), .val (.int p2), .val (.long q3), .second, .val (.int p4), .val (.int p5), .val (.int p0), .val (.int (if (p5 &&& (1 : Int32)) = (0 : Int32) then p1 else p0)), .val (.int (e0_0 p0 p1 p2 p5)), .val (.long (e0_1 p0 q3 p4 p5)), .second, .val (.ref b5), .val (.int (e0_2 p0 p1 p2 q3 p4 p5)), .val (.int (e0_3 p0 q3 p4 p5)), .val (.int (e0_5 p0 p1 q3 p4 p5)), .val (.int (e0_6 p0 p1 p2 q3 p4 p5)), .unset, .unset, .unset, .unset, .unset] [(.int (0 : Int32))])
        obtain ⟨fs, hr, hrun, hended, hW, hsame⟩ := X9.leave (v := some (.int (0 : Int32))) (fun h => by rw [Bd.returns] at h; cases h)
        refine ⟨_, _, retN X9 hx (t := .boolean) Bd.returns (by simp) (hb hby at_182) hr, hrun, hended, _, _, rfl, ?_, ⟨_, rfl⟩, hW, hsame.mono (by decide) (by decide)⟩
        have hv107 : (t0_0 p0 p1 p2 q3 p4 p5) = (0 : Int32) := by unfold t0_0; rw [if_pos hc80, if_pos hc81, if_neg hc82]
        show Q0 Z p0 p1 p2 q3 p4 p5 h0 n0 _ T9.heap _
        rw [e9]
        exact ⟨(by rw [hv107]), N9⟩
    · refine OGl.go (fun t k => XS.ifYes X9.here hx rfl (pc0 := 164) (pc' := 181) rfl (hb hby at_164) rfl ((if0 _ _).trans (feq hc81).2) (by decide) (by decide) (XS.iconst X9.here hx rfl (hb hby at_181) k)) ?_
      show OGl _ _ _ _ T9 (mkF m 182 #[.val (.int p0), .val (.int p1), .val (.int p2), .val (.long q3), .second, .val (.int p4), .val (.int p5), .val (.int p0), .val (.int (if (p5 &&& (1 : Int32)) = (0 : Int32) then p1 else p0)), .val (.int (e0_0 p0 p1 p2 p5)), .val (.long (e0_1 p0 q3 p4 p5)), .second, .val (.ref b5), .val (.int (e0_2 p0 p1 p2 q3 p4 p5)), .val (.int (e0_3 p0 q3 p4 p5)), .val (.int (e0_5 p0 p1 q3 p4 p5)), .val (.int (e0_6 p0 p1 p2 q3 p4 p5)), .unset, .unset, .unset, .unset, .unset] [(.int (0 : Int32))])
      obtain ⟨fs, hr, hrun, hended, hW, hsame⟩ := X9.leave (v := some (.int (0 : Int32))) (fun h => by rw [Bd.returns] at h; cases h)
      refine ⟨_, _, retN X9 hx (t := .boolean) Bd.returns (by simp) (hb hby at_182) hr, hrun, hended, _, _, rfl, ?_, ⟨_, rfl⟩, hW, hsame.mono (by decide) (by decide)⟩
      have hv108 : (t0_0 p0 p1 p2 q3 p4 p5) = (0 : Int32) := by unfold t0_0; rw [if_pos hc80, if_neg hc81]
      show Q0 Z p0 p1 p2 q3 p4 p5 h0 n0 _ T9.heap _
      rw [e9]
      exact ⟨(by rw [hv108]), N9⟩
  · refine OGl.go (fun t k => XS.icmpYes X9.here hx rfl (pc0 := 159) (pc' := 183) rfl (hb hby at_159) rfl (feq hc80).2 (by decide) (by decide) (XS.iload X9.here hx rfl (hb hby at_183) rfl k)) ?_
    show OGl _ _ _ _ T9 (mkF m 185 #[.val (.int p0), .val (.int p1), .val (.int p2), .val (.long q3), .second, .val (.int p4), .val (.int p5), .val (.int p0), .val (.int (if (p5 &&& (1 : Int32)) = (0 : Int32) then p1 else p0)), .val (.int (e0_0 p0 p1 p2 p5)), .val (.long (e0_1 p0 q3 p4 p5)), .second, .val (.ref b5), .val (.int (e0_2 p0 p1 p2 q3 p4 p5)), .val (.int (e0_3 p0 q3 p4 p5)), .val (.int (e0_5 p0 p1 q3 p4 p5)), .val (.int (e0_6 p0 p1 p2 q3 p4 p5)), .unset, .unset, .unset, .unset, .unset] [(.int (e0_2 p0 p1 p2 q3 p4 p5))])
    by_cases hc84 : (e0_2 p0 p1 p2 q3 p4 p5) < (0 : Int32)
    · refine OGl.go (fun t k => XS.ifYes X9.here hx rfl (pc0 := 185) (pc' := 194) rfl (hb hby at_185) rfl ((if0 _ _).trans (tlt hc84).1) (by decide) (by decide) (XS.iconst X9.here hx rfl (hb hby at_194) k)) ?_
      show OGl _ _ _ _ T9 (mkF m 195 #[.val (.int p0), .val (.int p1), .val (.int p2), .val (.long q3), .second, .val (.int p4), .val (.int p5), .val (.int p0), .val (.int (if (p5 &&& (1 : Int32)) = (0 : Int32) then p1 else p0)), .val (.int (e0_0 p0 p1 p2 p5)), .val (.long (e0_1 p0 q3 p4 p5)), .second, .val (.ref b5), .val (.int (e0_2 p0 p1 p2 q3 p4 p5)), .val (.int (e0_3 p0 q3 p4 p5)), .val (.int (e0_5 p0 p1 q3 p4 p5)), .val (.int (e0_6 p0 p1 p2 q3 p4 p5)), .unset, .unset, .unset, .unset, .unset] [(.int (0 : Int32))])
      obtain ⟨fs, hr, hrun, hended, hW, hsame⟩ := X9.leave (v := some (.int (0 : Int32))) (fun h => by rw [Bd.returns] at h; cases h)
      refine ⟨_, _, retN X9 hx (t := .boolean) Bd.returns (by simp) (hb hby at_195) hr, hrun, hended, _, _, rfl, ?_, ⟨_, rfl⟩, hW, hsame.mono (by decide) (by decide)⟩
      have hv109 : (t0_0 p0 p1 p2 q3 p4 p5) = (0 : Int32) := by unfold t0_0; rw [if_neg hc80, if_pos hc84]
      show Q0 Z p0 p1 p2 q3 p4 p5 h0 n0 _ T9.heap _
      rw [e9]
      exact ⟨(by rw [hv109]), N9⟩
    · refine OGl.go (fun t k => XS.ifNo X9.here hx rfl (hb hby at_185) rfl ((if0 _ _).trans (flt hc84).1) (XS.iload X9.here hx rfl (hb hby at_188) rfl (XS.iconst X9.here hx rfl (hb hby at_190) k))) ?_
      show OGl _ _ _ _ T9 (mkF m 191 #[.val (.int p0), .val (.int p1), .val (.int p2), .val (.long q3), .second, .val (.int p4), .val (.int p5), .val (.int p0), .val (.int (if (p5 &&& (1 : Int32)) = (0 : Int32) then p1 else p0)), .val (.int (e0_0 p0 p1 p2 p5)), .val (.long (e0_1 p0 q3 p4 p5)), .second, .val (.ref b5), .val (.int (e0_2 p0 p1 p2 q3 p4 p5)), .val (.int (e0_3 p0 q3 p4 p5)), .val (.int (e0_5 p0 p1 q3 p4 p5)), .val (.int (e0_6 p0 p1 p2 q3 p4 p5)), .unset, .unset, .unset, .unset, .unset] [(.int (2 : Int32)), (.int (e0_2 p0 p1 p2 q3 p4 p5))])
      by_cases hc85 : (2 : Int32) < (e0_2 p0 p1 p2 q3 p4 p5)
      · refine OGl.go (fun t k => XS.icmpNo X9.here hx rfl (hb hby at_191) rfl (tlt hc85).2.2.2 (XS.iconst X9.here hx rfl (hb hby at_194) k)) ?_
        show OGl _ _ _ _ T9 (mkF m 195 #[.val (.int p0), .val (.int p1), .val (.int p2), .val (.long q3), .second, .val (.int p4), .val (.int p5), .val (.int p0), .val (.int (if (p5 &&& (1 : Int32)) = (0 : Int32) then p1 else p0)), .val (.int (e0_0 p0 p1 p2 p5)), .val (.long (e0_1 p0 q3 p4 p5)), .second, .val (.ref b5), .val (.int (e0_2 p0 p1 p2 q3 p4 p5)), .val (.int (e0_3 p0 q3 p4 p5)), .val (.int (e0_5 p0 p1 q3 p4 p5)), .val (.int (e0_6 p0 p1 p2 q3 p4 p5)), .unset, .unset, .unset, .unset, .unset] [(.int (0 : Int32))])
        obtain ⟨fs, hr, hrun, hended, hW, hsame⟩ := X9.leave (v := some (.int (0 : Int32))) (fun h => by rw [Bd.returns] at h; cases h)
        refine ⟨_, _, retN X9 hx (t := .boolean) Bd.returns (by simp) (hb hby at_195) hr, hrun, hended, _, _, rfl, ?_, ⟨_, rfl⟩, hW, hsame.mono (by decide) (by decide)⟩
        have hv110 : (t0_0 p0 p1 p2 q3 p4 p5) = (0 : Int32) := by unfold t0_0; rw [if_neg hc80, if_neg hc84, if_pos hc85]
        show Q0 Z p0 p1 p2 q3 p4 p5 h0 n0 _ T9.heap _
        rw [e9]
        exact ⟨(by rw [hv110]), N9⟩
      · refine OGl.go (fun t k => XS.icmpYes X9.here hx rfl (pc0 := 191) (pc' := 196) rfl (hb hby at_191) rfl (flt hc85).2.2.2 (by decide) (by decide) (XS.iload X9.here hx rfl (hb hby at_196) rfl k)) ?_
        show OGl _ _ _ _ T9 (mkF m 198 #[.val (.int p0), .val (.int p1), .val (.int p2), .val (.long q3), .second, .val (.int p4), .val (.int p5), .val (.int p0), .val (.int (if (p5 &&& (1 : Int32)) = (0 : Int32) then p1 else p0)), .val (.int (e0_0 p0 p1 p2 p5)), .val (.long (e0_1 p0 q3 p4 p5)), .second, .val (.ref b5), .val (.int (e0_2 p0 p1 p2 q3 p4 p5)), .val (.int (e0_3 p0 q3 p4 p5)), .val (.int (e0_5 p0 p1 q3 p4 p5)), .val (.int (e0_6 p0 p1 p2 q3 p4 p5)), .unset, .unset, .unset, .unset, .unset] [(.int (e0_2 p0 p1 p2 q3 p4 p5))])
        have m86 : ∀ t, Steps p.tables e below (T9.setTop (mkF m 219 #[.val (.int p0), .val (.int p1), .val (.int p2), .val (.long q3), .second, .val (.int p4), .val (.int p5), .val (.int p0), .val (.int (if (p5 &&& (1 : Int32)) = (0 : Int32) then p1 else p0)), .val (.int (e0_0 p0 p1 p2 p5)), .val (.long (e0_1 p0 q3 p4 p5)), .second, .val (.ref b5), .val (.int (e0_2 p0 p1 p2 q3 p4 p5)), .val (.int (e0_3 p0 q3 p4 p5)), .val (.int (e0_5 p0 p1 q3 p4 p5)), .val (.int (e0_6 p0 p1 p2 q3 p4 p5)), .unset, .unset, .unset, .unset, .unset] [(.int (e0_8 p0 p1 p2 q3 p4 p5))])) t → Steps p.tables e below (T9.setTop (mkF m 198 #[.val (.int p0), .val (.int p1), .val (.int p2), .val (.long q3), .second, .val (.int p4), .val (.int p5), .val (.int p0), .val (.int (if (p5 &&& (1 : Int32)) = (0 : Int32) then p1 else p0)), .val (.int (e0_0 p0 p1 p2 p5)), .val (.long (e0_1 p0 q3 p4 p5)), .second, .val (.ref b5), .val (.int (e0_2 p0 p1 p2 q3 p4 p5)), .val (.int (e0_3 p0 q3 p4 p5)), .val (.int (e0_5 p0 p1 q3 p4 p5)), .val (.int (e0_6 p0 p1 p2 q3 p4 p5)), .unset, .unset, .unset, .unset, .unset] [(.int (e0_2 p0 p1 p2 q3 p4 p5))])) t := by
          intro t k
          by_cases hm86 : (e0_2 p0 p1 p2 q3 p4 p5) = (0 : Int32)
          · rw [show (e0_8 p0 p1 p2 q3 p4 p5) = p0 from if_pos hm86] at k
            refine XS.ifNo X9.here hx rfl (hb hby at_198) rfl ((if0 _ _).trans (teq hm86).2) (XS.iload X9.here hx rfl (hb hby at_201) rfl (XS.goto X9.here hx rfl (pc0 := 203) (pc' := 219) rfl (hb hby at_203) (by decide) (by decide) ?_))
            show Steps _ _ _ (T9.setTop (mkF m 219 #[.val (.int p0), .val (.int p1), .val (.int p2), .val (.long q3), .second, .val (.int p4), .val (.int p5), .val (.int p0), .val (.int (if (p5 &&& (1 : Int32)) = (0 : Int32) then p1 else p0)), .val (.int (e0_0 p0 p1 p2 p5)), .val (.long (e0_1 p0 q3 p4 p5)), .second, .val (.ref b5), .val (.int (e0_2 p0 p1 p2 q3 p4 p5)), .val (.int (e0_3 p0 q3 p4 p5)), .val (.int (e0_5 p0 p1 q3 p4 p5)), .val (.int (e0_6 p0 p1 p2 q3 p4 p5)), .unset, .unset, .unset, .unset, .unset] [(.int p0)])) _
            exact k
          · rw [show (e0_8 p0 p1 p2 q3 p4 p5) = (e0_7 p0 p1 p2 q3 p4 p5) from if_neg hm86] at k
            refine XS.ifYes X9.here hx rfl (pc0 := 198) (pc' := 206) rfl (hb hby at_198) rfl ((if0 _ _).trans (feq hm86).2) (by decide) (by decide) (XS.iload X9.here hx rfl (hb hby at_206) rfl (XS.iconst X9.here hx rfl (hb hby at_208) ?_))
            show Steps _ _ _ (T9.setTop (mkF m 209 #[.val (.int p0), .val (.int p1), .val (.int p2), .val (.long q3), .second, .val (.int p4), .val (.int p5), .val (.int p0), .val (.int (if (p5 &&& (1 : Int32)) = (0 : Int32) then p1 else p0)), .val (.int (e0_0 p0 p1 p2 p5)), .val (.long (e0_1 p0 q3 p4 p5)), .second, .val (.ref b5), .val (.int (e0_2 p0 p1 p2 q3 p4 p5)), .val (.int (e0_3 p0 q3 p4 p5)), .val (.int (e0_5 p0 p1 q3 p4 p5)), .val (.int (e0_6 p0 p1 p2 q3 p4 p5)), .unset, .unset, .unset, .unset, .unset] [(.int (1 : Int32)), (.int (e0_2 p0 p1 p2 q3 p4 p5))])) _
            have m87 : ∀ t, Steps p.tables e below (T9.setTop (mkF m 219 #[.val (.int p0), .val (.int p1), .val (.int p2), .val (.long q3), .second, .val (.int p4), .val (.int p5), .val (.int p0), .val (.int (if (p5 &&& (1 : Int32)) = (0 : Int32) then p1 else p0)), .val (.int (e0_0 p0 p1 p2 p5)), .val (.long (e0_1 p0 q3 p4 p5)), .second, .val (.ref b5), .val (.int (e0_2 p0 p1 p2 q3 p4 p5)), .val (.int (e0_3 p0 q3 p4 p5)), .val (.int (e0_5 p0 p1 q3 p4 p5)), .val (.int (e0_6 p0 p1 p2 q3 p4 p5)), .unset, .unset, .unset, .unset, .unset] [(.int (e0_7 p0 p1 p2 q3 p4 p5))])) t → Steps p.tables e below (T9.setTop (mkF m 209 #[.val (.int p0), .val (.int p1), .val (.int p2), .val (.long q3), .second, .val (.int p4), .val (.int p5), .val (.int p0), .val (.int (if (p5 &&& (1 : Int32)) = (0 : Int32) then p1 else p0)), .val (.int (e0_0 p0 p1 p2 p5)), .val (.long (e0_1 p0 q3 p4 p5)), .second, .val (.ref b5), .val (.int (e0_2 p0 p1 p2 q3 p4 p5)), .val (.int (e0_3 p0 q3 p4 p5)), .val (.int (e0_5 p0 p1 q3 p4 p5)), .val (.int (e0_6 p0 p1 p2 q3 p4 p5)), .unset, .unset, .unset, .unset, .unset] [(.int (1 : Int32)), (.int (e0_2 p0 p1 p2 q3 p4 p5))])) t := by
              intro t k
              by_cases hm87 : (e0_2 p0 p1 p2 q3 p4 p5) = (1 : Int32)
              · rw [show (e0_7 p0 p1 p2 q3 p4 p5) = (if (p5 &&& (1 : Int32)) = (0 : Int32) then p1 else p0) from if_pos hm87] at k
                refine XS.icmpNo X9.here hx rfl (hb hby at_209) rfl (teq hm87).2 (XS.iload X9.here hx rfl (hb hby at_212) rfl (XS.goto X9.here hx rfl (pc0 := 214) (pc' := 219) rfl (hb hby at_214) (by decide) (by decide) ?_))
                show Steps _ _ _ (T9.setTop (mkF m 219 #[.val (.int p0), .val (.int p1), .val (.int p2), .val (.long q3), .second, .val (.int p4), .val (.int p5), .val (.int p0), .val (.int (if (p5 &&& (1 : Int32)) = (0 : Int32) then p1 else p0)), .val (.int (e0_0 p0 p1 p2 p5)), .val (.long (e0_1 p0 q3 p4 p5)), .second, .val (.ref b5), .val (.int (e0_2 p0 p1 p2 q3 p4 p5)), .val (.int (e0_3 p0 q3 p4 p5)), .val (.int (e0_5 p0 p1 q3 p4 p5)), .val (.int (e0_6 p0 p1 p2 q3 p4 p5)), .unset, .unset, .unset, .unset, .unset] [(.int (if (p5 &&& (1 : Int32)) = (0 : Int32) then p1 else p0))])) _
                exact k
              · rw [show (e0_7 p0 p1 p2 q3 p4 p5) = (e0_0 p0 p1 p2 p5) from if_neg hm87] at k
                refine XS.icmpYes X9.here hx rfl (pc0 := 209) (pc' := 217) rfl (hb hby at_209) rfl (feq hm87).2 (by decide) (by decide) (XS.iload X9.here hx rfl (hb hby at_217) rfl ?_)
                show Steps _ _ _ (T9.setTop (mkF m 219 #[.val (.int p0), .val (.int p1), .val (.int p2), .val (.long q3), .second, .val (.int p4), .val (.int p5), .val (.int p0), .val (.int (if (p5 &&& (1 : Int32)) = (0 : Int32) then p1 else p0)), .val (.int (e0_0 p0 p1 p2 p5)), .val (.long (e0_1 p0 q3 p4 p5)), .second, .val (.ref b5), .val (.int (e0_2 p0 p1 p2 q3 p4 p5)), .val (.int (e0_3 p0 q3 p4 p5)), .val (.int (e0_5 p0 p1 q3 p4 p5)), .val (.int (e0_6 p0 p1 p2 q3 p4 p5)), .unset, .unset, .unset, .unset, .unset] [(.int (e0_0 p0 p1 p2 p5))])) _
                exact k
            refine m87 _ ?_
            show Steps _ _ _ (T9.setTop (mkF m 219 #[.val (.int p0), .val (.int p1), .val (.int p2), .val (.long q3), .second, .val (.int p4), .val (.int p5), .val (.int p0), .val (.int (if (p5 &&& (1 : Int32)) = (0 : Int32) then p1 else p0)), .val (.int (e0_0 p0 p1 p2 p5)), .val (.long (e0_1 p0 q3 p4 p5)), .second, .val (.ref b5), .val (.int (e0_2 p0 p1 p2 q3 p4 p5)), .val (.int (e0_3 p0 q3 p4 p5)), .val (.int (e0_5 p0 p1 q3 p4 p5)), .val (.int (e0_6 p0 p1 p2 q3 p4 p5)), .unset, .unset, .unset, .unset, .unset] [(.int (e0_7 p0 p1 p2 q3 p4 p5))])) _
            exact k
        refine OGl.go (fun t k => m86 _ (XS.istore X9.here hx rfl (hb hby at_219) rfl (l' := #[.val (.int p0), .val (.int p1), .val (.int p2), .val (.long q3), .second, .val (.int p4), .val (.int p5), .val (.int p0), .val (.int (if (p5 &&& (1 : Int32)) = (0 : Int32) then p1 else p0)), .val (.int (e0_0 p0 p1 p2 p5)), .val (.long (e0_1 p0 q3 p4 p5)), .second, .val (.ref b5), .val (.int (e0_2 p0 p1 p2 q3 p4 p5)), .val (.int (e0_3 p0 q3 p4 p5)), .val (.int (e0_5 p0 p1 q3 p4 p5)), .val (.int (e0_6 p0 p1 p2 q3 p4 p5)), .val (.int (e0_8 p0 p1 p2 q3 p4 p5)), .unset, .unset, .unset, .unset]) rfl (XS.iload X9.here hx rfl (hb hby at_221) rfl k))) ?_
        show OGl _ _ _ _ T9 (mkF m 223 #[.val (.int p0), .val (.int p1), .val (.int p2), .val (.long q3), .second, .val (.int p4), .val (.int p5), .val (.int p0), .val (.int (if (p5 &&& (1 : Int32)) = (0 : Int32) then p1 else p0)), .val (.int (e0_0 p0 p1 p2 p5)), .val (.long (e0_1 p0 q3 p4 p5)), .second, .val (.ref b5), .val (.int (e0_2 p0 p1 p2 q3 p4 p5)), .val (.int (e0_3 p0 q3 p4 p5)), .val (.int (e0_5 p0 p1 q3 p4 p5)), .val (.int (e0_6 p0 p1 p2 q3 p4 p5)), .val (.int (e0_8 p0 p1 p2 q3 p4 p5)), .unset, .unset, .unset, .unset] [(.int (e0_2 p0 p1 p2 q3 p4 p5))])
        have m88 : ∀ t, Steps p.tables e below (T9.setTop (mkF m 244 #[.val (.int p0), .val (.int p1), .val (.int p2), .val (.long q3), .second, .val (.int p4), .val (.int p5), .val (.int p0), .val (.int (if (p5 &&& (1 : Int32)) = (0 : Int32) then p1 else p0)), .val (.int (e0_0 p0 p1 p2 p5)), .val (.long (e0_1 p0 q3 p4 p5)), .second, .val (.ref b5), .val (.int (e0_2 p0 p1 p2 q3 p4 p5)), .val (.int (e0_3 p0 q3 p4 p5)), .val (.int (e0_5 p0 p1 q3 p4 p5)), .val (.int (e0_6 p0 p1 p2 q3 p4 p5)), .val (.int (e0_8 p0 p1 p2 q3 p4 p5)), .unset, .unset, .unset, .unset] [(.int (e0_10 p0 p1 p2 q3 p4 p5))])) t → Steps p.tables e below (T9.setTop (mkF m 223 #[.val (.int p0), .val (.int p1), .val (.int p2), .val (.long q3), .second, .val (.int p4), .val (.int p5), .val (.int p0), .val (.int (if (p5 &&& (1 : Int32)) = (0 : Int32) then p1 else p0)), .val (.int (e0_0 p0 p1 p2 p5)), .val (.long (e0_1 p0 q3 p4 p5)), .second, .val (.ref b5), .val (.int (e0_2 p0 p1 p2 q3 p4 p5)), .val (.int (e0_3 p0 q3 p4 p5)), .val (.int (e0_5 p0 p1 q3 p4 p5)), .val (.int (e0_6 p0 p1 p2 q3 p4 p5)), .val (.int (e0_8 p0 p1 p2 q3 p4 p5)), .unset, .unset, .unset, .unset] [(.int (e0_2 p0 p1 p2 q3 p4 p5))])) t := by
          intro t k
          by_cases hm88 : (e0_2 p0 p1 p2 q3 p4 p5) = (0 : Int32)
          · rw [show (e0_10 p0 p1 p2 q3 p4 p5) = (e0_3 p0 q3 p4 p5) from if_pos hm88] at k
            refine XS.ifNo X9.here hx rfl (hb hby at_223) rfl ((if0 _ _).trans (teq hm88).2) (XS.iload X9.here hx rfl (hb hby at_226) rfl (XS.goto X9.here hx rfl (pc0 := 228) (pc' := 244) rfl (hb hby at_228) (by decide) (by decide) ?_))
            show Steps _ _ _ (T9.setTop (mkF m 244 #[.val (.int p0), .val (.int p1), .val (.int p2), .val (.long q3), .second, .val (.int p4), .val (.int p5), .val (.int p0), .val (.int (if (p5 &&& (1 : Int32)) = (0 : Int32) then p1 else p0)), .val (.int (e0_0 p0 p1 p2 p5)), .val (.long (e0_1 p0 q3 p4 p5)), .second, .val (.ref b5), .val (.int (e0_2 p0 p1 p2 q3 p4 p5)), .val (.int (e0_3 p0 q3 p4 p5)), .val (.int (e0_5 p0 p1 q3 p4 p5)), .val (.int (e0_6 p0 p1 p2 q3 p4 p5)), .val (.int (e0_8 p0 p1 p2 q3 p4 p5)), .unset, .unset, .unset, .unset] [(.int (e0_3 p0 q3 p4 p5))])) _
            exact k
          · rw [show (e0_10 p0 p1 p2 q3 p4 p5) = (e0_9 p0 p1 p2 q3 p4 p5) from if_neg hm88] at k
            refine XS.ifYes X9.here hx rfl (pc0 := 223) (pc' := 231) rfl (hb hby at_223) rfl ((if0 _ _).trans (feq hm88).2) (by decide) (by decide) (XS.iload X9.here hx rfl (hb hby at_231) rfl (XS.iconst X9.here hx rfl (hb hby at_233) ?_))
            show Steps _ _ _ (T9.setTop (mkF m 234 #[.val (.int p0), .val (.int p1), .val (.int p2), .val (.long q3), .second, .val (.int p4), .val (.int p5), .val (.int p0), .val (.int (if (p5 &&& (1 : Int32)) = (0 : Int32) then p1 else p0)), .val (.int (e0_0 p0 p1 p2 p5)), .val (.long (e0_1 p0 q3 p4 p5)), .second, .val (.ref b5), .val (.int (e0_2 p0 p1 p2 q3 p4 p5)), .val (.int (e0_3 p0 q3 p4 p5)), .val (.int (e0_5 p0 p1 q3 p4 p5)), .val (.int (e0_6 p0 p1 p2 q3 p4 p5)), .val (.int (e0_8 p0 p1 p2 q3 p4 p5)), .unset, .unset, .unset, .unset] [(.int (1 : Int32)), (.int (e0_2 p0 p1 p2 q3 p4 p5))])) _
            have m89 : ∀ t, Steps p.tables e below (T9.setTop (mkF m 244 #[.val (.int p0), .val (.int p1), .val (.int p2), .val (.long q3), .second, .val (.int p4), .val (.int p5), .val (.int p0), .val (.int (if (p5 &&& (1 : Int32)) = (0 : Int32) then p1 else p0)), .val (.int (e0_0 p0 p1 p2 p5)), .val (.long (e0_1 p0 q3 p4 p5)), .second, .val (.ref b5), .val (.int (e0_2 p0 p1 p2 q3 p4 p5)), .val (.int (e0_3 p0 q3 p4 p5)), .val (.int (e0_5 p0 p1 q3 p4 p5)), .val (.int (e0_6 p0 p1 p2 q3 p4 p5)), .val (.int (e0_8 p0 p1 p2 q3 p4 p5)), .unset, .unset, .unset, .unset] [(.int (e0_9 p0 p1 p2 q3 p4 p5))])) t → Steps p.tables e below (T9.setTop (mkF m 234 #[.val (.int p0), .val (.int p1), .val (.int p2), .val (.long q3), .second, .val (.int p4), .val (.int p5), .val (.int p0), .val (.int (if (p5 &&& (1 : Int32)) = (0 : Int32) then p1 else p0)), .val (.int (e0_0 p0 p1 p2 p5)), .val (.long (e0_1 p0 q3 p4 p5)), .second, .val (.ref b5), .val (.int (e0_2 p0 p1 p2 q3 p4 p5)), .val (.int (e0_3 p0 q3 p4 p5)), .val (.int (e0_5 p0 p1 q3 p4 p5)), .val (.int (e0_6 p0 p1 p2 q3 p4 p5)), .val (.int (e0_8 p0 p1 p2 q3 p4 p5)), .unset, .unset, .unset, .unset] [(.int (1 : Int32)), (.int (e0_2 p0 p1 p2 q3 p4 p5))])) t := by
              intro t k
              by_cases hm89 : (e0_2 p0 p1 p2 q3 p4 p5) = (1 : Int32)
              · rw [show (e0_9 p0 p1 p2 q3 p4 p5) = (e0_5 p0 p1 q3 p4 p5) from if_pos hm89] at k
                refine XS.icmpNo X9.here hx rfl (hb hby at_234) rfl (teq hm89).2 (XS.iload X9.here hx rfl (hb hby at_237) rfl (XS.goto X9.here hx rfl (pc0 := 239) (pc' := 244) rfl (hb hby at_239) (by decide) (by decide) ?_))
                show Steps _ _ _ (T9.setTop (mkF m 244 #[.val (.int p0), .val (.int p1), .val (.int p2), .val (.long q3), .second, .val (.int p4), .val (.int p5), .val (.int p0), .val (.int (if (p5 &&& (1 : Int32)) = (0 : Int32) then p1 else p0)), .val (.int (e0_0 p0 p1 p2 p5)), .val (.long (e0_1 p0 q3 p4 p5)), .second, .val (.ref b5), .val (.int (e0_2 p0 p1 p2 q3 p4 p5)), .val (.int (e0_3 p0 q3 p4 p5)), .val (.int (e0_5 p0 p1 q3 p4 p5)), .val (.int (e0_6 p0 p1 p2 q3 p4 p5)), .val (.int (e0_8 p0 p1 p2 q3 p4 p5)), .unset, .unset, .unset, .unset] [(.int (e0_5 p0 p1 q3 p4 p5))])) _
                exact k
              · rw [show (e0_9 p0 p1 p2 q3 p4 p5) = (e0_6 p0 p1 p2 q3 p4 p5) from if_neg hm89] at k
                refine XS.icmpYes X9.here hx rfl (pc0 := 234) (pc' := 242) rfl (hb hby at_234) rfl (feq hm89).2 (by decide) (by decide) (XS.iload X9.here hx rfl (hb hby at_242) rfl ?_)
                show Steps _ _ _ (T9.setTop (mkF m 244 #[.val (.int p0), .val (.int p1), .val (.int p2), .val (.long q3), .second, .val (.int p4), .val (.int p5), .val (.int p0), .val (.int (if (p5 &&& (1 : Int32)) = (0 : Int32) then p1 else p0)), .val (.int (e0_0 p0 p1 p2 p5)), .val (.long (e0_1 p0 q3 p4 p5)), .second, .val (.ref b5), .val (.int (e0_2 p0 p1 p2 q3 p4 p5)), .val (.int (e0_3 p0 q3 p4 p5)), .val (.int (e0_5 p0 p1 q3 p4 p5)), .val (.int (e0_6 p0 p1 p2 q3 p4 p5)), .val (.int (e0_8 p0 p1 p2 q3 p4 p5)), .unset, .unset, .unset, .unset] [(.int (e0_6 p0 p1 p2 q3 p4 p5))])) _
                exact k
            refine m89 _ ?_
            show Steps _ _ _ (T9.setTop (mkF m 244 #[.val (.int p0), .val (.int p1), .val (.int p2), .val (.long q3), .second, .val (.int p4), .val (.int p5), .val (.int p0), .val (.int (if (p5 &&& (1 : Int32)) = (0 : Int32) then p1 else p0)), .val (.int (e0_0 p0 p1 p2 p5)), .val (.long (e0_1 p0 q3 p4 p5)), .second, .val (.ref b5), .val (.int (e0_2 p0 p1 p2 q3 p4 p5)), .val (.int (e0_3 p0 q3 p4 p5)), .val (.int (e0_5 p0 p1 q3 p4 p5)), .val (.int (e0_6 p0 p1 p2 q3 p4 p5)), .val (.int (e0_8 p0 p1 p2 q3 p4 p5)), .unset, .unset, .unset, .unset] [(.int (e0_9 p0 p1 p2 q3 p4 p5))])) _
            exact k
        refine OGl.go (fun t k => m88 _ (XS.istore X9.here hx rfl (hb hby at_244) rfl (l' := #[.val (.int p0), .val (.int p1), .val (.int p2), .val (.long q3), .second, .val (.int p4), .val (.int p5), .val (.int p0), .val (.int (if (p5 &&& (1 : Int32)) = (0 : Int32) then p1 else p0)), .val (.int (e0_0 p0 p1 p2 p5)), .val (.long (e0_1 p0 q3 p4 p5)), .second, .val (.ref b5), .val (.int (e0_2 p0 p1 p2 q3 p4 p5)), .val (.int (e0_3 p0 q3 p4 p5)), .val (.int (e0_5 p0 p1 q3 p4 p5)), .val (.int (e0_6 p0 p1 p2 q3 p4 p5)), .val (.int (e0_8 p0 p1 p2 q3 p4 p5)), .val (.int (e0_10 p0 p1 p2 q3 p4 p5)), .unset, .unset, .unset]) rfl (XS.iload X9.here hx rfl (hb hby at_246) rfl k))) ?_
        show OGl _ _ _ _ T9 (mkF m 248 #[.val (.int p0), .val (.int p1), .val (.int p2), .val (.long q3), .second, .val (.int p4), .val (.int p5), .val (.int p0), .val (.int (if (p5 &&& (1 : Int32)) = (0 : Int32) then p1 else p0)), .val (.int (e0_0 p0 p1 p2 p5)), .val (.long (e0_1 p0 q3 p4 p5)), .second, .val (.ref b5), .val (.int (e0_2 p0 p1 p2 q3 p4 p5)), .val (.int (e0_3 p0 q3 p4 p5)), .val (.int (e0_5 p0 p1 q3 p4 p5)), .val (.int (e0_6 p0 p1 p2 q3 p4 p5)), .val (.int (e0_8 p0 p1 p2 q3 p4 p5)), .val (.int (e0_10 p0 p1 p2 q3 p4 p5)), .unset, .unset, .unset] [(.int (e0_2 p0 p1 p2 q3 p4 p5))])
        have m90 : ∀ t, Steps p.tables e below (T9.setTop (mkF m 268 #[.val (.int p0), .val (.int p1), .val (.int p2), .val (.long q3), .second, .val (.int p4), .val (.int p5), .val (.int p0), .val (.int (if (p5 &&& (1 : Int32)) = (0 : Int32) then p1 else p0)), .val (.int (e0_0 p0 p1 p2 p5)), .val (.long (e0_1 p0 q3 p4 p5)), .second, .val (.ref b5), .val (.int (e0_2 p0 p1 p2 q3 p4 p5)), .val (.int (e0_3 p0 q3 p4 p5)), .val (.int (e0_5 p0 p1 q3 p4 p5)), .val (.int (e0_6 p0 p1 p2 q3 p4 p5)), .val (.int (e0_8 p0 p1 p2 q3 p4 p5)), .val (.int (e0_10 p0 p1 p2 q3 p4 p5)), .unset, .unset, .unset] [(.int (e0_12 p0 p1 p2 q3 p4 p5))])) t → Steps p.tables e below (T9.setTop (mkF m 248 #[.val (.int p0), .val (.int p1), .val (.int p2), .val (.long q3), .second, .val (.int p4), .val (.int p5), .val (.int p0), .val (.int (if (p5 &&& (1 : Int32)) = (0 : Int32) then p1 else p0)), .val (.int (e0_0 p0 p1 p2 p5)), .val (.long (e0_1 p0 q3 p4 p5)), .second, .val (.ref b5), .val (.int (e0_2 p0 p1 p2 q3 p4 p5)), .val (.int (e0_3 p0 q3 p4 p5)), .val (.int (e0_5 p0 p1 q3 p4 p5)), .val (.int (e0_6 p0 p1 p2 q3 p4 p5)), .val (.int (e0_8 p0 p1 p2 q3 p4 p5)), .val (.int (e0_10 p0 p1 p2 q3 p4 p5)), .unset, .unset, .unset] [(.int (e0_2 p0 p1 p2 q3 p4 p5))])) t := by
          intro t k
          by_cases hm90 : (e0_2 p0 p1 p2 q3 p4 p5) = (0 : Int32)
          · rw [show (e0_12 p0 p1 p2 q3 p4 p5) = (1 : Int32) from if_pos hm90] at k
            refine XS.ifYes X9.here hx rfl (pc0 := 248) (pc' := 263) rfl (hb hby at_248) rfl ((if0 _ _).trans (teq hm90).1) (by decide) (by decide) (XS.iconst X9.here hx rfl (hb hby at_263) (XS.goto X9.here hx rfl (pc0 := 264) (pc' := 268) rfl (hb hby at_264) (by decide) (by decide) ?_))
            show Steps _ _ _ (T9.setTop (mkF m 268 #[.val (.int p0), .val (.int p1), .val (.int p2), .val (.long q3), .second, .val (.int p4), .val (.int p5), .val (.int p0), .val (.int (if (p5 &&& (1 : Int32)) = (0 : Int32) then p1 else p0)), .val (.int (e0_0 p0 p1 p2 p5)), .val (.long (e0_1 p0 q3 p4 p5)), .second, .val (.ref b5), .val (.int (e0_2 p0 p1 p2 q3 p4 p5)), .val (.int (e0_3 p0 q3 p4 p5)), .val (.int (e0_5 p0 p1 q3 p4 p5)), .val (.int (e0_6 p0 p1 p2 q3 p4 p5)), .val (.int (e0_8 p0 p1 p2 q3 p4 p5)), .val (.int (e0_10 p0 p1 p2 q3 p4 p5)), .unset, .unset, .unset] [(.int (1 : Int32))])) _
            exact k
          · rw [show (e0_12 p0 p1 p2 q3 p4 p5) = (e0_11 p0 p1 p2 q3 p4 p5) from if_neg hm90] at k
            refine XS.ifNo X9.here hx rfl (hb hby at_248) rfl ((if0 _ _).trans (feq hm90).1) (XS.iload X9.here hx rfl (hb hby at_251) rfl ?_)
            show Steps _ _ _ (T9.setTop (mkF m 253 #[.val (.int p0), .val (.int p1), .val (.int p2), .val (.long q3), .second, .val (.int p4), .val (.int p5), .val (.int p0), .val (.int (if (p5 &&& (1 : Int32)) = (0 : Int32) then p1 else p0)), .val (.int (e0_0 p0 p1 p2 p5)), .val (.long (e0_1 p0 q3 p4 p5)), .second, .val (.ref b5), .val (.int (e0_2 p0 p1 p2 q3 p4 p5)), .val (.int (e0_3 p0 q3 p4 p5)), .val (.int (e0_5 p0 p1 q3 p4 p5)), .val (.int (e0_6 p0 p1 p2 q3 p4 p5)), .val (.int (e0_8 p0 p1 p2 q3 p4 p5)), .val (.int (e0_10 p0 p1 p2 q3 p4 p5)), .unset, .unset, .unset] [(.int (e0_3 p0 q3 p4 p5))])) _
            have m91 : ∀ t, Steps p.tables e below (T9.setTop (mkF m 268 #[.val (.int p0), .val (.int p1), .val (.int p2), .val (.long q3), .second, .val (.int p4), .val (.int p5), .val (.int p0), .val (.int (if (p5 &&& (1 : Int32)) = (0 : Int32) then p1 else p0)), .val (.int (e0_0 p0 p1 p2 p5)), .val (.long (e0_1 p0 q3 p4 p5)), .second, .val (.ref b5), .val (.int (e0_2 p0 p1 p2 q3 p4 p5)), .val (.int (e0_3 p0 q3 p4 p5)), .val (.int (e0_5 p0 p1 q3 p4 p5)), .val (.int (e0_6 p0 p1 p2 q3 p4 p5)), .val (.int (e0_8 p0 p1 p2 q3 p4 p5)), .val (.int (e0_10 p0 p1 p2 q3 p4 p5)), .unset, .unset, .unset] [(.int (e0_11 p0 p1 p2 q3 p4 p5))])) t → Steps p.tables e below (T9.setTop (mkF m 253 #[.val (.int p0), .val (.int p1), .val (.int p2), .val (.long q3), .second, .val (.int p4), .val (.int p5), .val (.int p0), .val (.int (if (p5 &&& (1 : Int32)) = (0 : Int32) then p1 else p0)), .val (.int (e0_0 p0 p1 p2 p5)), .val (.long (e0_1 p0 q3 p4 p5)), .second, .val (.ref b5), .val (.int (e0_2 p0 p1 p2 q3 p4 p5)), .val (.int (e0_3 p0 q3 p4 p5)), .val (.int (e0_5 p0 p1 q3 p4 p5)), .val (.int (e0_6 p0 p1 p2 q3 p4 p5)), .val (.int (e0_8 p0 p1 p2 q3 p4 p5)), .val (.int (e0_10 p0 p1 p2 q3 p4 p5)), .unset, .unset, .unset] [(.int (e0_3 p0 q3 p4 p5))])) t := by
              intro t k
              by_cases hm91 : (e0_3 p0 q3 p4 p5) = (0 : Int32)
              · rw [show (e0_11 p0 p1 p2 q3 p4 p5) = (1 : Int32) from if_pos hm91] at k
                refine XS.ifYes X9.here hx rfl (pc0 := 253) (pc' := 263) rfl (hb hby at_253) rfl ((if0 _ _).trans (teq hm91).1) (by decide) (by decide) (XS.iconst X9.here hx rfl (hb hby at_263) (XS.goto X9.here hx rfl (pc0 := 264) (pc' := 268) rfl (hb hby at_264) (by decide) (by decide) ?_))
                show Steps _ _ _ (T9.setTop (mkF m 268 #[.val (.int p0), .val (.int p1), .val (.int p2), .val (.long q3), .second, .val (.int p4), .val (.int p5), .val (.int p0), .val (.int (if (p5 &&& (1 : Int32)) = (0 : Int32) then p1 else p0)), .val (.int (e0_0 p0 p1 p2 p5)), .val (.long (e0_1 p0 q3 p4 p5)), .second, .val (.ref b5), .val (.int (e0_2 p0 p1 p2 q3 p4 p5)), .val (.int (e0_3 p0 q3 p4 p5)), .val (.int (e0_5 p0 p1 q3 p4 p5)), .val (.int (e0_6 p0 p1 p2 q3 p4 p5)), .val (.int (e0_8 p0 p1 p2 q3 p4 p5)), .val (.int (e0_10 p0 p1 p2 q3 p4 p5)), .unset, .unset, .unset] [(.int (1 : Int32))])) _
                exact k
              · rw [show (e0_11 p0 p1 p2 q3 p4 p5) = (if p0 < (e0_8 p0 p1 p2 q3 p4 p5) then (1 : Int32) else (0 : Int32)) from if_neg hm91] at k
                refine XS.ifNo X9.here hx rfl (hb hby at_253) rfl ((if0 _ _).trans (feq hm91).1) (XS.iload X9.here hx rfl (hb hby at_256) rfl (XS.iload X9.here hx rfl (hb hby at_258) rfl ?_))
                show Steps _ _ _ (T9.setTop (mkF m 260 #[.val (.int p0), .val (.int p1), .val (.int p2), .val (.long q3), .second, .val (.int p4), .val (.int p5), .val (.int p0), .val (.int (if (p5 &&& (1 : Int32)) = (0 : Int32) then p1 else p0)), .val (.int (e0_0 p0 p1 p2 p5)), .val (.long (e0_1 p0 q3 p4 p5)), .second, .val (.ref b5), .val (.int (e0_2 p0 p1 p2 q3 p4 p5)), .val (.int (e0_3 p0 q3 p4 p5)), .val (.int (e0_5 p0 p1 q3 p4 p5)), .val (.int (e0_6 p0 p1 p2 q3 p4 p5)), .val (.int (e0_8 p0 p1 p2 q3 p4 p5)), .val (.int (e0_10 p0 p1 p2 q3 p4 p5)), .unset, .unset, .unset] [(.int (e0_8 p0 p1 p2 q3 p4 p5)), (.int p0)])) _
                have m92 : ∀ t, Steps p.tables e below (T9.setTop (mkF m 268 #[.val (.int p0), .val (.int p1), .val (.int p2), .val (.long q3), .second, .val (.int p4), .val (.int p5), .val (.int p0), .val (.int (if (p5 &&& (1 : Int32)) = (0 : Int32) then p1 else p0)), .val (.int (e0_0 p0 p1 p2 p5)), .val (.long (e0_1 p0 q3 p4 p5)), .second, .val (.ref b5), .val (.int (e0_2 p0 p1 p2 q3 p4 p5)), .val (.int (e0_3 p0 q3 p4 p5)), .val (.int (e0_5 p0 p1 q3 p4 p5)), .val (.int (e0_6 p0 p1 p2 q3 p4 p5)), .val (.int (e0_8 p0 p1 p2 q3 p4 p5)), .val (.int (e0_10 p0 p1 p2 q3 p4 p5)), .unset, .unset, .unset] [(.int (if p0 < (e0_8 p0 p1 p2 q3 p4 p5) then (1 : Int32) else (0 : Int32)))])) t → Steps p.tables e below (T9.setTop (mkF m 260 #[.val (.int p0), .val (.int p1), .val (.int p2), .val (.long q3), .second, .val (.int p4), .val (.int p5), .val (.int p0), .val (.int (if (p5 &&& (1 : Int32)) = (0 : Int32) then p1 else p0)), .val (.int (e0_0 p0 p1 p2 p5)), .val (.long (e0_1 p0 q3 p4 p5)), .second, .val (.ref b5), .val (.int (e0_2 p0 p1 p2 q3 p4 p5)), .val (.int (e0_3 p0 q3 p4 p5)), .val (.int (e0_5 p0 p1 q3 p4 p5)), .val (.int (e0_6 p0 p1 p2 q3 p4 p5)), .val (.int (e0_8 p0 p1 p2 q3 p4 p5)), .val (.int (e0_10 p0 p1 p2 q3 p4 p5)), .unset, .unset, .unset] [(.int (e0_8 p0 p1 p2 q3 p4 p5)), (.int p0)])) t := by
                  intro t k
                  by_cases hm92 : p0 < (e0_8 p0 p1 p2 q3 p4 p5)
                  · rw [show (if p0 < (e0_8 p0 p1 p2 q3 p4 p5) then (1 : Int32) else (0 : Int32)) = (1 : Int32) from if_pos hm92] at k
                    refine XS.icmpNo X9.here hx rfl (hb hby at_260) rfl (tlt hm92).2.1 (XS.iconst X9.here hx rfl (hb hby at_263) (XS.goto X9.here hx rfl (pc0 := 264) (pc' := 268) rfl (hb hby at_264) (by decide) (by decide) ?_))
                    show Steps _ _ _ (T9.setTop (mkF m 268 #[.val (.int p0), .val (.int p1), .val (.int p2), .val (.long q3), .second, .val (.int p4), .val (.int p5), .val (.int p0), .val (.int (if (p5 &&& (1 : Int32)) = (0 : Int32) then p1 else p0)), .val (.int (e0_0 p0 p1 p2 p5)), .val (.long (e0_1 p0 q3 p4 p5)), .second, .val (.ref b5), .val (.int (e0_2 p0 p1 p2 q3 p4 p5)), .val (.int (e0_3 p0 q3 p4 p5)), .val (.int (e0_5 p0 p1 q3 p4 p5)), .val (.int (e0_6 p0 p1 p2 q3 p4 p5)), .val (.int (e0_8 p0 p1 p2 q3 p4 p5)), .val (.int (e0_10 p0 p1 p2 q3 p4 p5)), .unset, .unset, .unset] [(.int (1 : Int32))])) _
                    exact k
                  · rw [show (if p0 < (e0_8 p0 p1 p2 q3 p4 p5) then (1 : Int32) else (0 : Int32)) = (0 : Int32) from if_neg hm92] at k
                    refine XS.icmpYes X9.here hx rfl (pc0 := 260) (pc' := 267) rfl (hb hby at_260) rfl (flt hm92).2.1 (by decide) (by decide) (XS.iconst X9.here hx rfl (hb hby at_267) ?_)
                    show Steps _ _ _ (T9.setTop (mkF m 268 #[.val (.int p0), .val (.int p1), .val (.int p2), .val (.long q3), .second, .val (.int p4), .val (.int p5), .val (.int p0), .val (.int (if (p5 &&& (1 : Int32)) = (0 : Int32) then p1 else p0)), .val (.int (e0_0 p0 p1 p2 p5)), .val (.long (e0_1 p0 q3 p4 p5)), .second, .val (.ref b5), .val (.int (e0_2 p0 p1 p2 q3 p4 p5)), .val (.int (e0_3 p0 q3 p4 p5)), .val (.int (e0_5 p0 p1 q3 p4 p5)), .val (.int (e0_6 p0 p1 p2 q3 p4 p5)), .val (.int (e0_8 p0 p1 p2 q3 p4 p5)), .val (.int (e0_10 p0 p1 p2 q3 p4 p5)), .unset, .unset, .unset] [(.int (0 : Int32))])) _
                    exact k
                refine m92 _ ?_
                show Steps _ _ _ (T9.setTop (mkF m 268 #[.val (.int p0), .val (.int p1), .val (.int p2), .val (.long q3), .second, .val (.int p4), .val (.int p5), .val (.int p0), .val (.int (if (p5 &&& (1 : Int32)) = (0 : Int32) then p1 else p0)), .val (.int (e0_0 p0 p1 p2 p5)), .val (.long (e0_1 p0 q3 p4 p5)), .second, .val (.ref b5), .val (.int (e0_2 p0 p1 p2 q3 p4 p5)), .val (.int (e0_3 p0 q3 p4 p5)), .val (.int (e0_5 p0 p1 q3 p4 p5)), .val (.int (e0_6 p0 p1 p2 q3 p4 p5)), .val (.int (e0_8 p0 p1 p2 q3 p4 p5)), .val (.int (e0_10 p0 p1 p2 q3 p4 p5)), .unset, .unset, .unset] [(.int (if p0 < (e0_8 p0 p1 p2 q3 p4 p5) then (1 : Int32) else (0 : Int32)))])) _
                exact k
            refine m91 _ ?_
            show Steps _ _ _ (T9.setTop (mkF m 268 #[.val (.int p0), .val (.int p1), .val (.int p2), .val (.long q3), .second, .val (.int p4), .val (.int p5), .val (.int p0), .val (.int (if (p5 &&& (1 : Int32)) = (0 : Int32) then p1 else p0)), .val (.int (e0_0 p0 p1 p2 p5)), .val (.long (e0_1 p0 q3 p4 p5)), .second, .val (.ref b5), .val (.int (e0_2 p0 p1 p2 q3 p4 p5)), .val (.int (e0_3 p0 q3 p4 p5)), .val (.int (e0_5 p0 p1 q3 p4 p5)), .val (.int (e0_6 p0 p1 p2 q3 p4 p5)), .val (.int (e0_8 p0 p1 p2 q3 p4 p5)), .val (.int (e0_10 p0 p1 p2 q3 p4 p5)), .unset, .unset, .unset] [(.int (e0_11 p0 p1 p2 q3 p4 p5))])) _
            exact k
        refine OGl.go (fun t k => m90 _ (XS.istore X9.here hx rfl (hb hby at_268) rfl (l' := #[.val (.int p0), .val (.int p1), .val (.int p2), .val (.long q3), .second, .val (.int p4), .val (.int p5), .val (.int p0), .val (.int (if (p5 &&& (1 : Int32)) = (0 : Int32) then p1 else p0)), .val (.int (e0_0 p0 p1 p2 p5)), .val (.long (e0_1 p0 q3 p4 p5)), .second, .val (.ref b5), .val (.int (e0_2 p0 p1 p2 q3 p4 p5)), .val (.int (e0_3 p0 q3 p4 p5)), .val (.int (e0_5 p0 p1 q3 p4 p5)), .val (.int (e0_6 p0 p1 p2 q3 p4 p5)), .val (.int (e0_8 p0 p1 p2 q3 p4 p5)), .val (.int (e0_10 p0 p1 p2 q3 p4 p5)), .val (.int (e0_12 p0 p1 p2 q3 p4 p5)), .unset, .unset]) rfl (XS.iload X9.here hx rfl (hb hby at_270) rfl (XS.iconst X9.here hx rfl (hb hby at_272) k)))) ?_
        show OGl _ _ _ _ T9 (mkF m 273 #[.val (.int p0), .val (.int p1), .val (.int p2), .val (.long q3), .second, .val (.int p4), .val (.int p5), .val (.int p0), .val (.int (if (p5 &&& (1 : Int32)) = (0 : Int32) then p1 else p0)), .val (.int (e0_0 p0 p1 p2 p5)), .val (.long (e0_1 p0 q3 p4 p5)), .second, .val (.ref b5), .val (.int (e0_2 p0 p1 p2 q3 p4 p5)), .val (.int (e0_3 p0 q3 p4 p5)), .val (.int (e0_5 p0 p1 q3 p4 p5)), .val (.int (e0_6 p0 p1 p2 q3 p4 p5)), .val (.int (e0_8 p0 p1 p2 q3 p4 p5)), .val (.int (e0_10 p0 p1 p2 q3 p4 p5)), .val (.int (e0_12 p0 p1 p2 q3 p4 p5)), .unset, .unset] [(.int (1 : Int32)), (.int (e0_2 p0 p1 p2 q3 p4 p5))])
        have m93 : ∀ t, Steps p.tables e below (T9.setTop (mkF m 309 #[.val (.int p0), .val (.int p1), .val (.int p2), .val (.long q3), .second, .val (.int p4), .val (.int p5), .val (.int p0), .val (.int (if (p5 &&& (1 : Int32)) = (0 : Int32) then p1 else p0)), .val (.int (e0_0 p0 p1 p2 p5)), .val (.long (e0_1 p0 q3 p4 p5)), .second, .val (.ref b5), .val (.int (e0_2 p0 p1 p2 q3 p4 p5)), .val (.int (e0_3 p0 q3 p4 p5)), .val (.int (e0_5 p0 p1 q3 p4 p5)), .val (.int (e0_6 p0 p1 p2 q3 p4 p5)), .val (.int (e0_8 p0 p1 p2 q3 p4 p5)), .val (.int (e0_10 p0 p1 p2 q3 p4 p5)), .val (.int (e0_12 p0 p1 p2 q3 p4 p5)), .unset, .unset] [(.int (e0_17 p0 p1 p2 q3 p4 p5))])) t → Steps p.tables e below (T9.setTop (mkF m 273 #[.val (.int p0), .val (.int p1), .val (.int p2), .val (.long q3), .second, .val (.int p4), .val (.int p5), .val (.int p0), .val (.int (if (p5 &&& (1 : Int32)) = (0 : Int32) then p1 else p0)), .val (.int (e0_0 p0 p1 p2 p5)), .val (.long (e0_1 p0 q3 p4 p5)), .second, .val (.ref b5), .val (.int (e0_2 p0 p1 p2 q3 p4 p5)), .val (.int (e0_3 p0 q3 p4 p5)), .val (.int (e0_5 p0 p1 q3 p4 p5)), .val (.int (e0_6 p0 p1 p2 q3 p4 p5)), .val (.int (e0_8 p0 p1 p2 q3 p4 p5)), .val (.int (e0_10 p0 p1 p2 q3 p4 p5)), .val (.int (e0_12 p0 p1 p2 q3 p4 p5)), .unset, .unset] [(.int (1 : Int32)), (.int (e0_2 p0 p1 p2 q3 p4 p5))])) t := by
          intro t k
          by_cases hm93 : (e0_2 p0 p1 p2 q3 p4 p5) = (1 : Int32)
          · rw [show (e0_17 p0 p1 p2 q3 p4 p5) = (1 : Int32) from if_pos hm93] at k
            refine XS.icmpYes X9.here hx rfl (pc0 := 273) (pc' := 304) rfl (hb hby at_273) rfl (teq hm93).1 (by decide) (by decide) (XS.iconst X9.here hx rfl (hb hby at_304) (XS.goto X9.here hx rfl (pc0 := 305) (pc' := 309) rfl (hb hby at_305) (by decide) (by decide) ?_))
            show Steps _ _ _ (T9.setTop (mkF m 309 #[.val (.int p0), .val (.int p1), .val (.int p2), .val (.long q3), .second, .val (.int p4), .val (.int p5), .val (.int p0), .val (.int (if (p5 &&& (1 : Int32)) = (0 : Int32) then p1 else p0)), .val (.int (e0_0 p0 p1 p2 p5)), .val (.long (e0_1 p0 q3 p4 p5)), .second, .val (.ref b5), .val (.int (e0_2 p0 p1 p2 q3 p4 p5)), .val (.int (e0_3 p0 q3 p4 p5)), .val (.int (e0_5 p0 p1 q3 p4 p5)), .val (.int (e0_6 p0 p1 p2 q3 p4 p5)), .val (.int (e0_8 p0 p1 p2 q3 p4 p5)), .val (.int (e0_10 p0 p1 p2 q3 p4 p5)), .val (.int (e0_12 p0 p1 p2 q3 p4 p5)), .unset, .unset] [(.int (1 : Int32))])) _
            exact k
          · rw [show (e0_17 p0 p1 p2 q3 p4 p5) = (e0_16 p0 p1 p2 q3 p4 p5) from if_neg hm93] at k
            refine XS.icmpNo X9.here hx rfl (hb hby at_273) rfl (feq hm93).1 (XS.iload X9.here hx rfl (hb hby at_276) rfl ?_)
            show Steps _ _ _ (T9.setTop (mkF m 278 #[.val (.int p0), .val (.int p1), .val (.int p2), .val (.long q3), .second, .val (.int p4), .val (.int p5), .val (.int p0), .val (.int (if (p5 &&& (1 : Int32)) = (0 : Int32) then p1 else p0)), .val (.int (e0_0 p0 p1 p2 p5)), .val (.long (e0_1 p0 q3 p4 p5)), .second, .val (.ref b5), .val (.int (e0_2 p0 p1 p2 q3 p4 p5)), .val (.int (e0_3 p0 q3 p4 p5)), .val (.int (e0_5 p0 p1 q3 p4 p5)), .val (.int (e0_6 p0 p1 p2 q3 p4 p5)), .val (.int (e0_8 p0 p1 p2 q3 p4 p5)), .val (.int (e0_10 p0 p1 p2 q3 p4 p5)), .val (.int (e0_12 p0 p1 p2 q3 p4 p5)), .unset, .unset] [(.int (e0_5 p0 p1 q3 p4 p5))])) _
            have m94 : ∀ t, Steps p.tables e below (T9.setTop (mkF m 309 #[.val (.int p0), .val (.int p1), .val (.int p2), .val (.long q3), .second, .val (.int p4), .val (.int p5), .val (.int p0), .val (.int (if (p5 &&& (1 : Int32)) = (0 : Int32) then p1 else p0)), .val (.int (e0_0 p0 p1 p2 p5)), .val (.long (e0_1 p0 q3 p4 p5)), .second, .val (.ref b5), .val (.int (e0_2 p0 p1 p2 q3 p4 p5)), .val (.int (e0_3 p0 q3 p4 p5)), .val (.int (e0_5 p0 p1 q3 p4 p5)), .val (.int (e0_6 p0 p1 p2 q3 p4 p5)), .val (.int (e0_8 p0 p1 p2 q3 p4 p5)), .val (.int (e0_10 p0 p1 p2 q3 p4 p5)), .val (.int (e0_12 p0 p1 p2 q3 p4 p5)), .unset, .unset] [(.int (e0_16 p0 p1 p2 q3 p4 p5))])) t → Steps p.tables e below (T9.setTop (mkF m 278 #[.val (.int p0), .val (.int p1), .val (.int p2), .val (.long q3), .second, .val (.int p4), .val (.int p5), .val (.int p0), .val (.int (if (p5 &&& (1 : Int32)) = (0 : Int32) then p1 else p0)), .val (.int (e0_0 p0 p1 p2 p5)), .val (.long (e0_1 p0 q3 p4 p5)), .second, .val (.ref b5), .val (.int (e0_2 p0 p1 p2 q3 p4 p5)), .val (.int (e0_3 p0 q3 p4 p5)), .val (.int (e0_5 p0 p1 q3 p4 p5)), .val (.int (e0_6 p0 p1 p2 q3 p4 p5)), .val (.int (e0_8 p0 p1 p2 q3 p4 p5)), .val (.int (e0_10 p0 p1 p2 q3 p4 p5)), .val (.int (e0_12 p0 p1 p2 q3 p4 p5)), .unset, .unset] [(.int (e0_5 p0 p1 q3 p4 p5))])) t := by
              intro t k
              by_cases hm94 : (e0_5 p0 p1 q3 p4 p5) = (0 : Int32)
              · rw [show (e0_16 p0 p1 p2 q3 p4 p5) = (1 : Int32) from if_pos hm94] at k
                refine XS.ifYes X9.here hx rfl (pc0 := 278) (pc' := 304) rfl (hb hby at_278) rfl ((if0 _ _).trans (teq hm94).1) (by decide) (by decide) (XS.iconst X9.here hx rfl (hb hby at_304) (XS.goto X9.here hx rfl (pc0 := 305) (pc' := 309) rfl (hb hby at_305) (by decide) (by decide) ?_))
                show Steps _ _ _ (T9.setTop (mkF m 309 #[.val (.int p0), .val (.int p1), .val (.int p2), .val (.long q3), .second, .val (.int p4), .val (.int p5), .val (.int p0), .val (.int (if (p5 &&& (1 : Int32)) = (0 : Int32) then p1 else p0)), .val (.int (e0_0 p0 p1 p2 p5)), .val (.long (e0_1 p0 q3 p4 p5)), .second, .val (.ref b5), .val (.int (e0_2 p0 p1 p2 q3 p4 p5)), .val (.int (e0_3 p0 q3 p4 p5)), .val (.int (e0_5 p0 p1 q3 p4 p5)), .val (.int (e0_6 p0 p1 p2 q3 p4 p5)), .val (.int (e0_8 p0 p1 p2 q3 p4 p5)), .val (.int (e0_10 p0 p1 p2 q3 p4 p5)), .val (.int (e0_12 p0 p1 p2 q3 p4 p5)), .unset, .unset] [(.int (1 : Int32))])) _
                exact k
              · rw [show (e0_16 p0 p1 p2 q3 p4 p5) = (e0_15 p0 p1 p2 q3 p4 p5) from if_neg hm94] at k
                refine XS.ifNo X9.here hx rfl (hb hby at_278) rfl ((if0 _ _).trans (feq hm94).1) (XS.iload X9.here hx rfl (hb hby at_281) rfl (XS.iconst X9.here hx rfl (hb hby at_283) ?_))
                show Steps _ _ _ (T9.setTop (mkF m 284 #[.val (.int p0), .val (.int p1), .val (.int p2), .val (.long q3), .second, .val (.int p4), .val (.int p5), .val (.int p0), .val (.int (if (p5 &&& (1 : Int32)) = (0 : Int32) then p1 else p0)), .val (.int (e0_0 p0 p1 p2 p5)), .val (.long (e0_1 p0 q3 p4 p5)), .second, .val (.ref b5), .val (.int (e0_2 p0 p1 p2 q3 p4 p5)), .val (.int (e0_3 p0 q3 p4 p5)), .val (.int (e0_5 p0 p1 q3 p4 p5)), .val (.int (e0_6 p0 p1 p2 q3 p4 p5)), .val (.int (e0_8 p0 p1 p2 q3 p4 p5)), .val (.int (e0_10 p0 p1 p2 q3 p4 p5)), .val (.int (e0_12 p0 p1 p2 q3 p4 p5)), .unset, .unset] [(.int (2 : Int32)), (.int (e0_2 p0 p1 p2 q3 p4 p5))])) _
                have m95 : ∀ t, Steps p.tables e below (T9.setTop (mkF m 309 #[.val (.int p0), .val (.int p1), .val (.int p2), .val (.long q3), .second, .val (.int p4), .val (.int p5), .val (.int p0), .val (.int (if (p5 &&& (1 : Int32)) = (0 : Int32) then p1 else p0)), .val (.int (e0_0 p0 p1 p2 p5)), .val (.long (e0_1 p0 q3 p4 p5)), .second, .val (.ref b5), .val (.int (e0_2 p0 p1 p2 q3 p4 p5)), .val (.int (e0_3 p0 q3 p4 p5)), .val (.int (e0_5 p0 p1 q3 p4 p5)), .val (.int (e0_6 p0 p1 p2 q3 p4 p5)), .val (.int (e0_8 p0 p1 p2 q3 p4 p5)), .val (.int (e0_10 p0 p1 p2 q3 p4 p5)), .val (.int (e0_12 p0 p1 p2 q3 p4 p5)), .unset, .unset] [(.int (e0_15 p0 p1 p2 q3 p4 p5))])) t → Steps p.tables e below (T9.setTop (mkF m 284 #[.val (.int p0), .val (.int p1), .val (.int p2), .val (.long q3), .second, .val (.int p4), .val (.int p5), .val (.int p0), .val (.int (if (p5 &&& (1 : Int32)) = (0 : Int32) then p1 else p0)), .val (.int (e0_0 p0 p1 p2 p5)), .val (.long (e0_1 p0 q3 p4 p5)), .second, .val (.ref b5), .val (.int (e0_2 p0 p1 p2 q3 p4 p5)), .val (.int (e0_3 p0 q3 p4 p5)), .val (.int (e0_5 p0 p1 q3 p4 p5)), .val (.int (e0_6 p0 p1 p2 q3 p4 p5)), .val (.int (e0_8 p0 p1 p2 q3 p4 p5)), .val (.int (e0_10 p0 p1 p2 q3 p4 p5)), .val (.int (e0_12 p0 p1 p2 q3 p4 p5)), .unset, .unset] [(.int (2 : Int32)), (.int (e0_2 p0 p1 p2 q3 p4 p5))])) t := by
                  intro t k
                  by_cases hm95 : (e0_2 p0 p1 p2 q3 p4 p5) = (2 : Int32)
                  · rw [show (e0_15 p0 p1 p2 q3 p4 p5) = (e0_13 p0 p1 p2 q3 p4 p5) from if_pos hm95] at k
                    refine XS.icmpNo X9.here hx rfl (hb hby at_284) rfl (teq hm95).2 (XS.iload X9.here hx rfl (hb hby at_287) rfl (XS.iload X9.here hx rfl (hb hby at_289) rfl ?_))
                    show Steps _ _ _ (T9.setTop (mkF m 291 #[.val (.int p0), .val (.int p1), .val (.int p2), .val (.long q3), .second, .val (.int p4), .val (.int p5), .val (.int p0), .val (.int (if (p5 &&& (1 : Int32)) = (0 : Int32) then p1 else p0)), .val (.int (e0_0 p0 p1 p2 p5)), .val (.long (e0_1 p0 q3 p4 p5)), .second, .val (.ref b5), .val (.int (e0_2 p0 p1 p2 q3 p4 p5)), .val (.int (e0_3 p0 q3 p4 p5)), .val (.int (e0_5 p0 p1 q3 p4 p5)), .val (.int (e0_6 p0 p1 p2 q3 p4 p5)), .val (.int (e0_8 p0 p1 p2 q3 p4 p5)), .val (.int (e0_10 p0 p1 p2 q3 p4 p5)), .val (.int (e0_12 p0 p1 p2 q3 p4 p5)), .unset, .unset] [(.int (e0_8 p0 p1 p2 q3 p4 p5)), (.int (if (p5 &&& (1 : Int32)) = (0 : Int32) then p1 else p0))])) _
                    have m96 : ∀ t, Steps p.tables e below (T9.setTop (mkF m 309 #[.val (.int p0), .val (.int p1), .val (.int p2), .val (.long q3), .second, .val (.int p4), .val (.int p5), .val (.int p0), .val (.int (if (p5 &&& (1 : Int32)) = (0 : Int32) then p1 else p0)), .val (.int (e0_0 p0 p1 p2 p5)), .val (.long (e0_1 p0 q3 p4 p5)), .second, .val (.ref b5), .val (.int (e0_2 p0 p1 p2 q3 p4 p5)), .val (.int (e0_3 p0 q3 p4 p5)), .val (.int (e0_5 p0 p1 q3 p4 p5)), .val (.int (e0_6 p0 p1 p2 q3 p4 p5)), .val (.int (e0_8 p0 p1 p2 q3 p4 p5)), .val (.int (e0_10 p0 p1 p2 q3 p4 p5)), .val (.int (e0_12 p0 p1 p2 q3 p4 p5)), .unset, .unset] [(.int (e0_13 p0 p1 p2 q3 p4 p5))])) t → Steps p.tables e below (T9.setTop (mkF m 291 #[.val (.int p0), .val (.int p1), .val (.int p2), .val (.long q3), .second, .val (.int p4), .val (.int p5), .val (.int p0), .val (.int (if (p5 &&& (1 : Int32)) = (0 : Int32) then p1 else p0)), .val (.int (e0_0 p0 p1 p2 p5)), .val (.long (e0_1 p0 q3 p4 p5)), .second, .val (.ref b5), .val (.int (e0_2 p0 p1 p2 q3 p4 p5)), .val (.int (e0_3 p0 q3 p4 p5)), .val (.int (e0_5 p0 p1 q3 p4 p5)), .val (.int (e0_6 p0 p1 p2 q3 p4 p5)), .val (.int (e0_8 p0 p1 p2 q3 p4 p5)), .val (.int (e0_10 p0 p1 p2 q3 p4 p5)), .val (.int (e0_12 p0 p1 p2 q3 p4 p5)), .unset, .unset] [(.int (e0_8 p0 p1 p2 q3 p4 p5)), (.int (if (p5 &&& (1 : Int32)) = (0 : Int32) then p1 else p0))])) t := by
                      intro t k
                      by_cases hm96 : (if (p5 &&& (1 : Int32)) = (0 : Int32) then p1 else p0) < (e0_8 p0 p1 p2 q3 p4 p5)
                      · rw [show (e0_13 p0 p1 p2 q3 p4 p5) = (1 : Int32) from if_pos hm96] at k
                        refine XS.icmpNo X9.here hx rfl (hb hby at_291) rfl (tlt hm96).2.1 (XS.goto X9.here hx rfl (pc0 := 294) (pc' := 304) rfl (hb hby at_294) (by decide) (by decide) (XS.iconst X9.here hx rfl (hb hby at_304) (XS.goto X9.here hx rfl (pc0 := 305) (pc' := 309) rfl (hb hby at_305) (by decide) (by decide) ?_)))
                        show Steps _ _ _ (T9.setTop (mkF m 309 #[.val (.int p0), .val (.int p1), .val (.int p2), .val (.long q3), .second, .val (.int p4), .val (.int p5), .val (.int p0), .val (.int (if (p5 &&& (1 : Int32)) = (0 : Int32) then p1 else p0)), .val (.int (e0_0 p0 p1 p2 p5)), .val (.long (e0_1 p0 q3 p4 p5)), .second, .val (.ref b5), .val (.int (e0_2 p0 p1 p2 q3 p4 p5)), .val (.int (e0_3 p0 q3 p4 p5)), .val (.int (e0_5 p0 p1 q3 p4 p5)), .val (.int (e0_6 p0 p1 p2 q3 p4 p5)), .val (.int (e0_8 p0 p1 p2 q3 p4 p5)), .val (.int (e0_10 p0 p1 p2 q3 p4 p5)), .val (.int (e0_12 p0 p1 p2 q3 p4 p5)), .unset, .unset] [(.int (1 : Int32))])) _
                        exact k
                      · rw [show (e0_13 p0 p1 p2 q3 p4 p5) = (0 : Int32) from if_neg hm96] at k
                        refine XS.icmpYes X9.here hx rfl (pc0 := 291) (pc' := 308) rfl (hb hby at_291) rfl (flt hm96).2.1 (by decide) (by decide) (XS.iconst X9.here hx rfl (hb hby at_308) ?_)
                        show Steps _ _ _ (T9.setTop (mkF m 309 #[.val (.int p0), .val (.int p1), .val (.int p2), .val (.long q3), .second, .val (.int p4), .val (.int p5), .val (.int p0), .val (.int (if (p5 &&& (1 : Int32)) = (0 : Int32) then p1 else p0)), .val (.int (e0_0 p0 p1 p2 p5)), .val (.long (e0_1 p0 q3 p4 p5)), .second, .val (.ref b5), .val (.int (e0_2 p0 p1 p2 q3 p4 p5)), .val (.int (e0_3 p0 q3 p4 p5)), .val (.int (e0_5 p0 p1 q3 p4 p5)), .val (.int (e0_6 p0 p1 p2 q3 p4 p5)), .val (.int (e0_8 p0 p1 p2 q3 p4 p5)), .val (.int (e0_10 p0 p1 p2 q3 p4 p5)), .val (.int (e0_12 p0 p1 p2 q3 p4 p5)), .unset, .unset] [(.int (0 : Int32))])) _
                        exact k
                    refine m96 _ ?_
                    show Steps _ _ _ (T9.setTop (mkF m 309 #[.val (.int p0), .val (.int p1), .val (.int p2), .val (.long q3), .second, .val (.int p4), .val (.int p5), .val (.int p0), .val (.int (if (p5 &&& (1 : Int32)) = (0 : Int32) then p1 else p0)), .val (.int (e0_0 p0 p1 p2 p5)), .val (.long (e0_1 p0 q3 p4 p5)), .second, .val (.ref b5), .val (.int (e0_2 p0 p1 p2 q3 p4 p5)), .val (.int (e0_3 p0 q3 p4 p5)), .val (.int (e0_5 p0 p1 q3 p4 p5)), .val (.int (e0_6 p0 p1 p2 q3 p4 p5)), .val (.int (e0_8 p0 p1 p2 q3 p4 p5)), .val (.int (e0_10 p0 p1 p2 q3 p4 p5)), .val (.int (e0_12 p0 p1 p2 q3 p4 p5)), .unset, .unset] [(.int (e0_13 p0 p1 p2 q3 p4 p5))])) _
                    exact k
                  · rw [show (e0_15 p0 p1 p2 q3 p4 p5) = (e0_14 p0 p1 p2 q3 p4 p5) from if_neg hm95] at k
                    refine XS.icmpYes X9.here hx rfl (pc0 := 284) (pc' := 297) rfl (hb hby at_284) rfl (feq hm95).2 (by decide) (by decide) (XS.iload X9.here hx rfl (hb hby at_297) rfl (XS.iload X9.here hx rfl (hb hby at_299) rfl ?_))
                    show Steps _ _ _ (T9.setTop (mkF m 301 #[.val (.int p0), .val (.int p1), .val (.int p2), .val (.long q3), .second, .val (.int p4), .val (.int p5), .val (.int p0), .val (.int (if (p5 &&& (1 : Int32)) = (0 : Int32) then p1 else p0)), .val (.int (e0_0 p0 p1 p2 p5)), .val (.long (e0_1 p0 q3 p4 p5)), .second, .val (.ref b5), .val (.int (e0_2 p0 p1 p2 q3 p4 p5)), .val (.int (e0_3 p0 q3 p4 p5)), .val (.int (e0_5 p0 p1 q3 p4 p5)), .val (.int (e0_6 p0 p1 p2 q3 p4 p5)), .val (.int (e0_8 p0 p1 p2 q3 p4 p5)), .val (.int (e0_10 p0 p1 p2 q3 p4 p5)), .val (.int (e0_12 p0 p1 p2 q3 p4 p5)), .unset, .unset] [(.int (e0_8 p0 p1 p2 q3 p4 p5)), (.int (if (p5 &&& (1 : Int32)) = (0 : Int32) then p1 else p0))])) _
                    have m97 : ∀ t, Steps p.tables e below (T9.setTop (mkF m 309 #[.val (.int p0), .val (.int p1), .val (.int p2), .val (.long q3), .second, .val (.int p4), .val (.int p5), .val (.int p0), .val (.int (if (p5 &&& (1 : Int32)) = (0 : Int32) then p1 else p0)), .val (.int (e0_0 p0 p1 p2 p5)), .val (.long (e0_1 p0 q3 p4 p5)), .second, .val (.ref b5), .val (.int (e0_2 p0 p1 p2 q3 p4 p5)), .val (.int (e0_3 p0 q3 p4 p5)), .val (.int (e0_5 p0 p1 q3 p4 p5)), .val (.int (e0_6 p0 p1 p2 q3 p4 p5)), .val (.int (e0_8 p0 p1 p2 q3 p4 p5)), .val (.int (e0_10 p0 p1 p2 q3 p4 p5)), .val (.int (e0_12 p0 p1 p2 q3 p4 p5)), .unset, .unset] [(.int (e0_14 p0 p1 p2 q3 p4 p5))])) t → Steps p.tables e below (T9.setTop (mkF m 301 #[.val (.int p0), .val (.int p1), .val (.int p2), .val (.long q3), .second, .val (.int p4), .val (.int p5), .val (.int p0), .val (.int (if (p5 &&& (1 : Int32)) = (0 : Int32) then p1 else p0)), .val (.int (e0_0 p0 p1 p2 p5)), .val (.long (e0_1 p0 q3 p4 p5)), .second, .val (.ref b5), .val (.int (e0_2 p0 p1 p2 q3 p4 p5)), .val (.int (e0_3 p0 q3 p4 p5)), .val (.int (e0_5 p0 p1 q3 p4 p5)), .val (.int (e0_6 p0 p1 p2 q3 p4 p5)), .val (.int (e0_8 p0 p1 p2 q3 p4 p5)), .val (.int (e0_10 p0 p1 p2 q3 p4 p5)), .val (.int (e0_12 p0 p1 p2 q3 p4 p5)), .unset, .unset] [(.int (e0_8 p0 p1 p2 q3 p4 p5)), (.int (if (p5 &&& (1 : Int32)) = (0 : Int32) then p1 else p0))])) t := by
                      intro t k
                      by_cases hm97 : (e0_8 p0 p1 p2 q3 p4 p5) < (if (p5 &&& (1 : Int32)) = (0 : Int32) then p1 else p0)
                      · rw [show (e0_14 p0 p1 p2 q3 p4 p5) = (0 : Int32) from if_pos hm97] at k
                        refine XS.icmpYes X9.here hx rfl (pc0 := 301) (pc' := 308) rfl (hb hby at_301) rfl (tlt hm97).2.2.1 (by decide) (by decide) (XS.iconst X9.here hx rfl (hb hby at_308) ?_)
                        show Steps _ _ _ (T9.setTop (mkF m 309 #[.val (.int p0), .val (.int p1), .val (.int p2), .val (.long q3), .second, .val (.int p4), .val (.int p5), .val (.int p0), .val (.int (if (p5 &&& (1 : Int32)) = (0 : Int32) then p1 else p0)), .val (.int (e0_0 p0 p1 p2 p5)), .val (.long (e0_1 p0 q3 p4 p5)), .second, .val (.ref b5), .val (.int (e0_2 p0 p1 p2 q3 p4 p5)), .val (.int (e0_3 p0 q3 p4 p5)), .val (.int (e0_5 p0 p1 q3 p4 p5)), .val (.int (e0_6 p0 p1 p2 q3 p4 p5)), .val (.int (e0_8 p0 p1 p2 q3 p4 p5)), .val (.int (e0_10 p0 p1 p2 q3 p4 p5)), .val (.int (e0_12 p0 p1 p2 q3 p4 p5)), .unset, .unset] [(.int (0 : Int32))])) _
                        exact k
                      · rw [show (e0_14 p0 p1 p2 q3 p4 p5) = (1 : Int32) from if_neg hm97] at k
                        refine XS.icmpNo X9.here hx rfl (hb hby at_301) rfl (flt hm97).2.2.1 (XS.iconst X9.here hx rfl (hb hby at_304) (XS.goto X9.here hx rfl (pc0 := 305) (pc' := 309) rfl (hb hby at_305) (by decide) (by decide) ?_))
                        show Steps _ _ _ (T9.setTop (mkF m 309 #[.val (.int p0), .val (.int p1), .val (.int p2), .val (.long q3), .second, .val (.int p4), .val (.int p5), .val (.int p0), .val (.int (if (p5 &&& (1 : Int32)) = (0 : Int32) then p1 else p0)), .val (.int (e0_0 p0 p1 p2 p5)), .val (.long (e0_1 p0 q3 p4 p5)), .second, .val (.ref b5), .val (.int (e0_2 p0 p1 p2 q3 p4 p5)), .val (.int (e0_3 p0 q3 p4 p5)), .val (.int (e0_5 p0 p1 q3 p4 p5)), .val (.int (e0_6 p0 p1 p2 q3 p4 p5)), .val (.int (e0_8 p0 p1 p2 q3 p4 p5)), .val (.int (e0_10 p0 p1 p2 q3 p4 p5)), .val (.int (e0_12 p0 p1 p2 q3 p4 p5)), .unset, .unset] [(.int (1 : Int32))])) _
                        exact k
                    refine m97 _ ?_
                    show Steps _ _ _ (T9.setTop (mkF m 309 #[.val (.int p0), .val (.int p1), .val (.int p2), .val (.long q3), .second, .val (.int p4), .val (.int p5), .val (.int p0), .val (.int (if (p5 &&& (1 : Int32)) = (0 : Int32) then p1 else p0)), .val (.int (e0_0 p0 p1 p2 p5)), .val (.long (e0_1 p0 q3 p4 p5)), .second, .val (.ref b5), .val (.int (e0_2 p0 p1 p2 q3 p4 p5)), .val (.int (e0_3 p0 q3 p4 p5)), .val (.int (e0_5 p0 p1 q3 p4 p5)), .val (.int (e0_6 p0 p1 p2 q3 p4 p5)), .val (.int (e0_8 p0 p1 p2 q3 p4 p5)), .val (.int (e0_10 p0 p1 p2 q3 p4 p5)), .val (.int (e0_12 p0 p1 p2 q3 p4 p5)), .unset, .unset] [(.int (e0_14 p0 p1 p2 q3 p4 p5))])) _
                    exact k
                refine m95 _ ?_
                show Steps _ _ _ (T9.setTop (mkF m 309 #[.val (.int p0), .val (.int p1), .val (.int p2), .val (.long q3), .second, .val (.int p4), .val (.int p5), .val (.int p0), .val (.int (if (p5 &&& (1 : Int32)) = (0 : Int32) then p1 else p0)), .val (.int (e0_0 p0 p1 p2 p5)), .val (.long (e0_1 p0 q3 p4 p5)), .second, .val (.ref b5), .val (.int (e0_2 p0 p1 p2 q3 p4 p5)), .val (.int (e0_3 p0 q3 p4 p5)), .val (.int (e0_5 p0 p1 q3 p4 p5)), .val (.int (e0_6 p0 p1 p2 q3 p4 p5)), .val (.int (e0_8 p0 p1 p2 q3 p4 p5)), .val (.int (e0_10 p0 p1 p2 q3 p4 p5)), .val (.int (e0_12 p0 p1 p2 q3 p4 p5)), .unset, .unset] [(.int (e0_15 p0 p1 p2 q3 p4 p5))])) _
                exact k
            refine m94 _ ?_
            show Steps _ _ _ (T9.setTop (mkF m 309 #[.val (.int p0), .val (.int p1), .val (.int p2), .val (.long q3), .second, .val (.int p4), .val (.int p5), .val (.int p0), .val (.int (if (p5 &&& (1 : Int32)) = (0 : Int32) then p1 else p0)), .val (.int (e0_0 p0 p1 p2 p5)), .val (.long (e0_1 p0 q3 p4 p5)), .second, .val (.ref b5), .val (.int (e0_2 p0 p1 p2 q3 p4 p5)), .val (.int (e0_3 p0 q3 p4 p5)), .val (.int (e0_5 p0 p1 q3 p4 p5)), .val (.int (e0_6 p0 p1 p2 q3 p4 p5)), .val (.int (e0_8 p0 p1 p2 q3 p4 p5)), .val (.int (e0_10 p0 p1 p2 q3 p4 p5)), .val (.int (e0_12 p0 p1 p2 q3 p4 p5)), .unset, .unset] [(.int (e0_16 p0 p1 p2 q3 p4 p5))])) _
            exact k
        refine OGl.go (fun t k => m93 _ (XS.istore X9.here hx rfl (hb hby at_309) rfl (l' := #[.val (.int p0), .val (.int p1), .val (.int p2), .val (.long q3), .second, .val (.int p4), .val (.int p5), .val (.int p0), .val (.int (if (p5 &&& (1 : Int32)) = (0 : Int32) then p1 else p0)), .val (.int (e0_0 p0 p1 p2 p5)), .val (.long (e0_1 p0 q3 p4 p5)), .second, .val (.ref b5), .val (.int (e0_2 p0 p1 p2 q3 p4 p5)), .val (.int (e0_3 p0 q3 p4 p5)), .val (.int (e0_5 p0 p1 q3 p4 p5)), .val (.int (e0_6 p0 p1 p2 q3 p4 p5)), .val (.int (e0_8 p0 p1 p2 q3 p4 p5)), .val (.int (e0_10 p0 p1 p2 q3 p4 p5)), .val (.int (e0_12 p0 p1 p2 q3 p4 p5)), .val (.int (e0_17 p0 p1 p2 q3 p4 p5)), .unset]) rfl (XS.iload X9.here hx rfl (hb hby at_311) rfl (XS.iconst X9.here hx rfl (hb hby at_313) k)))) ?_
        show OGl _ _ _ _ T9 (mkF m 314 #[.val (.int p0), .val (.int p1), .val (.int p2), .val (.long q3), .second, .val (.int p4), .val (.int p5), .val (.int p0), .val (.int (if (p5 &&& (1 : Int32)) = (0 : Int32) then p1 else p0)), .val (.int (e0_0 p0 p1 p2 p5)), .val (.long (e0_1 p0 q3 p4 p5)), .second, .val (.ref b5), .val (.int (e0_2 p0 p1 p2 q3 p4 p5)), .val (.int (e0_3 p0 q3 p4 p5)), .val (.int (e0_5 p0 p1 q3 p4 p5)), .val (.int (e0_6 p0 p1 p2 q3 p4 p5)), .val (.int (e0_8 p0 p1 p2 q3 p4 p5)), .val (.int (e0_10 p0 p1 p2 q3 p4 p5)), .val (.int (e0_12 p0 p1 p2 q3 p4 p5)), .val (.int (e0_17 p0 p1 p2 q3 p4 p5)), .unset] [(.int (2 : Int32)), (.int (e0_2 p0 p1 p2 q3 p4 p5))])
        have m98 : ∀ t, Steps p.tables e below (T9.setTop (mkF m 334 #[.val (.int p0), .val (.int p1), .val (.int p2), .val (.long q3), .second, .val (.int p4), .val (.int p5), .val (.int p0), .val (.int (if (p5 &&& (1 : Int32)) = (0 : Int32) then p1 else p0)), .val (.int (e0_0 p0 p1 p2 p5)), .val (.long (e0_1 p0 q3 p4 p5)), .second, .val (.ref b5), .val (.int (e0_2 p0 p1 p2 q3 p4 p5)), .val (.int (e0_3 p0 q3 p4 p5)), .val (.int (e0_5 p0 p1 q3 p4 p5)), .val (.int (e0_6 p0 p1 p2 q3 p4 p5)), .val (.int (e0_8 p0 p1 p2 q3 p4 p5)), .val (.int (e0_10 p0 p1 p2 q3 p4 p5)), .val (.int (e0_12 p0 p1 p2 q3 p4 p5)), .val (.int (e0_17 p0 p1 p2 q3 p4 p5)), .unset] [(.int (e0_20 p0 p1 p2 q3 p4 p5))])) t → Steps p.tables e below (T9.setTop (mkF m 314 #[.val (.int p0), .val (.int p1), .val (.int p2), .val (.long q3), .second, .val (.int p4), .val (.int p5), .val (.int p0), .val (.int (if (p5 &&& (1 : Int32)) = (0 : Int32) then p1 else p0)), .val (.int (e0_0 p0 p1 p2 p5)), .val (.long (e0_1 p0 q3 p4 p5)), .second, .val (.ref b5), .val (.int (e0_2 p0 p1 p2 q3 p4 p5)), .val (.int (e0_3 p0 q3 p4 p5)), .val (.int (e0_5 p0 p1 q3 p4 p5)), .val (.int (e0_6 p0 p1 p2 q3 p4 p5)), .val (.int (e0_8 p0 p1 p2 q3 p4 p5)), .val (.int (e0_10 p0 p1 p2 q3 p4 p5)), .val (.int (e0_12 p0 p1 p2 q3 p4 p5)), .val (.int (e0_17 p0 p1 p2 q3 p4 p5)), .unset] [(.int (2 : Int32)), (.int (e0_2 p0 p1 p2 q3 p4 p5))])) t := by
          intro t k
          by_cases hm98 : (e0_2 p0 p1 p2 q3 p4 p5) = (2 : Int32)
          · rw [show (e0_20 p0 p1 p2 q3 p4 p5) = (1 : Int32) from if_pos hm98] at k
            refine XS.icmpYes X9.here hx rfl (pc0 := 314) (pc' := 329) rfl (hb hby at_314) rfl (teq hm98).1 (by decide) (by decide) (XS.iconst X9.here hx rfl (hb hby at_329) (XS.goto X9.here hx rfl (pc0 := 330) (pc' := 334) rfl (hb hby at_330) (by decide) (by decide) ?_))
            show Steps _ _ _ (T9.setTop (mkF m 334 #[.val (.int p0), .val (.int p1), .val (.int p2), .val (.long q3), .second, .val (.int p4), .val (.int p5), .val (.int p0), .val (.int (if (p5 &&& (1 : Int32)) = (0 : Int32) then p1 else p0)), .val (.int (e0_0 p0 p1 p2 p5)), .val (.long (e0_1 p0 q3 p4 p5)), .second, .val (.ref b5), .val (.int (e0_2 p0 p1 p2 q3 p4 p5)), .val (.int (e0_3 p0 q3 p4 p5)), .val (.int (e0_5 p0 p1 q3 p4 p5)), .val (.int (e0_6 p0 p1 p2 q3 p4 p5)), .val (.int (e0_8 p0 p1 p2 q3 p4 p5)), .val (.int (e0_10 p0 p1 p2 q3 p4 p5)), .val (.int (e0_12 p0 p1 p2 q3 p4 p5)), .val (.int (e0_17 p0 p1 p2 q3 p4 p5)), .unset] [(.int (1 : Int32))])) _
            exact k
          · rw [show (e0_20 p0 p1 p2 q3 p4 p5) = (e0_19 p0 p1 p2 q3 p4 p5) from if_neg hm98] at k
            refine XS.icmpNo X9.here hx rfl (hb hby at_314) rfl (feq hm98).1 (XS.iload X9.here hx rfl (hb hby at_317) rfl ?_)
            show Steps _ _ _ (T9.setTop (mkF m 319 #[.val (.int p0), .val (.int p1), .val (.int p2), .val (.long q3), .second, .val (.int p4), .val (.int p5), .val (.int p0), .val (.int (if (p5 &&& (1 : Int32)) = (0 : Int32) then p1 else p0)), .val (.int (e0_0 p0 p1 p2 p5)), .val (.long (e0_1 p0 q3 p4 p5)), .second, .val (.ref b5), .val (.int (e0_2 p0 p1 p2 q3 p4 p5)), .val (.int (e0_3 p0 q3 p4 p5)), .val (.int (e0_5 p0 p1 q3 p4 p5)), .val (.int (e0_6 p0 p1 p2 q3 p4 p5)), .val (.int (e0_8 p0 p1 p2 q3 p4 p5)), .val (.int (e0_10 p0 p1 p2 q3 p4 p5)), .val (.int (e0_12 p0 p1 p2 q3 p4 p5)), .val (.int (e0_17 p0 p1 p2 q3 p4 p5)), .unset] [(.int (e0_6 p0 p1 p2 q3 p4 p5))])) _
            have m99 : ∀ t, Steps p.tables e below (T9.setTop (mkF m 334 #[.val (.int p0), .val (.int p1), .val (.int p2), .val (.long q3), .second, .val (.int p4), .val (.int p5), .val (.int p0), .val (.int (if (p5 &&& (1 : Int32)) = (0 : Int32) then p1 else p0)), .val (.int (e0_0 p0 p1 p2 p5)), .val (.long (e0_1 p0 q3 p4 p5)), .second, .val (.ref b5), .val (.int (e0_2 p0 p1 p2 q3 p4 p5)), .val (.int (e0_3 p0 q3 p4 p5)), .val (.int (e0_5 p0 p1 q3 p4 p5)), .val (.int (e0_6 p0 p1 p2 q3 p4 p5)), .val (.int (e0_8 p0 p1 p2 q3 p4 p5)), .val (.int (e0_10 p0 p1 p2 q3 p4 p5)), .val (.int (e0_12 p0 p1 p2 q3 p4 p5)), .val (.int (e0_17 p0 p1 p2 q3 p4 p5)), .unset] [(.int (e0_19 p0 p1 p2 q3 p4 p5))])) t → Steps p.tables e below (T9.setTop (mkF m 319 #[.val (.int p0), .val (.int p1), .val (.int p2), .val (.long q3), .second, .val (.int p4), .val (.int p5), .val (.int p0), .val (.int (if (p5 &&& (1 : Int32)) = (0 : Int32) then p1 else p0)), .val (.int (e0_0 p0 p1 p2 p5)), .val (.long (e0_1 p0 q3 p4 p5)), .second, .val (.ref b5), .val (.int (e0_2 p0 p1 p2 q3 p4 p5)), .val (.int (e0_3 p0 q3 p4 p5)), .val (.int (e0_5 p0 p1 q3 p4 p5)), .val (.int (e0_6 p0 p1 p2 q3 p4 p5)), .val (.int (e0_8 p0 p1 p2 q3 p4 p5)), .val (.int (e0_10 p0 p1 p2 q3 p4 p5)), .val (.int (e0_12 p0 p1 p2 q3 p4 p5)), .val (.int (e0_17 p0 p1 p2 q3 p4 p5)), .unset] [(.int (e0_6 p0 p1 p2 q3 p4 p5))])) t := by
              intro t k
              by_cases hm99 : (e0_6 p0 p1 p2 q3 p4 p5) = (0 : Int32)
              · rw [show (e0_19 p0 p1 p2 q3 p4 p5) = (1 : Int32) from if_pos hm99] at k
                refine XS.ifYes X9.here hx rfl (pc0 := 319) (pc' := 329) rfl (hb hby at_319) rfl ((if0 _ _).trans (teq hm99).1) (by decide) (by decide) (XS.iconst X9.here hx rfl (hb hby at_329) (XS.goto X9.here hx rfl (pc0 := 330) (pc' := 334) rfl (hb hby at_330) (by decide) (by decide) ?_))
                show Steps _ _ _ (T9.setTop (mkF m 334 #[.val (.int p0), .val (.int p1), .val (.int p2), .val (.long q3), .second, .val (.int p4), .val (.int p5), .val (.int p0), .val (.int (if (p5 &&& (1 : Int32)) = (0 : Int32) then p1 else p0)), .val (.int (e0_0 p0 p1 p2 p5)), .val (.long (e0_1 p0 q3 p4 p5)), .second, .val (.ref b5), .val (.int (e0_2 p0 p1 p2 q3 p4 p5)), .val (.int (e0_3 p0 q3 p4 p5)), .val (.int (e0_5 p0 p1 q3 p4 p5)), .val (.int (e0_6 p0 p1 p2 q3 p4 p5)), .val (.int (e0_8 p0 p1 p2 q3 p4 p5)), .val (.int (e0_10 p0 p1 p2 q3 p4 p5)), .val (.int (e0_12 p0 p1 p2 q3 p4 p5)), .val (.int (e0_17 p0 p1 p2 q3 p4 p5)), .unset] [(.int (1 : Int32))])) _
                exact k
              · rw [show (e0_19 p0 p1 p2 q3 p4 p5) = (e0_18 p0 p1 p2 q3 p4 p5) from if_neg hm99] at k
                refine XS.ifNo X9.here hx rfl (hb hby at_319) rfl ((if0 _ _).trans (feq hm99).1) (XS.iload X9.here hx rfl (hb hby at_322) rfl (XS.iload X9.here hx rfl (hb hby at_324) rfl ?_))
                show Steps _ _ _ (T9.setTop (mkF m 326 #[.val (.int p0), .val (.int p1), .val (.int p2), .val (.long q3), .second, .val (.int p4), .val (.int p5), .val (.int p0), .val (.int (if (p5 &&& (1 : Int32)) = (0 : Int32) then p1 else p0)), .val (.int (e0_0 p0 p1 p2 p5)), .val (.long (e0_1 p0 q3 p4 p5)), .second, .val (.ref b5), .val (.int (e0_2 p0 p1 p2 q3 p4 p5)), .val (.int (e0_3 p0 q3 p4 p5)), .val (.int (e0_5 p0 p1 q3 p4 p5)), .val (.int (e0_6 p0 p1 p2 q3 p4 p5)), .val (.int (e0_8 p0 p1 p2 q3 p4 p5)), .val (.int (e0_10 p0 p1 p2 q3 p4 p5)), .val (.int (e0_12 p0 p1 p2 q3 p4 p5)), .val (.int (e0_17 p0 p1 p2 q3 p4 p5)), .unset] [(.int (e0_8 p0 p1 p2 q3 p4 p5)), (.int (e0_0 p0 p1 p2 p5))])) _
                have m100 : ∀ t, Steps p.tables e below (T9.setTop (mkF m 334 #[.val (.int p0), .val (.int p1), .val (.int p2), .val (.long q3), .second, .val (.int p4), .val (.int p5), .val (.int p0), .val (.int (if (p5 &&& (1 : Int32)) = (0 : Int32) then p1 else p0)), .val (.int (e0_0 p0 p1 p2 p5)), .val (.long (e0_1 p0 q3 p4 p5)), .second, .val (.ref b5), .val (.int (e0_2 p0 p1 p2 q3 p4 p5)), .val (.int (e0_3 p0 q3 p4 p5)), .val (.int (e0_5 p0 p1 q3 p4 p5)), .val (.int (e0_6 p0 p1 p2 q3 p4 p5)), .val (.int (e0_8 p0 p1 p2 q3 p4 p5)), .val (.int (e0_10 p0 p1 p2 q3 p4 p5)), .val (.int (e0_12 p0 p1 p2 q3 p4 p5)), .val (.int (e0_17 p0 p1 p2 q3 p4 p5)), .unset] [(.int (e0_18 p0 p1 p2 q3 p4 p5))])) t → Steps p.tables e below (T9.setTop (mkF m 326 #[.val (.int p0), .val (.int p1), .val (.int p2), .val (.long q3), .second, .val (.int p4), .val (.int p5), .val (.int p0), .val (.int (if (p5 &&& (1 : Int32)) = (0 : Int32) then p1 else p0)), .val (.int (e0_0 p0 p1 p2 p5)), .val (.long (e0_1 p0 q3 p4 p5)), .second, .val (.ref b5), .val (.int (e0_2 p0 p1 p2 q3 p4 p5)), .val (.int (e0_3 p0 q3 p4 p5)), .val (.int (e0_5 p0 p1 q3 p4 p5)), .val (.int (e0_6 p0 p1 p2 q3 p4 p5)), .val (.int (e0_8 p0 p1 p2 q3 p4 p5)), .val (.int (e0_10 p0 p1 p2 q3 p4 p5)), .val (.int (e0_12 p0 p1 p2 q3 p4 p5)), .val (.int (e0_17 p0 p1 p2 q3 p4 p5)), .unset] [(.int (e0_8 p0 p1 p2 q3 p4 p5)), (.int (e0_0 p0 p1 p2 p5))])) t := by
                  intro t k
                  by_cases hm100 : (e0_8 p0 p1 p2 q3 p4 p5) < (e0_0 p0 p1 p2 p5)
                  · rw [show (e0_18 p0 p1 p2 q3 p4 p5) = (0 : Int32) from if_pos hm100] at k
                    refine XS.icmpYes X9.here hx rfl (pc0 := 326) (pc' := 333) rfl (hb hby at_326) rfl (tlt hm100).2.2.1 (by decide) (by decide) (XS.iconst X9.here hx rfl (hb hby at_333) ?_)
                    show Steps _ _ _ (T9.setTop (mkF m 334 #[.val (.int p0), .val (.int p1), .val (.int p2), .val (.long q3), .second, .val (.int p4), .val (.int p5), .val (.int p0), .val (.int (if (p5 &&& (1 : Int32)) = (0 : Int32) then p1 else p0)), .val (.int (e0_0 p0 p1 p2 p5)), .val (.long (e0_1 p0 q3 p4 p5)), .second, .val (.ref b5), .val (.int (e0_2 p0 p1 p2 q3 p4 p5)), .val (.int (e0_3 p0 q3 p4 p5)), .val (.int (e0_5 p0 p1 q3 p4 p5)), .val (.int (e0_6 p0 p1 p2 q3 p4 p5)), .val (.int (e0_8 p0 p1 p2 q3 p4 p5)), .val (.int (e0_10 p0 p1 p2 q3 p4 p5)), .val (.int (e0_12 p0 p1 p2 q3 p4 p5)), .val (.int (e0_17 p0 p1 p2 q3 p4 p5)), .unset] [(.int (0 : Int32))])) _
                    exact k
                  · rw [show (e0_18 p0 p1 p2 q3 p4 p5) = (1 : Int32) from if_neg hm100] at k
                    refine XS.icmpNo X9.here hx rfl (hb hby at_326) rfl (flt hm100).2.2.1 (XS.iconst X9.here hx rfl (hb hby at_329) (XS.goto X9.here hx rfl (pc0 := 330) (pc' := 334) rfl (hb hby at_330) (by decide) (by decide) ?_))
                    show Steps _ _ _ (T9.setTop (mkF m 334 #[.val (.int p0), .val (.int p1), .val (.int p2), .val (.long q3), .second, .val (.int p4), .val (.int p5), .val (.int p0), .val (.int (if (p5 &&& (1 : Int32)) = (0 : Int32) then p1 else p0)), .val (.int (e0_0 p0 p1 p2 p5)), .val (.long (e0_1 p0 q3 p4 p5)), .second, .val (.ref b5), .val (.int (e0_2 p0 p1 p2 q3 p4 p5)), .val (.int (e0_3 p0 q3 p4 p5)), .val (.int (e0_5 p0 p1 q3 p4 p5)), .val (.int (e0_6 p0 p1 p2 q3 p4 p5)), .val (.int (e0_8 p0 p1 p2 q3 p4 p5)), .val (.int (e0_10 p0 p1 p2 q3 p4 p5)), .val (.int (e0_12 p0 p1 p2 q3 p4 p5)), .val (.int (e0_17 p0 p1 p2 q3 p4 p5)), .unset] [(.int (1 : Int32))])) _
                    exact k
                refine m100 _ ?_
                show Steps _ _ _ (T9.setTop (mkF m 334 #[.val (.int p0), .val (.int p1), .val (.int p2), .val (.long q3), .second, .val (.int p4), .val (.int p5), .val (.int p0), .val (.int (if (p5 &&& (1 : Int32)) = (0 : Int32) then p1 else p0)), .val (.int (e0_0 p0 p1 p2 p5)), .val (.long (e0_1 p0 q3 p4 p5)), .second, .val (.ref b5), .val (.int (e0_2 p0 p1 p2 q3 p4 p5)), .val (.int (e0_3 p0 q3 p4 p5)), .val (.int (e0_5 p0 p1 q3 p4 p5)), .val (.int (e0_6 p0 p1 p2 q3 p4 p5)), .val (.int (e0_8 p0 p1 p2 q3 p4 p5)), .val (.int (e0_10 p0 p1 p2 q3 p4 p5)), .val (.int (e0_12 p0 p1 p2 q3 p4 p5)), .val (.int (e0_17 p0 p1 p2 q3 p4 p5)), .unset] [(.int (e0_18 p0 p1 p2 q3 p4 p5))])) _
                exact k
            refine m99 _ ?_
            show Steps _ _ _ (T9.setTop (mkF m 334 #[.val (.int p0), .val (.int p1), .val (.int p2), .val (.long q3), .second, .val (.int p4), .val (.int p5), .val (.int p0), .val (.int (if (p5 &&& (1 : Int32)) = (0 : Int32) then p1 else p0)), .val (.int (e0_0 p0 p1 p2 p5)), .val (.long (e0_1 p0 q3 p4 p5)), .second, .val (.ref b5), .val (.int (e0_2 p0 p1 p2 q3 p4 p5)), .val (.int (e0_3 p0 q3 p4 p5)), .val (.int (e0_5 p0 p1 q3 p4 p5)), .val (.int (e0_6 p0 p1 p2 q3 p4 p5)), .val (.int (e0_8 p0 p1 p2 q3 p4 p5)), .val (.int (e0_10 p0 p1 p2 q3 p4 p5)), .val (.int (e0_12 p0 p1 p2 q3 p4 p5)), .val (.int (e0_17 p0 p1 p2 q3 p4 p5)), .unset] [(.int (e0_19 p0 p1 p2 q3 p4 p5))])) _
            exact k
        refine OGl.go (fun t k => m98 _ (XS.istore X9.here hx rfl (hb hby at_334) rfl (l' := #[.val (.int p0), .val (.int p1), .val (.int p2), .val (.long q3), .second, .val (.int p4), .val (.int p5), .val (.int p0), .val (.int (if (p5 &&& (1 : Int32)) = (0 : Int32) then p1 else p0)), .val (.int (e0_0 p0 p1 p2 p5)), .val (.long (e0_1 p0 q3 p4 p5)), .second, .val (.ref b5), .val (.int (e0_2 p0 p1 p2 q3 p4 p5)), .val (.int (e0_3 p0 q3 p4 p5)), .val (.int (e0_5 p0 p1 q3 p4 p5)), .val (.int (e0_6 p0 p1 p2 q3 p4 p5)), .val (.int (e0_8 p0 p1 p2 q3 p4 p5)), .val (.int (e0_10 p0 p1 p2 q3 p4 p5)), .val (.int (e0_12 p0 p1 p2 q3 p4 p5)), .val (.int (e0_17 p0 p1 p2 q3 p4 p5)), .val (.int (e0_20 p0 p1 p2 q3 p4 p5))]) rfl (XS.iload X9.here hx rfl (hb hby at_336) rfl k))) ?_
        show OGl _ _ _ _ T9 (mkF m 338 #[.val (.int p0), .val (.int p1), .val (.int p2), .val (.long q3), .second, .val (.int p4), .val (.int p5), .val (.int p0), .val (.int (if (p5 &&& (1 : Int32)) = (0 : Int32) then p1 else p0)), .val (.int (e0_0 p0 p1 p2 p5)), .val (.long (e0_1 p0 q3 p4 p5)), .second, .val (.ref b5), .val (.int (e0_2 p0 p1 p2 q3 p4 p5)), .val (.int (e0_3 p0 q3 p4 p5)), .val (.int (e0_5 p0 p1 q3 p4 p5)), .val (.int (e0_6 p0 p1 p2 q3 p4 p5)), .val (.int (e0_8 p0 p1 p2 q3 p4 p5)), .val (.int (e0_10 p0 p1 p2 q3 p4 p5)), .val (.int (e0_12 p0 p1 p2 q3 p4 p5)), .val (.int (e0_17 p0 p1 p2 q3 p4 p5)), .val (.int (e0_20 p0 p1 p2 q3 p4 p5))] [(.int (e0_10 p0 p1 p2 q3 p4 p5))])
        by_cases hc101 : (e0_10 p0 p1 p2 q3 p4 p5) = (0 : Int32)
        · refine OGl.go (fun t k => XS.ifYes X9.here hx rfl (pc0 := 338) (pc' := 360) rfl (hb hby at_338) rfl ((if0 _ _).trans (teq hc101).1) (by decide) (by decide) (XS.iconst X9.here hx rfl (hb hby at_360) k)) ?_
          show OGl _ _ _ _ T9 (mkF m 361 #[.val (.int p0), .val (.int p1), .val (.int p2), .val (.long q3), .second, .val (.int p4), .val (.int p5), .val (.int p0), .val (.int (if (p5 &&& (1 : Int32)) = (0 : Int32) then p1 else p0)), .val (.int (e0_0 p0 p1 p2 p5)), .val (.long (e0_1 p0 q3 p4 p5)), .second, .val (.ref b5), .val (.int (e0_2 p0 p1 p2 q3 p4 p5)), .val (.int (e0_3 p0 q3 p4 p5)), .val (.int (e0_5 p0 p1 q3 p4 p5)), .val (.int (e0_6 p0 p1 p2 q3 p4 p5)), .val (.int (e0_8 p0 p1 p2 q3 p4 p5)), .val (.int (e0_10 p0 p1 p2 q3 p4 p5)), .val (.int (e0_12 p0 p1 p2 q3 p4 p5)), .val (.int (e0_17 p0 p1 p2 q3 p4 p5)), .val (.int (e0_20 p0 p1 p2 q3 p4 p5))] [(.int (0 : Int32))])
          obtain ⟨fs, hr, hrun, hended, hW, hsame⟩ := X9.leave (v := some (.int (0 : Int32))) (fun h => by rw [Bd.returns] at h; cases h)
          refine ⟨_, _, retN X9 hx (t := .boolean) Bd.returns (by simp) (hb hby at_361) hr, hrun, hended, _, _, rfl, ?_, ⟨_, rfl⟩, hW, hsame.mono (by decide) (by decide)⟩
          have hv111 : (t0_0 p0 p1 p2 q3 p4 p5) = (0 : Int32) := by unfold t0_0; rw [if_neg hc80, if_neg hc84, if_neg hc85, if_pos hc101]
          show Q0 Z p0 p1 p2 q3 p4 p5 h0 n0 _ T9.heap _
          rw [e9]
          exact ⟨(by rw [hv111]), N9⟩
        · refine OGl.go (fun t k => XS.ifNo X9.here hx rfl (hb hby at_338) rfl ((if0 _ _).trans (feq hc101).1) (XS.iload X9.here hx rfl (hb hby at_341) rfl k)) ?_
          show OGl _ _ _ _ T9 (mkF m 343 #[.val (.int p0), .val (.int p1), .val (.int p2), .val (.long q3), .second, .val (.int p4), .val (.int p5), .val (.int p0), .val (.int (if (p5 &&& (1 : Int32)) = (0 : Int32) then p1 else p0)), .val (.int (e0_0 p0 p1 p2 p5)), .val (.long (e0_1 p0 q3 p4 p5)), .second, .val (.ref b5), .val (.int (e0_2 p0 p1 p2 q3 p4 p5)), .val (.int (e0_3 p0 q3 p4 p5)), .val (.int (e0_5 p0 p1 q3 p4 p5)), .val (.int (e0_6 p0 p1 p2 q3 p4 p5)), .val (.int (e0_8 p0 p1 p2 q3 p4 p5)), .val (.int (e0_10 p0 p1 p2 q3 p4 p5)), .val (.int (e0_12 p0 p1 p2 q3 p4 p5)), .val (.int (e0_17 p0 p1 p2 q3 p4 p5)), .val (.int (e0_20 p0 p1 p2 q3 p4 p5))] [(.int (e0_12 p0 p1 p2 q3 p4 p5))])
          by_cases hc102 : (e0_12 p0 p1 p2 q3 p4 p5) = (0 : Int32)
          · refine OGl.go (fun t k => XS.ifYes X9.here hx rfl (pc0 := 343) (pc' := 360) rfl (hb hby at_343) rfl ((if0 _ _).trans (teq hc102).1) (by decide) (by decide) (XS.iconst X9.here hx rfl (hb hby at_360) k)) ?_
            show OGl _ _ _ _ T9 (mkF m 361 #[.val (.int p0), .val (.int p1), .val (.int p2), .val (.long q3), .second, .val (.int p4), .val (.int p5), .val (.int p0), .val (.int (if (p5 &&& (1 : Int32)) = (0 : Int32) then p1 else p0)), .val (.int (e0_0 p0 p1 p2 p5)), .val (.long (e0_1 p0 q3 p4 p5)), .second, .val (.ref b5), .val (.int (e0_2 p0 p1 p2 q3 p4 p5)), .val (.int (e0_3 p0 q3 p4 p5)), .val (.int (e0_5 p0 p1 q3 p4 p5)), .val (.int (e0_6 p0 p1 p2 q3 p4 p5)), .val (.int (e0_8 p0 p1 p2 q3 p4 p5)), .val (.int (e0_10 p0 p1 p2 q3 p4 p5)), .val (.int (e0_12 p0 p1 p2 q3 p4 p5)), .val (.int (e0_17 p0 p1 p2 q3 p4 p5)), .val (.int (e0_20 p0 p1 p2 q3 p4 p5))] [(.int (0 : Int32))])
            obtain ⟨fs, hr, hrun, hended, hW, hsame⟩ := X9.leave (v := some (.int (0 : Int32))) (fun h => by rw [Bd.returns] at h; cases h)
            refine ⟨_, _, retN X9 hx (t := .boolean) Bd.returns (by simp) (hb hby at_361) hr, hrun, hended, _, _, rfl, ?_, ⟨_, rfl⟩, hW, hsame.mono (by decide) (by decide)⟩
            have hv112 : (t0_0 p0 p1 p2 q3 p4 p5) = (0 : Int32) := by unfold t0_0; rw [if_neg hc80, if_neg hc84, if_neg hc85, if_neg hc101, if_pos hc102]
            show Q0 Z p0 p1 p2 q3 p4 p5 h0 n0 _ T9.heap _
            rw [e9]
            exact ⟨(by rw [hv112]), N9⟩
          · refine OGl.go (fun t k => XS.ifNo X9.here hx rfl (hb hby at_343) rfl ((if0 _ _).trans (feq hc102).1) (XS.iload X9.here hx rfl (hb hby at_346) rfl k)) ?_
            show OGl _ _ _ _ T9 (mkF m 348 #[.val (.int p0), .val (.int p1), .val (.int p2), .val (.long q3), .second, .val (.int p4), .val (.int p5), .val (.int p0), .val (.int (if (p5 &&& (1 : Int32)) = (0 : Int32) then p1 else p0)), .val (.int (e0_0 p0 p1 p2 p5)), .val (.long (e0_1 p0 q3 p4 p5)), .second, .val (.ref b5), .val (.int (e0_2 p0 p1 p2 q3 p4 p5)), .val (.int (e0_3 p0 q3 p4 p5)), .val (.int (e0_5 p0 p1 q3 p4 p5)), .val (.int (e0_6 p0 p1 p2 q3 p4 p5)), .val (.int (e0_8 p0 p1 p2 q3 p4 p5)), .val (.int (e0_10 p0 p1 p2 q3 p4 p5)), .val (.int (e0_12 p0 p1 p2 q3 p4 p5)), .val (.int (e0_17 p0 p1 p2 q3 p4 p5)), .val (.int (e0_20 p0 p1 p2 q3 p4 p5))] [(.int (e0_17 p0 p1 p2 q3 p4 p5))])
            by_cases hc103 : (e0_17 p0 p1 p2 q3 p4 p5) = (0 : Int32)
            · refine OGl.go (fun t k => XS.ifYes X9.here hx rfl (pc0 := 348) (pc' := 360) rfl (hb hby at_348) rfl ((if0 _ _).trans (teq hc103).1) (by decide) (by decide) (XS.iconst X9.here hx rfl (hb hby at_360) k)) ?_
              show OGl _ _ _ _ T9 (mkF m 361 #[.val (.int p0), .val (.int p1), .val (.int p2), .val (.long q3), .second, .val (.int p4), .val (.int p5), .val (.int p0), .val (.int (if (p5 &&& (1 : Int32)) = (0 : Int32) then p1 else p0)), .val (.int (e0_0 p0 p1 p2 p5)), .val (.long (e0_1 p0 q3 p4 p5)), .second, .val (.ref b5), .val (.int (e0_2 p0 p1 p2 q3 p4 p5)), .val (.int (e0_3 p0 q3 p4 p5)), .val (.int (e0_5 p0 p1 q3 p4 p5)), .val (.int (e0_6 p0 p1 p2 q3 p4 p5)), .val (.int (e0_8 p0 p1 p2 q3 p4 p5)), .val (.int (e0_10 p0 p1 p2 q3 p4 p5)), .val (.int (e0_12 p0 p1 p2 q3 p4 p5)), .val (.int (e0_17 p0 p1 p2 q3 p4 p5)), .val (.int (e0_20 p0 p1 p2 q3 p4 p5))] [(.int (0 : Int32))])
              obtain ⟨fs, hr, hrun, hended, hW, hsame⟩ := X9.leave (v := some (.int (0 : Int32))) (fun h => by rw [Bd.returns] at h; cases h)
              refine ⟨_, _, retN X9 hx (t := .boolean) Bd.returns (by simp) (hb hby at_361) hr, hrun, hended, _, _, rfl, ?_, ⟨_, rfl⟩, hW, hsame.mono (by decide) (by decide)⟩
              have hv113 : (t0_0 p0 p1 p2 q3 p4 p5) = (0 : Int32) := by unfold t0_0; rw [if_neg hc80, if_neg hc84, if_neg hc85, if_neg hc101, if_neg hc102, if_pos hc103]
              show Q0 Z p0 p1 p2 q3 p4 p5 h0 n0 _ T9.heap _
              rw [e9]
              exact ⟨(by rw [hv113]), N9⟩
            · refine OGl.go (fun t k => XS.ifNo X9.here hx rfl (hb hby at_348) rfl ((if0 _ _).trans (feq hc103).1) (XS.iload X9.here hx rfl (hb hby at_351) rfl k)) ?_
              show OGl _ _ _ _ T9 (mkF m 353 #[.val (.int p0), .val (.int p1), .val (.int p2), .val (.long q3), .second, .val (.int p4), .val (.int p5), .val (.int p0), .val (.int (if (p5 &&& (1 : Int32)) = (0 : Int32) then p1 else p0)), .val (.int (e0_0 p0 p1 p2 p5)), .val (.long (e0_1 p0 q3 p4 p5)), .second, .val (.ref b5), .val (.int (e0_2 p0 p1 p2 q3 p4 p5)), .val (.int (e0_3 p0 q3 p4 p5)), .val (.int (e0_5 p0 p1 q3 p4 p5)), .val (.int (e0_6 p0 p1 p2 q3 p4 p5)), .val (.int (e0_8 p0 p1 p2 q3 p4 p5)), .val (.int (e0_10 p0 p1 p2 q3 p4 p5)), .val (.int (e0_12 p0 p1 p2 q3 p4 p5)), .val (.int (e0_17 p0 p1 p2 q3 p4 p5)), .val (.int (e0_20 p0 p1 p2 q3 p4 p5))] [(.int (e0_20 p0 p1 p2 q3 p4 p5))])
              by_cases hc104 : (e0_20 p0 p1 p2 q3 p4 p5) = (0 : Int32)
              · refine OGl.go (fun t k => XS.ifYes X9.here hx rfl (pc0 := 353) (pc' := 360) rfl (hb hby at_353) rfl ((if0 _ _).trans (teq hc104).1) (by decide) (by decide) (XS.iconst X9.here hx rfl (hb hby at_360) k)) ?_
                show OGl _ _ _ _ T9 (mkF m 361 #[.val (.int p0), .val (.int p1), .val (.int p2), .val (.long q3), .second, .val (.int p4), .val (.int p5), .val (.int p0), .val (.int (if (p5 &&& (1 : Int32)) = (0 : Int32) then p1 else p0)), .val (.int (e0_0 p0 p1 p2 p5)), .val (.long (e0_1 p0 q3 p4 p5)), .second, .val (.ref b5), .val (.int (e0_2 p0 p1 p2 q3 p4 p5)), .val (.int (e0_3 p0 q3 p4 p5)), .val (.int (e0_5 p0 p1 q3 p4 p5)), .val (.int (e0_6 p0 p1 p2 q3 p4 p5)), .val (.int (e0_8 p0 p1 p2 q3 p4 p5)), .val (.int (e0_10 p0 p1 p2 q3 p4 p5)), .val (.int (e0_12 p0 p1 p2 q3 p4 p5)), .val (.int (e0_17 p0 p1 p2 q3 p4 p5)), .val (.int (e0_20 p0 p1 p2 q3 p4 p5))] [(.int (0 : Int32))])
                obtain ⟨fs, hr, hrun, hended, hW, hsame⟩ := X9.leave (v := some (.int (0 : Int32))) (fun h => by rw [Bd.returns] at h; cases h)
                refine ⟨_, _, retN X9 hx (t := .boolean) Bd.returns (by simp) (hb hby at_361) hr, hrun, hended, _, _, rfl, ?_, ⟨_, rfl⟩, hW, hsame.mono (by decide) (by decide)⟩
                have hv114 : (t0_0 p0 p1 p2 q3 p4 p5) = (0 : Int32) := by unfold t0_0; rw [if_neg hc80, if_neg hc84, if_neg hc85, if_neg hc101, if_neg hc102, if_neg hc103, if_pos hc104]
                show Q0 Z p0 p1 p2 q3 p4 p5 h0 n0 _ T9.heap _
                rw [e9]
                exact ⟨(by rw [hv114]), N9⟩
              · refine OGl.go (fun t k => XS.ifNo X9.here hx rfl (hb hby at_353) rfl ((if0 _ _).trans (feq hc104).1) (XS.iconst X9.here hx rfl (hb hby at_356) (XS.goto X9.here hx rfl (pc0 := 357) (pc' := 361) rfl (hb hby at_357) (by decide) (by decide) k))) ?_
                show OGl _ _ _ _ T9 (mkF m 361 #[.val (.int p0), .val (.int p1), .val (.int p2), .val (.long q3), .second, .val (.int p4), .val (.int p5), .val (.int p0), .val (.int (if (p5 &&& (1 : Int32)) = (0 : Int32) then p1 else p0)), .val (.int (e0_0 p0 p1 p2 p5)), .val (.long (e0_1 p0 q3 p4 p5)), .second, .val (.ref b5), .val (.int (e0_2 p0 p1 p2 q3 p4 p5)), .val (.int (e0_3 p0 q3 p4 p5)), .val (.int (e0_5 p0 p1 q3 p4 p5)), .val (.int (e0_6 p0 p1 p2 q3 p4 p5)), .val (.int (e0_8 p0 p1 p2 q3 p4 p5)), .val (.int (e0_10 p0 p1 p2 q3 p4 p5)), .val (.int (e0_12 p0 p1 p2 q3 p4 p5)), .val (.int (e0_17 p0 p1 p2 q3 p4 p5)), .val (.int (e0_20 p0 p1 p2 q3 p4 p5))] [(.int (1 : Int32))])
                obtain ⟨fs, hr, hrun, hended, hW, hsame⟩ := X9.leave (v := some (.int (1 : Int32))) (fun h => by rw [Bd.returns] at h; cases h)
                refine ⟨_, _, retN X9 hx (t := .boolean) Bd.returns (by simp) (hb hby at_361) hr, hrun, hended, _, _, rfl, ?_, ⟨_, rfl⟩, hW, hsame.mono (by decide) (by decide)⟩
                have hv115 : (t0_0 p0 p1 p2 q3 p4 p5) = (1 : Int32) := by unfold t0_0; rw [if_neg hc80, if_neg hc84, if_neg hc85, if_neg hc101, if_neg hc102, if_neg hc103, if_neg hc104]
                show Q0 Z p0 p1 p2 q3 p4 p5 h0 n0 _ T9.heap _
                rw [e9]
                exact ⟨(by rw [hv115]), N9⟩
theorem own_core (R A B C : Int64) (a b c r x y z : Int32) (hr : r = if R < A then (if R < B then (if a < b then (if R < C then (if b < c then (2 : Int32) else 1) else 1) else (if R < C then (if a < c then 2 else 0) else 0)) else (if R < C then (if a < c then 2 else 0) else 0)) else (if R < B then (if R < C then (if b < c then 2 else 1) else 1) else (if R < C then 2 else -1)))
    (hx : x = if R < A then 1 else 0) (hy : y = if R < B then 1 else 0) (hz : z = if R < C then 1 else 0) :
    (if r = (-1 : Int32) then (if x = (0 : Int32) then (if y = (0 : Int32) then (if z = (0 : Int32) then (1 : Int32) else (0 : Int32)) else (0 : Int32)) else (0 : Int32))
     else (if r < (0 : Int32) then (0 : Int32) else (if (2 : Int32) < r then (0 : Int32) else
      (if (if r = (0 : Int32) then x else (if r = (1 : Int32) then y else z)) = (0 : Int32) then (0 : Int32) else
      (if (if r = (0 : Int32) then (1 : Int32) else (if x = (0 : Int32) then (1 : Int32) else (if a < (if r = (0 : Int32) then a else (if r = (1 : Int32) then b else c)) then (1 : Int32) else (0 : Int32)))) = (0 : Int32) then (0 : Int32) else
      (if (if r = (1 : Int32) then (1 : Int32) else (if y = (0 : Int32) then (1 : Int32) else (if r = (2 : Int32) then (if b < (if r = (0 : Int32) then a else (if r = (1 : Int32) then b else c)) then (1 : Int32) else (0 : Int32)) else (if (if r = (0 : Int32) then a else (if r = (1 : Int32) then b else c)) < b then (0 : Int32) else (1 : Int32))))) = (0 : Int32) then (0 : Int32) else
      (if (if r = (2 : Int32) then (1 : Int32) else (if z = (0 : Int32) then (1 : Int32) else (if (if r = (0 : Int32) then a else (if r = (1 : Int32) then b else c)) < c then (0 : Int32) else (1 : Int32)))) = (0 : Int32) then (0 : Int32) else (1 : Int32)))))))) = 1 := by
  by_cases p1 : R < A <;> by_cases p2 : R < B <;> by_cases p3 : R < C <;> by_cases q1 : a < b <;> by_cases q2 : b < c <;> by_cases q3 : a < c <;> simp only [p1, p2, p3, q1, q2, q3, if_true, if_false] at hr hx hy hz <;> subst hr hx hy hz <;> simp +decide only [q1, q2, q3, if_true, if_false] <;> (rw [Int32.lt_iff_toInt_lt] at q1 q2 q3; omega)
theorem own_law (a b c : Int32) (r : Int64) (l mode : Int32) : t0_0 a b c r l mode = 1 :=
  own_core (e0_1 a r l mode) _ _ _ a _ (e0_0 a b c mode) (e0_2 a b c r l mode) (e0_3 a r l mode) (e0_5 a b r l mode) (e0_6 a b c r l mode) rfl rfl rfl rfl
set_option maxRecDepth 65536 in
set_option maxHeartbeats 40000000 in
theorem comes_1 {Post : Tables → Env → Array Value → State → Outcome → State → Prop} (hpost : ∀ tb e args s v u, (limb_1_1.after args s (.returned v) u = true ∧ limb_1_2.after args s (.returned v) u = true ∧ True) → FrameEnd s (.returned v) u (Jvm.fieldLocs frame_1_writes args s ++ Jvm.arrayLocs frame_1_arrays args s ++ Jvm.staticLocs frame_1_statics s) 16 128 → Post tb e args s (.returned v) u) :
    ArmFor flags0 classFile x code maxLocals ret World_1 tables_1 room_1 Calls_1 rest_1 Pre_1 Post := by
  intro l hfl _ _ p e ha hc hk s m args below hf hA hF happ hP
  obtain ⟨hcalls, hrest, hpre⟩ := hP
  obtain ⟨-, -, -, hnamed, -, -, -, hat⟩ := (Spec.applies_iff hf).mp happ
  obtain ⟨hg, hn⟩ := and_e (Cond.before_iff.mp (show (Jvm.Cond.and given_1 narrow_1).before args s = true from hpre))
  obtain ⟨hz, hy0⟩ := and_e hg
  obtain ⟨ha0, hy1⟩ := and_e hy0
  obtain ⟨ha1, hy2⟩ := and_e hy1
  obtain ⟨ha2, hy3⟩ := and_e hy2
  obtain ⟨ha3, hy4⟩ := and_e hy3
  obtain ⟨ha4, hy5⟩ := and_e hy4
  obtain ⟨w0, w1, w2, w3, w4, w5, rfl⟩ : ∃ w0 w1 w2 w3 w4 w5 : Value, args = #[w0, w1, w2, w3, w4, w5] := by
    have hs : args.size = 6 := by simpa [Cond.value, given_1] using hz
    obtain ⟨L⟩ := args
    match L, hs with
    | [w0, w1, w2, w3, w4, w5], _ => exact ⟨w0, w1, w2, w3, w4, w5, rfl⟩
  have hw := fun d (hd : d ∈ tables_1) => atoms_spec (ws := Jvm.Cond.code x code maxLocals ret :: tables_1) hat d (List.mem_cons_of_mem _ hd)
  obtain ⟨i0, ev0⟩ := is_v ha0
  obtain rfl : w0 = (.int i0) := Option.some.inj ev0
  obtain ⟨i1, ev1⟩ := is_v ha1
  obtain rfl : w1 = (.int i1) := Option.some.inj ev1
  obtain ⟨i2, ev2⟩ := is_v ha2
  obtain rfl : w2 = (.int i2) := Option.some.inj ev2
  obtain ⟨i3, ev3⟩ := isL_v ha3
  obtain rfl : w3 = (.long i3) := Option.some.inj ev3
  obtain ⟨i4, ev4⟩ := is_v ha4
  obtain rfl : w4 = (.int i4) := Option.some.inj ev4
  obtain ⟨i5, ev5⟩ := is_v hy5
  obtain rfl : w5 = (.int i5) := Option.some.inj ev5
  obtain ⟨n, o, h1, h2, h3, _, L, rfl, ⟨hv, N⟩, hq⟩ := rm0 l s _ hw tables_1 i0 i1 i2 i3 i4 i5  s.heap s.heap.size (Nat.le_refl _)  p e ha hc hk s m _ below hf ((Spec.applies_iff_loose hf).mp happ).1 ⟨rfl, State.Warmed39.refl s, rfl⟩ trivial
  rw [own_law] at hv
  subst hv
  refine ⟨n, _, h1, h2, h3, hpost _ _ _ _ _ _ ⟨Cond.after_iff.mpr rfl, Cond.after_iff.mpr (eq_i res_at (Term.int_eval (1)) rfl), trivial⟩ ⟨hq.1, hq.2.1, (hq.2.2.sift fun y hy => Or.inr (N y hy)).mono (by decide) (by decide)⟩⟩
theorem main_1_1 : Claimed_1_1 := comes_1 fun _ _ _ _ _ _ h hF => ⟨h.1, hF⟩
theorem main_1_2 : Claimed_1_2 := comes_1 fun _ _ _ _ _ _ h hF => ⟨h.2.1, hF⟩
end Jvm.Pilot.@@N@@
namespace Jvm.Pilot.@@N@@
open Jvm Jvm.ClassFile Sem Op Lib Jvm.Free Jvm.Stand Jvm.Pilot.@@N@@.Jvm.D
/-! MADE BY PROGRAM (witnessworld.py) out of the Statement's table words and the real class files: 9 classes; the members and pool entries that the words name. The judged class is class 1, her method 1. -/
namespace start1
open Jvm.ClassFile
def u (s : String) : CpInfo := .utf8 (stringToUtf16 s)
/-- a pool by its gaps: so many unusable entries, then the entry; so many at the end -/
def gap : Nat → List CpInfo → List CpInfo
  | 0, r => r
  | n + 1, r => .unusable :: gap n r
def poolList (es : List (Nat × CpInfo)) (last : Nat) : List CpInfo := es.foldr (fun e r => gap e.1 (e.2 :: r)) (gap last [])
def pool (es : List (Nat × CpInfo)) (last : Nat) : Array CpInfo := ⟨poolList es last⟩
def fileOf (pool : Array CpInfo) (this : Nat) (attrs : Array Attribute := #[]) (ms : Array MethodInfo := #[]) (fl : Nat := 33) (sup : Nat := 0) (ifs : Array Nat := #[]) (fds : Array FieldInfo := #[]) : ClassFile where
  minorVersion := 0
  majorVersion := 65
  constantPool := pool
  accessFlags := fl
  thisClass := this
  superClass := sup
  interfaces := ifs
  fields := fds
  methods := ms
  attributes := attrs
def plain (name : String) (sup : Option ClassId) : Class where
  name := name
  kind := .ordinary
  loader := none
  accessFlags := 33
  super := sup
  interfaces := #[]
  cf := none
  fields := #[]
  methods := #[]
  instanceTypes := #[]
  staticTypes := #[]
  resolved := #[]
  callSites := []
  init := .initialized
  statics := none
  mirror := none

def pool0 : Array CpInfo := pool [(5, u "<init>"), (0, u "()V"), (1, .class_ 10), (1, u "java/lang/Object")] 113

def k0m0 : Method := { name := "<init>", desc := "()V", sig := { parameters := [], returnType := none }, accessFlags := 1, code := none }
/-- java/lang/Object -/
def k0 : Class := { plain "java/lang/Object" none with
  accessFlags := 33
  interfaces := #[]
  cf := some (fileOf pool0 8 #[] #[{ accessFlags := 1, nameIndex := 5, descriptorIndex := 6, attributes := #[] }] 33 0 #[] #[])
  fields := #[]
  methods := #[k0m0]
  instanceTypes := #[]
  staticTypes := #[]
  resolved := Array.replicate 124 none
  statics := none }

def pool1 : Array CpInfo := pool [(2, .class_ 4), (1, u "java/lang/Object"), (0, u "<init>"), (0, u "()V"), (0, .methodref 8 9), (0, .class_ 10), (0, .nameAndType 11 12), (0, u "com/example/tokumei/tokumei/anatomize/Groups"), (0, u "tooFrequent"), (0, u "([IJI)I"), (0, .class_ 14), (0, u "com/example/tokumei/tokumei/anatomize/GroupsTooFrequentPinLaw"), (2, u "law"), (0, u "(IIIJII)Z")] 5

def k1m0 : Method := { name := "<init>", desc := "()V", sig := { parameters := [], returnType := none }, accessFlags := 2, code := none }
def k1c1 : Code := { maxStack := 4, maxLocals := 22, code := code, exceptionTable := #[], attributes := #[] }
def k1m1 : Method := { name := "law", desc := "(IIIJII)Z", sig := { parameters := [.int, .int, .int, .long, .int, .int], returnType := some .boolean }, accessFlags := 9, code := some k1c1 }
/-- com/example/tokumei/tokumei/anatomize/GroupsTooFrequentPinLaw -/
def k1 : Class := { plain "com/example/tokumei/tokumei/anatomize/GroupsTooFrequentPinLaw" (some 0) with
  accessFlags := 49
  interfaces := #[]
  cf := some (fileOf pool1 13 #[] #[{ accessFlags := 2, nameIndex := 5, descriptorIndex := 6, attributes := #[] }, { accessFlags := 9, nameIndex := 17, descriptorIndex := 18, attributes := #[] }] 49 2 #[] #[])
  fields := #[]
  methods := #[k1m0, k1m1]
  instanceTypes := #[]
  staticTypes := #[]
  resolved := Array.replicate 24 none
  statics := none }

def pool2 : Array CpInfo := pool [(2, .class_ 4), (1, u "java/lang/Object"), (0, u "<init>"), (0, u "()V"), (1, .class_ 10), (1, u "com/example/tokumei/tokumei/anatomize/Groups"), (0, u "tooFrequent"), (0, u "([IJI)I")] 66

def k2m0 : Method := { name := "<init>", desc := "()V", sig := { parameters := [], returnType := none }, accessFlags := 2, code := none }
def k2c1 : Code := { maxStack := 4, maxLocals := 6, code := prog_12_method_2_code, exceptionTable := #[], attributes := #[] }
def k2m1 : Method := { name := "tooFrequent", desc := "([IJI)I", sig := { parameters := [(.array .int), .long, .int], returnType := some .int }, accessFlags := 8, code := some k2c1 }
/-- com/example/tokumei/tokumei/anatomize/Groups -/
def k2 : Class := { plain "com/example/tokumei/tokumei/anatomize/Groups" (some 0) with
  accessFlags := 48
  interfaces := #[]
  cf := some (fileOf pool2 8 #[] #[{ accessFlags := 2, nameIndex := 5, descriptorIndex := 6, attributes := #[] }, { accessFlags := 8, nameIndex := 11, descriptorIndex := 12, attributes := #[] }] 48 2 #[] #[])
  fields := #[]
  methods := #[k2m0, k2m1]
  instanceTypes := #[]
  staticTypes := #[]
  resolved := Array.replicate 79 none
  statics := none }

def pool3 : Array CpInfo := pool [(1, u "java/lang/Cloneable"), (0, .class_ 1), (0, u "java/lang/Object"), (0, .class_ 3)] 3

/-- java/lang/Cloneable -/
def k3 : Class := { plain "java/lang/Cloneable" (some 0) with
  accessFlags := 1537
  interfaces := #[]
  cf := some (fileOf pool3 2 #[] #[] 1537 4 #[] #[])
  fields := #[]
  methods := #[]
  instanceTypes := #[]
  staticTypes := #[]
  resolved := Array.replicate 8 none
  statics := none }

def pool4 : Array CpInfo := pool [(1, u "java/io/Serializable"), (0, .class_ 1), (0, u "java/lang/Object"), (0, .class_ 3)] 3

/-- java/io/Serializable -/
def k4 : Class := { plain "java/io/Serializable" (some 0) with
  accessFlags := 1537
  interfaces := #[]
  cf := some (fileOf pool4 2 #[] #[] 1537 4 #[] #[])
  fields := #[]
  methods := #[]
  instanceTypes := #[]
  staticTypes := #[]
  resolved := Array.replicate 8 none
  statics := none }

/-- the primitive byte -/
def k5 : Class := { plain "byte" none with kind := .primitive 'B', accessFlags := 0x411 }
/-- [B -/
def k6 : Class := { plain "[B" (some 0) with kind := .array 5 .byte, interfaces := #[3, 4], accessFlags := 1041 }

/-- the primitive int -/
def k7 : Class := { plain "int" none with kind := .primitive 'I', accessFlags := 0x411 }
/-- [I -/
def k8 : Class := { plain "[I" (some 0) with kind := .array 7 .int, interfaces := #[3, 4], accessFlags := 1041 }

def heap : Heap := #[]
def classes : Array Class := #[k0, k1, k2, k3, k4, k5, k6, k7, k8]
def interned : List (Array UInt16 × Addr) := []
def slotsUsed : Nat := 0
def theMethod : MethodId := ⟨1, 1⟩
def args0 : Array Value := #[.int 5, .int 5, .int 5, .long 5, .int 1, .int 1]
def aboutOver (below : List Frame) : State where
  vm := { classes := classes, interned := interned.toArray }
  heap := heap
  slotsUsed := slotsUsed
  threads := #[{ frames := .invoking theMethod args0 :: below }]
def below0 : List Frame := [.native { method := ⟨0, 0⟩, args := #[] }]
def about1 : State := aboutOver below0
def p0 : Program := .bare "" "" ""
def e0 : Env := launch0.env 0 0 0
theorem w_frames : about1.frames = Frame.invoking theMethod args0 :: below0 := rfl
set_option maxRecDepth 65536 in
theorem w_args : argsFit about1.vm theMethod args0 = true := by decide +kernel
set_option maxRecDepth 65536 in
theorem w_heap : heapFits about1 = true := by decide +kernel
set_option maxRecDepth 65536 in
theorem w_runnable : about1.curStatus? = some .runnable := by decide +kernel
set_option maxRecDepth 65536 in
theorem w_alone : about1.alone = true := by decide +kernel
set_option maxRecDepth 65536 in
theorem w_named : about1.methodNamed? x = some theMethod := by decide +kernel
set_option maxRecDepth 65536 in
theorem w_hears : about1.hears theMethod below0 = true := by decide +kernel
set_option maxRecDepth 65536 in
theorem w_ripe : about1.ripe theMethod args0 below0 = true := by decide +kernel
theorem w_running : about1.status = .running := rfl
set_option maxRecDepth 65536 in
theorem w_room : about1.hasRoom e0.platform room_1 = true :=
  launch0.hasRoom_least _ room_1 (by decide +kernel) (by decide +kernel) (by decide +kernel) (by decide +kernel) (by decide +kernel) (by decide +kernel)
theorem allAtoms_all (ts : List Jvm.Cond) (a : Array Jvm.Value) (st : Jvm.State) : (allAtoms ts).before a st = ts.all (fun c => c.before a st) := by
  induction ts with
  | nil => rfl
  | cons c t ih =>
    show (Jvm.Cond.and c (allAtoms t)).before a st = _
    rw [Jvm.Cond.before_and, ih, List.all_cons]
def words1 : List Jvm.Cond := Jvm.Cond.code x code maxLocals ret :: tables_1
/-- a 'code' word, met by the world's own term for the bytes: nothing is compared byte by byte -/
theorem code_word {y : MethodName} {bytes : ByteArray} {mx : Nat} {rt : Option FieldType} {a : Array Value} {s : State} {m : MethodId} {meth : Method} {c : Code} (h1 : s.methodNamed? y = some m) (h2 : s.vm.method? m = some meth) (h3 : meth.code = some c) (h4 : c.code = bytes)
    (h5 : (c.maxLocals == mx && c.exceptionTable.isEmpty && decide (c.maxStack ≤ mostOperands) && decide (meth.sig.returnType = rt) && !meth.locks && decide (parseMethodDescriptor y.desc = some meth.sig)) = true) : (Jvm.Cond.code y bytes mx rt).before a s = true := by
  simp only [Bool.and_eq_true, beq_iff_eq, Bool.not_eq_true', decide_eq_true_eq] at h5
  obtain ⟨⟨⟨⟨⟨g1, g2⟩, g3⟩, g4⟩, g5⟩, g6⟩ := h5
  simp [Cond.before, Cond.holds, Cond.value, h1, h2, h3, h4, g1, g2, g3, g4, g5, g6]
def isCode : Jvm.Cond → Bool
  | .code _ _ _ _ => true
  | _ => false
theorem all_split {L : List Jvm.Cond} {P : Jvm.Cond → Bool} (h1 : L.all (fun c => isCode c || P c) = true) (h2 : ∀ c ∈ L.filter isCode, P c = true) : L.all P = true := by
  refine List.all_eq_true.mpr fun c hc => ?_
  have h := List.all_eq_true.mp h1 c hc
  rcases Bool.eq_false_or_eq_true (isCode c) with hi | hi
  · exact h2 c (List.mem_filter.mpr ⟨hc, hi⟩)
  · simpa [hi] using h
set_option maxRecDepth 65536 in
theorem w_c0 : (Jvm.Cond.code x code maxLocals ret).before args0 about1 = true := code_word (m := ⟨1, 1⟩) (meth := k1m1) (c := k1c1) (by decide +kernel) rfl rfl rfl (by decide +kernel)
set_option maxRecDepth 65536 in
theorem w_c1 : (Jvm.Cond.code ({ cls := "com/example/tokumei/tokumei/anatomize/Groups", name := "tooFrequent", desc := "([IJI)I" } : Jvm.MethodName) prog_12_method_2_code (6 : Nat) (Option.some Jvm.ClassFile.FieldType.int)).before args0 about1 = true := code_word (m := ⟨2, 1⟩) (meth := k2m1) (c := k2c1) (by decide +kernel) rfl rfl rfl (by decide +kernel)
def codes1 : List Jvm.Cond := [Jvm.Cond.code x code maxLocals ret, Jvm.Cond.code ({ cls := "com/example/tokumei/tokumei/anatomize/Groups", name := "tooFrequent", desc := "([IJI)I" } : Jvm.MethodName) prog_12_method_2_code (6 : Nat) (Option.some Jvm.ClassFile.FieldType.int)]
set_option maxRecDepth 65536 in
theorem codes_eq : words1.filter isCode = codes1 := rfl
theorem w_codes : ∀ c ∈ words1.filter isCode, c.before args0 about1 = true := by
  rw [codes_eq]
  intro c hc
  simp only [codes1, List.mem_cons, List.not_mem_nil, or_false] at hc
  rcases hc with rfl | rfl
  · exact w_c0
  · exact w_c1
set_option maxRecDepth 65536 in
theorem w_t1 : words1.all (fun c => isCode c || c.before args0 about1) = true := by decide +kernel
theorem w_tables : (allAtoms (Jvm.Cond.code x code maxLocals ret :: tables_1)).before args0 about1 = true := by
  rw [allAtoms_all]
  show words1.all (fun c => c.before args0 about1) = true
  refine all_split ?_ w_codes
  rw [w_t1]
set_option maxRecDepth 65536 in
theorem w_case : (Jvm.Cond.and given_1 narrow_1).before args0 about1 = true := by decide +kernel
theorem w_applies : (headSpec (Jvm.Cond.code x code maxLocals ret :: tables_1) room_1).applies x e0.platform about1 = true :=
  (Spec.applies_iff w_frames).mpr ⟨w_running, w_runnable, w_alone, w_named, w_hears, w_ripe, w_room, w_tables⟩
theorem atStart : AtStart classFile x code maxLocals ret World_1 tables_1 room_1 Calls_1 rest_1 Pre_1 launch0 p0 e0 about1 theMethod args0 below0 :=
  ⟨lists_1, trivial, launch0.admits_env _ _ _, launch0.least_env, fairChoices_fair.cas, fairChoices_fair.clock, w_frames, w_args, w_heap, w_applies, trivial, trivial, w_case⟩
end start1
theorem witness_1 : WitnessClaimed_1 := ⟨start1.p0, start1.e0, start1.about1, start1.theMethod, start1.args0, start1.below0, start1.atStart⟩
end Jvm.Pilot.@@N@@
