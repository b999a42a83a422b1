import JvmDerived
import JvmDerived.Pilot.@@N@@Statement
import JvmDerived.Pilot.@@N@@Code
set_option linter.unusedVariables false
set_option linter.unusedSimpArgs false
namespace Jvm.RoadKit
open Sem ClassFile Op Lib Jvm.Stand Jvm.Free Jvm.LawKit
section New
variable {p : Program} {l : Launch} {e : Env} {R : Room} {s : State} {m : MethodId} {args : Array Value} {below : List Frame} {meth : Method} {c : Code} {T : State} {locs : List Loc} {cells slots : Nat}
theorem retI (X : Stand p l e R s m args below meth c T locs cells slots) (hx : p.tables.exec = Jvm.exec) {pc : Nat} {Ls : Array Slot} {z : Int32} {rest : List Value} (hret : meth.sig.returnType = some .int) (hd : decode c.code pc = .ok (.ireturn, 1)) {fs : List Frame}
    (hl : ∀ (f : JFrame) (acts : List Action), f.method = m → f.locked = none → f.entered = [] → (doReturn e (T.setTop f) acts (some (.int z))).1 = T.setFrames fs) : Steps p.tables e below (T.setTop (mkF m pc Ls (.int z :: rest))) (T.setFrames fs) := by
  have hm' : T.vm.method? m = some meth := X.method'
  have hn : narrow .int (.int z) = .int z := rfl
  show Steps p.tables e below (T.setTop { method := m, pc := pc, locals := Ls, stack := _ :: rest, locked := none }) _
  jvm_step X.here [X.here.top, hx, hd, hm', hret, hn]
  first | (intro acts; rw [hl _ acts rfl rfl rfl]) | rw [hl _ _ rfl rfl rfl]
  exact Steps.refl _
theorem own_ldc {g : JFrame} {target : State} (X : Stand p l e R s m args below meth c T locs cells slots) (hx : p.tables.exec = Jvm.exec) {own : String} {index : Nat} {v : Int32} (hown : s.vm.findClass own = some m.cls) (w : (Cond.constant own index v).before args s = true) (hg : g.method = m) (hd : decode c.code g.pc = .ok (.ldc index, 2))
    (hr : Steps p.tables e below (T.setTop { g with pc := g.pc + 2, stack := .int v :: g.stack }) target) : Steps p.tables e below (T.setTop g) target := X.ldcInt hx hown w hg hd target hr
theorem own_ldc2 {g : JFrame} {target : State} (X : Stand p l e R s m args below meth c T locs cells slots) (hx : p.tables.exec = Jvm.exec) {own : String} {index : Nat} {v : Int64} (hown : s.vm.findClass own = some m.cls) (w : (Cond.constantLong own index v).before args s = true) (hg : g.method = m) (hd : decode c.code g.pc = .ok (.ldc2_w index, 3))
    (hr : Steps p.tables e below (T.setTop { g with pc := g.pc + 3, stack := .long v :: g.stack }) target) : Steps p.tables e below (T.setTop g) target := X.ldc2Long hx hown w hg hd target hr
theorem own_len {g : JFrame} {target : State} (X : Stand p l e R s m args below meth c T locs cells slots) (hx : p.tables.exec = Jvm.exec) {a : Addr} {cell : Cell} {ty : FieldType} {z : Int32} (hcell : T.heap[a]? = some cell) (harr : s.isArrayOf cell ty) (hz : cell.slots.size = z.toNatClampNeg) (hn : ¬ z < 0) (hg : g.method = m) {rest : List Value} (hs : g.stack = .ref a :: rest) (hd : decode c.code g.pc = .ok (.arraylength, 1))
    (hr : Steps p.tables e below (T.setTop { g with pc := g.pc + 1, stack := .int z :: rest }) target) : Steps p.tables e below (T.setTop g) target := X.arraylength hx hcell harr hg hs hd target (by rw [len_of hz hn]; exact hr)
theorem own_iaload {g : JFrame} {target : State} (X : Stand p l e R s m args below meth c T locs cells slots) (hx : p.tables.exec = Jvm.exec) {a : Addr} {cell : Cell} {j : Int32} {v : Value} (hcell : T.heap[a]? = some cell) (harr : s.isArrayOf cell .int) (hk : cell.vm ≠ .unknown) (hin : ¬ (j < 0 ∨ cell.slots.size ≤ j.toNatClampNeg)) (hv : cell.slots[j.toNatClampNeg]? = some v) (hg : g.method = m) {rest : List Value} (hs : g.stack = .int j :: .ref a :: rest) (hd : decode c.code g.pc = .ok (.iaload, 1))
    (hr : Steps p.tables e below (T.setTop { g with pc := g.pc + 1, stack := v :: rest }) target) : Steps p.tables e below (T.setTop g) target := X.iaload hx hcell harr hk hin hv hg hs hd target hr
theorem own_laload {g : JFrame} {target : State} (X : Stand p l e R s m args below meth c T locs cells slots) (hx : p.tables.exec = Jvm.exec) {a : Addr} {cell : Cell} {j : Int32} {v : Value} (hcell : T.heap[a]? = some cell) (harr : s.isArrayOf cell .long) (hk : cell.vm ≠ .unknown) (hin : ¬ (j < 0 ∨ cell.slots.size ≤ j.toNatClampNeg)) (hv : cell.slots[j.toNatClampNeg]? = some v) (hg : g.method = m) {rest : List Value} (hs : g.stack = .int j :: .ref a :: rest) (hd : decode c.code g.pc = .ok (.laload, 1))
    (hr : Steps p.tables e below (T.setTop { g with pc := g.pc + 1, stack := v :: rest }) target) : Steps p.tables e below (T.setTop g) target := X.laload hx hcell harr hk hin hv hg hs hd target hr
theorem own_baload {g : JFrame} {target : State} (X : Stand p l e R s m args below meth c T locs cells slots) (hx : p.tables.exec = Jvm.exec) {a : Addr} {cell : Cell} {j : Int32} {v : Value} (hcell : T.heap[a]? = some cell) (harr : s.isArrayOf cell .byte) (hk : cell.vm ≠ .unknown) (hin : ¬ (j < 0 ∨ cell.slots.size ≤ j.toNatClampNeg)) (hv : cell.slots[j.toNatClampNeg]? = some v) (hg : g.method = m) {rest : List Value} (hs : g.stack = .int j :: .ref a :: rest) (hd : decode c.code g.pc = .ok (.baload, 1))
    (hr : Steps p.tables e below (T.setTop { g with pc := g.pc + 1, stack := v :: rest }) target) : Steps p.tables e below (T.setTop g) target := X.baloadBytes hx hcell harr hk hin hv hg hs hd target hr
theorem own_lrem {g : JFrame} {target : State} (X : Stand p l e R s m args below meth c T locs cells slots) (hx : p.tables.exec = Jvm.exec) (hg : g.method = m) {x y : Int64} {rest : List Value} (hd : decode c.code g.pc = .ok (.lrem, 1)) (hs : g.stack = .long y :: .long x :: rest) (hy : y ≠ 0)
    (hr : Steps p.tables e below (T.setTop { g with pc := g.pc + 1, stack := .long (x % y) :: rest }) target) : Steps p.tables e below (T.setTop g) target :=
  XS.lrem X.here hx hg hd hs hy (by rw [lrem_mod]; exact hr)
theorem own_tltL {x y : Int64} (h : x < y) : ifCond.holds .lt (lcmpW x y) = true ∧ ifCond.holds .ge (lcmpW x y) = false ∧ ifCond.holds .gt (lcmpW y x) = true ∧ ifCond.holds .le (lcmpW y x) = false := by
  have h1 : lcmpW x y < 0 := by rw [lcW]; exact (lc_lt x y).mpr h
  have h2 : 0 < lcmpW y x := by rw [lcW]; exact (lc_gt y x).mpr h
  exact ⟨(if0 _ _).trans (tlt h1).1, (if0 _ _).trans (tlt h1).2.1, (if0 _ _).trans (tlt h2).2.2.1, (if0 _ _).trans (tlt h2).2.2.2⟩
theorem own_fltL {x y : Int64} (h : ¬ x < y) : ifCond.holds .lt (lcmpW x y) = false ∧ ifCond.holds .ge (lcmpW x y) = true ∧ ifCond.holds .gt (lcmpW y x) = false ∧ ifCond.holds .le (lcmpW y x) = true := by
  have h1 : ¬ lcmpW x y < 0 := by rw [lcW, lc_lt]; exact h
  have h2 : ¬ 0 < lcmpW y x := by rw [lcW, lc_gt]; exact h
  exact ⟨(if0 _ _).trans (flt h1).1, (if0 _ _).trans (flt h1).2.1, (if0 _ _).trans (flt h2).2.2.1, (if0 _ _).trans (flt h2).2.2.2⟩
theorem own_teqL {x y : Int64} (h : x = y) : ifCond.holds .eq (lcmpW x y) = true ∧ ifCond.holds .ne (lcmpW x y) = false := by
  have h1 : lcmpW x y = 0 := by rw [lcW, lc_eq]; exact h
  exact ⟨(if0 _ _).trans (teq h1).1, (if0 _ _).trans (teq h1).2⟩
theorem own_feqL {x y : Int64} (h : ¬ x = y) : ifCond.holds .eq (lcmpW x y) = false ∧ ifCond.holds .ne (lcmpW x y) = true := by
  have h1 : ¬ lcmpW x y = 0 := by rw [lcW, lc_eq]; exact h
  exact ⟨(if0 _ _).trans (feq h1).1, (if0 _ _).trans (feq h1).2⟩
end New
end Jvm.RoadKit
namespace Jvm.Pilot.@@N@@
open Jvm Jvm.ClassFile Sem Op Lib Jvm.Free Jvm.Stand Jvm.LawKit Jvm.RoadKit Bundle Jvm.Pilot.@@N@@.Jvm.D
/-- what is left to show from a place of the walk on -/
abbrev OGl (p : Program) (e : Env) (below : List Frame) (Q : Outcome → State → Prop) (T : State) (g : JFrame) : Prop :=
  ∃ s₂ o, Steps p.tables e below (T.setTop g) s₂ ∧ s₂.status = .running ∧ Ended s₂ below o ∧ Q o s₂
theorem OGl.go {p : Program} {e : Env} {below : List Frame} {Q : Outcome → State → Prop} {T T' : State} {g g' : JFrame} (h : ∀ t, Steps p.tables e below (T'.setTop g') t → Steps p.tables e below (T.setTop g) t) (k : OGl p e below Q T' g') : OGl p e below Q T g := by
  obtain ⟨s2, o, h1, h2⟩ := k
  exact ⟨s2, o, h _ h1, h2⟩
theorem OGl.start {p : Program} {e : Env} {below : List Frame} {Q : Outcome → State → Prop} {T : State} {g g' : JFrame} (q : g = g') (k : OGl p e below Q T g') : OGl p e below Q T g := q ▸ k
theorem own_selPriv {s : State} {args : Array Value} {y y' x' : MethodName} {C' : String} (hp : s.PrivateAt y) (hi : (Cond.instanceMethod y).before args s = true) (hs : (Cond.selects C' x' y').before args s = true) (hc : y'.cls = y.cls) (hy : y.cls ≠ "java/lang/invoke/MethodHandle" ∧ y.cls ≠ "java/lang/invoke/VarHandle" := by decide) : (Cond.selects y.cls y y).before args s = true := by
  obtain ⟨mk, meth, hn, hm, -, -⟩ := Cond.instanceMethod_spec hi
  obtain ⟨c2, r2, m2, -, -, q3, -, kP, hkP, hkPi⟩ := Cond.selects_spec hs
  have h1 := findClass_of_methodNamed hn
  have h2 := findClass_of_methodNamed q3
  rw [hc, h1] at h2
  have h3 : mk.cls = m2.cls := Option.some.inj h2
  have hf := State.methodFound?_of_named hn hy
  have hsel : selectMethod {} s.vm mk.cls mk = .method mk := selectMethod_private hm (hp mk meth hn hm)
  rw [← h3] at hkP
  simp [Cond.before, Cond.holds, Cond.value, h1, hf, hn, hsel, hkP, hkPi]
theorem own_weak {Z : State} {h : Heap} {a : Addr} {k : ClassId} {ty : FieldType} {z : Int32} {vs vs' : List Value} {d : Value} (F : Arv Z h a k ty z vs d) (q : ∀ i, i < z.toNatClampNeg → vs'.getD i d = vs.getD i d) : Arv Z h a k ty z vs' d := by
  obtain ⟨c, A, r1, r2, r3, H, G⟩ := F
  exact ⟨c, A, r1, r2, r3, fun i hi => by rw [q i (r2 ▸ hi)]; exact H i hi, fun i hi => by rw [q i (r2 ▸ hi)]; exact G i hi⟩
theorem own_cl {z j : Int32} {k i : Nat} (h : ¬ j < z) (hk : j.toInt = k) (hi : i < z.toNatClampNeg) : i < k := by
  rw [Int32.lt_iff_toInt_lt] at h
  have : z.toNatClampNeg = z.toInt.toNat := rfl
  omega
theorem own_irr {α : Type} [LT α] [Std.Irrefl (α := α) (· < ·)] (x : α) : ¬ x < x := Std.Irrefl.irrefl x
theorem own_n9 (a : Int32) : ((a &&& 2147483647) % 9) = 0 ∨ ((a &&& 2147483647) % 9) = 1 ∨ ((a &&& 2147483647) % 9) = 2 ∨ ((a &&& 2147483647) % 9) = 3 ∨ ((a &&& 2147483647) % 9) = 4 ∨ ((a &&& 2147483647) % 9) = 5 ∨ ((a &&& 2147483647) % 9) = 6 ∨ ((a &&& 2147483647) % 9) = 7 ∨ ((a &&& 2147483647) % 9) = 8 := by
  have h := c_mask a 2147483647 31 (by decide) (by decide)
  have h1 := (c_irem (a &&& 2147483647) 9 9 (by decide)).1 (by omega)
  generalize ((a &&& 2147483647) % 9) = n at *
  have h5 : n.toInt = 0 ∨ n.toInt = 1 ∨ n.toInt = 2 ∨ n.toInt = 3 ∨ n.toInt = 4 ∨ n.toInt = 5 ∨ n.toInt = 6 ∨ n.toInt = 7 ∨ n.toInt = 8 := by omega
  have e : ∀ m : Int32, n.toInt = m.toInt → n = m := fun m h => Int32.toInt_inj.mp h
  rcases h5 with h | h | h | h | h | h | h | h | h
  · exact Or.inl (e 0 h)
  · exact Or.inr (Or.inl (e 1 h))
  · exact Or.inr (Or.inr (Or.inl (e 2 h)))
  · exact Or.inr (Or.inr (Or.inr (Or.inl (e 3 h))))
  · exact Or.inr (Or.inr (Or.inr (Or.inr (Or.inl (e 4 h)))))
  · exact Or.inr (Or.inr (Or.inr (Or.inr (Or.inr (Or.inl (e 5 h))))))
  · exact Or.inr (Or.inr (Or.inr (Or.inr (Or.inr (Or.inr (Or.inl (e 6 h)))))))
  · exact Or.inr (Or.inr (Or.inr (Or.inr (Or.inr (Or.inr (Or.inr (Or.inl (e 7 h))))))))
  · exact Or.inr (Or.inr (Or.inr (Or.inr (Or.inr (Or.inr (Or.inr (Or.inr (e 8 h))))))))
theorem own_n8 (a : Int32) : ¬ (8 : Int32) < ((a &&& 2147483647) % 9) := by rcases own_n9 a with h | h | h | h | h | h | h | h | h <;> rw [h] <;> decide
theorem own_nn (a : Int32) : ¬ ((a &&& 2147483647) % 9) < 0 := by rcases own_n9 a with h | h | h | h | h | h | h | h | h <;> rw [h] <;> decide
theorem own_nc (a : Int32) : ((a &&& 2147483647) % 9).toNatClampNeg ≤ 8 := by rcases own_n9 a with h | h | h | h | h | h | h | h | h <;> rw [h] <;> decide
theorem d1_0 : decode prog_10_method_15_code 0 = .ok (.aload_n 0, 1) := by decide +kernel
theorem d1_1 : decode prog_10_method_15_code 1 = .ok (.arraylength, 1) := by decide +kernel
theorem d1_2 : decode prog_10_method_15_code 2 = .ok (.newarray .long, 2) := by decide +kernel
theorem d1_4 : decode prog_10_method_15_code 4 = .ok (.astore_n 1, 1) := by decide +kernel
theorem d1_5 : decode prog_10_method_15_code 5 = .ok (.iconst 0, 1) := by decide +kernel
theorem d1_6 : decode prog_10_method_15_code 6 = .ok (.istore_n 2, 1) := by decide +kernel
theorem d1_7 : decode prog_10_method_15_code 7 = .ok (.iload_n 2, 1) := by decide +kernel
theorem d1_8 : decode prog_10_method_15_code 8 = .ok (.aload_n 0, 1) := by decide +kernel
theorem d1_9 : decode prog_10_method_15_code 9 = .ok (.arraylength, 1) := by decide +kernel
theorem d1_10 : decode prog_10_method_15_code 10 = .ok (.if_icmp .ge 24, 3) := by decide +kernel
theorem d1_13 : decode prog_10_method_15_code 13 = .ok (.aload_n 1, 1) := by decide +kernel
theorem d1_14 : decode prog_10_method_15_code 14 = .ok (.iload_n 2, 1) := by decide +kernel
theorem d1_15 : decode prog_10_method_15_code 15 = .ok (.ldc2_w 53, 3) := by decide +kernel
theorem d1_18 : decode prog_10_method_15_code 18 = .ok (.aload_n 0, 1) := by decide +kernel
theorem d1_19 : decode prog_10_method_15_code 19 = .ok (.iload_n 2, 1) := by decide +kernel
theorem d1_20 : decode prog_10_method_15_code 20 = .ok (.baload, 1) := by decide +kernel
theorem d1_21 : decode prog_10_method_15_code 21 = .ok (.sipush 255, 3) := by decide +kernel
theorem d1_24 : decode prog_10_method_15_code 24 = .ok (.iand, 1) := by decide +kernel
theorem d1_25 : decode prog_10_method_15_code 25 = .ok (.i2l, 1) := by decide +kernel
theorem d1_26 : decode prog_10_method_15_code 26 = .ok (.lmul, 1) := by decide +kernel
theorem d1_27 : decode prog_10_method_15_code 27 = .ok (.lastore, 1) := by decide +kernel
theorem d1_28 : decode prog_10_method_15_code 28 = .ok (.iinc 2 1, 3) := by decide +kernel
theorem d1_31 : decode prog_10_method_15_code 31 = .ok (.goto (-24), 3) := by decide +kernel
theorem d1_34 : decode prog_10_method_15_code 34 = .ok (.aload_n 1, 1) := by decide +kernel
theorem d1_35 : decode prog_10_method_15_code 35 = .ok (.areturn, 1) := by decide +kernel
theorem ef_1 (m : MethodId) (x0 : Addr) : entryFrame m #[(.ref x0)] 3 = mkF m 0 #[.val (.ref x0), .unset, .unset] [] := by first | (simp [entryFrame, mkF, argsToLocals, Value.category]; done) | rfl
theorem pn_0 : plainName "com/example/skipscan/skipscan/ByteScan" = true := by first | (simp [plainName, overriddenIn]; done) | decide +kernel
def Q1 (Z : State) (o0 : Addr) (k1 : ClassId) (p2 : Int32) (p3 : Int32) (p4 : Int32) (p5 : Int32) (p6 : Int32) (p7 : Int32) (p8 : Int32) (p9 : Int32) (p10 : Int32) (h0 : Heap) (n0 : Nat) (v : Option Value) (h : Heap) (L : List Loc) : Prop := ∃ (nb0 : Addr), ∃ (nk0 : ClassId), v = some (.ref nb0) ∧ Fr n0 L ∧ Keep h0 h [] ∧ h0.size ≤ nb0 ∧ Arv Z h nb0 nk0 .long p2 [(.long ((72340172838076673 : Int64) * (((p3 &&& (255 : Int32))).toInt64))), (.long ((72340172838076673 : Int64) * (((p4 &&& (255 : Int32))).toInt64))), (.long ((72340172838076673 : Int64) * (((p5 &&& (255 : Int32))).toInt64))), (.long ((72340172838076673 : Int64) * (((p6 &&& (255 : Int32))).toInt64))), (.long ((72340172838076673 : Int64) * (((p7 &&& (255 : Int32))).toInt64))), (.long ((72340172838076673 : Int64) * (((p8 &&& (255 : Int32))).toInt64))), (.long ((72340172838076673 : Int64) * (((p9 &&& (255 : Int32))).toInt64))), (.long ((72340172838076673 : Int64) * (((p10 &&& (255 : Int32))).toInt64)))] (.long (0 : Int64))
set_option maxRecDepth 65536 in
set_option maxHeartbeats 40000000 in
theorem rm1 (l : Launch) (Z : State) (a0 : Array Value) (hw : ∀ d ∈ tables_1, d.before a0 Z = true) (ws : List Jvm.Cond) (o0 : Addr) (k1 : ClassId) (p2 : Int32) (p3 : Int32) (p4 : Int32) (p5 : Int32) (p6 : Int32) (p7 : Int32) (p8 : Int32) (p9 : Int32) (p10 : Int32) (h0 : Heap) (n0 : Nat) (Z0 : n0 ≤ h0.size) (V_o0 : Arv Z h0 o0 k1 .byte p2 [(.int p3), (.int p4), (.int p5), (.int p6), (.int p7), (.int p8), (.int p9), (.int p10)] (.int (0 : Int32))) (hcap_1 : (p2).toNatClampNeg ≤ 8) (hp2_1 : ¬ ((8 : Int32) < p2)) :
    MetFree l (⟨"com/example/skipscan/skipscan/ByteScan", "repeated", "([B)[J"⟩ : MethodName) (head1 (Jvm.Cond.code (⟨"com/example/skipscan/skipscan/ByteScan", "repeated", "([B)[J"⟩ : MethodName) prog_10_method_15_code 3 (some (.array .long)) :: ws) ({ frames := 0, cells := 1, slots := 8, locals := 0 } : Room)) (fun a U => a = #[(.ref o0)] ∧ Z.Warmed39 U.vm ∧ U.heap = h0) (fun _ _ _ _ _ => True) (fun _ U o U' => ∃ v L, o = .returned v ∧ Q1 Z o0 k1 p2 p3 p4 p5 p6 p7 p8 p9 p10 h0 n0 v U'.heap L ∧ FrameEnd U o U' L ({ frames := 0, cells := 1, slots := 8, locals := 0 } : Room).cells ({ frames := 0, cells := 1, slots := 8, locals := 0 } : Room).slots) := by
  refine MetFree.of_bodySF (plainFor_of_name pn_0) hisR ?_
  intro p e s m args below meth c s₁ Bd hml0 hP hK
  obtain ⟨rfl, hZ, hh⟩ := hP
  have hx := Bd.exec
  have hby := Bd.bytes
  have hml : c.maxLocals = 3 := hml0
  have hown : s.vm.findClass "com/example/skipscan/skipscan/ByteScan" = some m.cls := findClass_of_methodNamed Bd.named
  have hnm := (name_of_methodNamed Bd.named Bd.method).1
  have X0 : Stand p l e ({ frames := 0, cells := 1, slots := 8, locals := 0 } : Room) s m #[(.ref o0)] below meth c s₁ [] 0 0 := Stand.of_body Bd
  have e0 : s₁.heap = h0 := by rw [← hh, Bd.state]; rfl
  have N0 := Fr.nil n0
  refine OGl.start (ef_1 m o0) ?_
  show OGl _ _ _ _ s₁ (mkF m 0 #[.val (.ref o0), .unset, .unset] [])
  obtain ⟨cl19, Ar19, -, Sz19, Nn19, -, -⟩ := id V_o0
  refine OGl.go (fun t k => XS.aloadN X0.here hx rfl (hb hby d1_0) rfl rfl (own_len X0 hx (by rw [e0]; exact Ar19.1) (State.isArrayOf_alike hZ.alike Ar19.2.1) Sz19 Nn19 rfl rfl (hb hby d1_1) k)) ?_
  show OGl _ _ _ _ s₁ (mkF m 2 #[.val (.ref o0), .unset, .unset] [(.int p2)])
  obtain ⟨_, _, _, _, hneg, _, _⟩ := id V_o0
  obtain ⟨T20, h20, k20, X20, e20, E20, A20, st20⟩ := newP X0 hx hZ (hw _ (List.mem_of_getElem? (i := 6) rfl)) e0 (g := (mkF m 2 #[.val (.ref o0), .unset, .unset] [(.int p2)])) rfl (hb hby d1_2) rfl hneg (cap := 8) hcap_1 (by decide) (by decide) (by decide)
  obtain ⟨b20, gb20⟩ : ∃ z, z = h0.size := ⟨_, rfl⟩
  rw [← gb20] at A20 st20
  have sz_b20 : h0.size ≤ b20 := Nat.le_trans (Keep.refl h0 []).1 (Nat.le_of_eq gb20.symm)
  have g_b20 : n0 ≤ b20 := Nat.le_trans Z0 sz_b20
  have V20 : Arv Z h20 b20 k20 .long p2 [(.long (0 : Int64)), (.long (0 : Int64)), (.long (0 : Int64)), (.long (0 : Int64)), (.long (0 : Int64)), (.long (0 : Int64)), (.long (0 : Int64)), (.long (0 : Int64))] (.long (0 : Int64)) := (Arv.new A20 hneg).pad (pad_rep [] (.long (0 : Int64)) 8)
  have KK20 : Keep h0 h20 [] := (Keep.refl h0 []).ext E20
  refine OGl.go st20 ?_
  show OGl _ _ _ _ T20 (mkF m 4 #[.val (.ref o0), .unset, .unset] [(.ref b20)])
  have F21 := (V_o0.ext E20)
  obtain ⟨cl22, Ar22, -, Sz22, Nn22, -, -⟩ := id F21
  refine OGl.go (fun t k => XS.astoreN X20.here hx rfl (hb hby d1_4) rfl rfl (l' := #[.val (.ref o0), .val (.ref b20), .unset]) rfl (XS.iconst X20.here hx rfl (hb hby d1_5) (XS.istoreN X20.here hx rfl (hb hby d1_6) rfl (l' := #[.val (.ref o0), .val (.ref b20), .val (.int (0 : Int32))]) rfl (XS.iloadN X20.here hx rfl (hb hby d1_7) rfl (XS.aloadN X20.here hx rfl (hb hby d1_8) rfl rfl (own_len X20 hx (by rw [e20]; exact Ar22.1) (State.isArrayOf_alike hZ.alike Ar22.2.1) Sz22 Nn22 rfl rfl (hb hby d1_9) k)))))) ?_
  show OGl _ _ _ _ T20 (mkF m 10 #[.val (.ref o0), .val (.ref b20), .val (.int (0 : Int32))] [(.int p2), (.int (0 : Int32))])
  have j55 : ∀ (T' : State) (locs' : List Loc) (h' : Heap) (sl55_2 : Slot), Stand p l e ({ frames := 0, cells := 1, slots := 8, locals := 0 } : Room) s m #[(.ref o0)] below meth c T' locs' 1 8 → T'.heap = h' → Keep h0 h' [] → Fr n0 locs' → Arv Z h' o0 k1 .byte p2 [(.int p3), (.int p4), (.int p5), (.int p6), (.int p7), (.int p8), (.int p9), (.int p10)] (.int (0 : Int32)) → Arv Z h' b20 k20 .long p2 [(.long ((72340172838076673 : Int64) * (((p3 &&& (255 : Int32))).toInt64))), (.long ((72340172838076673 : Int64) * (((p4 &&& (255 : Int32))).toInt64))), (.long ((72340172838076673 : Int64) * (((p5 &&& (255 : Int32))).toInt64))), (.long ((72340172838076673 : Int64) * (((p6 &&& (255 : Int32))).toInt64))), (.long ((72340172838076673 : Int64) * (((p7 &&& (255 : Int32))).toInt64))), (.long ((72340172838076673 : Int64) * (((p8 &&& (255 : Int32))).toInt64))), (.long ((72340172838076673 : Int64) * (((p9 &&& (255 : Int32))).toInt64))), (.long ((72340172838076673 : Int64) * (((p10 &&& (255 : Int32))).toInt64)))] (.long (0 : Int64)) → OGl p e below (fun o s₂ => ∃ v L, o = .returned v ∧ Q1 Z o0 k1 p2 p3 p4 p5 p6 p7 p8 p9 p10 h0 n0 v s₂.heap L ∧ FrameEnd s o s₂ L ({ frames := 0, cells := 1, slots := 8, locals := 0 } : Room).cells ({ frames := 0, cells := 1, slots := 8, locals := 0 } : Room).slots) T' (mkF m 34 #[.val (.ref o0), .val (.ref b20), sl55_2] []) := by
    intro T55 locs55 h55 sl55_2 X55 e55 KK55 N55 Fj55_0 Fj55_1
    refine OGl.go (fun t k => XS.aloadN X55.here hx rfl (hb hby d1_34) rfl rfl k) ?_
    show OGl _ _ _ _ T55 (mkF m 35 #[.val (.ref o0), .val (.ref b20), sl55_2] [(.ref b20)])
    obtain ⟨fs, hr, hrun, hended, hW, hsame⟩ := X55.leave (v := some (.ref b20)) (fun h => by rw [Bd.returns] at h; cases h)
    refine ⟨_, _, retOut X55 hx (t := (.array .long)) Bd.returns rfl (Or.inr (Or.inr (Or.inr (Or.inr ⟨rfl, rfl, rfl⟩)))) (hb hby d1_35) hr, hrun, hended, _, _, rfl, ?_, ⟨_, rfl⟩, hW, hsame.mono (by decide) (by decide)⟩
    show Q1 Z o0 k1 p2 p3 p4 p5 p6 p7 p8 p9 p10 h0 n0 _ T55.heap _
    rw [e55]
    exact ⟨b20, k20, rfl, N55, KK55, sz_b20, Fj55_1⟩
  by_cases hc56 : (0 : Int32) < p2
  · obtain ⟨cl57, Ar57, -, Sz57, -, Ha57, -⟩ := id F21
    have hin57 : ¬ ((0 : Int32) < 0 ∨ cl57.slots.size ≤ ((0 : Int32)).toNatClampNeg) := inb_of Sz57 ⟨by decide, hc56⟩
    refine OGl.go (fun t k => XS.icmpNo X20.here hx rfl (hb hby d1_10) rfl (tlt hc56).2.1 (XS.aloadN X20.here hx rfl (hb hby d1_13) rfl rfl (XS.iloadN X20.here hx rfl (hb hby d1_14) rfl (own_ldc2 X20 hx hown (mvT hZ (hw _ (List.mem_of_getElem? (i := 11) rfl))) rfl (hb hby d1_15) (XS.aloadN X20.here hx rfl (hb hby d1_18) rfl rfl (XS.iloadN X20.here hx rfl (hb hby d1_19) rfl (own_baload X20 hx (j := (0 : Int32)) (v := (.int p3)) (by rw [e20]; exact Ar57.1) (State.isArrayOf_alike hZ.alike Ar57.2.1) Ar57.2.2 hin57 (Has.at Ha57 hin57 rfl) rfl rfl (hb hby d1_20) (XS.sipush X20.here hx rfl (hb hby d1_21) k)))))))) ?_
    show OGl _ _ _ _ T20 (mkF m 24 #[.val (.ref o0), .val (.ref b20), .val (.int (0 : Int32))] [(.int (255 : Int32)), (.int p3), (.long (72340172838076673 : Int64)), (.int (0 : Int32)), (.ref b20)])
    refine OGl.go (fun t k => XS.iand X20.here hx rfl (hb hby d1_24) rfl (XS.i2l X20.here hx rfl (hb hby d1_25) rfl (XS.lmul X20.here hx rfl (hb hby d1_26) rfl k))) ?_
    show OGl _ _ _ _ T20 (mkF m 27 #[.val (.ref o0), .val (.ref b20), .val (.int (0 : Int32))] [(.long ((72340172838076673 : Int64) * (((p3 &&& (255 : Int32))).toInt64))), (.int (0 : Int32)), (.ref b20)])
    obtain ⟨cl58, Ar58, qk58, Sz58, Nn58, Ha58, Gf58⟩ := id V20
    have hin58 : ¬ ((0 : Int32) < 0 ∨ cl58.slots.size ≤ ((0 : Int32)).toNatClampNeg) := inb_of Sz58 ⟨by decide, hc56⟩
    obtain ⟨T58, h58, X58, e58, W58, st58⟩ := stJ X20 hx hZ e20 Ar58 (j := (0 : Int32)) hin58 (g := (mkF m 27 #[.val (.ref o0), .val (.ref b20), .val (.int (0 : Int32))] [(.long ((72340172838076673 : Int64) * (((p3 &&& (255 : Int32))).toInt64))), (.int (0 : Int32)), (.ref b20)])) rfl rfl (hb hby d1_27)
    have V58 : Arv Z h58 b20 k20 .long p2 [(.long ((72340172838076673 : Int64) * (((p3 &&& (255 : Int32))).toInt64))), (.long (0 : Int64)), (.long (0 : Int64)), (.long (0 : Int64)), (.long (0 : Int64)), (.long (0 : Int64)), (.long (0 : Int64)), (.long (0 : Int64))] (.long (0 : Int64)) := Arv.set Ar58 qk58 Sz58 Nn58 Ha58 Gf58 rfl W58 0 rfl (Nat.le_of_ble_eq_true rfl)
    refine OGl.go st58 ?_
    have N58 := Fr.snoc X58 N0 g_b20
    have KK58 : Keep h0 h58 [] := KK20.wr W58 (Or.inr sz_b20)
    show OGl _ _ _ _ T58 (mkF m 28 #[.val (.ref o0), .val (.ref b20), .val (.int (0 : Int32))] [])
    have F59 := (F21.other W58 (Nat.ne_of_lt (Nat.lt_of_lt_of_le V_o0.lt sz_b20)))
    obtain ⟨cl60, Ar60, -, Sz60, Nn60, -, -⟩ := id F59
    refine OGl.go (fun t k => XS.iinc X58.here hx rfl (hb hby d1_28) rfl (l' := #[.val (.ref o0), .val (.ref b20), .val (.int (1 : Int32))]) rfl (XS.goto X58.here hx rfl (pc0 := 31) (pc' := 7) rfl (hb hby d1_31) (by decide) (by decide) (XS.iloadN X58.here hx rfl (hb hby d1_7) rfl (XS.aloadN X58.here hx rfl (hb hby d1_8) rfl rfl (own_len X58 hx (by rw [e58]; exact Ar60.1) (State.isArrayOf_alike hZ.alike Ar60.2.1) Sz60 Nn60 rfl rfl (hb hby d1_9) k))))) ?_
    show OGl _ _ _ _ T58 (mkF m 10 #[.val (.ref o0), .val (.ref b20), .val (.int (1 : Int32))] [(.int p2), (.int (1 : Int32))])
    by_cases hc61 : (1 : Int32) < p2
    · obtain ⟨cl62, Ar62, -, Sz62, -, Ha62, -⟩ := id F59
      have hin62 : ¬ ((1 : Int32) < 0 ∨ cl62.slots.size ≤ ((1 : Int32)).toNatClampNeg) := inb_of Sz62 ⟨by decide, hc61⟩
      refine OGl.go (fun t k => XS.icmpNo X58.here hx rfl (hb hby d1_10) rfl (tlt hc61).2.1 (XS.aloadN X58.here hx rfl (hb hby d1_13) rfl rfl (XS.iloadN X58.here hx rfl (hb hby d1_14) rfl (own_ldc2 X58 hx hown (mvT hZ (hw _ (List.mem_of_getElem? (i := 11) rfl))) rfl (hb hby d1_15) (XS.aloadN X58.here hx rfl (hb hby d1_18) rfl rfl (XS.iloadN X58.here hx rfl (hb hby d1_19) rfl (own_baload X58 hx (j := (1 : Int32)) (v := (.int p4)) (by rw [e58]; exact Ar62.1) (State.isArrayOf_alike hZ.alike Ar62.2.1) Ar62.2.2 hin62 (Has.at Ha62 hin62 rfl) rfl rfl (hb hby d1_20) (XS.sipush X58.here hx rfl (hb hby d1_21) k)))))))) ?_
      show OGl _ _ _ _ T58 (mkF m 24 #[.val (.ref o0), .val (.ref b20), .val (.int (1 : Int32))] [(.int (255 : Int32)), (.int p4), (.long (72340172838076673 : Int64)), (.int (1 : Int32)), (.ref b20)])
      refine OGl.go (fun t k => XS.iand X58.here hx rfl (hb hby d1_24) rfl (XS.i2l X58.here hx rfl (hb hby d1_25) rfl (XS.lmul X58.here hx rfl (hb hby d1_26) rfl k))) ?_
      show OGl _ _ _ _ T58 (mkF m 27 #[.val (.ref o0), .val (.ref b20), .val (.int (1 : Int32))] [(.long ((72340172838076673 : Int64) * (((p4 &&& (255 : Int32))).toInt64))), (.int (1 : Int32)), (.ref b20)])
      obtain ⟨cl63, Ar63, qk63, Sz63, Nn63, Ha63, Gf63⟩ := id V58
      have hin63 : ¬ ((1 : Int32) < 0 ∨ cl63.slots.size ≤ ((1 : Int32)).toNatClampNeg) := inb_of Sz63 ⟨by decide, hc61⟩
      obtain ⟨T63, h63, X63, e63, W63, st63⟩ := stJ X58 hx hZ e58 Ar63 (j := (1 : Int32)) hin63 (g := (mkF m 27 #[.val (.ref o0), .val (.ref b20), .val (.int (1 : Int32))] [(.long ((72340172838076673 : Int64) * (((p4 &&& (255 : Int32))).toInt64))), (.int (1 : Int32)), (.ref b20)])) rfl rfl (hb hby d1_27)
      have V63 : Arv Z h63 b20 k20 .long p2 [(.long ((72340172838076673 : Int64) * (((p3 &&& (255 : Int32))).toInt64))), (.long ((72340172838076673 : Int64) * (((p4 &&& (255 : Int32))).toInt64))), (.long (0 : Int64)), (.long (0 : Int64)), (.long (0 : Int64)), (.long (0 : Int64)), (.long (0 : Int64)), (.long (0 : Int64))] (.long (0 : Int64)) := Arv.set Ar63 qk63 Sz63 Nn63 Ha63 Gf63 rfl W63 1 rfl (Nat.le_of_ble_eq_true rfl)
      refine OGl.go st63 ?_
      have N63 := Fr.snoc X63 N58 g_b20
      have KK63 : Keep h0 h63 [] := KK58.wr W63 (Or.inr sz_b20)
      show OGl _ _ _ _ T63 (mkF m 28 #[.val (.ref o0), .val (.ref b20), .val (.int (1 : Int32))] [])
      have F64 := (F59.other W63 (Nat.ne_of_lt (Nat.lt_of_lt_of_le V_o0.lt sz_b20)))
      obtain ⟨cl65, Ar65, -, Sz65, Nn65, -, -⟩ := id F64
      refine OGl.go (fun t k => XS.iinc X63.here hx rfl (hb hby d1_28) rfl (l' := #[.val (.ref o0), .val (.ref b20), .val (.int (2 : Int32))]) rfl (XS.goto X63.here hx rfl (pc0 := 31) (pc' := 7) rfl (hb hby d1_31) (by decide) (by decide) (XS.iloadN X63.here hx rfl (hb hby d1_7) rfl (XS.aloadN X63.here hx rfl (hb hby d1_8) rfl rfl (own_len X63 hx (by rw [e63]; exact Ar65.1) (State.isArrayOf_alike hZ.alike Ar65.2.1) Sz65 Nn65 rfl rfl (hb hby d1_9) k))))) ?_
      show OGl _ _ _ _ T63 (mkF m 10 #[.val (.ref o0), .val (.ref b20), .val (.int (2 : Int32))] [(.int p2), (.int (2 : Int32))])
      by_cases hc66 : (2 : Int32) < p2
      · obtain ⟨cl67, Ar67, -, Sz67, -, Ha67, -⟩ := id F64
        have hin67 : ¬ ((2 : Int32) < 0 ∨ cl67.slots.size ≤ ((2 : Int32)).toNatClampNeg) := inb_of Sz67 ⟨by decide, hc66⟩
        refine OGl.go (fun t k => XS.icmpNo X63.here hx rfl (hb hby d1_10) rfl (tlt hc66).2.1 (XS.aloadN X63.here hx rfl (hb hby d1_13) rfl rfl (XS.iloadN X63.here hx rfl (hb hby d1_14) rfl (own_ldc2 X63 hx hown (mvT hZ (hw _ (List.mem_of_getElem? (i := 11) rfl))) rfl (hb hby d1_15) (XS.aloadN X63.here hx rfl (hb hby d1_18) rfl rfl (XS.iloadN X63.here hx rfl (hb hby d1_19) rfl (own_baload X63 hx (j := (2 : Int32)) (v := (.int p5)) (by rw [e63]; exact Ar67.1) (State.isArrayOf_alike hZ.alike Ar67.2.1) Ar67.2.2 hin67 (Has.at Ha67 hin67 rfl) rfl rfl (hb hby d1_20) (XS.sipush X63.here hx rfl (hb hby d1_21) k)))))))) ?_
        show OGl _ _ _ _ T63 (mkF m 24 #[.val (.ref o0), .val (.ref b20), .val (.int (2 : Int32))] [(.int (255 : Int32)), (.int p5), (.long (72340172838076673 : Int64)), (.int (2 : Int32)), (.ref b20)])
        refine OGl.go (fun t k => XS.iand X63.here hx rfl (hb hby d1_24) rfl (XS.i2l X63.here hx rfl (hb hby d1_25) rfl (XS.lmul X63.here hx rfl (hb hby d1_26) rfl k))) ?_
        show OGl _ _ _ _ T63 (mkF m 27 #[.val (.ref o0), .val (.ref b20), .val (.int (2 : Int32))] [(.long ((72340172838076673 : Int64) * (((p5 &&& (255 : Int32))).toInt64))), (.int (2 : Int32)), (.ref b20)])
        obtain ⟨cl68, Ar68, qk68, Sz68, Nn68, Ha68, Gf68⟩ := id V63
        have hin68 : ¬ ((2 : Int32) < 0 ∨ cl68.slots.size ≤ ((2 : Int32)).toNatClampNeg) := inb_of Sz68 ⟨by decide, hc66⟩
        obtain ⟨T68, h68, X68, e68, W68, st68⟩ := stJ X63 hx hZ e63 Ar68 (j := (2 : Int32)) hin68 (g := (mkF m 27 #[.val (.ref o0), .val (.ref b20), .val (.int (2 : Int32))] [(.long ((72340172838076673 : Int64) * (((p5 &&& (255 : Int32))).toInt64))), (.int (2 : Int32)), (.ref b20)])) rfl rfl (hb hby d1_27)
        have V68 : Arv Z h68 b20 k20 .long p2 [(.long ((72340172838076673 : Int64) * (((p3 &&& (255 : Int32))).toInt64))), (.long ((72340172838076673 : Int64) * (((p4 &&& (255 : Int32))).toInt64))), (.long ((72340172838076673 : Int64) * (((p5 &&& (255 : Int32))).toInt64))), (.long (0 : Int64)), (.long (0 : Int64)), (.long (0 : Int64)), (.long (0 : Int64)), (.long (0 : Int64))] (.long (0 : Int64)) := Arv.set Ar68 qk68 Sz68 Nn68 Ha68 Gf68 rfl W68 2 rfl (Nat.le_of_ble_eq_true rfl)
        refine OGl.go st68 ?_
        have N68 := Fr.snoc X68 N63 g_b20
        have KK68 : Keep h0 h68 [] := KK63.wr W68 (Or.inr sz_b20)
        show OGl _ _ _ _ T68 (mkF m 28 #[.val (.ref o0), .val (.ref b20), .val (.int (2 : Int32))] [])
        have F69 := (F64.other W68 (Nat.ne_of_lt (Nat.lt_of_lt_of_le V_o0.lt sz_b20)))
        obtain ⟨cl70, Ar70, -, Sz70, Nn70, -, -⟩ := id F69
        refine OGl.go (fun t k => XS.iinc X68.here hx rfl (hb hby d1_28) rfl (l' := #[.val (.ref o0), .val (.ref b20), .val (.int (3 : Int32))]) rfl (XS.goto X68.here hx rfl (pc0 := 31) (pc' := 7) rfl (hb hby d1_31) (by decide) (by decide) (XS.iloadN X68.here hx rfl (hb hby d1_7) rfl (XS.aloadN X68.here hx rfl (hb hby d1_8) rfl rfl (own_len X68 hx (by rw [e68]; exact Ar70.1) (State.isArrayOf_alike hZ.alike Ar70.2.1) Sz70 Nn70 rfl rfl (hb hby d1_9) k))))) ?_
        show OGl _ _ _ _ T68 (mkF m 10 #[.val (.ref o0), .val (.ref b20), .val (.int (3 : Int32))] [(.int p2), (.int (3 : Int32))])
        by_cases hc71 : (3 : Int32) < p2
        · obtain ⟨cl72, Ar72, -, Sz72, -, Ha72, -⟩ := id F69
          have hin72 : ¬ ((3 : Int32) < 0 ∨ cl72.slots.size ≤ ((3 : Int32)).toNatClampNeg) := inb_of Sz72 ⟨by decide, hc71⟩
          refine OGl.go (fun t k => XS.icmpNo X68.here hx rfl (hb hby d1_10) rfl (tlt hc71).2.1 (XS.aloadN X68.here hx rfl (hb hby d1_13) rfl rfl (XS.iloadN X68.here hx rfl (hb hby d1_14) rfl (own_ldc2 X68 hx hown (mvT hZ (hw _ (List.mem_of_getElem? (i := 11) rfl))) rfl (hb hby d1_15) (XS.aloadN X68.here hx rfl (hb hby d1_18) rfl rfl (XS.iloadN X68.here hx rfl (hb hby d1_19) rfl (own_baload X68 hx (j := (3 : Int32)) (v := (.int p6)) (by rw [e68]; exact Ar72.1) (State.isArrayOf_alike hZ.alike Ar72.2.1) Ar72.2.2 hin72 (Has.at Ha72 hin72 rfl) rfl rfl (hb hby d1_20) (XS.sipush X68.here hx rfl (hb hby d1_21) k)))))))) ?_
          show OGl _ _ _ _ T68 (mkF m 24 #[.val (.ref o0), .val (.ref b20), .val (.int (3 : Int32))] [(.int (255 : Int32)), (.int p6), (.long (72340172838076673 : Int64)), (.int (3 : Int32)), (.ref b20)])
          refine OGl.go (fun t k => XS.iand X68.here hx rfl (hb hby d1_24) rfl (XS.i2l X68.here hx rfl (hb hby d1_25) rfl (XS.lmul X68.here hx rfl (hb hby d1_26) rfl k))) ?_
          show OGl _ _ _ _ T68 (mkF m 27 #[.val (.ref o0), .val (.ref b20), .val (.int (3 : Int32))] [(.long ((72340172838076673 : Int64) * (((p6 &&& (255 : Int32))).toInt64))), (.int (3 : Int32)), (.ref b20)])
          obtain ⟨cl73, Ar73, qk73, Sz73, Nn73, Ha73, Gf73⟩ := id V68
          have hin73 : ¬ ((3 : Int32) < 0 ∨ cl73.slots.size ≤ ((3 : Int32)).toNatClampNeg) := inb_of Sz73 ⟨by decide, hc71⟩
          obtain ⟨T73, h73, X73, e73, W73, st73⟩ := stJ X68 hx hZ e68 Ar73 (j := (3 : Int32)) hin73 (g := (mkF m 27 #[.val (.ref o0), .val (.ref b20), .val (.int (3 : Int32))] [(.long ((72340172838076673 : Int64) * (((p6 &&& (255 : Int32))).toInt64))), (.int (3 : Int32)), (.ref b20)])) rfl rfl (hb hby d1_27)
          have V73 : Arv Z h73 b20 k20 .long p2 [(.long ((72340172838076673 : Int64) * (((p3 &&& (255 : Int32))).toInt64))), (.long ((72340172838076673 : Int64) * (((p4 &&& (255 : Int32))).toInt64))), (.long ((72340172838076673 : Int64) * (((p5 &&& (255 : Int32))).toInt64))), (.long ((72340172838076673 : Int64) * (((p6 &&& (255 : Int32))).toInt64))), (.long (0 : Int64)), (.long (0 : Int64)), (.long (0 : Int64)), (.long (0 : Int64))] (.long (0 : Int64)) := Arv.set Ar73 qk73 Sz73 Nn73 Ha73 Gf73 rfl W73 3 rfl (Nat.le_of_ble_eq_true rfl)
          refine OGl.go st73 ?_
          have N73 := Fr.snoc X73 N68 g_b20
          have KK73 : Keep h0 h73 [] := KK68.wr W73 (Or.inr sz_b20)
          show OGl _ _ _ _ T73 (mkF m 28 #[.val (.ref o0), .val (.ref b20), .val (.int (3 : Int32))] [])
          have F74 := (F69.other W73 (Nat.ne_of_lt (Nat.lt_of_lt_of_le V_o0.lt sz_b20)))
          obtain ⟨cl75, Ar75, -, Sz75, Nn75, -, -⟩ := id F74
          refine OGl.go (fun t k => XS.iinc X73.here hx rfl (hb hby d1_28) rfl (l' := #[.val (.ref o0), .val (.ref b20), .val (.int (4 : Int32))]) rfl (XS.goto X73.here hx rfl (pc0 := 31) (pc' := 7) rfl (hb hby d1_31) (by decide) (by decide) (XS.iloadN X73.here hx rfl (hb hby d1_7) rfl (XS.aloadN X73.here hx rfl (hb hby d1_8) rfl rfl (own_len X73 hx (by rw [e73]; exact Ar75.1) (State.isArrayOf_alike hZ.alike Ar75.2.1) Sz75 Nn75 rfl rfl (hb hby d1_9) k))))) ?_
          show OGl _ _ _ _ T73 (mkF m 10 #[.val (.ref o0), .val (.ref b20), .val (.int (4 : Int32))] [(.int p2), (.int (4 : Int32))])
          by_cases hc76 : (4 : Int32) < p2
          · obtain ⟨cl77, Ar77, -, Sz77, -, Ha77, -⟩ := id F74
            have hin77 : ¬ ((4 : Int32) < 0 ∨ cl77.slots.size ≤ ((4 : Int32)).toNatClampNeg) := inb_of Sz77 ⟨by decide, hc76⟩
            refine OGl.go (fun t k => XS.icmpNo X73.here hx rfl (hb hby d1_10) rfl (tlt hc76).2.1 (XS.aloadN X73.here hx rfl (hb hby d1_13) rfl rfl (XS.iloadN X73.here hx rfl (hb hby d1_14) rfl (own_ldc2 X73 hx hown (mvT hZ (hw _ (List.mem_of_getElem? (i := 11) rfl))) rfl (hb hby d1_15) (XS.aloadN X73.here hx rfl (hb hby d1_18) rfl rfl (XS.iloadN X73.here hx rfl (hb hby d1_19) rfl (own_baload X73 hx (j := (4 : Int32)) (v := (.int p7)) (by rw [e73]; exact Ar77.1) (State.isArrayOf_alike hZ.alike Ar77.2.1) Ar77.2.2 hin77 (Has.at Ha77 hin77 rfl) rfl rfl (hb hby d1_20) (XS.sipush X73.here hx rfl (hb hby d1_21) k)))))))) ?_
            show OGl _ _ _ _ T73 (mkF m 24 #[.val (.ref o0), .val (.ref b20), .val (.int (4 : Int32))] [(.int (255 : Int32)), (.int p7), (.long (72340172838076673 : Int64)), (.int (4 : Int32)), (.ref b20)])
            refine OGl.go (fun t k => XS.iand X73.here hx rfl (hb hby d1_24) rfl (XS.i2l X73.here hx rfl (hb hby d1_25) rfl (XS.lmul X73.here hx rfl (hb hby d1_26) rfl k))) ?_
            show OGl _ _ _ _ T73 (mkF m 27 #[.val (.ref o0), .val (.ref b20), .val (.int (4 : Int32))] [(.long ((72340172838076673 : Int64) * (((p7 &&& (255 : Int32))).toInt64))), (.int (4 : Int32)), (.ref b20)])
            obtain ⟨cl78, Ar78, qk78, Sz78, Nn78, Ha78, Gf78⟩ := id V73
            have hin78 : ¬ ((4 : Int32) < 0 ∨ cl78.slots.size ≤ ((4 : Int32)).toNatClampNeg) := inb_of Sz78 ⟨by decide, hc76⟩
            obtain ⟨T78, h78, X78, e78, W78, st78⟩ := stJ X73 hx hZ e73 Ar78 (j := (4 : Int32)) hin78 (g := (mkF m 27 #[.val (.ref o0), .val (.ref b20), .val (.int (4 : Int32))] [(.long ((72340172838076673 : Int64) * (((p7 &&& (255 : Int32))).toInt64))), (.int (4 : Int32)), (.ref b20)])) rfl rfl (hb hby d1_27)
            have V78 : Arv Z h78 b20 k20 .long p2 [(.long ((72340172838076673 : Int64) * (((p3 &&& (255 : Int32))).toInt64))), (.long ((72340172838076673 : Int64) * (((p4 &&& (255 : Int32))).toInt64))), (.long ((72340172838076673 : Int64) * (((p5 &&& (255 : Int32))).toInt64))), (.long ((72340172838076673 : Int64) * (((p6 &&& (255 : Int32))).toInt64))), (.long ((72340172838076673 : Int64) * (((p7 &&& (255 : Int32))).toInt64))), (.long (0 : Int64)), (.long (0 : Int64)), (.long (0 : Int64))] (.long (0 : Int64)) := Arv.set Ar78 qk78 Sz78 Nn78 Ha78 Gf78 rfl W78 4 rfl (Nat.le_of_ble_eq_true rfl)
            refine OGl.go st78 ?_
            have N78 := Fr.snoc X78 N73 g_b20
            have KK78 : Keep h0 h78 [] := KK73.wr W78 (Or.inr sz_b20)
            show OGl _ _ _ _ T78 (mkF m 28 #[.val (.ref o0), .val (.ref b20), .val (.int (4 : Int32))] [])
            have F79 := (F74.other W78 (Nat.ne_of_lt (Nat.lt_of_lt_of_le V_o0.lt sz_b20)))
            obtain ⟨cl80, Ar80, -, Sz80, Nn80, -, -⟩ := id F79
            refine OGl.go (fun t k => XS.iinc X78.here hx rfl (hb hby d1_28) rfl (l' := #[.val (.ref o0), .val (.ref b20), .val (.int (5 : Int32))]) rfl (XS.goto X78.here hx rfl (pc0 := 31) (pc' := 7) rfl (hb hby d1_31) (by decide) (by decide) (XS.iloadN X78.here hx rfl (hb hby d1_7) rfl (XS.aloadN X78.here hx rfl (hb hby d1_8) rfl rfl (own_len X78 hx (by rw [e78]; exact Ar80.1) (State.isArrayOf_alike hZ.alike Ar80.2.1) Sz80 Nn80 rfl rfl (hb hby d1_9) k))))) ?_
            show OGl _ _ _ _ T78 (mkF m 10 #[.val (.ref o0), .val (.ref b20), .val (.int (5 : Int32))] [(.int p2), (.int (5 : Int32))])
            by_cases hc81 : (5 : Int32) < p2
            · obtain ⟨cl82, Ar82, -, Sz82, -, Ha82, -⟩ := id F79
              have hin82 : ¬ ((5 : Int32) < 0 ∨ cl82.slots.size ≤ ((5 : Int32)).toNatClampNeg) := inb_of Sz82 ⟨by decide, hc81⟩
              refine OGl.go (fun t k => XS.icmpNo X78.here hx rfl (hb hby d1_10) rfl (tlt hc81).2.1 (XS.aloadN X78.here hx rfl (hb hby d1_13) rfl rfl (XS.iloadN X78.here hx rfl (hb hby d1_14) rfl (own_ldc2 X78 hx hown (mvT hZ (hw _ (List.mem_of_getElem? (i := 11) rfl))) rfl (hb hby d1_15) (XS.aloadN X78.here hx rfl (hb hby d1_18) rfl rfl (XS.iloadN X78.here hx rfl (hb hby d1_19) rfl (own_baload X78 hx (j := (5 : Int32)) (v := (.int p8)) (by rw [e78]; exact Ar82.1) (State.isArrayOf_alike hZ.alike Ar82.2.1) Ar82.2.2 hin82 (Has.at Ha82 hin82 rfl) rfl rfl (hb hby d1_20) (XS.sipush X78.here hx rfl (hb hby d1_21) k)))))))) ?_
              show OGl _ _ _ _ T78 (mkF m 24 #[.val (.ref o0), .val (.ref b20), .val (.int (5 : Int32))] [(.int (255 : Int32)), (.int p8), (.long (72340172838076673 : Int64)), (.int (5 : Int32)), (.ref b20)])
              refine OGl.go (fun t k => XS.iand X78.here hx rfl (hb hby d1_24) rfl (XS.i2l X78.here hx rfl (hb hby d1_25) rfl (XS.lmul X78.here hx rfl (hb hby d1_26) rfl k))) ?_
              show OGl _ _ _ _ T78 (mkF m 27 #[.val (.ref o0), .val (.ref b20), .val (.int (5 : Int32))] [(.long ((72340172838076673 : Int64) * (((p8 &&& (255 : Int32))).toInt64))), (.int (5 : Int32)), (.ref b20)])
              obtain ⟨cl83, Ar83, qk83, Sz83, Nn83, Ha83, Gf83⟩ := id V78
              have hin83 : ¬ ((5 : Int32) < 0 ∨ cl83.slots.size ≤ ((5 : Int32)).toNatClampNeg) := inb_of Sz83 ⟨by decide, hc81⟩
              obtain ⟨T83, h83, X83, e83, W83, st83⟩ := stJ X78 hx hZ e78 Ar83 (j := (5 : Int32)) hin83 (g := (mkF m 27 #[.val (.ref o0), .val (.ref b20), .val (.int (5 : Int32))] [(.long ((72340172838076673 : Int64) * (((p8 &&& (255 : Int32))).toInt64))), (.int (5 : Int32)), (.ref b20)])) rfl rfl (hb hby d1_27)
              have V83 : Arv Z h83 b20 k20 .long p2 [(.long ((72340172838076673 : Int64) * (((p3 &&& (255 : Int32))).toInt64))), (.long ((72340172838076673 : Int64) * (((p4 &&& (255 : Int32))).toInt64))), (.long ((72340172838076673 : Int64) * (((p5 &&& (255 : Int32))).toInt64))), (.long ((72340172838076673 : Int64) * (((p6 &&& (255 : Int32))).toInt64))), (.long ((72340172838076673 : Int64) * (((p7 &&& (255 : Int32))).toInt64))), (.long ((72340172838076673 : Int64) * (((p8 &&& (255 : Int32))).toInt64))), (.long (0 : Int64)), (.long (0 : Int64))] (.long (0 : Int64)) := Arv.set Ar83 qk83 Sz83 Nn83 Ha83 Gf83 rfl W83 5 rfl (Nat.le_of_ble_eq_true rfl)
              refine OGl.go st83 ?_
              have N83 := Fr.snoc X83 N78 g_b20
              have KK83 : Keep h0 h83 [] := KK78.wr W83 (Or.inr sz_b20)
              show OGl _ _ _ _ T83 (mkF m 28 #[.val (.ref o0), .val (.ref b20), .val (.int (5 : Int32))] [])
              have F84 := (F79.other W83 (Nat.ne_of_lt (Nat.lt_of_lt_of_le V_o0.lt sz_b20)))
              obtain ⟨cl85, Ar85, -, Sz85, Nn85, -, -⟩ := id F84
              refine OGl.go (fun t k => XS.iinc X83.here hx rfl (hb hby d1_28) rfl (l' := #[.val (.ref o0), .val (.ref b20), .val (.int (6 : Int32))]) rfl (XS.goto X83.here hx rfl (pc0 := 31) (pc' := 7) rfl (hb hby d1_31) (by decide) (by decide) (XS.iloadN X83.here hx rfl (hb hby d1_7) rfl (XS.aloadN X83.here hx rfl (hb hby d1_8) rfl rfl (own_len X83 hx (by rw [e83]; exact Ar85.1) (State.isArrayOf_alike hZ.alike Ar85.2.1) Sz85 Nn85 rfl rfl (hb hby d1_9) k))))) ?_
              show OGl _ _ _ _ T83 (mkF m 10 #[.val (.ref o0), .val (.ref b20), .val (.int (6 : Int32))] [(.int p2), (.int (6 : Int32))])
              by_cases hc86 : (6 : Int32) < p2
              · obtain ⟨cl87, Ar87, -, Sz87, -, Ha87, -⟩ := id F84
                have hin87 : ¬ ((6 : Int32) < 0 ∨ cl87.slots.size ≤ ((6 : Int32)).toNatClampNeg) := inb_of Sz87 ⟨by decide, hc86⟩
                refine OGl.go (fun t k => XS.icmpNo X83.here hx rfl (hb hby d1_10) rfl (tlt hc86).2.1 (XS.aloadN X83.here hx rfl (hb hby d1_13) rfl rfl (XS.iloadN X83.here hx rfl (hb hby d1_14) rfl (own_ldc2 X83 hx hown (mvT hZ (hw _ (List.mem_of_getElem? (i := 11) rfl))) rfl (hb hby d1_15) (XS.aloadN X83.here hx rfl (hb hby d1_18) rfl rfl (XS.iloadN X83.here hx rfl (hb hby d1_19) rfl (own_baload X83 hx (j := (6 : Int32)) (v := (.int p9)) (by rw [e83]; exact Ar87.1) (State.isArrayOf_alike hZ.alike Ar87.2.1) Ar87.2.2 hin87 (Has.at Ha87 hin87 rfl) rfl rfl (hb hby d1_20) (XS.sipush X83.here hx rfl (hb hby d1_21) k)))))))) ?_
                show OGl _ _ _ _ T83 (mkF m 24 #[.val (.ref o0), .val (.ref b20), .val (.int (6 : Int32))] [(.int (255 : Int32)), (.int p9), (.long (72340172838076673 : Int64)), (.int (6 : Int32)), (.ref b20)])
                refine OGl.go (fun t k => XS.iand X83.here hx rfl (hb hby d1_24) rfl (XS.i2l X83.here hx rfl (hb hby d1_25) rfl (XS.lmul X83.here hx rfl (hb hby d1_26) rfl k))) ?_
                show OGl _ _ _ _ T83 (mkF m 27 #[.val (.ref o0), .val (.ref b20), .val (.int (6 : Int32))] [(.long ((72340172838076673 : Int64) * (((p9 &&& (255 : Int32))).toInt64))), (.int (6 : Int32)), (.ref b20)])
                obtain ⟨cl88, Ar88, qk88, Sz88, Nn88, Ha88, Gf88⟩ := id V83
                have hin88 : ¬ ((6 : Int32) < 0 ∨ cl88.slots.size ≤ ((6 : Int32)).toNatClampNeg) := inb_of Sz88 ⟨by decide, hc86⟩
                obtain ⟨T88, h88, X88, e88, W88, st88⟩ := stJ X83 hx hZ e83 Ar88 (j := (6 : Int32)) hin88 (g := (mkF m 27 #[.val (.ref o0), .val (.ref b20), .val (.int (6 : Int32))] [(.long ((72340172838076673 : Int64) * (((p9 &&& (255 : Int32))).toInt64))), (.int (6 : Int32)), (.ref b20)])) rfl rfl (hb hby d1_27)
                have V88 : Arv Z h88 b20 k20 .long p2 [(.long ((72340172838076673 : Int64) * (((p3 &&& (255 : Int32))).toInt64))), (.long ((72340172838076673 : Int64) * (((p4 &&& (255 : Int32))).toInt64))), (.long ((72340172838076673 : Int64) * (((p5 &&& (255 : Int32))).toInt64))), (.long ((72340172838076673 : Int64) * (((p6 &&& (255 : Int32))).toInt64))), (.long ((72340172838076673 : Int64) * (((p7 &&& (255 : Int32))).toInt64))), (.long ((72340172838076673 : Int64) * (((p8 &&& (255 : Int32))).toInt64))), (.long ((72340172838076673 : Int64) * (((p9 &&& (255 : Int32))).toInt64))), (.long (0 : Int64))] (.long (0 : Int64)) := Arv.set Ar88 qk88 Sz88 Nn88 Ha88 Gf88 rfl W88 6 rfl (Nat.le_of_ble_eq_true rfl)
                refine OGl.go st88 ?_
                have N88 := Fr.snoc X88 N83 g_b20
                have KK88 : Keep h0 h88 [] := KK83.wr W88 (Or.inr sz_b20)
                show OGl _ _ _ _ T88 (mkF m 28 #[.val (.ref o0), .val (.ref b20), .val (.int (6 : Int32))] [])
                have F89 := (F84.other W88 (Nat.ne_of_lt (Nat.lt_of_lt_of_le V_o0.lt sz_b20)))
                obtain ⟨cl90, Ar90, -, Sz90, Nn90, -, -⟩ := id F89
                refine OGl.go (fun t k => XS.iinc X88.here hx rfl (hb hby d1_28) rfl (l' := #[.val (.ref o0), .val (.ref b20), .val (.int (7 : Int32))]) rfl (XS.goto X88.here hx rfl (pc0 := 31) (pc' := 7) rfl (hb hby d1_31) (by decide) (by decide) (XS.iloadN X88.here hx rfl (hb hby d1_7) rfl (XS.aloadN X88.here hx rfl (hb hby d1_8) rfl rfl (own_len X88 hx (by rw [e88]; exact Ar90.1) (State.isArrayOf_alike hZ.alike Ar90.2.1) Sz90 Nn90 rfl rfl (hb hby d1_9) k))))) ?_
                show OGl _ _ _ _ T88 (mkF m 10 #[.val (.ref o0), .val (.ref b20), .val (.int (7 : Int32))] [(.int p2), (.int (7 : Int32))])
                by_cases hc91 : (7 : Int32) < p2
                · obtain ⟨cl92, Ar92, -, Sz92, -, Ha92, -⟩ := id F89
                  have hin92 : ¬ ((7 : Int32) < 0 ∨ cl92.slots.size ≤ ((7 : Int32)).toNatClampNeg) := inb_of Sz92 ⟨by decide, hc91⟩
                  refine OGl.go (fun t k => XS.icmpNo X88.here hx rfl (hb hby d1_10) rfl (tlt hc91).2.1 (XS.aloadN X88.here hx rfl (hb hby d1_13) rfl rfl (XS.iloadN X88.here hx rfl (hb hby d1_14) rfl (own_ldc2 X88 hx hown (mvT hZ (hw _ (List.mem_of_getElem? (i := 11) rfl))) rfl (hb hby d1_15) (XS.aloadN X88.here hx rfl (hb hby d1_18) rfl rfl (XS.iloadN X88.here hx rfl (hb hby d1_19) rfl (own_baload X88 hx (j := (7 : Int32)) (v := (.int p10)) (by rw [e88]; exact Ar92.1) (State.isArrayOf_alike hZ.alike Ar92.2.1) Ar92.2.2 hin92 (Has.at Ha92 hin92 rfl) rfl rfl (hb hby d1_20) (XS.sipush X88.here hx rfl (hb hby d1_21) k)))))))) ?_
                  show OGl _ _ _ _ T88 (mkF m 24 #[.val (.ref o0), .val (.ref b20), .val (.int (7 : Int32))] [(.int (255 : Int32)), (.int p10), (.long (72340172838076673 : Int64)), (.int (7 : Int32)), (.ref b20)])
                  refine OGl.go (fun t k => XS.iand X88.here hx rfl (hb hby d1_24) rfl (XS.i2l X88.here hx rfl (hb hby d1_25) rfl (XS.lmul X88.here hx rfl (hb hby d1_26) rfl k))) ?_
                  show OGl _ _ _ _ T88 (mkF m 27 #[.val (.ref o0), .val (.ref b20), .val (.int (7 : Int32))] [(.long ((72340172838076673 : Int64) * (((p10 &&& (255 : Int32))).toInt64))), (.int (7 : Int32)), (.ref b20)])
                  obtain ⟨cl93, Ar93, qk93, Sz93, Nn93, Ha93, Gf93⟩ := id V88
                  have hin93 : ¬ ((7 : Int32) < 0 ∨ cl93.slots.size ≤ ((7 : Int32)).toNatClampNeg) := inb_of Sz93 ⟨by decide, hc91⟩
                  obtain ⟨T93, h93, X93, e93, W93, st93⟩ := stJ X88 hx hZ e88 Ar93 (j := (7 : Int32)) hin93 (g := (mkF m 27 #[.val (.ref o0), .val (.ref b20), .val (.int (7 : Int32))] [(.long ((72340172838076673 : Int64) * (((p10 &&& (255 : Int32))).toInt64))), (.int (7 : Int32)), (.ref b20)])) rfl rfl (hb hby d1_27)
                  have V93 : Arv Z h93 b20 k20 .long p2 [(.long ((72340172838076673 : Int64) * (((p3 &&& (255 : Int32))).toInt64))), (.long ((72340172838076673 : Int64) * (((p4 &&& (255 : Int32))).toInt64))), (.long ((72340172838076673 : Int64) * (((p5 &&& (255 : Int32))).toInt64))), (.long ((72340172838076673 : Int64) * (((p6 &&& (255 : Int32))).toInt64))), (.long ((72340172838076673 : Int64) * (((p7 &&& (255 : Int32))).toInt64))), (.long ((72340172838076673 : Int64) * (((p8 &&& (255 : Int32))).toInt64))), (.long ((72340172838076673 : Int64) * (((p9 &&& (255 : Int32))).toInt64))), (.long ((72340172838076673 : Int64) * (((p10 &&& (255 : Int32))).toInt64)))] (.long (0 : Int64)) := Arv.set Ar93 qk93 Sz93 Nn93 Ha93 Gf93 rfl W93 7 rfl (Nat.le_of_ble_eq_true rfl)
                  refine OGl.go st93 ?_
                  have N93 := Fr.snoc X93 N88 g_b20
                  have KK93 : Keep h0 h93 [] := KK88.wr W93 (Or.inr sz_b20)
                  show OGl _ _ _ _ T93 (mkF m 28 #[.val (.ref o0), .val (.ref b20), .val (.int (7 : Int32))] [])
                  have F94 := (F89.other W93 (Nat.ne_of_lt (Nat.lt_of_lt_of_le V_o0.lt sz_b20)))
                  obtain ⟨cl95, Ar95, -, Sz95, Nn95, -, -⟩ := id F94
                  refine OGl.go (fun t k => XS.iinc X93.here hx rfl (hb hby d1_28) rfl (l' := #[.val (.ref o0), .val (.ref b20), .val (.int (8 : Int32))]) rfl (XS.goto X93.here hx rfl (pc0 := 31) (pc' := 7) rfl (hb hby d1_31) (by decide) (by decide) (XS.iloadN X93.here hx rfl (hb hby d1_7) rfl (XS.aloadN X93.here hx rfl (hb hby d1_8) rfl rfl (own_len X93 hx (by rw [e93]; exact Ar95.1) (State.isArrayOf_alike hZ.alike Ar95.2.1) Sz95 Nn95 rfl rfl (hb hby d1_9) (XS.icmpYes X93.here hx rfl (pc0 := 10) (pc' := 34) rfl (hb hby d1_10) rfl (flt hp2_1).2.1 (by decide) (by decide) k)))))) ?_
                  show OGl _ _ _ _ T93 (mkF m 34 #[.val (.ref o0), .val (.ref b20), .val (.int (8 : Int32))] [])
                  exact j55 T93 _ h93 (.val (.int (8 : Int32))) X93 e93 KK93 N93 F94 V93
                · refine OGl.go (fun t k => XS.icmpYes X88.here hx rfl (pc0 := 10) (pc' := 34) rfl (hb hby d1_10) rfl (flt hc91).2.1 (by decide) (by decide) k) ?_
                  show OGl _ _ _ _ T88 (mkF m 34 #[.val (.ref o0), .val (.ref b20), .val (.int (7 : Int32))] [])
                  exact j55 T88 _ h88 (.val (.int (7 : Int32))) X88 e88 KK88 N88 F89 (own_weak V88 (fun i hi => by have hi2 : i < 7 := own_cl hc91 (by decide) hi; rcases i with _ | _ | _ | _ | _ | _ | _ | i <;> first | rfl | omega))
              · refine OGl.go (fun t k => XS.icmpYes X83.here hx rfl (pc0 := 10) (pc' := 34) rfl (hb hby d1_10) rfl (flt hc86).2.1 (by decide) (by decide) k) ?_
                show OGl _ _ _ _ T83 (mkF m 34 #[.val (.ref o0), .val (.ref b20), .val (.int (6 : Int32))] [])
                exact j55 T83 _ h83 (.val (.int (6 : Int32))) X83 e83 KK83 N83 F84 (own_weak V83 (fun i hi => by have hi2 : i < 6 := own_cl hc86 (by decide) hi; rcases i with _ | _ | _ | _ | _ | _ | i <;> first | rfl | omega))
            · refine OGl.go (fun t k => XS.icmpYes X78.here hx rfl (pc0 := 10) (pc' := 34) rfl (hb hby d1_10) rfl (flt hc81).2.1 (by decide) (by decide) k) ?_
              show OGl _ _ _ _ T78 (mkF m 34 #[.val (.ref o0), .val (.ref b20), .val (.int (5 : Int32))] [])
              exact j55 T78 _ h78 (.val (.int (5 : Int32))) X78 e78 KK78 N78 F79 (own_weak V78 (fun i hi => by have hi2 : i < 5 := own_cl hc81 (by decide) hi; rcases i with _ | _ | _ | _ | _ | i <;> first | rfl | omega))
          · refine OGl.go (fun t k => XS.icmpYes X73.here hx rfl (pc0 := 10) (pc' := 34) rfl (hb hby d1_10) rfl (flt hc76).2.1 (by decide) (by decide) k) ?_
            show OGl _ _ _ _ T73 (mkF m 34 #[.val (.ref o0), .val (.ref b20), .val (.int (4 : Int32))] [])
            exact j55 T73 _ h73 (.val (.int (4 : Int32))) X73 e73 KK73 N73 F74 (own_weak V73 (fun i hi => by have hi2 : i < 4 := own_cl hc76 (by decide) hi; rcases i with _ | _ | _ | _ | i <;> first | rfl | omega))
        · refine OGl.go (fun t k => XS.icmpYes X68.here hx rfl (pc0 := 10) (pc' := 34) rfl (hb hby d1_10) rfl (flt hc71).2.1 (by decide) (by decide) k) ?_
          show OGl _ _ _ _ T68 (mkF m 34 #[.val (.ref o0), .val (.ref b20), .val (.int (3 : Int32))] [])
          exact j55 T68 _ h68 (.val (.int (3 : Int32))) X68 e68 KK68 N68 F69 (own_weak V68 (fun i hi => by have hi2 : i < 3 := own_cl hc71 (by decide) hi; rcases i with _ | _ | _ | i <;> first | rfl | omega))
      · refine OGl.go (fun t k => XS.icmpYes X63.here hx rfl (pc0 := 10) (pc' := 34) rfl (hb hby d1_10) rfl (flt hc66).2.1 (by decide) (by decide) k) ?_
        show OGl _ _ _ _ T63 (mkF m 34 #[.val (.ref o0), .val (.ref b20), .val (.int (2 : Int32))] [])
        exact j55 T63 _ h63 (.val (.int (2 : Int32))) X63 e63 KK63 N63 F64 (own_weak V63 (fun i hi => by have hi2 : i < 2 := own_cl hc66 (by decide) hi; rcases i with _ | _ | i <;> first | rfl | omega))
    · refine OGl.go (fun t k => XS.icmpYes X58.here hx rfl (pc0 := 10) (pc' := 34) rfl (hb hby d1_10) rfl (flt hc61).2.1 (by decide) (by decide) k) ?_
      show OGl _ _ _ _ T58 (mkF m 34 #[.val (.ref o0), .val (.ref b20), .val (.int (1 : Int32))] [])
      exact j55 T58 _ h58 (.val (.int (1 : Int32))) X58 e58 KK58 N58 F59 (own_weak V58 (fun i hi => by have hi2 : i < 1 := own_cl hc61 (by decide) hi; rcases i with _ | i <;> first | rfl | omega))
  · refine OGl.go (fun t k => XS.icmpYes X20.here hx rfl (pc0 := 10) (pc' := 34) rfl (hb hby d1_10) rfl (flt hc56).2.1 (by decide) (by decide) k) ?_
    show OGl _ _ _ _ T20 (mkF m 34 #[.val (.ref o0), .val (.ref b20), .val (.int (0 : Int32))] [])
    exact j55 T20 _ h20 (.val (.int (0 : Int32))) X20 e20 KK20 N0 F21 (own_weak V20 (fun i hi => by have hi2 : i < 0 := own_cl hc56 (by decide) hi; omega))
theorem pd_0 : parseMethodDescriptor "([B)[J" = some ⟨[(.array .byte)], some (.array .long)⟩ := by decide +kernel
theorem d2_0 : decode method_3_code 0 = .ok (.iload_n 2, 1) := by decide +kernel
theorem d2_1 : decode method_3_code 1 = .ok (.aload_n 1, 1) := by decide +kernel
theorem d2_2 : decode method_3_code 2 = .ok (.arraylength, 1) := by decide +kernel
theorem d2_3 : decode method_3_code 3 = .ok (.if_icmp .lt 5, 3) := by decide +kernel
theorem d2_8 : decode method_3_code 8 = .ok (.lload_n 3, 1) := by decide +kernel
theorem d2_9 : decode method_3_code 9 = .ok (.bipush 8, 2) := by decide +kernel
theorem d2_11 : decode method_3_code 11 = .ok (.iload_n 2, 1) := by decide +kernel
theorem d2_12 : decode method_3_code 12 = .ok (.imul, 1) := by decide +kernel
theorem d2_13 : decode method_3_code 13 = .ok (.lushr, 1) := by decide +kernel
theorem d2_14 : decode method_3_code 14 = .ok (.l2i, 1) := by decide +kernel
theorem d2_15 : decode method_3_code 15 = .ok (.i2b, 1) := by decide +kernel
theorem d2_16 : decode method_3_code 16 = .ok (.istore 5, 2) := by decide +kernel
theorem d2_18 : decode method_3_code 18 = .ok (.aload_n 1, 1) := by decide +kernel
theorem d2_19 : decode method_3_code 19 = .ok (.iload_n 2, 1) := by decide +kernel
theorem d2_20 : decode method_3_code 20 = .ok (.baload, 1) := by decide +kernel
theorem d2_21 : decode method_3_code 21 = .ok (.iload 5, 2) := by decide +kernel
theorem d2_23 : decode method_3_code 23 = .ok (.if_icmp .ne 19, 3) := by decide +kernel
theorem d2_26 : decode method_3_code 26 = .ok (.aload_n 0, 1) := by decide +kernel
theorem d2_27 : decode method_3_code 27 = .ok (.iload_n 2, 1) := by decide +kernel
theorem d2_28 : decode method_3_code 28 = .ok (.laload, 1) := by decide +kernel
theorem d2_29 : decode method_3_code 29 = .ok (.iload 5, 2) := by decide +kernel
theorem d2_31 : decode method_3_code 31 = .ok (.invokestatic 20, 3) := by decide +kernel
theorem d3_0 : decode method_4_code 0 = .ok (.iload_n 0, 1) := by decide +kernel
theorem d3_1 : decode method_4_code 1 = .ok (.i2l, 1) := by decide +kernel
theorem d3_2 : decode method_4_code 2 = .ok (.ldc2_w 24, 3) := by decide +kernel
theorem d3_5 : decode method_4_code 5 = .ok (.land, 1) := by decide +kernel
theorem d3_6 : decode method_4_code 6 = .ok (.lstore_n 1, 1) := by decide +kernel
theorem d3_7 : decode method_4_code 7 = .ok (.lload_n 1, 1) := by decide +kernel
theorem d3_8 : decode method_4_code 8 = .ok (.lload_n 1, 1) := by decide +kernel
theorem d3_9 : decode method_4_code 9 = .ok (.bipush 8, 2) := by decide +kernel
theorem d3_11 : decode method_4_code 11 = .ok (.lshl, 1) := by decide +kernel
theorem d3_12 : decode method_4_code 12 = .ok (.lor, 1) := by decide +kernel
theorem d3_13 : decode method_4_code 13 = .ok (.lstore_n 1, 1) := by decide +kernel
theorem d3_14 : decode method_4_code 14 = .ok (.lload_n 1, 1) := by decide +kernel
theorem d3_15 : decode method_4_code 15 = .ok (.lload_n 1, 1) := by decide +kernel
theorem d3_16 : decode method_4_code 16 = .ok (.bipush 16, 2) := by decide +kernel
theorem d3_18 : decode method_4_code 18 = .ok (.lshl, 1) := by decide +kernel
theorem d3_19 : decode method_4_code 19 = .ok (.lor, 1) := by decide +kernel
theorem d3_20 : decode method_4_code 20 = .ok (.lstore_n 1, 1) := by decide +kernel
theorem d3_21 : decode method_4_code 21 = .ok (.lload_n 1, 1) := by decide +kernel
theorem d3_22 : decode method_4_code 22 = .ok (.lload_n 1, 1) := by decide +kernel
theorem d3_23 : decode method_4_code 23 = .ok (.bipush 32, 2) := by decide +kernel
theorem d3_25 : decode method_4_code 25 = .ok (.lshl, 1) := by decide +kernel
theorem d3_26 : decode method_4_code 26 = .ok (.lor, 1) := by decide +kernel
theorem d3_27 : decode method_4_code 27 = .ok (.lstore_n 1, 1) := by decide +kernel
theorem d3_28 : decode method_4_code 28 = .ok (.lload_n 1, 1) := by decide +kernel
theorem d3_29 : decode method_4_code 29 = .ok (.lreturn, 1) := by decide +kernel
def e3_0 (p0 : Int32) : Int64 := ((((p0).toInt64) &&& (255 : Int64)) <<< ((8 : Int32) &&& 0x3f).toInt64)
def e3_1 (p0 : Int32) : Int64 := (((((p0).toInt64) &&& (255 : Int64)) ||| (e3_0 p0)) <<< ((16 : Int32) &&& 0x3f).toInt64)
def e3_2 (p0 : Int32) : Int64 := ((((((p0).toInt64) &&& (255 : Int64)) ||| (e3_0 p0)) ||| (e3_1 p0)) <<< ((32 : Int32) &&& 0x3f).toInt64)
def e3_3 (p0 : Int32) : Int64 := ((((((p0).toInt64) &&& (255 : Int64)) ||| (e3_0 p0)) ||| (e3_1 p0)) ||| (e3_2 p0))
theorem ef_3 (m : MethodId) (x0 : Int32) : entryFrame m #[(.int x0)] 3 = mkF m 0 #[.val (.int x0), .unset, .unset] [] := by first | (simp [entryFrame, mkF, argsToLocals, Value.category]; done) | rfl
theorem pn_1 : plainName "com/example/skipscan/skipscan/ByteScanRepeatedPinLaw" = true := by first | (simp [plainName, overriddenIn]; done) | decide +kernel
def Q3 (Z : State) (p0 : Int32) (h0 : Heap) (n0 : Nat) (v : Option Value) (h : Heap) (L : List Loc) : Prop := v = some (.long (e3_3 p0)) ∧ Fr n0 L ∧ h = h0
set_option maxRecDepth 65536 in
set_option maxHeartbeats 40000000 in
theorem rm3 (l : Launch) (Z : State) (a0 : Array Value) (hw : ∀ d ∈ tables_1, d.before a0 Z = true) (ws : List Jvm.Cond) (p0 : Int32) (h0 : Heap) (n0 : Nat) (Z0 : n0 ≤ h0.size) :
    MetFree l (⟨"com/example/skipscan/skipscan/ByteScanRepeatedPinLaw", "rep", "(B)J"⟩ : MethodName) (head1 (Jvm.Cond.code (⟨"com/example/skipscan/skipscan/ByteScanRepeatedPinLaw", "rep", "(B)J"⟩ : MethodName) method_4_code 3 (some .long) :: ws) ({ frames := 0, cells := 0, slots := 0, locals := 0 } : Room)) (fun a U => a = #[(.int p0)] ∧ Z.Warmed39 U.vm ∧ U.heap = h0) (fun _ _ _ _ _ => True) (fun _ U o U' => ∃ v L, o = .returned v ∧ Q3 Z p0 h0 n0 v U'.heap L ∧ FrameEnd U o U' L ({ frames := 0, cells := 0, slots := 0, locals := 0 } : Room).cells ({ frames := 0, cells := 0, slots := 0, locals := 0 } : Room).slots) := by
  refine MetFree.of_bodySF (plainFor_of_name pn_1) hisR ?_
  intro p e s m args below meth c s₁ Bd hml0 hP hK
  obtain ⟨rfl, hZ, hh⟩ := hP
  have hx := Bd.exec
  have hby := Bd.bytes
  have hml : c.maxLocals = 3 := hml0
  have hown : s.vm.findClass "com/example/skipscan/skipscan/ByteScanRepeatedPinLaw" = some m.cls := findClass_of_methodNamed Bd.named
  have hnm := (name_of_methodNamed Bd.named Bd.method).1
  have X0 : Stand p l e ({ frames := 0, cells := 0, slots := 0, locals := 0 } : Room) s m #[(.int p0)] below meth c s₁ [] 0 0 := Stand.of_body Bd
  have e0 : s₁.heap = h0 := by rw [← hh, Bd.state]; rfl
  have N0 := Fr.nil n0
  refine OGl.start (ef_3 m p0) ?_
  show OGl _ _ _ _ s₁ (mkF m 0 #[.val (.int p0), .unset, .unset] [])
  refine OGl.go (fun t k => XS.iloadN X0.here hx rfl (hb hby d3_0) rfl (XS.i2l X0.here hx rfl (hb hby d3_1) rfl (own_ldc2 X0 hx hown (mvT hZ (hw _ (List.mem_of_getElem? (i := 15) rfl))) rfl (hb hby d3_2) (XS.land X0.here hx rfl (hb hby d3_5) rfl (XS.lstoreN X0.here hx rfl (hb hby d3_6) rfl (l' := #[.val (.int p0), .val (.long (((p0).toInt64) &&& (255 : Int64))), .second]) rfl (XS.lloadN X0.here hx rfl (hb hby d3_7) rfl (XS.lloadN X0.here hx rfl (hb hby d3_8) rfl (XS.bipush X0.here hx rfl (hb hby d3_9) k)))))))) ?_
  show OGl _ _ _ _ s₁ (mkF m 11 #[.val (.int p0), .val (.long (((p0).toInt64) &&& (255 : Int64))), .second] [(.int (8 : Int32)), (.long (((p0).toInt64) &&& (255 : Int64))), (.long (((p0).toInt64) &&& (255 : Int64)))])
  refine OGl.go (fun t k => XS.lshl X0.here hx rfl (hb hby d3_11) rfl (XS.lor X0.here hx rfl (hb hby d3_12) rfl (XS.lstoreN X0.here hx rfl (hb hby d3_13) rfl (l' := #[.val (.int p0), .val (.long ((((p0).toInt64) &&& (255 : Int64)) ||| (e3_0 p0))), .second]) rfl (XS.lloadN X0.here hx rfl (hb hby d3_14) rfl (XS.lloadN X0.here hx rfl (hb hby d3_15) rfl (XS.bipush X0.here hx rfl (hb hby d3_16) (XS.lshl X0.here hx rfl (hb hby d3_18) rfl (XS.lor X0.here hx rfl (hb hby d3_19) rfl k)))))))) ?_
  show OGl _ _ _ _ s₁ (mkF m 20 #[.val (.int p0), .val (.long ((((p0).toInt64) &&& (255 : Int64)) ||| (e3_0 p0))), .second] [(.long (((((p0).toInt64) &&& (255 : Int64)) ||| (e3_0 p0)) ||| (e3_1 p0)))])
  refine OGl.go (fun t k => XS.lstoreN X0.here hx rfl (hb hby d3_20) rfl (l' := #[.val (.int p0), .val (.long (((((p0).toInt64) &&& (255 : Int64)) ||| (e3_0 p0)) ||| (e3_1 p0))), .second]) rfl (XS.lloadN X0.here hx rfl (hb hby d3_21) rfl (XS.lloadN X0.here hx rfl (hb hby d3_22) rfl (XS.bipush X0.here hx rfl (hb hby d3_23) (XS.lshl X0.here hx rfl (hb hby d3_25) rfl (XS.lor X0.here hx rfl (hb hby d3_26) rfl (XS.lstoreN X0.here hx rfl (hb hby d3_27) rfl (l' := #[.val (.int p0), .val (.long (e3_3 p0)), .second]) rfl (XS.lloadN X0.here hx rfl (hb hby d3_28) rfl k)))))))) ?_
  show OGl _ _ _ _ s₁ (mkF m 29 #[.val (.int p0), .val (.long (e3_3 p0)), .second] [(.long (e3_3 p0))])
  obtain ⟨fs, hr, hrun, hended, hW, hsame⟩ := X0.leave (v := some (.long (e3_3 p0))) (fun h => by rw [Bd.returns] at h; cases h)
  refine ⟨_, _, X0.lreturnOut hx Bd.returns (hb hby d3_29) hr, hrun, hended, _, _, rfl, ?_, ⟨_, rfl⟩, hW, hsame.mono (by decide) (by decide)⟩
  show Q3 Z p0 h0 n0 _ s₁.heap _
  rw [e0]
  exact ⟨rfl, N0, rfl⟩
theorem pd_1 : parseMethodDescriptor "(B)J" = some ⟨[.byte], some .long⟩ := by decide +kernel
theorem d2_34 : decode method_3_code 34 = .ok (.lcmp, 1) := by decide +kernel
theorem d2_35 : decode method_3_code 35 = .ok (.ifCond .ne 7, 3) := by decide +kernel
theorem d2_38 : decode method_3_code 38 = .ok (.iconst 1, 1) := by decide +kernel
theorem d2_39 : decode method_3_code 39 = .ok (.goto 4, 3) := by decide +kernel
theorem d2_43 : decode method_3_code 43 = .ok (.ireturn, 1) := by decide +kernel
theorem d2_42 : decode method_3_code 42 = .ok (.iconst 0, 1) := by decide +kernel
theorem d2_6 : decode method_3_code 6 = .ok (.iconst 1, 1) := by decide +kernel
theorem d2_7 : decode method_3_code 7 = .ok (.ireturn, 1) := by decide +kernel
def e2_0 (q2 : Int64) : Int32 := ((((((q2.toUInt64 >>> ((0 : Int32) &&& 0x3f).toInt64.toUInt64).toInt64)).toInt32)).toInt8.toInt32)
theorem ef_2 (m : MethodId) (x0 : Addr) (x1 : Addr) (x2 : Int32) (x3 : Int64) : entryFrame m #[(.ref x0), (.ref x1), (.int x2), (.long x3)] 6 = mkF m 0 #[.val (.ref x0), .val (.ref x1), .val (.int x2), .val (.long x3), .second, .unset] [] := by first | (simp [entryFrame, mkF, argsToLocals, Value.category]; done) | rfl
def t2_0 (q2 : Int64) (p4 : Int32) (p5 : Int32) (p6 : Int32) (p7 : Int32) (p8 : Int32) (p9 : Int32) (p10 : Int32) (p11 : Int32) (p12 : Int32) (q14 : Int64) (q15 : Int64) (q16 : Int64) (q17 : Int64) (q18 : Int64) (q19 : Int64) (q20 : Int64) (q21 : Int64) : Int32 := (if (0 : Int32) < p4 then (if p5 = (e2_0 q2) then (if q14 = (e3_3 (e2_0 q2)) then (1 : Int32) else (0 : Int32)) else (0 : Int32)) else (1 : Int32))
def Q2 (Z : State) (o0 : Addr) (o1 : Addr) (q2 : Int64) (k3 : ClassId) (p4 : Int32) (p5 : Int32) (p6 : Int32) (p7 : Int32) (p8 : Int32) (p9 : Int32) (p10 : Int32) (p11 : Int32) (p12 : Int32) (k13 : ClassId) (q14 : Int64) (q15 : Int64) (q16 : Int64) (q17 : Int64) (q18 : Int64) (q19 : Int64) (q20 : Int64) (q21 : Int64) (h0 : Heap) (n0 : Nat) (v : Option Value) (h : Heap) (L : List Loc) : Prop := v = some (.int (t2_0 q2 p4 p5 p6 p7 p8 p9 p10 p11 p12 q14 q15 q16 q17 q18 q19 q20 q21)) ∧ Fr n0 L ∧ h = h0
set_option maxRecDepth 65536 in
set_option maxHeartbeats 40000000 in
theorem rm2 (l : Launch) (Z : State) (a0 : Array Value) (hw : ∀ d ∈ tables_1, d.before a0 Z = true) (ws : List Jvm.Cond) (o0 : Addr) (o1 : Addr) (q2 : Int64) (k3 : ClassId) (p4 : Int32) (p5 : Int32) (p6 : Int32) (p7 : Int32) (p8 : Int32) (p9 : Int32) (p10 : Int32) (p11 : Int32) (p12 : Int32) (k13 : ClassId) (q14 : Int64) (q15 : Int64) (q16 : Int64) (q17 : Int64) (q18 : Int64) (q19 : Int64) (q20 : Int64) (q21 : Int64) (h0 : Heap) (n0 : Nat) (Z0 : n0 ≤ h0.size) (V_o1 : Arv Z h0 o1 k3 .byte p4 [(.int p5), (.int p6), (.int p7), (.int p8), (.int p9), (.int p10), (.int p11), (.int p12)] (.int (0 : Int32))) (V_o0 : Arv Z h0 o0 k13 .long p4 [(.long q14), (.long q15), (.long q16), (.long q17), (.long q18), (.long q19), (.long q20), (.long q21)] (.long (0 : Int64))) :
    MetFree l (⟨"com/example/skipscan/skipscan/ByteScanRepeatedPinLaw", "ok", "([J[BIJ)Z"⟩ : MethodName) (head1 (Jvm.Cond.code (⟨"com/example/skipscan/skipscan/ByteScanRepeatedPinLaw", "ok", "([J[BIJ)Z"⟩ : MethodName) method_3_code 6 (some .boolean) :: ws) ({ frames := 1, cells := 0, slots := 0, locals := 16 } : Room)) (fun a U => a = #[(.ref o0), (.ref o1), (.int (0 : Int32)), (.long q2)] ∧ Z.Warmed39 U.vm ∧ U.heap = h0) (fun _ _ _ _ _ => True) (fun _ U o U' => ∃ v L, o = .returned v ∧ Q2 Z o0 o1 q2 k3 p4 p5 p6 p7 p8 p9 p10 p11 p12 k13 q14 q15 q16 q17 q18 q19 q20 q21 h0 n0 v U'.heap L ∧ FrameEnd U o U' L ({ frames := 1, cells := 0, slots := 0, locals := 16 } : Room).cells ({ frames := 1, cells := 0, slots := 0, locals := 16 } : Room).slots) := by
  refine MetFree.of_bodySF (plainFor_of_name pn_1) hisR ?_
  intro p e s m args below meth c s₁ Bd hml0 hP hK
  obtain ⟨rfl, hZ, hh⟩ := hP
  have hx := Bd.exec
  have hby := Bd.bytes
  have hml : c.maxLocals = 6 := hml0
  have hown : s.vm.findClass "com/example/skipscan/skipscan/ByteScanRepeatedPinLaw" = some m.cls := findClass_of_methodNamed Bd.named
  have hnm := (name_of_methodNamed Bd.named Bd.method).1
  have X0 : Stand p l e ({ frames := 1, cells := 0, slots := 0, locals := 16 } : Room) s m #[(.ref o0), (.ref o1), (.int (0 : Int32)), (.long q2)] below meth c s₁ [] 0 0 := Stand.of_body Bd
  have e0 : s₁.heap = h0 := by rw [← hh, Bd.state]; rfl
  have N0 := Fr.nil n0
  refine OGl.start (ef_2 m o0 o1 (0 : Int32) q2) ?_
  show OGl _ _ _ _ s₁ (mkF m 0 #[.val (.ref o0), .val (.ref o1), .val (.int (0 : Int32)), .val (.long q2), .second, .unset] [])
  obtain ⟨cl98, Ar98, -, Sz98, Nn98, -, -⟩ := id V_o1
  refine OGl.go (fun t k => XS.iloadN X0.here hx rfl (hb hby d2_0) rfl (XS.aloadN X0.here hx rfl (hb hby d2_1) rfl rfl (own_len X0 hx (by rw [e0]; exact Ar98.1) (State.isArrayOf_alike hZ.alike Ar98.2.1) Sz98 Nn98 rfl rfl (hb hby d2_2) k))) ?_
  show OGl _ _ _ _ s₁ (mkF m 3 #[.val (.ref o0), .val (.ref o1), .val (.int (0 : Int32)), .val (.long q2), .second, .unset] [(.int p4), (.int (0 : Int32))])
  by_cases hc99 : (0 : Int32) < p4
  · refine OGl.go (fun t k => XS.icmpYes X0.here hx rfl (pc0 := 3) (pc' := 8) rfl (hb hby d2_3) rfl (tlt hc99).1 (by decide) (by decide) (XS.lloadN X0.here hx rfl (hb hby d2_8) rfl (XS.bipush X0.here hx rfl (hb hby d2_9) (XS.iloadN X0.here hx rfl (hb hby d2_11) rfl (XS.imul X0.here hx rfl (hb hby d2_12) rfl (XS.lushr X0.here hx rfl (hb hby d2_13) rfl (XS.l2i X0.here hx rfl (hb hby d2_14) rfl (XS.i2b X0.here hx rfl (hb hby d2_15) rfl k)))))))) ?_
    show OGl _ _ _ _ s₁ (mkF m 16 #[.val (.ref o0), .val (.ref o1), .val (.int (0 : Int32)), .val (.long q2), .second, .unset] [(.int ((((((q2.toUInt64 >>> ((0 : Int32) &&& 0x3f).toInt64.toUInt64).toInt64)).toInt32)).toInt8.toInt32))])
    obtain ⟨cl100, Ar100, -, Sz100, -, Ha100, -⟩ := id V_o1
    have hin100 : ¬ ((0 : Int32) < 0 ∨ cl100.slots.size ≤ ((0 : Int32)).toNatClampNeg) := inb_of Sz100 ⟨by decide, hc99⟩
    refine OGl.go (fun t k => XS.istore X0.here hx rfl (hb hby d2_16) rfl (l' := #[.val (.ref o0), .val (.ref o1), .val (.int (0 : Int32)), .val (.long q2), .second, .val (.int (e2_0 q2))]) rfl (XS.aloadN X0.here hx rfl (hb hby d2_18) rfl rfl (XS.iloadN X0.here hx rfl (hb hby d2_19) rfl (own_baload X0 hx (j := (0 : Int32)) (v := (.int p5)) (by rw [e0]; exact Ar100.1) (State.isArrayOf_alike hZ.alike Ar100.2.1) Ar100.2.2 hin100 (Has.at Ha100 hin100 rfl) rfl rfl (hb hby d2_20) (XS.iload X0.here hx rfl (hb hby d2_21) rfl k))))) ?_
    show OGl _ _ _ _ s₁ (mkF m 23 #[.val (.ref o0), .val (.ref o1), .val (.int (0 : Int32)), .val (.long q2), .second, .val (.int (e2_0 q2))] [(.int (e2_0 q2)), (.int p5)])
    by_cases hc101 : p5 = (e2_0 q2)
    · obtain ⟨cl102, Ar102, -, Sz102, -, Ha102, -⟩ := id V_o0
      have hin102 : ¬ ((0 : Int32) < 0 ∨ cl102.slots.size ≤ ((0 : Int32)).toNatClampNeg) := inb_of Sz102 ⟨by decide, hc99⟩
      refine OGl.go (fun t k => XS.icmpNo X0.here hx rfl (hb hby d2_23) rfl (teq hc101).2 (XS.aloadN X0.here hx rfl (hb hby d2_26) rfl rfl (XS.iloadN X0.here hx rfl (hb hby d2_27) rfl (own_laload X0 hx (j := (0 : Int32)) (v := (.long q14)) (by rw [e0]; exact Ar102.1) (State.isArrayOf_alike hZ.alike Ar102.2.1) Ar102.2.2 hin102 (Has.at Ha102 hin102 rfl) rfl rfl (hb hby d2_28) (XS.iload X0.here hx rfl (hb hby d2_29) rfl k))))) ?_
      show OGl _ _ _ _ s₁ (mkF m 31 #[.val (.ref o0), .val (.ref o1), .val (.int (0 : Int32)), .val (.long q2), .second, .val (.int (e2_0 q2))] [(.int (e2_0 q2)), (.long q14)])
      obtain ⟨_, _, ⟨T103, L103, kk103, n103⟩, -, X103, ⟨Lc103, hQ103, l103, y103, z103⟩, st103⟩ := Jvm.LawKit.callS X0 hx (y := (⟨"com/example/skipscan/skipscan/ByteScanRepeatedPinLaw", "rep", "(B)J"⟩ : MethodName)) hown (mvT hZ (hw _ (List.mem_of_getElem? (i := 12) rfl))) (mvT hZ (hw _ (List.mem_of_getElem? (i := 13) rfl))) (mvT hZ (hw _ (List.mem_of_getElem? (i := 9) rfl))) (mvT hZ (hw _ (List.mem_of_getElem? (i := 14) rfl))) (by decide) (backOf (W := 2) (rm3 l Z a0 hw [] (e2_0 q2) h0 n0 Z0 ) hZ (hw _ (List.mem_of_getElem? (i := 14) rfl)) (hw _ (List.mem_of_getElem? (i := 9) rfl)) (by decide) (by decide)) (g := (mkF m 31 #[.val (.ref o0), .val (.ref o1), .val (.int (0 : Int32)), .val (.long q2), .second, .val (.int (e2_0 q2))] [(.int (e2_0 q2)), (.long q14)])) rfl (by rw [hml]; rfl) (argsL := [(.int (e2_0 q2))]) (rest := [(.long q14)]) (lenOf pd_1 rfl) rfl (by show 2 * 0 + _ ≤ _; exact Nat.le_of_eq rfl) (hb hby d2_31) (fun _ _ => ⟨rfl, e0, (by decide : 0 + 0 ≤ _), (by decide : 0 + 0 ≤ _)⟩)
      dsimp only [Pt.U, Pt.locs, Pt.cells, Pt.slots] at X103 l103 y103 z103 st103 hQ103
      subst l103 y103 z103
      obtain ⟨rfl, Nq103, e103⟩ := hQ103
      have N103 := Fr.app N0 Nq103
      refine OGl.go st103 ?_
      show OGl _ _ _ _ T103 (mkF m 34 #[.val (.ref o0), .val (.ref o1), .val (.int (0 : Int32)), .val (.long q2), .second, .val (.int (e2_0 q2))] [(.long (e3_3 (e2_0 q2))), (.long q14)])
      refine OGl.go (fun t k => XS.lcmp X103.here hx rfl (hb hby d2_34) rfl k) ?_
      show OGl _ _ _ _ T103 (mkF m 35 #[.val (.ref o0), .val (.ref o1), .val (.int (0 : Int32)), .val (.long q2), .second, .val (.int (e2_0 q2))] [(.int (lcmpW q14 (e3_3 (e2_0 q2))))])
      by_cases hc104 : q14 = (e3_3 (e2_0 q2))
      · refine OGl.go (fun t k => XS.ifNo X103.here hx rfl (hb hby d2_35) rfl (own_teqL hc104).2 (XS.iconst X103.here hx rfl (hb hby d2_38) (XS.goto X103.here hx rfl (pc0 := 39) (pc' := 43) rfl (hb hby d2_39) (by decide) (by decide) k))) ?_
        show OGl _ _ _ _ T103 (mkF m 43 #[.val (.ref o0), .val (.ref o1), .val (.int (0 : Int32)), .val (.long q2), .second, .val (.int (e2_0 q2))] [(.int (1 : Int32))])
        obtain ⟨fs, hr, hrun, hended, hW, hsame⟩ := X103.leave (v := some (.int (1 : Int32))) (fun h => by rw [Bd.returns] at h; cases h)
        refine ⟨_, _, retN X103 hx (t := .boolean) Bd.returns (by simp) (hb hby d2_43) hr, hrun, hended, _, _, rfl, ?_, ⟨_, rfl⟩, hW, hsame.mono (by decide) (by decide)⟩
        have hv105 : (t2_0 q2 p4 p5 p6 p7 p8 p9 p10 p11 p12 q14 q15 q16 q17 q18 q19 q20 q21) = (1 : Int32) := by unfold t2_0; rw [if_pos hc99, if_pos hc101, if_pos hc104]
        show Q2 Z o0 o1 q2 k3 p4 p5 p6 p7 p8 p9 p10 p11 p12 k13 q14 q15 q16 q17 q18 q19 q20 q21 h0 n0 _ T103.heap _
        rw [e103]
        exact ⟨(by rw [hv105]), N103, rfl⟩
      · refine OGl.go (fun t k => XS.ifYes X103.here hx rfl (pc0 := 35) (pc' := 42) rfl (hb hby d2_35) rfl (own_feqL hc104).2 (by decide) (by decide) (XS.iconst X103.here hx rfl (hb hby d2_42) k)) ?_
        show OGl _ _ _ _ T103 (mkF m 43 #[.val (.ref o0), .val (.ref o1), .val (.int (0 : Int32)), .val (.long q2), .second, .val (.int (e2_0 q2))] [(.int (0 : Int32))])
        obtain ⟨fs, hr, hrun, hended, hW, hsame⟩ := X103.leave (v := some (.int (0 : Int32))) (fun h => by rw [Bd.returns] at h; cases h)
        refine ⟨_, _, retN X103 hx (t := .boolean) Bd.returns (by simp) (hb hby d2_43) hr, hrun, hended, _, _, rfl, ?_, ⟨_, rfl⟩, hW, hsame.mono (by decide) (by decide)⟩
        have hv106 : (t2_0 q2 p4 p5 p6 p7 p8 p9 p10 p11 p12 q14 q15 q16 q17 q18 q19 q20 q21) = (0 : Int32) := by unfold t2_0; rw [if_pos hc99, if_pos hc101, if_neg hc104]
        show Q2 Z o0 o1 q2 k3 p4 p5 p6 p7 p8 p9 p10 p11 p12 k13 q14 q15 q16 q17 q18 q19 q20 q21 h0 n0 _ T103.heap _
        rw [e103]
        exact ⟨(by rw [hv106]), N103, rfl⟩
    · refine OGl.go (fun t k => XS.icmpYes X0.here hx rfl (pc0 := 23) (pc' := 42) rfl (hb hby d2_23) rfl (feq hc101).2 (by decide) (by decide) (XS.iconst X0.here hx rfl (hb hby d2_42) k)) ?_
      show OGl _ _ _ _ s₁ (mkF m 43 #[.val (.ref o0), .val (.ref o1), .val (.int (0 : Int32)), .val (.long q2), .second, .val (.int (e2_0 q2))] [(.int (0 : Int32))])
      obtain ⟨fs, hr, hrun, hended, hW, hsame⟩ := X0.leave (v := some (.int (0 : Int32))) (fun h => by rw [Bd.returns] at h; cases h)
      refine ⟨_, _, retN X0 hx (t := .boolean) Bd.returns (by simp) (hb hby d2_43) hr, hrun, hended, _, _, rfl, ?_, ⟨_, rfl⟩, hW, hsame.mono (by decide) (by decide)⟩
      have hv107 : (t2_0 q2 p4 p5 p6 p7 p8 p9 p10 p11 p12 q14 q15 q16 q17 q18 q19 q20 q21) = (0 : Int32) := by unfold t2_0; rw [if_pos hc99, if_neg hc101]
      show Q2 Z o0 o1 q2 k3 p4 p5 p6 p7 p8 p9 p10 p11 p12 k13 q14 q15 q16 q17 q18 q19 q20 q21 h0 n0 _ s₁.heap _
      rw [e0]
      exact ⟨(by rw [hv107]), N0, rfl⟩
  · refine OGl.go (fun t k => XS.icmpNo X0.here hx rfl (hb hby d2_3) rfl (flt hc99).1 (XS.iconst X0.here hx rfl (hb hby d2_6) k)) ?_
    show OGl _ _ _ _ s₁ (mkF m 7 #[.val (.ref o0), .val (.ref o1), .val (.int (0 : Int32)), .val (.long q2), .second, .unset] [(.int (1 : Int32))])
    obtain ⟨fs, hr, hrun, hended, hW, hsame⟩ := X0.leave (v := some (.int (1 : Int32))) (fun h => by rw [Bd.returns] at h; cases h)
    refine ⟨_, _, retN X0 hx (t := .boolean) Bd.returns (by simp) (hb hby d2_7) hr, hrun, hended, _, _, rfl, ?_, ⟨_, rfl⟩, hW, hsame.mono (by decide) (by decide)⟩
    have hv108 : (t2_0 q2 p4 p5 p6 p7 p8 p9 p10 p11 p12 q14 q15 q16 q17 q18 q19 q20 q21) = (1 : Int32) := by unfold t2_0; rw [if_neg hc99]
    show Q2 Z o0 o1 q2 k3 p4 p5 p6 p7 p8 p9 p10 p11 p12 k13 q14 q15 q16 q17 q18 q19 q20 q21 h0 n0 _ s₁.heap _
    rw [e0]
    exact ⟨(by rw [hv108]), N0, rfl⟩
theorem pd_2 : parseMethodDescriptor "([J[BIJ)Z" = some ⟨[(.array .long), (.array .byte), .int, .long], some .boolean⟩ := by decide +kernel
def e2a_0 (q2 : Int64) : Int32 := ((((((q2.toUInt64 >>> ((8 : Int32) &&& 0x3f).toInt64.toUInt64).toInt64)).toInt32)).toInt8.toInt32)
def t2a_0 (q2 : Int64) (p4 : Int32) (p5 : Int32) (p6 : Int32) (p7 : Int32) (p8 : Int32) (p9 : Int32) (p10 : Int32) (p11 : Int32) (p12 : Int32) (q14 : Int64) (q15 : Int64) (q16 : Int64) (q17 : Int64) (q18 : Int64) (q19 : Int64) (q20 : Int64) (q21 : Int64) : Int32 := (if (1 : Int32) < p4 then (if p6 = (e2a_0 q2) then (if q15 = (e3_3 (e2a_0 q2)) then (1 : Int32) else (0 : Int32)) else (0 : Int32)) else (1 : Int32))
def Q2a (Z : State) (o0 : Addr) (o1 : Addr) (q2 : Int64) (k3 : ClassId) (p4 : Int32) (p5 : Int32) (p6 : Int32) (p7 : Int32) (p8 : Int32) (p9 : Int32) (p10 : Int32) (p11 : Int32) (p12 : Int32) (k13 : ClassId) (q14 : Int64) (q15 : Int64) (q16 : Int64) (q17 : Int64) (q18 : Int64) (q19 : Int64) (q20 : Int64) (q21 : Int64) (h0 : Heap) (n0 : Nat) (v : Option Value) (h : Heap) (L : List Loc) : Prop := v = some (.int (t2a_0 q2 p4 p5 p6 p7 p8 p9 p10 p11 p12 q14 q15 q16 q17 q18 q19 q20 q21)) ∧ Fr n0 L ∧ h = h0
set_option maxRecDepth 65536 in
set_option maxHeartbeats 40000000 in
theorem rm2a (l : Launch) (Z : State) (a0 : Array Value) (hw : ∀ d ∈ tables_1, d.before a0 Z = true) (ws : List Jvm.Cond) (o0 : Addr) (o1 : Addr) (q2 : Int64) (k3 : ClassId) (p4 : Int32) (p5 : Int32) (p6 : Int32) (p7 : Int32) (p8 : Int32) (p9 : Int32) (p10 : Int32) (p11 : Int32) (p12 : Int32) (k13 : ClassId) (q14 : Int64) (q15 : Int64) (q16 : Int64) (q17 : Int64) (q18 : Int64) (q19 : Int64) (q20 : Int64) (q21 : Int64) (h0 : Heap) (n0 : Nat) (Z0 : n0 ≤ h0.size) (V_o1 : Arv Z h0 o1 k3 .byte p4 [(.int p5), (.int p6), (.int p7), (.int p8), (.int p9), (.int p10), (.int p11), (.int p12)] (.int (0 : Int32))) (V_o0 : Arv Z h0 o0 k13 .long p4 [(.long q14), (.long q15), (.long q16), (.long q17), (.long q18), (.long q19), (.long q20), (.long q21)] (.long (0 : Int64))) :
    MetFree l (⟨"com/example/skipscan/skipscan/ByteScanRepeatedPinLaw", "ok", "([J[BIJ)Z"⟩ : MethodName) (head1 (Jvm.Cond.code (⟨"com/example/skipscan/skipscan/ByteScanRepeatedPinLaw", "ok", "([J[BIJ)Z"⟩ : MethodName) method_3_code 6 (some .boolean) :: ws) ({ frames := 1, cells := 0, slots := 0, locals := 16 } : Room)) (fun a U => a = #[(.ref o0), (.ref o1), (.int (1 : Int32)), (.long q2)] ∧ Z.Warmed39 U.vm ∧ U.heap = h0) (fun _ _ _ _ _ => True) (fun _ U o U' => ∃ v L, o = .returned v ∧ Q2a Z o0 o1 q2 k3 p4 p5 p6 p7 p8 p9 p10 p11 p12 k13 q14 q15 q16 q17 q18 q19 q20 q21 h0 n0 v U'.heap L ∧ FrameEnd U o U' L ({ frames := 1, cells := 0, slots := 0, locals := 16 } : Room).cells ({ frames := 1, cells := 0, slots := 0, locals := 16 } : Room).slots) := by
  refine MetFree.of_bodySF (plainFor_of_name pn_1) hisR ?_
  intro p e s m args below meth c s₁ Bd hml0 hP hK
  obtain ⟨rfl, hZ, hh⟩ := hP
  have hx := Bd.exec
  have hby := Bd.bytes
  have hml : c.maxLocals = 6 := hml0
  have hown : s.vm.findClass "com/example/skipscan/skipscan/ByteScanRepeatedPinLaw" = some m.cls := findClass_of_methodNamed Bd.named
  have hnm := (name_of_methodNamed Bd.named Bd.method).1
  have X0 : Stand p l e ({ frames := 1, cells := 0, slots := 0, locals := 16 } : Room) s m #[(.ref o0), (.ref o1), (.int (1 : Int32)), (.long q2)] below meth c s₁ [] 0 0 := Stand.of_body Bd
  have e0 : s₁.heap = h0 := by rw [← hh, Bd.state]; rfl
  have N0 := Fr.nil n0
  refine OGl.start (ef_2 m o0 o1 (1 : Int32) q2) ?_
  show OGl _ _ _ _ s₁ (mkF m 0 #[.val (.ref o0), .val (.ref o1), .val (.int (1 : Int32)), .val (.long q2), .second, .unset] [])
  obtain ⟨cl112, Ar112, -, Sz112, Nn112, -, -⟩ := id V_o1
  refine OGl.go (fun t k => XS.iloadN X0.here hx rfl (hb hby d2_0) rfl (XS.aloadN X0.here hx rfl (hb hby d2_1) rfl rfl (own_len X0 hx (by rw [e0]; exact Ar112.1) (State.isArrayOf_alike hZ.alike Ar112.2.1) Sz112 Nn112 rfl rfl (hb hby d2_2) k))) ?_
  show OGl _ _ _ _ s₁ (mkF m 3 #[.val (.ref o0), .val (.ref o1), .val (.int (1 : Int32)), .val (.long q2), .second, .unset] [(.int p4), (.int (1 : Int32))])
  by_cases hc113 : (1 : Int32) < p4
  · refine OGl.go (fun t k => XS.icmpYes X0.here hx rfl (pc0 := 3) (pc' := 8) rfl (hb hby d2_3) rfl (tlt hc113).1 (by decide) (by decide) (XS.lloadN X0.here hx rfl (hb hby d2_8) rfl (XS.bipush X0.here hx rfl (hb hby d2_9) (XS.iloadN X0.here hx rfl (hb hby d2_11) rfl (XS.imul X0.here hx rfl (hb hby d2_12) rfl (XS.lushr X0.here hx rfl (hb hby d2_13) rfl (XS.l2i X0.here hx rfl (hb hby d2_14) rfl (XS.i2b X0.here hx rfl (hb hby d2_15) rfl k)))))))) ?_
    show OGl _ _ _ _ s₁ (mkF m 16 #[.val (.ref o0), .val (.ref o1), .val (.int (1 : Int32)), .val (.long q2), .second, .unset] [(.int ((((((q2.toUInt64 >>> ((8 : Int32) &&& 0x3f).toInt64.toUInt64).toInt64)).toInt32)).toInt8.toInt32))])
    obtain ⟨cl114, Ar114, -, Sz114, -, Ha114, -⟩ := id V_o1
    have hin114 : ¬ ((1 : Int32) < 0 ∨ cl114.slots.size ≤ ((1 : Int32)).toNatClampNeg) := inb_of Sz114 ⟨by decide, hc113⟩
    refine OGl.go (fun t k => XS.istore X0.here hx rfl (hb hby d2_16) rfl (l' := #[.val (.ref o0), .val (.ref o1), .val (.int (1 : Int32)), .val (.long q2), .second, .val (.int (e2a_0 q2))]) rfl (XS.aloadN X0.here hx rfl (hb hby d2_18) rfl rfl (XS.iloadN X0.here hx rfl (hb hby d2_19) rfl (own_baload X0 hx (j := (1 : Int32)) (v := (.int p6)) (by rw [e0]; exact Ar114.1) (State.isArrayOf_alike hZ.alike Ar114.2.1) Ar114.2.2 hin114 (Has.at Ha114 hin114 rfl) rfl rfl (hb hby d2_20) (XS.iload X0.here hx rfl (hb hby d2_21) rfl k))))) ?_
    show OGl _ _ _ _ s₁ (mkF m 23 #[.val (.ref o0), .val (.ref o1), .val (.int (1 : Int32)), .val (.long q2), .second, .val (.int (e2a_0 q2))] [(.int (e2a_0 q2)), (.int p6)])
    by_cases hc115 : p6 = (e2a_0 q2)
    · obtain ⟨cl116, Ar116, -, Sz116, -, Ha116, -⟩ := id V_o0
      have hin116 : ¬ ((1 : Int32) < 0 ∨ cl116.slots.size ≤ ((1 : Int32)).toNatClampNeg) := inb_of Sz116 ⟨by decide, hc113⟩
      refine OGl.go (fun t k => XS.icmpNo X0.here hx rfl (hb hby d2_23) rfl (teq hc115).2 (XS.aloadN X0.here hx rfl (hb hby d2_26) rfl rfl (XS.iloadN X0.here hx rfl (hb hby d2_27) rfl (own_laload X0 hx (j := (1 : Int32)) (v := (.long q15)) (by rw [e0]; exact Ar116.1) (State.isArrayOf_alike hZ.alike Ar116.2.1) Ar116.2.2 hin116 (Has.at Ha116 hin116 rfl) rfl rfl (hb hby d2_28) (XS.iload X0.here hx rfl (hb hby d2_29) rfl k))))) ?_
      show OGl _ _ _ _ s₁ (mkF m 31 #[.val (.ref o0), .val (.ref o1), .val (.int (1 : Int32)), .val (.long q2), .second, .val (.int (e2a_0 q2))] [(.int (e2a_0 q2)), (.long q15)])
      obtain ⟨_, _, ⟨T117, L117, kk117, n117⟩, -, X117, ⟨Lc117, hQ117, l117, y117, z117⟩, st117⟩ := Jvm.LawKit.callS X0 hx (y := (⟨"com/example/skipscan/skipscan/ByteScanRepeatedPinLaw", "rep", "(B)J"⟩ : MethodName)) hown (mvT hZ (hw _ (List.mem_of_getElem? (i := 12) rfl))) (mvT hZ (hw _ (List.mem_of_getElem? (i := 13) rfl))) (mvT hZ (hw _ (List.mem_of_getElem? (i := 9) rfl))) (mvT hZ (hw _ (List.mem_of_getElem? (i := 14) rfl))) (by decide) (backOf (W := 2) (rm3 l Z a0 hw [] (e2a_0 q2) h0 n0 Z0 ) hZ (hw _ (List.mem_of_getElem? (i := 14) rfl)) (hw _ (List.mem_of_getElem? (i := 9) rfl)) (by decide) (by decide)) (g := (mkF m 31 #[.val (.ref o0), .val (.ref o1), .val (.int (1 : Int32)), .val (.long q2), .second, .val (.int (e2a_0 q2))] [(.int (e2a_0 q2)), (.long q15)])) rfl (by rw [hml]; rfl) (argsL := [(.int (e2a_0 q2))]) (rest := [(.long q15)]) (lenOf pd_1 rfl) rfl (by show 2 * 0 + _ ≤ _; exact Nat.le_of_eq rfl) (hb hby d2_31) (fun _ _ => ⟨rfl, e0, (by decide : 0 + 0 ≤ _), (by decide : 0 + 0 ≤ _)⟩)
      dsimp only [Pt.U, Pt.locs, Pt.cells, Pt.slots] at X117 l117 y117 z117 st117 hQ117
      subst l117 y117 z117
      obtain ⟨rfl, Nq117, e117⟩ := hQ117
      have N117 := Fr.app N0 Nq117
      refine OGl.go st117 ?_
      show OGl _ _ _ _ T117 (mkF m 34 #[.val (.ref o0), .val (.ref o1), .val (.int (1 : Int32)), .val (.long q2), .second, .val (.int (e2a_0 q2))] [(.long (e3_3 (e2a_0 q2))), (.long q15)])
      refine OGl.go (fun t k => XS.lcmp X117.here hx rfl (hb hby d2_34) rfl k) ?_
      show OGl _ _ _ _ T117 (mkF m 35 #[.val (.ref o0), .val (.ref o1), .val (.int (1 : Int32)), .val (.long q2), .second, .val (.int (e2a_0 q2))] [(.int (lcmpW q15 (e3_3 (e2a_0 q2))))])
      by_cases hc118 : q15 = (e3_3 (e2a_0 q2))
      · refine OGl.go (fun t k => XS.ifNo X117.here hx rfl (hb hby d2_35) rfl (own_teqL hc118).2 (XS.iconst X117.here hx rfl (hb hby d2_38) (XS.goto X117.here hx rfl (pc0 := 39) (pc' := 43) rfl (hb hby d2_39) (by decide) (by decide) k))) ?_
        show OGl _ _ _ _ T117 (mkF m 43 #[.val (.ref o0), .val (.ref o1), .val (.int (1 : Int32)), .val (.long q2), .second, .val (.int (e2a_0 q2))] [(.int (1 : Int32))])
        obtain ⟨fs, hr, hrun, hended, hW, hsame⟩ := X117.leave (v := some (.int (1 : Int32))) (fun h => by rw [Bd.returns] at h; cases h)
        refine ⟨_, _, retN X117 hx (t := .boolean) Bd.returns (by simp) (hb hby d2_43) hr, hrun, hended, _, _, rfl, ?_, ⟨_, rfl⟩, hW, hsame.mono (by decide) (by decide)⟩
        have hv119 : (t2a_0 q2 p4 p5 p6 p7 p8 p9 p10 p11 p12 q14 q15 q16 q17 q18 q19 q20 q21) = (1 : Int32) := by unfold t2a_0; rw [if_pos hc113, if_pos hc115, if_pos hc118]
        show Q2a Z o0 o1 q2 k3 p4 p5 p6 p7 p8 p9 p10 p11 p12 k13 q14 q15 q16 q17 q18 q19 q20 q21 h0 n0 _ T117.heap _
        rw [e117]
        exact ⟨(by rw [hv119]), N117, rfl⟩
      · refine OGl.go (fun t k => XS.ifYes X117.here hx rfl (pc0 := 35) (pc' := 42) rfl (hb hby d2_35) rfl (own_feqL hc118).2 (by decide) (by decide) (XS.iconst X117.here hx rfl (hb hby d2_42) k)) ?_
        show OGl _ _ _ _ T117 (mkF m 43 #[.val (.ref o0), .val (.ref o1), .val (.int (1 : Int32)), .val (.long q2), .second, .val (.int (e2a_0 q2))] [(.int (0 : Int32))])
        obtain ⟨fs, hr, hrun, hended, hW, hsame⟩ := X117.leave (v := some (.int (0 : Int32))) (fun h => by rw [Bd.returns] at h; cases h)
        refine ⟨_, _, retN X117 hx (t := .boolean) Bd.returns (by simp) (hb hby d2_43) hr, hrun, hended, _, _, rfl, ?_, ⟨_, rfl⟩, hW, hsame.mono (by decide) (by decide)⟩
        have hv120 : (t2a_0 q2 p4 p5 p6 p7 p8 p9 p10 p11 p12 q14 q15 q16 q17 q18 q19 q20 q21) = (0 : Int32) := by unfold t2a_0; rw [if_pos hc113, if_pos hc115, if_neg hc118]
        show Q2a Z o0 o1 q2 k3 p4 p5 p6 p7 p8 p9 p10 p11 p12 k13 q14 q15 q16 q17 q18 q19 q20 q21 h0 n0 _ T117.heap _
        rw [e117]
        exact ⟨(by rw [hv120]), N117, rfl⟩
    · refine OGl.go (fun t k => XS.icmpYes X0.here hx rfl (pc0 := 23) (pc' := 42) rfl (hb hby d2_23) rfl (feq hc115).2 (by decide) (by decide) (XS.iconst X0.here hx rfl (hb hby d2_42) k)) ?_
      show OGl _ _ _ _ s₁ (mkF m 43 #[.val (.ref o0), .val (.ref o1), .val (.int (1 : Int32)), .val (.long q2), .second, .val (.int (e2a_0 q2))] [(.int (0 : Int32))])
      obtain ⟨fs, hr, hrun, hended, hW, hsame⟩ := X0.leave (v := some (.int (0 : Int32))) (fun h => by rw [Bd.returns] at h; cases h)
      refine ⟨_, _, retN X0 hx (t := .boolean) Bd.returns (by simp) (hb hby d2_43) hr, hrun, hended, _, _, rfl, ?_, ⟨_, rfl⟩, hW, hsame.mono (by decide) (by decide)⟩
      have hv121 : (t2a_0 q2 p4 p5 p6 p7 p8 p9 p10 p11 p12 q14 q15 q16 q17 q18 q19 q20 q21) = (0 : Int32) := by unfold t2a_0; rw [if_pos hc113, if_neg hc115]
      show Q2a Z o0 o1 q2 k3 p4 p5 p6 p7 p8 p9 p10 p11 p12 k13 q14 q15 q16 q17 q18 q19 q20 q21 h0 n0 _ s₁.heap _
      rw [e0]
      exact ⟨(by rw [hv121]), N0, rfl⟩
  · refine OGl.go (fun t k => XS.icmpNo X0.here hx rfl (hb hby d2_3) rfl (flt hc113).1 (XS.iconst X0.here hx rfl (hb hby d2_6) k)) ?_
    show OGl _ _ _ _ s₁ (mkF m 7 #[.val (.ref o0), .val (.ref o1), .val (.int (1 : Int32)), .val (.long q2), .second, .unset] [(.int (1 : Int32))])
    obtain ⟨fs, hr, hrun, hended, hW, hsame⟩ := X0.leave (v := some (.int (1 : Int32))) (fun h => by rw [Bd.returns] at h; cases h)
    refine ⟨_, _, retN X0 hx (t := .boolean) Bd.returns (by simp) (hb hby d2_7) hr, hrun, hended, _, _, rfl, ?_, ⟨_, rfl⟩, hW, hsame.mono (by decide) (by decide)⟩
    have hv122 : (t2a_0 q2 p4 p5 p6 p7 p8 p9 p10 p11 p12 q14 q15 q16 q17 q18 q19 q20 q21) = (1 : Int32) := by unfold t2a_0; rw [if_neg hc113]
    show Q2a Z o0 o1 q2 k3 p4 p5 p6 p7 p8 p9 p10 p11 p12 k13 q14 q15 q16 q17 q18 q19 q20 q21 h0 n0 _ s₁.heap _
    rw [e0]
    exact ⟨(by rw [hv122]), N0, rfl⟩
def e2b_0 (q2 : Int64) : Int32 := ((((((q2.toUInt64 >>> ((16 : Int32) &&& 0x3f).toInt64.toUInt64).toInt64)).toInt32)).toInt8.toInt32)
def t2b_0 (q2 : Int64) (p4 : Int32) (p5 : Int32) (p6 : Int32) (p7 : Int32) (p8 : Int32) (p9 : Int32) (p10 : Int32) (p11 : Int32) (p12 : Int32) (q14 : Int64) (q15 : Int64) (q16 : Int64) (q17 : Int64) (q18 : Int64) (q19 : Int64) (q20 : Int64) (q21 : Int64) : Int32 := (if (2 : Int32) < p4 then (if p7 = (e2b_0 q2) then (if q16 = (e3_3 (e2b_0 q2)) then (1 : Int32) else (0 : Int32)) else (0 : Int32)) else (1 : Int32))
def Q2b (Z : State) (o0 : Addr) (o1 : Addr) (q2 : Int64) (k3 : ClassId) (p4 : Int32) (p5 : Int32) (p6 : Int32) (p7 : Int32) (p8 : Int32) (p9 : Int32) (p10 : Int32) (p11 : Int32) (p12 : Int32) (k13 : ClassId) (q14 : Int64) (q15 : Int64) (q16 : Int64) (q17 : Int64) (q18 : Int64) (q19 : Int64) (q20 : Int64) (q21 : Int64) (h0 : Heap) (n0 : Nat) (v : Option Value) (h : Heap) (L : List Loc) : Prop := v = some (.int (t2b_0 q2 p4 p5 p6 p7 p8 p9 p10 p11 p12 q14 q15 q16 q17 q18 q19 q20 q21)) ∧ Fr n0 L ∧ h = h0
set_option maxRecDepth 65536 in
set_option maxHeartbeats 40000000 in
theorem rm2b (l : Launch) (Z : State) (a0 : Array Value) (hw : ∀ d ∈ tables_1, d.before a0 Z = true) (ws : List Jvm.Cond) (o0 : Addr) (o1 : Addr) (q2 : Int64) (k3 : ClassId) (p4 : Int32) (p5 : Int32) (p6 : Int32) (p7 : Int32) (p8 : Int32) (p9 : Int32) (p10 : Int32) (p11 : Int32) (p12 : Int32) (k13 : ClassId) (q14 : Int64) (q15 : Int64) (q16 : Int64) (q17 : Int64) (q18 : Int64) (q19 : Int64) (q20 : Int64) (q21 : Int64) (h0 : Heap) (n0 : Nat) (Z0 : n0 ≤ h0.size) (V_o1 : Arv Z h0 o1 k3 .byte p4 [(.int p5), (.int p6), (.int p7), (.int p8), (.int p9), (.int p10), (.int p11), (.int p12)] (.int (0 : Int32))) (V_o0 : Arv Z h0 o0 k13 .long p4 [(.long q14), (.long q15), (.long q16), (.long q17), (.long q18), (.long q19), (.long q20), (.long q21)] (.long (0 : Int64))) :
    MetFree l (⟨"com/example/skipscan/skipscan/ByteScanRepeatedPinLaw", "ok", "([J[BIJ)Z"⟩ : MethodName) (head1 (Jvm.Cond.code (⟨"com/example/skipscan/skipscan/ByteScanRepeatedPinLaw", "ok", "([J[BIJ)Z"⟩ : MethodName) method_3_code 6 (some .boolean) :: ws) ({ frames := 1, cells := 0, slots := 0, locals := 16 } : Room)) (fun a U => a = #[(.ref o0), (.ref o1), (.int (2 : Int32)), (.long q2)] ∧ Z.Warmed39 U.vm ∧ U.heap = h0) (fun _ _ _ _ _ => True) (fun _ U o U' => ∃ v L, o = .returned v ∧ Q2b Z o0 o1 q2 k3 p4 p5 p6 p7 p8 p9 p10 p11 p12 k13 q14 q15 q16 q17 q18 q19 q20 q21 h0 n0 v U'.heap L ∧ FrameEnd U o U' L ({ frames := 1, cells := 0, slots := 0, locals := 16 } : Room).cells ({ frames := 1, cells := 0, slots := 0, locals := 16 } : Room).slots) := by
  refine MetFree.of_bodySF (plainFor_of_name pn_1) hisR ?_
  intro p e s m args below meth c s₁ Bd hml0 hP hK
  obtain ⟨rfl, hZ, hh⟩ := hP
  have hx := Bd.exec
  have hby := Bd.bytes
  have hml : c.maxLocals = 6 := hml0
  have hown : s.vm.findClass "com/example/skipscan/skipscan/ByteScanRepeatedPinLaw" = some m.cls := findClass_of_methodNamed Bd.named
  have hnm := (name_of_methodNamed Bd.named Bd.method).1
  have X0 : Stand p l e ({ frames := 1, cells := 0, slots := 0, locals := 16 } : Room) s m #[(.ref o0), (.ref o1), (.int (2 : Int32)), (.long q2)] below meth c s₁ [] 0 0 := Stand.of_body Bd
  have e0 : s₁.heap = h0 := by rw [← hh, Bd.state]; rfl
  have N0 := Fr.nil n0
  refine OGl.start (ef_2 m o0 o1 (2 : Int32) q2) ?_
  show OGl _ _ _ _ s₁ (mkF m 0 #[.val (.ref o0), .val (.ref o1), .val (.int (2 : Int32)), .val (.long q2), .second, .unset] [])
  obtain ⟨cl125, Ar125, -, Sz125, Nn125, -, -⟩ := id V_o1
  refine OGl.go (fun t k => XS.iloadN X0.here hx rfl (hb hby d2_0) rfl (XS.aloadN X0.here hx rfl (hb hby d2_1) rfl rfl (own_len X0 hx (by rw [e0]; exact Ar125.1) (State.isArrayOf_alike hZ.alike Ar125.2.1) Sz125 Nn125 rfl rfl (hb hby d2_2) k))) ?_
  show OGl _ _ _ _ s₁ (mkF m 3 #[.val (.ref o0), .val (.ref o1), .val (.int (2 : Int32)), .val (.long q2), .second, .unset] [(.int p4), (.int (2 : Int32))])
  by_cases hc126 : (2 : Int32) < p4
  · refine OGl.go (fun t k => XS.icmpYes X0.here hx rfl (pc0 := 3) (pc' := 8) rfl (hb hby d2_3) rfl (tlt hc126).1 (by decide) (by decide) (XS.lloadN X0.here hx rfl (hb hby d2_8) rfl (XS.bipush X0.here hx rfl (hb hby d2_9) (XS.iloadN X0.here hx rfl (hb hby d2_11) rfl (XS.imul X0.here hx rfl (hb hby d2_12) rfl (XS.lushr X0.here hx rfl (hb hby d2_13) rfl (XS.l2i X0.here hx rfl (hb hby d2_14) rfl (XS.i2b X0.here hx rfl (hb hby d2_15) rfl k)))))))) ?_
    show OGl _ _ _ _ s₁ (mkF m 16 #[.val (.ref o0), .val (.ref o1), .val (.int (2 : Int32)), .val (.long q2), .second, .unset] [(.int ((((((q2.toUInt64 >>> ((16 : Int32) &&& 0x3f).toInt64.toUInt64).toInt64)).toInt32)).toInt8.toInt32))])
    obtain ⟨cl127, Ar127, -, Sz127, -, Ha127, -⟩ := id V_o1
    have hin127 : ¬ ((2 : Int32) < 0 ∨ cl127.slots.size ≤ ((2 : Int32)).toNatClampNeg) := inb_of Sz127 ⟨by decide, hc126⟩
    refine OGl.go (fun t k => XS.istore X0.here hx rfl (hb hby d2_16) rfl (l' := #[.val (.ref o0), .val (.ref o1), .val (.int (2 : Int32)), .val (.long q2), .second, .val (.int (e2b_0 q2))]) rfl (XS.aloadN X0.here hx rfl (hb hby d2_18) rfl rfl (XS.iloadN X0.here hx rfl (hb hby d2_19) rfl (own_baload X0 hx (j := (2 : Int32)) (v := (.int p7)) (by rw [e0]; exact Ar127.1) (State.isArrayOf_alike hZ.alike Ar127.2.1) Ar127.2.2 hin127 (Has.at Ha127 hin127 rfl) rfl rfl (hb hby d2_20) (XS.iload X0.here hx rfl (hb hby d2_21) rfl k))))) ?_
    show OGl _ _ _ _ s₁ (mkF m 23 #[.val (.ref o0), .val (.ref o1), .val (.int (2 : Int32)), .val (.long q2), .second, .val (.int (e2b_0 q2))] [(.int (e2b_0 q2)), (.int p7)])
    by_cases hc128 : p7 = (e2b_0 q2)
    · obtain ⟨cl129, Ar129, -, Sz129, -, Ha129, -⟩ := id V_o0
      have hin129 : ¬ ((2 : Int32) < 0 ∨ cl129.slots.size ≤ ((2 : Int32)).toNatClampNeg) := inb_of Sz129 ⟨by decide, hc126⟩
      refine OGl.go (fun t k => XS.icmpNo X0.here hx rfl (hb hby d2_23) rfl (teq hc128).2 (XS.aloadN X0.here hx rfl (hb hby d2_26) rfl rfl (XS.iloadN X0.here hx rfl (hb hby d2_27) rfl (own_laload X0 hx (j := (2 : Int32)) (v := (.long q16)) (by rw [e0]; exact Ar129.1) (State.isArrayOf_alike hZ.alike Ar129.2.1) Ar129.2.2 hin129 (Has.at Ha129 hin129 rfl) rfl rfl (hb hby d2_28) (XS.iload X0.here hx rfl (hb hby d2_29) rfl k))))) ?_
      show OGl _ _ _ _ s₁ (mkF m 31 #[.val (.ref o0), .val (.ref o1), .val (.int (2 : Int32)), .val (.long q2), .second, .val (.int (e2b_0 q2))] [(.int (e2b_0 q2)), (.long q16)])
      obtain ⟨_, _, ⟨T130, L130, kk130, n130⟩, -, X130, ⟨Lc130, hQ130, l130, y130, z130⟩, st130⟩ := Jvm.LawKit.callS X0 hx (y := (⟨"com/example/skipscan/skipscan/ByteScanRepeatedPinLaw", "rep", "(B)J"⟩ : MethodName)) hown (mvT hZ (hw _ (List.mem_of_getElem? (i := 12) rfl))) (mvT hZ (hw _ (List.mem_of_getElem? (i := 13) rfl))) (mvT hZ (hw _ (List.mem_of_getElem? (i := 9) rfl))) (mvT hZ (hw _ (List.mem_of_getElem? (i := 14) rfl))) (by decide) (backOf (W := 2) (rm3 l Z a0 hw [] (e2b_0 q2) h0 n0 Z0 ) hZ (hw _ (List.mem_of_getElem? (i := 14) rfl)) (hw _ (List.mem_of_getElem? (i := 9) rfl)) (by decide) (by decide)) (g := (mkF m 31 #[.val (.ref o0), .val (.ref o1), .val (.int (2 : Int32)), .val (.long q2), .second, .val (.int (e2b_0 q2))] [(.int (e2b_0 q2)), (.long q16)])) rfl (by rw [hml]; rfl) (argsL := [(.int (e2b_0 q2))]) (rest := [(.long q16)]) (lenOf pd_1 rfl) rfl (by show 2 * 0 + _ ≤ _; exact Nat.le_of_eq rfl) (hb hby d2_31) (fun _ _ => ⟨rfl, e0, (by decide : 0 + 0 ≤ _), (by decide : 0 + 0 ≤ _)⟩)
      dsimp only [Pt.U, Pt.locs, Pt.cells, Pt.slots] at X130 l130 y130 z130 st130 hQ130
      subst l130 y130 z130
      obtain ⟨rfl, Nq130, e130⟩ := hQ130
      have N130 := Fr.app N0 Nq130
      refine OGl.go st130 ?_
      show OGl _ _ _ _ T130 (mkF m 34 #[.val (.ref o0), .val (.ref o1), .val (.int (2 : Int32)), .val (.long q2), .second, .val (.int (e2b_0 q2))] [(.long (e3_3 (e2b_0 q2))), (.long q16)])
      refine OGl.go (fun t k => XS.lcmp X130.here hx rfl (hb hby d2_34) rfl k) ?_
      show OGl _ _ _ _ T130 (mkF m 35 #[.val (.ref o0), .val (.ref o1), .val (.int (2 : Int32)), .val (.long q2), .second, .val (.int (e2b_0 q2))] [(.int (lcmpW q16 (e3_3 (e2b_0 q2))))])
      by_cases hc131 : q16 = (e3_3 (e2b_0 q2))
      · refine OGl.go (fun t k => XS.ifNo X130.here hx rfl (hb hby d2_35) rfl (own_teqL hc131).2 (XS.iconst X130.here hx rfl (hb hby d2_38) (XS.goto X130.here hx rfl (pc0 := 39) (pc' := 43) rfl (hb hby d2_39) (by decide) (by decide) k))) ?_
        show OGl _ _ _ _ T130 (mkF m 43 #[.val (.ref o0), .val (.ref o1), .val (.int (2 : Int32)), .val (.long q2), .second, .val (.int (e2b_0 q2))] [(.int (1 : Int32))])
        obtain ⟨fs, hr, hrun, hended, hW, hsame⟩ := X130.leave (v := some (.int (1 : Int32))) (fun h => by rw [Bd.returns] at h; cases h)
        refine ⟨_, _, retN X130 hx (t := .boolean) Bd.returns (by simp) (hb hby d2_43) hr, hrun, hended, _, _, rfl, ?_, ⟨_, rfl⟩, hW, hsame.mono (by decide) (by decide)⟩
        have hv132 : (t2b_0 q2 p4 p5 p6 p7 p8 p9 p10 p11 p12 q14 q15 q16 q17 q18 q19 q20 q21) = (1 : Int32) := by unfold t2b_0; rw [if_pos hc126, if_pos hc128, if_pos hc131]
        show Q2b Z o0 o1 q2 k3 p4 p5 p6 p7 p8 p9 p10 p11 p12 k13 q14 q15 q16 q17 q18 q19 q20 q21 h0 n0 _ T130.heap _
        rw [e130]
        exact ⟨(by rw [hv132]), N130, rfl⟩
      · refine OGl.go (fun t k => XS.ifYes X130.here hx rfl (pc0 := 35) (pc' := 42) rfl (hb hby d2_35) rfl (own_feqL hc131).2 (by decide) (by decide) (XS.iconst X130.here hx rfl (hb hby d2_42) k)) ?_
        show OGl _ _ _ _ T130 (mkF m 43 #[.val (.ref o0), .val (.ref o1), .val (.int (2 : Int32)), .val (.long q2), .second, .val (.int (e2b_0 q2))] [(.int (0 : Int32))])
        obtain ⟨fs, hr, hrun, hended, hW, hsame⟩ := X130.leave (v := some (.int (0 : Int32))) (fun h => by rw [Bd.returns] at h; cases h)
        refine ⟨_, _, retN X130 hx (t := .boolean) Bd.returns (by simp) (hb hby d2_43) hr, hrun, hended, _, _, rfl, ?_, ⟨_, rfl⟩, hW, hsame.mono (by decide) (by decide)⟩
        have hv133 : (t2b_0 q2 p4 p5 p6 p7 p8 p9 p10 p11 p12 q14 q15 q16 q17 q18 q19 q20 q21) = (0 : Int32) := by unfold t2b_0; rw [if_pos hc126, if_pos hc128, if_neg hc131]
        show Q2b Z o0 o1 q2 k3 p4 p5 p6 p7 p8 p9 p10 p11 p12 k13 q14 q15 q16 q17 q18 q19 q20 q21 h0 n0 _ T130.heap _
        rw [e130]
        exact ⟨(by rw [hv133]), N130, rfl⟩
    · refine OGl.go (fun t k => XS.icmpYes X0.here hx rfl (pc0 := 23) (pc' := 42) rfl (hb hby d2_23) rfl (feq hc128).2 (by decide) (by decide) (XS.iconst X0.here hx rfl (hb hby d2_42) k)) ?_
      show OGl _ _ _ _ s₁ (mkF m 43 #[.val (.ref o0), .val (.ref o1), .val (.int (2 : Int32)), .val (.long q2), .second, .val (.int (e2b_0 q2))] [(.int (0 : Int32))])
      obtain ⟨fs, hr, hrun, hended, hW, hsame⟩ := X0.leave (v := some (.int (0 : Int32))) (fun h => by rw [Bd.returns] at h; cases h)
      refine ⟨_, _, retN X0 hx (t := .boolean) Bd.returns (by simp) (hb hby d2_43) hr, hrun, hended, _, _, rfl, ?_, ⟨_, rfl⟩, hW, hsame.mono (by decide) (by decide)⟩
      have hv134 : (t2b_0 q2 p4 p5 p6 p7 p8 p9 p10 p11 p12 q14 q15 q16 q17 q18 q19 q20 q21) = (0 : Int32) := by unfold t2b_0; rw [if_pos hc126, if_neg hc128]
      show Q2b Z o0 o1 q2 k3 p4 p5 p6 p7 p8 p9 p10 p11 p12 k13 q14 q15 q16 q17 q18 q19 q20 q21 h0 n0 _ s₁.heap _
      rw [e0]
      exact ⟨(by rw [hv134]), N0, rfl⟩
  · refine OGl.go (fun t k => XS.icmpNo X0.here hx rfl (hb hby d2_3) rfl (flt hc126).1 (XS.iconst X0.here hx rfl (hb hby d2_6) k)) ?_
    show OGl _ _ _ _ s₁ (mkF m 7 #[.val (.ref o0), .val (.ref o1), .val (.int (2 : Int32)), .val (.long q2), .second, .unset] [(.int (1 : Int32))])
    obtain ⟨fs, hr, hrun, hended, hW, hsame⟩ := X0.leave (v := some (.int (1 : Int32))) (fun h => by rw [Bd.returns] at h; cases h)
    refine ⟨_, _, retN X0 hx (t := .boolean) Bd.returns (by simp) (hb hby d2_7) hr, hrun, hended, _, _, rfl, ?_, ⟨_, rfl⟩, hW, hsame.mono (by decide) (by decide)⟩
    have hv135 : (t2b_0 q2 p4 p5 p6 p7 p8 p9 p10 p11 p12 q14 q15 q16 q17 q18 q19 q20 q21) = (1 : Int32) := by unfold t2b_0; rw [if_neg hc126]
    show Q2b Z o0 o1 q2 k3 p4 p5 p6 p7 p8 p9 p10 p11 p12 k13 q14 q15 q16 q17 q18 q19 q20 q21 h0 n0 _ s₁.heap _
    rw [e0]
    exact ⟨(by rw [hv135]), N0, rfl⟩
def e2c_0 (q2 : Int64) : Int32 := ((((((q2.toUInt64 >>> ((24 : Int32) &&& 0x3f).toInt64.toUInt64).toInt64)).toInt32)).toInt8.toInt32)
def t2c_0 (q2 : Int64) (p4 : Int32) (p5 : Int32) (p6 : Int32) (p7 : Int32) (p8 : Int32) (p9 : Int32) (p10 : Int32) (p11 : Int32) (p12 : Int32) (q14 : Int64) (q15 : Int64) (q16 : Int64) (q17 : Int64) (q18 : Int64) (q19 : Int64) (q20 : Int64) (q21 : Int64) : Int32 := (if (3 : Int32) < p4 then (if p8 = (e2c_0 q2) then (if q17 = (e3_3 (e2c_0 q2)) then (1 : Int32) else (0 : Int32)) else (0 : Int32)) else (1 : Int32))
def Q2c (Z : State) (o0 : Addr) (o1 : Addr) (q2 : Int64) (k3 : ClassId) (p4 : Int32) (p5 : Int32) (p6 : Int32) (p7 : Int32) (p8 : Int32) (p9 : Int32) (p10 : Int32) (p11 : Int32) (p12 : Int32) (k13 : ClassId) (q14 : Int64) (q15 : Int64) (q16 : Int64) (q17 : Int64) (q18 : Int64) (q19 : Int64) (q20 : Int64) (q21 : Int64) (h0 : Heap) (n0 : Nat) (v : Option Value) (h : Heap) (L : List Loc) : Prop := v = some (.int (t2c_0 q2 p4 p5 p6 p7 p8 p9 p10 p11 p12 q14 q15 q16 q17 q18 q19 q20 q21)) ∧ Fr n0 L ∧ h = h0
set_option maxRecDepth 65536 in
set_option maxHeartbeats 40000000 in
theorem rm2c (l : Launch) (Z : State) (a0 : Array Value) (hw : ∀ d ∈ tables_1, d.before a0 Z = true) (ws : List Jvm.Cond) (o0 : Addr) (o1 : Addr) (q2 : Int64) (k3 : ClassId) (p4 : Int32) (p5 : Int32) (p6 : Int32) (p7 : Int32) (p8 : Int32) (p9 : Int32) (p10 : Int32) (p11 : Int32) (p12 : Int32) (k13 : ClassId) (q14 : Int64) (q15 : Int64) (q16 : Int64) (q17 : Int64) (q18 : Int64) (q19 : Int64) (q20 : Int64) (q21 : Int64) (h0 : Heap) (n0 : Nat) (Z0 : n0 ≤ h0.size) (V_o1 : Arv Z h0 o1 k3 .byte p4 [(.int p5), (.int p6), (.int p7), (.int p8), (.int p9), (.int p10), (.int p11), (.int p12)] (.int (0 : Int32))) (V_o0 : Arv Z h0 o0 k13 .long p4 [(.long q14), (.long q15), (.long q16), (.long q17), (.long q18), (.long q19), (.long q20), (.long q21)] (.long (0 : Int64))) :
    MetFree l (⟨"com/example/skipscan/skipscan/ByteScanRepeatedPinLaw", "ok", "([J[BIJ)Z"⟩ : MethodName) (head1 (Jvm.Cond.code (⟨"com/example/skipscan/skipscan/ByteScanRepeatedPinLaw", "ok", "([J[BIJ)Z"⟩ : MethodName) method_3_code 6 (some .boolean) :: ws) ({ frames := 1, cells := 0, slots := 0, locals := 16 } : Room)) (fun a U => a = #[(.ref o0), (.ref o1), (.int (3 : Int32)), (.long q2)] ∧ Z.Warmed39 U.vm ∧ U.heap = h0) (fun _ _ _ _ _ => True) (fun _ U o U' => ∃ v L, o = .returned v ∧ Q2c Z o0 o1 q2 k3 p4 p5 p6 p7 p8 p9 p10 p11 p12 k13 q14 q15 q16 q17 q18 q19 q20 q21 h0 n0 v U'.heap L ∧ FrameEnd U o U' L ({ frames := 1, cells := 0, slots := 0, locals := 16 } : Room).cells ({ frames := 1, cells := 0, slots := 0, locals := 16 } : Room).slots) := by
  refine MetFree.of_bodySF (plainFor_of_name pn_1) hisR ?_
  intro p e s m args below meth c s₁ Bd hml0 hP hK
  obtain ⟨rfl, hZ, hh⟩ := hP
  have hx := Bd.exec
  have hby := Bd.bytes
  have hml : c.maxLocals = 6 := hml0
  have hown : s.vm.findClass "com/example/skipscan/skipscan/ByteScanRepeatedPinLaw" = some m.cls := findClass_of_methodNamed Bd.named
  have hnm := (name_of_methodNamed Bd.named Bd.method).1
  have X0 : Stand p l e ({ frames := 1, cells := 0, slots := 0, locals := 16 } : Room) s m #[(.ref o0), (.ref o1), (.int (3 : Int32)), (.long q2)] below meth c s₁ [] 0 0 := Stand.of_body Bd
  have e0 : s₁.heap = h0 := by rw [← hh, Bd.state]; rfl
  have N0 := Fr.nil n0
  refine OGl.start (ef_2 m o0 o1 (3 : Int32) q2) ?_
  show OGl _ _ _ _ s₁ (mkF m 0 #[.val (.ref o0), .val (.ref o1), .val (.int (3 : Int32)), .val (.long q2), .second, .unset] [])
  obtain ⟨cl138, Ar138, -, Sz138, Nn138, -, -⟩ := id V_o1
  refine OGl.go (fun t k => XS.iloadN X0.here hx rfl (hb hby d2_0) rfl (XS.aloadN X0.here hx rfl (hb hby d2_1) rfl rfl (own_len X0 hx (by rw [e0]; exact Ar138.1) (State.isArrayOf_alike hZ.alike Ar138.2.1) Sz138 Nn138 rfl rfl (hb hby d2_2) k))) ?_
  show OGl _ _ _ _ s₁ (mkF m 3 #[.val (.ref o0), .val (.ref o1), .val (.int (3 : Int32)), .val (.long q2), .second, .unset] [(.int p4), (.int (3 : Int32))])
  by_cases hc139 : (3 : Int32) < p4
  · refine OGl.go (fun t k => XS.icmpYes X0.here hx rfl (pc0 := 3) (pc' := 8) rfl (hb hby d2_3) rfl (tlt hc139).1 (by decide) (by decide) (XS.lloadN X0.here hx rfl (hb hby d2_8) rfl (XS.bipush X0.here hx rfl (hb hby d2_9) (XS.iloadN X0.here hx rfl (hb hby d2_11) rfl (XS.imul X0.here hx rfl (hb hby d2_12) rfl (XS.lushr X0.here hx rfl (hb hby d2_13) rfl (XS.l2i X0.here hx rfl (hb hby d2_14) rfl (XS.i2b X0.here hx rfl (hb hby d2_15) rfl k)))))))) ?_
    show OGl _ _ _ _ s₁ (mkF m 16 #[.val (.ref o0), .val (.ref o1), .val (.int (3 : Int32)), .val (.long q2), .second, .unset] [(.int ((((((q2.toUInt64 >>> ((24 : Int32) &&& 0x3f).toInt64.toUInt64).toInt64)).toInt32)).toInt8.toInt32))])
    obtain ⟨cl140, Ar140, -, Sz140, -, Ha140, -⟩ := id V_o1
    have hin140 : ¬ ((3 : Int32) < 0 ∨ cl140.slots.size ≤ ((3 : Int32)).toNatClampNeg) := inb_of Sz140 ⟨by decide, hc139⟩
    refine OGl.go (fun t k => XS.istore X0.here hx rfl (hb hby d2_16) rfl (l' := #[.val (.ref o0), .val (.ref o1), .val (.int (3 : Int32)), .val (.long q2), .second, .val (.int (e2c_0 q2))]) rfl (XS.aloadN X0.here hx rfl (hb hby d2_18) rfl rfl (XS.iloadN X0.here hx rfl (hb hby d2_19) rfl (own_baload X0 hx (j := (3 : Int32)) (v := (.int p8)) (by rw [e0]; exact Ar140.1) (State.isArrayOf_alike hZ.alike Ar140.2.1) Ar140.2.2 hin140 (Has.at Ha140 hin140 rfl) rfl rfl (hb hby d2_20) (XS.iload X0.here hx rfl (hb hby d2_21) rfl k))))) ?_
    show OGl _ _ _ _ s₁ (mkF m 23 #[.val (.ref o0), .val (.ref o1), .val (.int (3 : Int32)), .val (.long q2), .second, .val (.int (e2c_0 q2))] [(.int (e2c_0 q2)), (.int p8)])
    by_cases hc141 : p8 = (e2c_0 q2)
    · obtain ⟨cl142, Ar142, -, Sz142, -, Ha142, -⟩ := id V_o0
      have hin142 : ¬ ((3 : Int32) < 0 ∨ cl142.slots.size ≤ ((3 : Int32)).toNatClampNeg) := inb_of Sz142 ⟨by decide, hc139⟩
      refine OGl.go (fun t k => XS.icmpNo X0.here hx rfl (hb hby d2_23) rfl (teq hc141).2 (XS.aloadN X0.here hx rfl (hb hby d2_26) rfl rfl (XS.iloadN X0.here hx rfl (hb hby d2_27) rfl (own_laload X0 hx (j := (3 : Int32)) (v := (.long q17)) (by rw [e0]; exact Ar142.1) (State.isArrayOf_alike hZ.alike Ar142.2.1) Ar142.2.2 hin142 (Has.at Ha142 hin142 rfl) rfl rfl (hb hby d2_28) (XS.iload X0.here hx rfl (hb hby d2_29) rfl k))))) ?_
      show OGl _ _ _ _ s₁ (mkF m 31 #[.val (.ref o0), .val (.ref o1), .val (.int (3 : Int32)), .val (.long q2), .second, .val (.int (e2c_0 q2))] [(.int (e2c_0 q2)), (.long q17)])
      obtain ⟨_, _, ⟨T143, L143, kk143, n143⟩, -, X143, ⟨Lc143, hQ143, l143, y143, z143⟩, st143⟩ := Jvm.LawKit.callS X0 hx (y := (⟨"com/example/skipscan/skipscan/ByteScanRepeatedPinLaw", "rep", "(B)J"⟩ : MethodName)) hown (mvT hZ (hw _ (List.mem_of_getElem? (i := 12) rfl))) (mvT hZ (hw _ (List.mem_of_getElem? (i := 13) rfl))) (mvT hZ (hw _ (List.mem_of_getElem? (i := 9) rfl))) (mvT hZ (hw _ (List.mem_of_getElem? (i := 14) rfl))) (by decide) (backOf (W := 2) (rm3 l Z a0 hw [] (e2c_0 q2) h0 n0 Z0 ) hZ (hw _ (List.mem_of_getElem? (i := 14) rfl)) (hw _ (List.mem_of_getElem? (i := 9) rfl)) (by decide) (by decide)) (g := (mkF m 31 #[.val (.ref o0), .val (.ref o1), .val (.int (3 : Int32)), .val (.long q2), .second, .val (.int (e2c_0 q2))] [(.int (e2c_0 q2)), (.long q17)])) rfl (by rw [hml]; rfl) (argsL := [(.int (e2c_0 q2))]) (rest := [(.long q17)]) (lenOf pd_1 rfl) rfl (by show 2 * 0 + _ ≤ _; exact Nat.le_of_eq rfl) (hb hby d2_31) (fun _ _ => ⟨rfl, e0, (by decide : 0 + 0 ≤ _), (by decide : 0 + 0 ≤ _)⟩)
      dsimp only [Pt.U, Pt.locs, Pt.cells, Pt.slots] at X143 l143 y143 z143 st143 hQ143
      subst l143 y143 z143
      obtain ⟨rfl, Nq143, e143⟩ := hQ143
      have N143 := Fr.app N0 Nq143
      refine OGl.go st143 ?_
      show OGl _ _ _ _ T143 (mkF m 34 #[.val (.ref o0), .val (.ref o1), .val (.int (3 : Int32)), .val (.long q2), .second, .val (.int (e2c_0 q2))] [(.long (e3_3 (e2c_0 q2))), (.long q17)])
      refine OGl.go (fun t k => XS.lcmp X143.here hx rfl (hb hby d2_34) rfl k) ?_
      show OGl _ _ _ _ T143 (mkF m 35 #[.val (.ref o0), .val (.ref o1), .val (.int (3 : Int32)), .val (.long q2), .second, .val (.int (e2c_0 q2))] [(.int (lcmpW q17 (e3_3 (e2c_0 q2))))])
      by_cases hc144 : q17 = (e3_3 (e2c_0 q2))
      · refine OGl.go (fun t k => XS.ifNo X143.here hx rfl (hb hby d2_35) rfl (own_teqL hc144).2 (XS.iconst X143.here hx rfl (hb hby d2_38) (XS.goto X143.here hx rfl (pc0 := 39) (pc' := 43) rfl (hb hby d2_39) (by decide) (by decide) k))) ?_
        show OGl _ _ _ _ T143 (mkF m 43 #[.val (.ref o0), .val (.ref o1), .val (.int (3 : Int32)), .val (.long q2), .second, .val (.int (e2c_0 q2))] [(.int (1 : Int32))])
        obtain ⟨fs, hr, hrun, hended, hW, hsame⟩ := X143.leave (v := some (.int (1 : Int32))) (fun h => by rw [Bd.returns] at h; cases h)
        refine ⟨_, _, retN X143 hx (t := .boolean) Bd.returns (by simp) (hb hby d2_43) hr, hrun, hended, _, _, rfl, ?_, ⟨_, rfl⟩, hW, hsame.mono (by decide) (by decide)⟩
        have hv145 : (t2c_0 q2 p4 p5 p6 p7 p8 p9 p10 p11 p12 q14 q15 q16 q17 q18 q19 q20 q21) = (1 : Int32) := by unfold t2c_0; rw [if_pos hc139, if_pos hc141, if_pos hc144]
        show Q2c Z o0 o1 q2 k3 p4 p5 p6 p7 p8 p9 p10 p11 p12 k13 q14 q15 q16 q17 q18 q19 q20 q21 h0 n0 _ T143.heap _
        rw [e143]
        exact ⟨(by rw [hv145]), N143, rfl⟩
      · refine OGl.go (fun t k => XS.ifYes X143.here hx rfl (pc0 := 35) (pc' := 42) rfl (hb hby d2_35) rfl (own_feqL hc144).2 (by decide) (by decide) (XS.iconst X143.here hx rfl (hb hby d2_42) k)) ?_
        show OGl _ _ _ _ T143 (mkF m 43 #[.val (.ref o0), .val (.ref o1), .val (.int (3 : Int32)), .val (.long q2), .second, .val (.int (e2c_0 q2))] [(.int (0 : Int32))])
        obtain ⟨fs, hr, hrun, hended, hW, hsame⟩ := X143.leave (v := some (.int (0 : Int32))) (fun h => by rw [Bd.returns] at h; cases h)
        refine ⟨_, _, retN X143 hx (t := .boolean) Bd.returns (by simp) (hb hby d2_43) hr, hrun, hended, _, _, rfl, ?_, ⟨_, rfl⟩, hW, hsame.mono (by decide) (by decide)⟩
        have hv146 : (t2c_0 q2 p4 p5 p6 p7 p8 p9 p10 p11 p12 q14 q15 q16 q17 q18 q19 q20 q21) = (0 : Int32) := by unfold t2c_0; rw [if_pos hc139, if_pos hc141, if_neg hc144]
        show Q2c Z o0 o1 q2 k3 p4 p5 p6 p7 p8 p9 p10 p11 p12 k13 q14 q15 q16 q17 q18 q19 q20 q21 h0 n0 _ T143.heap _
        rw [e143]
        exact ⟨(by rw [hv146]), N143, rfl⟩
    · refine OGl.go (fun t k => XS.icmpYes X0.here hx rfl (pc0 := 23) (pc' := 42) rfl (hb hby d2_23) rfl (feq hc141).2 (by decide) (by decide) (XS.iconst X0.here hx rfl (hb hby d2_42) k)) ?_
      show OGl _ _ _ _ s₁ (mkF m 43 #[.val (.ref o0), .val (.ref o1), .val (.int (3 : Int32)), .val (.long q2), .second, .val (.int (e2c_0 q2))] [(.int (0 : Int32))])
      obtain ⟨fs, hr, hrun, hended, hW, hsame⟩ := X0.leave (v := some (.int (0 : Int32))) (fun h => by rw [Bd.returns] at h; cases h)
      refine ⟨_, _, retN X0 hx (t := .boolean) Bd.returns (by simp) (hb hby d2_43) hr, hrun, hended, _, _, rfl, ?_, ⟨_, rfl⟩, hW, hsame.mono (by decide) (by decide)⟩
      have hv147 : (t2c_0 q2 p4 p5 p6 p7 p8 p9 p10 p11 p12 q14 q15 q16 q17 q18 q19 q20 q21) = (0 : Int32) := by unfold t2c_0; rw [if_pos hc139, if_neg hc141]
      show Q2c Z o0 o1 q2 k3 p4 p5 p6 p7 p8 p9 p10 p11 p12 k13 q14 q15 q16 q17 q18 q19 q20 q21 h0 n0 _ s₁.heap _
      rw [e0]
      exact ⟨(by rw [hv147]), N0, rfl⟩
  · refine OGl.go (fun t k => XS.icmpNo X0.here hx rfl (hb hby d2_3) rfl (flt hc139).1 (XS.iconst X0.here hx rfl (hb hby d2_6) k)) ?_
    show OGl _ _ _ _ s₁ (mkF m 7 #[.val (.ref o0), .val (.ref o1), .val (.int (3 : Int32)), .val (.long q2), .second, .unset] [(.int (1 : Int32))])
    obtain ⟨fs, hr, hrun, hended, hW, hsame⟩ := X0.leave (v := some (.int (1 : Int32))) (fun h => by rw [Bd.returns] at h; cases h)
    refine ⟨_, _, retN X0 hx (t := .boolean) Bd.returns (by simp) (hb hby d2_7) hr, hrun, hended, _, _, rfl, ?_, ⟨_, rfl⟩, hW, hsame.mono (by decide) (by decide)⟩
    have hv148 : (t2c_0 q2 p4 p5 p6 p7 p8 p9 p10 p11 p12 q14 q15 q16 q17 q18 q19 q20 q21) = (1 : Int32) := by unfold t2c_0; rw [if_neg hc139]
    show Q2c Z o0 o1 q2 k3 p4 p5 p6 p7 p8 p9 p10 p11 p12 k13 q14 q15 q16 q17 q18 q19 q20 q21 h0 n0 _ s₁.heap _
    rw [e0]
    exact ⟨(by rw [hv148]), N0, rfl⟩
def e2d_0 (q2 : Int64) : Int32 := ((((((q2.toUInt64 >>> ((32 : Int32) &&& 0x3f).toInt64.toUInt64).toInt64)).toInt32)).toInt8.toInt32)
def t2d_0 (q2 : Int64) (p4 : Int32) (p5 : Int32) (p6 : Int32) (p7 : Int32) (p8 : Int32) (p9 : Int32) (p10 : Int32) (p11 : Int32) (p12 : Int32) (q14 : Int64) (q15 : Int64) (q16 : Int64) (q17 : Int64) (q18 : Int64) (q19 : Int64) (q20 : Int64) (q21 : Int64) : Int32 := (if (4 : Int32) < p4 then (if p9 = (e2d_0 q2) then (if q18 = (e3_3 (e2d_0 q2)) then (1 : Int32) else (0 : Int32)) else (0 : Int32)) else (1 : Int32))
def Q2d (Z : State) (o0 : Addr) (o1 : Addr) (q2 : Int64) (k3 : ClassId) (p4 : Int32) (p5 : Int32) (p6 : Int32) (p7 : Int32) (p8 : Int32) (p9 : Int32) (p10 : Int32) (p11 : Int32) (p12 : Int32) (k13 : ClassId) (q14 : Int64) (q15 : Int64) (q16 : Int64) (q17 : Int64) (q18 : Int64) (q19 : Int64) (q20 : Int64) (q21 : Int64) (h0 : Heap) (n0 : Nat) (v : Option Value) (h : Heap) (L : List Loc) : Prop := v = some (.int (t2d_0 q2 p4 p5 p6 p7 p8 p9 p10 p11 p12 q14 q15 q16 q17 q18 q19 q20 q21)) ∧ Fr n0 L ∧ h = h0
set_option maxRecDepth 65536 in
set_option maxHeartbeats 40000000 in
theorem rm2d (l : Launch) (Z : State) (a0 : Array Value) (hw : ∀ d ∈ tables_1, d.before a0 Z = true) (ws : List Jvm.Cond) (o0 : Addr) (o1 : Addr) (q2 : Int64) (k3 : ClassId) (p4 : Int32) (p5 : Int32) (p6 : Int32) (p7 : Int32) (p8 : Int32) (p9 : Int32) (p10 : Int32) (p11 : Int32) (p12 : Int32) (k13 : ClassId) (q14 : Int64) (q15 : Int64) (q16 : Int64) (q17 : Int64) (q18 : Int64) (q19 : Int64) (q20 : Int64) (q21 : Int64) (h0 : Heap) (n0 : Nat) (Z0 : n0 ≤ h0.size) (V_o1 : Arv Z h0 o1 k3 .byte p4 [(.int p5), (.int p6), (.int p7), (.int p8), (.int p9), (.int p10), (.int p11), (.int p12)] (.int (0 : Int32))) (V_o0 : Arv Z h0 o0 k13 .long p4 [(.long q14), (.long q15), (.long q16), (.long q17), (.long q18), (.long q19), (.long q20), (.long q21)] (.long (0 : Int64))) :
    MetFree l (⟨"com/example/skipscan/skipscan/ByteScanRepeatedPinLaw", "ok", "([J[BIJ)Z"⟩ : MethodName) (head1 (Jvm.Cond.code (⟨"com/example/skipscan/skipscan/ByteScanRepeatedPinLaw", "ok", "([J[BIJ)Z"⟩ : MethodName) method_3_code 6 (some .boolean) :: ws) ({ frames := 1, cells := 0, slots := 0, locals := 16 } : Room)) (fun a U => a = #[(.ref o0), (.ref o1), (.int (4 : Int32)), (.long q2)] ∧ Z.Warmed39 U.vm ∧ U.heap = h0) (fun _ _ _ _ _ => True) (fun _ U o U' => ∃ v L, o = .returned v ∧ Q2d Z o0 o1 q2 k3 p4 p5 p6 p7 p8 p9 p10 p11 p12 k13 q14 q15 q16 q17 q18 q19 q20 q21 h0 n0 v U'.heap L ∧ FrameEnd U o U' L ({ frames := 1, cells := 0, slots := 0, locals := 16 } : Room).cells ({ frames := 1, cells := 0, slots := 0, locals := 16 } : Room).slots) := by
  refine MetFree.of_bodySF (plainFor_of_name pn_1) hisR ?_
  intro p e s m args below meth c s₁ Bd hml0 hP hK
  obtain ⟨rfl, hZ, hh⟩ := hP
  have hx := Bd.exec
  have hby := Bd.bytes
  have hml : c.maxLocals = 6 := hml0
  have hown : s.vm.findClass "com/example/skipscan/skipscan/ByteScanRepeatedPinLaw" = some m.cls := findClass_of_methodNamed Bd.named
  have hnm := (name_of_methodNamed Bd.named Bd.method).1
  have X0 : Stand p l e ({ frames := 1, cells := 0, slots := 0, locals := 16 } : Room) s m #[(.ref o0), (.ref o1), (.int (4 : Int32)), (.long q2)] below meth c s₁ [] 0 0 := Stand.of_body Bd
  have e0 : s₁.heap = h0 := by rw [← hh, Bd.state]; rfl
  have N0 := Fr.nil n0
  refine OGl.start (ef_2 m o0 o1 (4 : Int32) q2) ?_
  show OGl _ _ _ _ s₁ (mkF m 0 #[.val (.ref o0), .val (.ref o1), .val (.int (4 : Int32)), .val (.long q2), .second, .unset] [])
  obtain ⟨cl151, Ar151, -, Sz151, Nn151, -, -⟩ := id V_o1
  refine OGl.go (fun t k => XS.iloadN X0.here hx rfl (hb hby d2_0) rfl (XS.aloadN X0.here hx rfl (hb hby d2_1) rfl rfl (own_len X0 hx (by rw [e0]; exact Ar151.1) (State.isArrayOf_alike hZ.alike Ar151.2.1) Sz151 Nn151 rfl rfl (hb hby d2_2) k))) ?_
  show OGl _ _ _ _ s₁ (mkF m 3 #[.val (.ref o0), .val (.ref o1), .val (.int (4 : Int32)), .val (.long q2), .second, .unset] [(.int p4), (.int (4 : Int32))])
  by_cases hc152 : (4 : Int32) < p4
  · refine OGl.go (fun t k => XS.icmpYes X0.here hx rfl (pc0 := 3) (pc' := 8) rfl (hb hby d2_3) rfl (tlt hc152).1 (by decide) (by decide) (XS.lloadN X0.here hx rfl (hb hby d2_8) rfl (XS.bipush X0.here hx rfl (hb hby d2_9) (XS.iloadN X0.here hx rfl (hb hby d2_11) rfl (XS.imul X0.here hx rfl (hb hby d2_12) rfl (XS.lushr X0.here hx rfl (hb hby d2_13) rfl (XS.l2i X0.here hx rfl (hb hby d2_14) rfl (XS.i2b X0.here hx rfl (hb hby d2_15) rfl k)))))))) ?_
    show OGl _ _ _ _ s₁ (mkF m 16 #[.val (.ref o0), .val (.ref o1), .val (.int (4 : Int32)), .val (.long q2), .second, .unset] [(.int ((((((q2.toUInt64 >>> ((32 : Int32) &&& 0x3f).toInt64.toUInt64).toInt64)).toInt32)).toInt8.toInt32))])
    obtain ⟨cl153, Ar153, -, Sz153, -, Ha153, -⟩ := id V_o1
    have hin153 : ¬ ((4 : Int32) < 0 ∨ cl153.slots.size ≤ ((4 : Int32)).toNatClampNeg) := inb_of Sz153 ⟨by decide, hc152⟩
    refine OGl.go (fun t k => XS.istore X0.here hx rfl (hb hby d2_16) rfl (l' := #[.val (.ref o0), .val (.ref o1), .val (.int (4 : Int32)), .val (.long q2), .second, .val (.int (e2d_0 q2))]) rfl (XS.aloadN X0.here hx rfl (hb hby d2_18) rfl rfl (XS.iloadN X0.here hx rfl (hb hby d2_19) rfl (own_baload X0 hx (j := (4 : Int32)) (v := (.int p9)) (by rw [e0]; exact Ar153.1) (State.isArrayOf_alike hZ.alike Ar153.2.1) Ar153.2.2 hin153 (Has.at Ha153 hin153 rfl) rfl rfl (hb hby d2_20) (XS.iload X0.here hx rfl (hb hby d2_21) rfl k))))) ?_
    show OGl _ _ _ _ s₁ (mkF m 23 #[.val (.ref o0), .val (.ref o1), .val (.int (4 : Int32)), .val (.long q2), .second, .val (.int (e2d_0 q2))] [(.int (e2d_0 q2)), (.int p9)])
    by_cases hc154 : p9 = (e2d_0 q2)
    · obtain ⟨cl155, Ar155, -, Sz155, -, Ha155, -⟩ := id V_o0
      have hin155 : ¬ ((4 : Int32) < 0 ∨ cl155.slots.size ≤ ((4 : Int32)).toNatClampNeg) := inb_of Sz155 ⟨by decide, hc152⟩
      refine OGl.go (fun t k => XS.icmpNo X0.here hx rfl (hb hby d2_23) rfl (teq hc154).2 (XS.aloadN X0.here hx rfl (hb hby d2_26) rfl rfl (XS.iloadN X0.here hx rfl (hb hby d2_27) rfl (own_laload X0 hx (j := (4 : Int32)) (v := (.long q18)) (by rw [e0]; exact Ar155.1) (State.isArrayOf_alike hZ.alike Ar155.2.1) Ar155.2.2 hin155 (Has.at Ha155 hin155 rfl) rfl rfl (hb hby d2_28) (XS.iload X0.here hx rfl (hb hby d2_29) rfl k))))) ?_
      show OGl _ _ _ _ s₁ (mkF m 31 #[.val (.ref o0), .val (.ref o1), .val (.int (4 : Int32)), .val (.long q2), .second, .val (.int (e2d_0 q2))] [(.int (e2d_0 q2)), (.long q18)])
      obtain ⟨_, _, ⟨T156, L156, kk156, n156⟩, -, X156, ⟨Lc156, hQ156, l156, y156, z156⟩, st156⟩ := Jvm.LawKit.callS X0 hx (y := (⟨"com/example/skipscan/skipscan/ByteScanRepeatedPinLaw", "rep", "(B)J"⟩ : MethodName)) hown (mvT hZ (hw _ (List.mem_of_getElem? (i := 12) rfl))) (mvT hZ (hw _ (List.mem_of_getElem? (i := 13) rfl))) (mvT hZ (hw _ (List.mem_of_getElem? (i := 9) rfl))) (mvT hZ (hw _ (List.mem_of_getElem? (i := 14) rfl))) (by decide) (backOf (W := 2) (rm3 l Z a0 hw [] (e2d_0 q2) h0 n0 Z0 ) hZ (hw _ (List.mem_of_getElem? (i := 14) rfl)) (hw _ (List.mem_of_getElem? (i := 9) rfl)) (by decide) (by decide)) (g := (mkF m 31 #[.val (.ref o0), .val (.ref o1), .val (.int (4 : Int32)), .val (.long q2), .second, .val (.int (e2d_0 q2))] [(.int (e2d_0 q2)), (.long q18)])) rfl (by rw [hml]; rfl) (argsL := [(.int (e2d_0 q2))]) (rest := [(.long q18)]) (lenOf pd_1 rfl) rfl (by show 2 * 0 + _ ≤ _; exact Nat.le_of_eq rfl) (hb hby d2_31) (fun _ _ => ⟨rfl, e0, (by decide : 0 + 0 ≤ _), (by decide : 0 + 0 ≤ _)⟩)
      dsimp only [Pt.U, Pt.locs, Pt.cells, Pt.slots] at X156 l156 y156 z156 st156 hQ156
      subst l156 y156 z156
      obtain ⟨rfl, Nq156, e156⟩ := hQ156
      have N156 := Fr.app N0 Nq156
      refine OGl.go st156 ?_
      show OGl _ _ _ _ T156 (mkF m 34 #[.val (.ref o0), .val (.ref o1), .val (.int (4 : Int32)), .val (.long q2), .second, .val (.int (e2d_0 q2))] [(.long (e3_3 (e2d_0 q2))), (.long q18)])
      refine OGl.go (fun t k => XS.lcmp X156.here hx rfl (hb hby d2_34) rfl k) ?_
      show OGl _ _ _ _ T156 (mkF m 35 #[.val (.ref o0), .val (.ref o1), .val (.int (4 : Int32)), .val (.long q2), .second, .val (.int (e2d_0 q2))] [(.int (lcmpW q18 (e3_3 (e2d_0 q2))))])
      by_cases hc157 : q18 = (e3_3 (e2d_0 q2))
      · refine OGl.go (fun t k => XS.ifNo X156.here hx rfl (hb hby d2_35) rfl (own_teqL hc157).2 (XS.iconst X156.here hx rfl (hb hby d2_38) (XS.goto X156.here hx rfl (pc0 := 39) (pc' := 43) rfl (hb hby d2_39) (by decide) (by decide) k))) ?_
        show OGl _ _ _ _ T156 (mkF m 43 #[.val (.ref o0), .val (.ref o1), .val (.int (4 : Int32)), .val (.long q2), .second, .val (.int (e2d_0 q2))] [(.int (1 : Int32))])
        obtain ⟨fs, hr, hrun, hended, hW, hsame⟩ := X156.leave (v := some (.int (1 : Int32))) (fun h => by rw [Bd.returns] at h; cases h)
        refine ⟨_, _, retN X156 hx (t := .boolean) Bd.returns (by simp) (hb hby d2_43) hr, hrun, hended, _, _, rfl, ?_, ⟨_, rfl⟩, hW, hsame.mono (by decide) (by decide)⟩
        have hv158 : (t2d_0 q2 p4 p5 p6 p7 p8 p9 p10 p11 p12 q14 q15 q16 q17 q18 q19 q20 q21) = (1 : Int32) := by unfold t2d_0; rw [if_pos hc152, if_pos hc154, if_pos hc157]
        show Q2d Z o0 o1 q2 k3 p4 p5 p6 p7 p8 p9 p10 p11 p12 k13 q14 q15 q16 q17 q18 q19 q20 q21 h0 n0 _ T156.heap _
        rw [e156]
        exact ⟨(by rw [hv158]), N156, rfl⟩
      · refine OGl.go (fun t k => XS.ifYes X156.here hx rfl (pc0 := 35) (pc' := 42) rfl (hb hby d2_35) rfl (own_feqL hc157).2 (by decide) (by decide) (XS.iconst X156.here hx rfl (hb hby d2_42) k)) ?_
        show OGl _ _ _ _ T156 (mkF m 43 #[.val (.ref o0), .val (.ref o1), .val (.int (4 : Int32)), .val (.long q2), .second, .val (.int (e2d_0 q2))] [(.int (0 : Int32))])
        obtain ⟨fs, hr, hrun, hended, hW, hsame⟩ := X156.leave (v := some (.int (0 : Int32))) (fun h => by rw [Bd.returns] at h; cases h)
        refine ⟨_, _, retN X156 hx (t := .boolean) Bd.returns (by simp) (hb hby d2_43) hr, hrun, hended, _, _, rfl, ?_, ⟨_, rfl⟩, hW, hsame.mono (by decide) (by decide)⟩
        have hv159 : (t2d_0 q2 p4 p5 p6 p7 p8 p9 p10 p11 p12 q14 q15 q16 q17 q18 q19 q20 q21) = (0 : Int32) := by unfold t2d_0; rw [if_pos hc152, if_pos hc154, if_neg hc157]
        show Q2d Z o0 o1 q2 k3 p4 p5 p6 p7 p8 p9 p10 p11 p12 k13 q14 q15 q16 q17 q18 q19 q20 q21 h0 n0 _ T156.heap _
        rw [e156]
        exact ⟨(by rw [hv159]), N156, rfl⟩
    · refine OGl.go (fun t k => XS.icmpYes X0.here hx rfl (pc0 := 23) (pc' := 42) rfl (hb hby d2_23) rfl (feq hc154).2 (by decide) (by decide) (XS.iconst X0.here hx rfl (hb hby d2_42) k)) ?_
      show OGl _ _ _ _ s₁ (mkF m 43 #[.val (.ref o0), .val (.ref o1), .val (.int (4 : Int32)), .val (.long q2), .second, .val (.int (e2d_0 q2))] [(.int (0 : Int32))])
      obtain ⟨fs, hr, hrun, hended, hW, hsame⟩ := X0.leave (v := some (.int (0 : Int32))) (fun h => by rw [Bd.returns] at h; cases h)
      refine ⟨_, _, retN X0 hx (t := .boolean) Bd.returns (by simp) (hb hby d2_43) hr, hrun, hended, _, _, rfl, ?_, ⟨_, rfl⟩, hW, hsame.mono (by decide) (by decide)⟩
      have hv160 : (t2d_0 q2 p4 p5 p6 p7 p8 p9 p10 p11 p12 q14 q15 q16 q17 q18 q19 q20 q21) = (0 : Int32) := by unfold t2d_0; rw [if_pos hc152, if_neg hc154]
      show Q2d Z o0 o1 q2 k3 p4 p5 p6 p7 p8 p9 p10 p11 p12 k13 q14 q15 q16 q17 q18 q19 q20 q21 h0 n0 _ s₁.heap _
      rw [e0]
      exact ⟨(by rw [hv160]), N0, rfl⟩
  · refine OGl.go (fun t k => XS.icmpNo X0.here hx rfl (hb hby d2_3) rfl (flt hc152).1 (XS.iconst X0.here hx rfl (hb hby d2_6) k)) ?_
    show OGl _ _ _ _ s₁ (mkF m 7 #[.val (.ref o0), .val (.ref o1), .val (.int (4 : Int32)), .val (.long q2), .second, .unset] [(.int (1 : Int32))])
    obtain ⟨fs, hr, hrun, hended, hW, hsame⟩ := X0.leave (v := some (.int (1 : Int32))) (fun h => by rw [Bd.returns] at h; cases h)
    refine ⟨_, _, retN X0 hx (t := .boolean) Bd.returns (by simp) (hb hby d2_7) hr, hrun, hended, _, _, rfl, ?_, ⟨_, rfl⟩, hW, hsame.mono (by decide) (by decide)⟩
    have hv161 : (t2d_0 q2 p4 p5 p6 p7 p8 p9 p10 p11 p12 q14 q15 q16 q17 q18 q19 q20 q21) = (1 : Int32) := by unfold t2d_0; rw [if_neg hc152]
    show Q2d Z o0 o1 q2 k3 p4 p5 p6 p7 p8 p9 p10 p11 p12 k13 q14 q15 q16 q17 q18 q19 q20 q21 h0 n0 _ s₁.heap _
    rw [e0]
    exact ⟨(by rw [hv161]), N0, rfl⟩
def e2e_0 (q2 : Int64) : Int32 := ((((((q2.toUInt64 >>> ((40 : Int32) &&& 0x3f).toInt64.toUInt64).toInt64)).toInt32)).toInt8.toInt32)
def t2e_0 (q2 : Int64) (p4 : Int32) (p5 : Int32) (p6 : Int32) (p7 : Int32) (p8 : Int32) (p9 : Int32) (p10 : Int32) (p11 : Int32) (p12 : Int32) (q14 : Int64) (q15 : Int64) (q16 : Int64) (q17 : Int64) (q18 : Int64) (q19 : Int64) (q20 : Int64) (q21 : Int64) : Int32 := (if (5 : Int32) < p4 then (if p10 = (e2e_0 q2) then (if q19 = (e3_3 (e2e_0 q2)) then (1 : Int32) else (0 : Int32)) else (0 : Int32)) else (1 : Int32))
def Q2e (Z : State) (o0 : Addr) (o1 : Addr) (q2 : Int64) (k3 : ClassId) (p4 : Int32) (p5 : Int32) (p6 : Int32) (p7 : Int32) (p8 : Int32) (p9 : Int32) (p10 : Int32) (p11 : Int32) (p12 : Int32) (k13 : ClassId) (q14 : Int64) (q15 : Int64) (q16 : Int64) (q17 : Int64) (q18 : Int64) (q19 : Int64) (q20 : Int64) (q21 : Int64) (h0 : Heap) (n0 : Nat) (v : Option Value) (h : Heap) (L : List Loc) : Prop := v = some (.int (t2e_0 q2 p4 p5 p6 p7 p8 p9 p10 p11 p12 q14 q15 q16 q17 q18 q19 q20 q21)) ∧ Fr n0 L ∧ h = h0
set_option maxRecDepth 65536 in
set_option maxHeartbeats 40000000 in
theorem rm2e (l : Launch) (Z : State) (a0 : Array Value) (hw : ∀ d ∈ tables_1, d.before a0 Z = true) (ws : List Jvm.Cond) (o0 : Addr) (o1 : Addr) (q2 : Int64) (k3 : ClassId) (p4 : Int32) (p5 : Int32) (p6 : Int32) (p7 : Int32) (p8 : Int32) (p9 : Int32) (p10 : Int32) (p11 : Int32) (p12 : Int32) (k13 : ClassId) (q14 : Int64) (q15 : Int64) (q16 : Int64) (q17 : Int64) (q18 : Int64) (q19 : Int64) (q20 : Int64) (q21 : Int64) (h0 : Heap) (n0 : Nat) (Z0 : n0 ≤ h0.size) (V_o1 : Arv Z h0 o1 k3 .byte p4 [(.int p5), (.int p6), (.int p7), (.int p8), (.int p9), (.int p10), (.int p11), (.int p12)] (.int (0 : Int32))) (V_o0 : Arv Z h0 o0 k13 .long p4 [(.long q14), (.long q15), (.long q16), (.long q17), (.long q18), (.long q19), (.long q20), (.long q21)] (.long (0 : Int64))) :
    MetFree l (⟨"com/example/skipscan/skipscan/ByteScanRepeatedPinLaw", "ok", "([J[BIJ)Z"⟩ : MethodName) (head1 (Jvm.Cond.code (⟨"com/example/skipscan/skipscan/ByteScanRepeatedPinLaw", "ok", "([J[BIJ)Z"⟩ : MethodName) method_3_code 6 (some .boolean) :: ws) ({ frames := 1, cells := 0, slots := 0, locals := 16 } : Room)) (fun a U => a = #[(.ref o0), (.ref o1), (.int (5 : Int32)), (.long q2)] ∧ Z.Warmed39 U.vm ∧ U.heap = h0) (fun _ _ _ _ _ => True) (fun _ U o U' => ∃ v L, o = .returned v ∧ Q2e Z o0 o1 q2 k3 p4 p5 p6 p7 p8 p9 p10 p11 p12 k13 q14 q15 q16 q17 q18 q19 q20 q21 h0 n0 v U'.heap L ∧ FrameEnd U o U' L ({ frames := 1, cells := 0, slots := 0, locals := 16 } : Room).cells ({ frames := 1, cells := 0, slots := 0, locals := 16 } : Room).slots) := by
  refine MetFree.of_bodySF (plainFor_of_name pn_1) hisR ?_
  intro p e s m args below meth c s₁ Bd hml0 hP hK
  obtain ⟨rfl, hZ, hh⟩ := hP
  have hx := Bd.exec
  have hby := Bd.bytes
  have hml : c.maxLocals = 6 := hml0
  have hown : s.vm.findClass "com/example/skipscan/skipscan/ByteScanRepeatedPinLaw" = some m.cls := findClass_of_methodNamed Bd.named
  have hnm := (name_of_methodNamed Bd.named Bd.method).1
  have X0 : Stand p l e ({ frames := 1, cells := 0, slots := 0, locals := 16 } : Room) s m #[(.ref o0), (.ref o1), (.int (5 : Int32)), (.long q2)] below meth c s₁ [] 0 0 := Stand.of_body Bd
  have e0 : s₁.heap = h0 := by rw [← hh, Bd.state]; rfl
  have N0 := Fr.nil n0
  refine OGl.start (ef_2 m o0 o1 (5 : Int32) q2) ?_
  show OGl _ _ _ _ s₁ (mkF m 0 #[.val (.ref o0), .val (.ref o1), .val (.int (5 : Int32)), .val (.long q2), .second, .unset] [])
  obtain ⟨cl164, Ar164, -, Sz164, Nn164, -, -⟩ := id V_o1
  refine OGl.go (fun t k => XS.iloadN X0.here hx rfl (hb hby d2_0) rfl (XS.aloadN X0.here hx rfl (hb hby d2_1) rfl rfl (own_len X0 hx (by rw [e0]; exact Ar164.1) (State.isArrayOf_alike hZ.alike Ar164.2.1) Sz164 Nn164 rfl rfl (hb hby d2_2) k))) ?_
  show OGl _ _ _ _ s₁ (mkF m 3 #[.val (.ref o0), .val (.ref o1), .val (.int (5 : Int32)), .val (.long q2), .second, .unset] [(.int p4), (.int (5 : Int32))])
  by_cases hc165 : (5 : Int32) < p4
  · refine OGl.go (fun t k => XS.icmpYes X0.here hx rfl (pc0 := 3) (pc' := 8) rfl (hb hby d2_3) rfl (tlt hc165).1 (by decide) (by decide) (XS.lloadN X0.here hx rfl (hb hby d2_8) rfl (XS.bipush X0.here hx rfl (hb hby d2_9) (XS.iloadN X0.here hx rfl (hb hby d2_11) rfl (XS.imul X0.here hx rfl (hb hby d2_12) rfl (XS.lushr X0.here hx rfl (hb hby d2_13) rfl (XS.l2i X0.here hx rfl (hb hby d2_14) rfl (XS.i2b X0.here hx rfl (hb hby d2_15) rfl k)))))))) ?_
    show OGl _ _ _ _ s₁ (mkF m 16 #[.val (.ref o0), .val (.ref o1), .val (.int (5 : Int32)), .val (.long q2), .second, .unset] [(.int ((((((q2.toUInt64 >>> ((40 : Int32) &&& 0x3f).toInt64.toUInt64).toInt64)).toInt32)).toInt8.toInt32))])
    obtain ⟨cl166, Ar166, -, Sz166, -, Ha166, -⟩ := id V_o1
    have hin166 : ¬ ((5 : Int32) < 0 ∨ cl166.slots.size ≤ ((5 : Int32)).toNatClampNeg) := inb_of Sz166 ⟨by decide, hc165⟩
    refine OGl.go (fun t k => XS.istore X0.here hx rfl (hb hby d2_16) rfl (l' := #[.val (.ref o0), .val (.ref o1), .val (.int (5 : Int32)), .val (.long q2), .second, .val (.int (e2e_0 q2))]) rfl (XS.aloadN X0.here hx rfl (hb hby d2_18) rfl rfl (XS.iloadN X0.here hx rfl (hb hby d2_19) rfl (own_baload X0 hx (j := (5 : Int32)) (v := (.int p10)) (by rw [e0]; exact Ar166.1) (State.isArrayOf_alike hZ.alike Ar166.2.1) Ar166.2.2 hin166 (Has.at Ha166 hin166 rfl) rfl rfl (hb hby d2_20) (XS.iload X0.here hx rfl (hb hby d2_21) rfl k))))) ?_
    show OGl _ _ _ _ s₁ (mkF m 23 #[.val (.ref o0), .val (.ref o1), .val (.int (5 : Int32)), .val (.long q2), .second, .val (.int (e2e_0 q2))] [(.int (e2e_0 q2)), (.int p10)])
    by_cases hc167 : p10 = (e2e_0 q2)
    · obtain ⟨cl168, Ar168, -, Sz168, -, Ha168, -⟩ := id V_o0
      have hin168 : ¬ ((5 : Int32) < 0 ∨ cl168.slots.size ≤ ((5 : Int32)).toNatClampNeg) := inb_of Sz168 ⟨by decide, hc165⟩
      refine OGl.go (fun t k => XS.icmpNo X0.here hx rfl (hb hby d2_23) rfl (teq hc167).2 (XS.aloadN X0.here hx rfl (hb hby d2_26) rfl rfl (XS.iloadN X0.here hx rfl (hb hby d2_27) rfl (own_laload X0 hx (j := (5 : Int32)) (v := (.long q19)) (by rw [e0]; exact Ar168.1) (State.isArrayOf_alike hZ.alike Ar168.2.1) Ar168.2.2 hin168 (Has.at Ha168 hin168 rfl) rfl rfl (hb hby d2_28) (XS.iload X0.here hx rfl (hb hby d2_29) rfl k))))) ?_
      show OGl _ _ _ _ s₁ (mkF m 31 #[.val (.ref o0), .val (.ref o1), .val (.int (5 : Int32)), .val (.long q2), .second, .val (.int (e2e_0 q2))] [(.int (e2e_0 q2)), (.long q19)])
      obtain ⟨_, _, ⟨T169, L169, kk169, n169⟩, -, X169, ⟨Lc169, hQ169, l169, y169, z169⟩, st169⟩ := Jvm.LawKit.callS X0 hx (y := (⟨"com/example/skipscan/skipscan/ByteScanRepeatedPinLaw", "rep", "(B)J"⟩ : MethodName)) hown (mvT hZ (hw _ (List.mem_of_getElem? (i := 12) rfl))) (mvT hZ (hw _ (List.mem_of_getElem? (i := 13) rfl))) (mvT hZ (hw _ (List.mem_of_getElem? (i := 9) rfl))) (mvT hZ (hw _ (List.mem_of_getElem? (i := 14) rfl))) (by decide) (backOf (W := 2) (rm3 l Z a0 hw [] (e2e_0 q2) h0 n0 Z0 ) hZ (hw _ (List.mem_of_getElem? (i := 14) rfl)) (hw _ (List.mem_of_getElem? (i := 9) rfl)) (by decide) (by decide)) (g := (mkF m 31 #[.val (.ref o0), .val (.ref o1), .val (.int (5 : Int32)), .val (.long q2), .second, .val (.int (e2e_0 q2))] [(.int (e2e_0 q2)), (.long q19)])) rfl (by rw [hml]; rfl) (argsL := [(.int (e2e_0 q2))]) (rest := [(.long q19)]) (lenOf pd_1 rfl) rfl (by show 2 * 0 + _ ≤ _; exact Nat.le_of_eq rfl) (hb hby d2_31) (fun _ _ => ⟨rfl, e0, (by decide : 0 + 0 ≤ _), (by decide : 0 + 0 ≤ _)⟩)
      dsimp only [Pt.U, Pt.locs, Pt.cells, Pt.slots] at X169 l169 y169 z169 st169 hQ169
      subst l169 y169 z169
      obtain ⟨rfl, Nq169, e169⟩ := hQ169
      have N169 := Fr.app N0 Nq169
      refine OGl.go st169 ?_
      show OGl _ _ _ _ T169 (mkF m 34 #[.val (.ref o0), .val (.ref o1), .val (.int (5 : Int32)), .val (.long q2), .second, .val (.int (e2e_0 q2))] [(.long (e3_3 (e2e_0 q2))), (.long q19)])
      refine OGl.go (fun t k => XS.lcmp X169.here hx rfl (hb hby d2_34) rfl k) ?_
      show OGl _ _ _ _ T169 (mkF m 35 #[.val (.ref o0), .val (.ref o1), .val (.int (5 : Int32)), .val (.long q2), .second, .val (.int (e2e_0 q2))] [(.int (lcmpW q19 (e3_3 (e2e_0 q2))))])
      by_cases hc170 : q19 = (e3_3 (e2e_0 q2))
      · refine OGl.go (fun t k => XS.ifNo X169.here hx rfl (hb hby d2_35) rfl (own_teqL hc170).2 (XS.iconst X169.here hx rfl (hb hby d2_38) (XS.goto X169.here hx rfl (pc0 := 39) (pc' := 43) rfl (hb hby d2_39) (by decide) (by decide) k))) ?_
        show OGl _ _ _ _ T169 (mkF m 43 #[.val (.ref o0), .val (.ref o1), .val (.int (5 : Int32)), .val (.long q2), .second, .val (.int (e2e_0 q2))] [(.int (1 : Int32))])
        obtain ⟨fs, hr, hrun, hended, hW, hsame⟩ := X169.leave (v := some (.int (1 : Int32))) (fun h => by rw [Bd.returns] at h; cases h)
        refine ⟨_, _, retN X169 hx (t := .boolean) Bd.returns (by simp) (hb hby d2_43) hr, hrun, hended, _, _, rfl, ?_, ⟨_, rfl⟩, hW, hsame.mono (by decide) (by decide)⟩
        have hv171 : (t2e_0 q2 p4 p5 p6 p7 p8 p9 p10 p11 p12 q14 q15 q16 q17 q18 q19 q20 q21) = (1 : Int32) := by unfold t2e_0; rw [if_pos hc165, if_pos hc167, if_pos hc170]
        show Q2e Z o0 o1 q2 k3 p4 p5 p6 p7 p8 p9 p10 p11 p12 k13 q14 q15 q16 q17 q18 q19 q20 q21 h0 n0 _ T169.heap _
        rw [e169]
        exact ⟨(by rw [hv171]), N169, rfl⟩
      · refine OGl.go (fun t k => XS.ifYes X169.here hx rfl (pc0 := 35) (pc' := 42) rfl (hb hby d2_35) rfl (own_feqL hc170).2 (by decide) (by decide) (XS.iconst X169.here hx rfl (hb hby d2_42) k)) ?_
        show OGl _ _ _ _ T169 (mkF m 43 #[.val (.ref o0), .val (.ref o1), .val (.int (5 : Int32)), .val (.long q2), .second, .val (.int (e2e_0 q2))] [(.int (0 : Int32))])
        obtain ⟨fs, hr, hrun, hended, hW, hsame⟩ := X169.leave (v := some (.int (0 : Int32))) (fun h => by rw [Bd.returns] at h; cases h)
        refine ⟨_, _, retN X169 hx (t := .boolean) Bd.returns (by simp) (hb hby d2_43) hr, hrun, hended, _, _, rfl, ?_, ⟨_, rfl⟩, hW, hsame.mono (by decide) (by decide)⟩
        have hv172 : (t2e_0 q2 p4 p5 p6 p7 p8 p9 p10 p11 p12 q14 q15 q16 q17 q18 q19 q20 q21) = (0 : Int32) := by unfold t2e_0; rw [if_pos hc165, if_pos hc167, if_neg hc170]
        show Q2e Z o0 o1 q2 k3 p4 p5 p6 p7 p8 p9 p10 p11 p12 k13 q14 q15 q16 q17 q18 q19 q20 q21 h0 n0 _ T169.heap _
        rw [e169]
        exact ⟨(by rw [hv172]), N169, rfl⟩
    · refine OGl.go (fun t k => XS.icmpYes X0.here hx rfl (pc0 := 23) (pc' := 42) rfl (hb hby d2_23) rfl (feq hc167).2 (by decide) (by decide) (XS.iconst X0.here hx rfl (hb hby d2_42) k)) ?_
      show OGl _ _ _ _ s₁ (mkF m 43 #[.val (.ref o0), .val (.ref o1), .val (.int (5 : Int32)), .val (.long q2), .second, .val (.int (e2e_0 q2))] [(.int (0 : Int32))])
      obtain ⟨fs, hr, hrun, hended, hW, hsame⟩ := X0.leave (v := some (.int (0 : Int32))) (fun h => by rw [Bd.returns] at h; cases h)
      refine ⟨_, _, retN X0 hx (t := .boolean) Bd.returns (by simp) (hb hby d2_43) hr, hrun, hended, _, _, rfl, ?_, ⟨_, rfl⟩, hW, hsame.mono (by decide) (by decide)⟩
      have hv173 : (t2e_0 q2 p4 p5 p6 p7 p8 p9 p10 p11 p12 q14 q15 q16 q17 q18 q19 q20 q21) = (0 : Int32) := by unfold t2e_0; rw [if_pos hc165, if_neg hc167]
      show Q2e Z o0 o1 q2 k3 p4 p5 p6 p7 p8 p9 p10 p11 p12 k13 q14 q15 q16 q17 q18 q19 q20 q21 h0 n0 _ s₁.heap _
      rw [e0]
      exact ⟨(by rw [hv173]), N0, rfl⟩
  · refine OGl.go (fun t k => XS.icmpNo X0.here hx rfl (hb hby d2_3) rfl (flt hc165).1 (XS.iconst X0.here hx rfl (hb hby d2_6) k)) ?_
    show OGl _ _ _ _ s₁ (mkF m 7 #[.val (.ref o0), .val (.ref o1), .val (.int (5 : Int32)), .val (.long q2), .second, .unset] [(.int (1 : Int32))])
    obtain ⟨fs, hr, hrun, hended, hW, hsame⟩ := X0.leave (v := some (.int (1 : Int32))) (fun h => by rw [Bd.returns] at h; cases h)
    refine ⟨_, _, retN X0 hx (t := .boolean) Bd.returns (by simp) (hb hby d2_7) hr, hrun, hended, _, _, rfl, ?_, ⟨_, rfl⟩, hW, hsame.mono (by decide) (by decide)⟩
    have hv174 : (t2e_0 q2 p4 p5 p6 p7 p8 p9 p10 p11 p12 q14 q15 q16 q17 q18 q19 q20 q21) = (1 : Int32) := by unfold t2e_0; rw [if_neg hc165]
    show Q2e Z o0 o1 q2 k3 p4 p5 p6 p7 p8 p9 p10 p11 p12 k13 q14 q15 q16 q17 q18 q19 q20 q21 h0 n0 _ s₁.heap _
    rw [e0]
    exact ⟨(by rw [hv174]), N0, rfl⟩
def e2f_0 (q2 : Int64) : Int32 := ((((((q2.toUInt64 >>> ((48 : Int32) &&& 0x3f).toInt64.toUInt64).toInt64)).toInt32)).toInt8.toInt32)
def t2f_0 (q2 : Int64) (p4 : Int32) (p5 : Int32) (p6 : Int32) (p7 : Int32) (p8 : Int32) (p9 : Int32) (p10 : Int32) (p11 : Int32) (p12 : Int32) (q14 : Int64) (q15 : Int64) (q16 : Int64) (q17 : Int64) (q18 : Int64) (q19 : Int64) (q20 : Int64) (q21 : Int64) : Int32 := (if (6 : Int32) < p4 then (if p11 = (e2f_0 q2) then (if q20 = (e3_3 (e2f_0 q2)) then (1 : Int32) else (0 : Int32)) else (0 : Int32)) else (1 : Int32))
def Q2f (Z : State) (o0 : Addr) (o1 : Addr) (q2 : Int64) (k3 : ClassId) (p4 : Int32) (p5 : Int32) (p6 : Int32) (p7 : Int32) (p8 : Int32) (p9 : Int32) (p10 : Int32) (p11 : Int32) (p12 : Int32) (k13 : ClassId) (q14 : Int64) (q15 : Int64) (q16 : Int64) (q17 : Int64) (q18 : Int64) (q19 : Int64) (q20 : Int64) (q21 : Int64) (h0 : Heap) (n0 : Nat) (v : Option Value) (h : Heap) (L : List Loc) : Prop := v = some (.int (t2f_0 q2 p4 p5 p6 p7 p8 p9 p10 p11 p12 q14 q15 q16 q17 q18 q19 q20 q21)) ∧ Fr n0 L ∧ h = h0
set_option maxRecDepth 65536 in
set_option maxHeartbeats 40000000 in
theorem rm2f (l : Launch) (Z : State) (a0 : Array Value) (hw : ∀ d ∈ tables_1, d.before a0 Z = true) (ws : List Jvm.Cond) (o0 : Addr) (o1 : Addr) (q2 : Int64) (k3 : ClassId) (p4 : Int32) (p5 : Int32) (p6 : Int32) (p7 : Int32) (p8 : Int32) (p9 : Int32) (p10 : Int32) (p11 : Int32) (p12 : Int32) (k13 : ClassId) (q14 : Int64) (q15 : Int64) (q16 : Int64) (q17 : Int64) (q18 : Int64) (q19 : Int64) (q20 : Int64) (q21 : Int64) (h0 : Heap) (n0 : Nat) (Z0 : n0 ≤ h0.size) (V_o1 : Arv Z h0 o1 k3 .byte p4 [(.int p5), (.int p6), (.int p7), (.int p8), (.int p9), (.int p10), (.int p11), (.int p12)] (.int (0 : Int32))) (V_o0 : Arv Z h0 o0 k13 .long p4 [(.long q14), (.long q15), (.long q16), (.long q17), (.long q18), (.long q19), (.long q20), (.long q21)] (.long (0 : Int64))) :
    MetFree l (⟨"com/example/skipscan/skipscan/ByteScanRepeatedPinLaw", "ok", "([J[BIJ)Z"⟩ : MethodName) (head1 (Jvm.Cond.code (⟨"com/example/skipscan/skipscan/ByteScanRepeatedPinLaw", "ok", "([J[BIJ)Z"⟩ : MethodName) method_3_code 6 (some .boolean) :: ws) ({ frames := 1, cells := 0, slots := 0, locals := 16 } : Room)) (fun a U => a = #[(.ref o0), (.ref o1), (.int (6 : Int32)), (.long q2)] ∧ Z.Warmed39 U.vm ∧ U.heap = h0) (fun _ _ _ _ _ => True) (fun _ U o U' => ∃ v L, o = .returned v ∧ Q2f Z o0 o1 q2 k3 p4 p5 p6 p7 p8 p9 p10 p11 p12 k13 q14 q15 q16 q17 q18 q19 q20 q21 h0 n0 v U'.heap L ∧ FrameEnd U o U' L ({ frames := 1, cells := 0, slots := 0, locals := 16 } : Room).cells ({ frames := 1, cells := 0, slots := 0, locals := 16 } : Room).slots) := by
  refine MetFree.of_bodySF (plainFor_of_name pn_1) hisR ?_
  intro p e s m args below meth c s₁ Bd hml0 hP hK
  obtain ⟨rfl, hZ, hh⟩ := hP
  have hx := Bd.exec
  have hby := Bd.bytes
  have hml : c.maxLocals = 6 := hml0
  have hown : s.vm.findClass "com/example/skipscan/skipscan/ByteScanRepeatedPinLaw" = some m.cls := findClass_of_methodNamed Bd.named
  have hnm := (name_of_methodNamed Bd.named Bd.method).1
  have X0 : Stand p l e ({ frames := 1, cells := 0, slots := 0, locals := 16 } : Room) s m #[(.ref o0), (.ref o1), (.int (6 : Int32)), (.long q2)] below meth c s₁ [] 0 0 := Stand.of_body Bd
  have e0 : s₁.heap = h0 := by rw [← hh, Bd.state]; rfl
  have N0 := Fr.nil n0
  refine OGl.start (ef_2 m o0 o1 (6 : Int32) q2) ?_
  show OGl _ _ _ _ s₁ (mkF m 0 #[.val (.ref o0), .val (.ref o1), .val (.int (6 : Int32)), .val (.long q2), .second, .unset] [])
  obtain ⟨cl177, Ar177, -, Sz177, Nn177, -, -⟩ := id V_o1
  refine OGl.go (fun t k => XS.iloadN X0.here hx rfl (hb hby d2_0) rfl (XS.aloadN X0.here hx rfl (hb hby d2_1) rfl rfl (own_len X0 hx (by rw [e0]; exact Ar177.1) (State.isArrayOf_alike hZ.alike Ar177.2.1) Sz177 Nn177 rfl rfl (hb hby d2_2) k))) ?_
  show OGl _ _ _ _ s₁ (mkF m 3 #[.val (.ref o0), .val (.ref o1), .val (.int (6 : Int32)), .val (.long q2), .second, .unset] [(.int p4), (.int (6 : Int32))])
  by_cases hc178 : (6 : Int32) < p4
  · refine OGl.go (fun t k => XS.icmpYes X0.here hx rfl (pc0 := 3) (pc' := 8) rfl (hb hby d2_3) rfl (tlt hc178).1 (by decide) (by decide) (XS.lloadN X0.here hx rfl (hb hby d2_8) rfl (XS.bipush X0.here hx rfl (hb hby d2_9) (XS.iloadN X0.here hx rfl (hb hby d2_11) rfl (XS.imul X0.here hx rfl (hb hby d2_12) rfl (XS.lushr X0.here hx rfl (hb hby d2_13) rfl (XS.l2i X0.here hx rfl (hb hby d2_14) rfl (XS.i2b X0.here hx rfl (hb hby d2_15) rfl k)))))))) ?_
    show OGl _ _ _ _ s₁ (mkF m 16 #[.val (.ref o0), .val (.ref o1), .val (.int (6 : Int32)), .val (.long q2), .second, .unset] [(.int ((((((q2.toUInt64 >>> ((48 : Int32) &&& 0x3f).toInt64.toUInt64).toInt64)).toInt32)).toInt8.toInt32))])
    obtain ⟨cl179, Ar179, -, Sz179, -, Ha179, -⟩ := id V_o1
    have hin179 : ¬ ((6 : Int32) < 0 ∨ cl179.slots.size ≤ ((6 : Int32)).toNatClampNeg) := inb_of Sz179 ⟨by decide, hc178⟩
    refine OGl.go (fun t k => XS.istore X0.here hx rfl (hb hby d2_16) rfl (l' := #[.val (.ref o0), .val (.ref o1), .val (.int (6 : Int32)), .val (.long q2), .second, .val (.int (e2f_0 q2))]) rfl (XS.aloadN X0.here hx rfl (hb hby d2_18) rfl rfl (XS.iloadN X0.here hx rfl (hb hby d2_19) rfl (own_baload X0 hx (j := (6 : Int32)) (v := (.int p11)) (by rw [e0]; exact Ar179.1) (State.isArrayOf_alike hZ.alike Ar179.2.1) Ar179.2.2 hin179 (Has.at Ha179 hin179 rfl) rfl rfl (hb hby d2_20) (XS.iload X0.here hx rfl (hb hby d2_21) rfl k))))) ?_
    show OGl _ _ _ _ s₁ (mkF m 23 #[.val (.ref o0), .val (.ref o1), .val (.int (6 : Int32)), .val (.long q2), .second, .val (.int (e2f_0 q2))] [(.int (e2f_0 q2)), (.int p11)])
    by_cases hc180 : p11 = (e2f_0 q2)
    · obtain ⟨cl181, Ar181, -, Sz181, -, Ha181, -⟩ := id V_o0
      have hin181 : ¬ ((6 : Int32) < 0 ∨ cl181.slots.size ≤ ((6 : Int32)).toNatClampNeg) := inb_of Sz181 ⟨by decide, hc178⟩
      refine OGl.go (fun t k => XS.icmpNo X0.here hx rfl (hb hby d2_23) rfl (teq hc180).2 (XS.aloadN X0.here hx rfl (hb hby d2_26) rfl rfl (XS.iloadN X0.here hx rfl (hb hby d2_27) rfl (own_laload X0 hx (j := (6 : Int32)) (v := (.long q20)) (by rw [e0]; exact Ar181.1) (State.isArrayOf_alike hZ.alike Ar181.2.1) Ar181.2.2 hin181 (Has.at Ha181 hin181 rfl) rfl rfl (hb hby d2_28) (XS.iload X0.here hx rfl (hb hby d2_29) rfl k))))) ?_
      show OGl _ _ _ _ s₁ (mkF m 31 #[.val (.ref o0), .val (.ref o1), .val (.int (6 : Int32)), .val (.long q2), .second, .val (.int (e2f_0 q2))] [(.int (e2f_0 q2)), (.long q20)])
      obtain ⟨_, _, ⟨T182, L182, kk182, n182⟩, -, X182, ⟨Lc182, hQ182, l182, y182, z182⟩, st182⟩ := Jvm.LawKit.callS X0 hx (y := (⟨"com/example/skipscan/skipscan/ByteScanRepeatedPinLaw", "rep", "(B)J"⟩ : MethodName)) hown (mvT hZ (hw _ (List.mem_of_getElem? (i := 12) rfl))) (mvT hZ (hw _ (List.mem_of_getElem? (i := 13) rfl))) (mvT hZ (hw _ (List.mem_of_getElem? (i := 9) rfl))) (mvT hZ (hw _ (List.mem_of_getElem? (i := 14) rfl))) (by decide) (backOf (W := 2) (rm3 l Z a0 hw [] (e2f_0 q2) h0 n0 Z0 ) hZ (hw _ (List.mem_of_getElem? (i := 14) rfl)) (hw _ (List.mem_of_getElem? (i := 9) rfl)) (by decide) (by decide)) (g := (mkF m 31 #[.val (.ref o0), .val (.ref o1), .val (.int (6 : Int32)), .val (.long q2), .second, .val (.int (e2f_0 q2))] [(.int (e2f_0 q2)), (.long q20)])) rfl (by rw [hml]; rfl) (argsL := [(.int (e2f_0 q2))]) (rest := [(.long q20)]) (lenOf pd_1 rfl) rfl (by show 2 * 0 + _ ≤ _; exact Nat.le_of_eq rfl) (hb hby d2_31) (fun _ _ => ⟨rfl, e0, (by decide : 0 + 0 ≤ _), (by decide : 0 + 0 ≤ _)⟩)
      dsimp only [Pt.U, Pt.locs, Pt.cells, Pt.slots] at X182 l182 y182 z182 st182 hQ182
      subst l182 y182 z182
      obtain ⟨rfl, Nq182, e182⟩ := hQ182
      have N182 := Fr.app N0 Nq182
      refine OGl.go st182 ?_
      show OGl _ _ _ _ T182 (mkF m 34 #[.val (.ref o0), .val (.ref o1), .val (.int (6 : Int32)), .val (.long q2), .second, .val (.int (e2f_0 q2))] [(.long (e3_3 (e2f_0 q2))), (.long q20)])
      refine OGl.go (fun t k => XS.lcmp X182.here hx rfl (hb hby d2_34) rfl k) ?_
      show OGl _ _ _ _ T182 (mkF m 35 #[.val (.ref o0), .val (.ref o1), .val (.int (6 : Int32)), .val (.long q2), .second, .val (.int (e2f_0 q2))] [(.int (lcmpW q20 (e3_3 (e2f_0 q2))))])
      by_cases hc183 : q20 = (e3_3 (e2f_0 q2))
      · refine OGl.go (fun t k => XS.ifNo X182.here hx rfl (hb hby d2_35) rfl (own_teqL hc183).2 (XS.iconst X182.here hx rfl (hb hby d2_38) (XS.goto X182.here hx rfl (pc0 := 39) (pc' := 43) rfl (hb hby d2_39) (by decide) (by decide) k))) ?_
        show OGl _ _ _ _ T182 (mkF m 43 #[.val (.ref o0), .val (.ref o1), .val (.int (6 : Int32)), .val (.long q2), .second, .val (.int (e2f_0 q2))] [(.int (1 : Int32))])
        obtain ⟨fs, hr, hrun, hended, hW, hsame⟩ := X182.leave (v := some (.int (1 : Int32))) (fun h => by rw [Bd.returns] at h; cases h)
        refine ⟨_, _, retN X182 hx (t := .boolean) Bd.returns (by simp) (hb hby d2_43) hr, hrun, hended, _, _, rfl, ?_, ⟨_, rfl⟩, hW, hsame.mono (by decide) (by decide)⟩
        have hv184 : (t2f_0 q2 p4 p5 p6 p7 p8 p9 p10 p11 p12 q14 q15 q16 q17 q18 q19 q20 q21) = (1 : Int32) := by unfold t2f_0; rw [if_pos hc178, if_pos hc180, if_pos hc183]
        show Q2f Z o0 o1 q2 k3 p4 p5 p6 p7 p8 p9 p10 p11 p12 k13 q14 q15 q16 q17 q18 q19 q20 q21 h0 n0 _ T182.heap _
        rw [e182]
        exact ⟨(by rw [hv184]), N182, rfl⟩
      · refine OGl.go (fun t k => XS.ifYes X182.here hx rfl (pc0 := 35) (pc' := 42) rfl (hb hby d2_35) rfl (own_feqL hc183).2 (by decide) (by decide) (XS.iconst X182.here hx rfl (hb hby d2_42) k)) ?_
        show OGl _ _ _ _ T182 (mkF m 43 #[.val (.ref o0), .val (.ref o1), .val (.int (6 : Int32)), .val (.long q2), .second, .val (.int (e2f_0 q2))] [(.int (0 : Int32))])
        obtain ⟨fs, hr, hrun, hended, hW, hsame⟩ := X182.leave (v := some (.int (0 : Int32))) (fun h => by rw [Bd.returns] at h; cases h)
        refine ⟨_, _, retN X182 hx (t := .boolean) Bd.returns (by simp) (hb hby d2_43) hr, hrun, hended, _, _, rfl, ?_, ⟨_, rfl⟩, hW, hsame.mono (by decide) (by decide)⟩
        have hv185 : (t2f_0 q2 p4 p5 p6 p7 p8 p9 p10 p11 p12 q14 q15 q16 q17 q18 q19 q20 q21) = (0 : Int32) := by unfold t2f_0; rw [if_pos hc178, if_pos hc180, if_neg hc183]
        show Q2f Z o0 o1 q2 k3 p4 p5 p6 p7 p8 p9 p10 p11 p12 k13 q14 q15 q16 q17 q18 q19 q20 q21 h0 n0 _ T182.heap _
        rw [e182]
        exact ⟨(by rw [hv185]), N182, rfl⟩
    · refine OGl.go (fun t k => XS.icmpYes X0.here hx rfl (pc0 := 23) (pc' := 42) rfl (hb hby d2_23) rfl (feq hc180).2 (by decide) (by decide) (XS.iconst X0.here hx rfl (hb hby d2_42) k)) ?_
      show OGl _ _ _ _ s₁ (mkF m 43 #[.val (.ref o0), .val (.ref o1), .val (.int (6 : Int32)), .val (.long q2), .second, .val (.int (e2f_0 q2))] [(.int (0 : Int32))])
      obtain ⟨fs, hr, hrun, hended, hW, hsame⟩ := X0.leave (v := some (.int (0 : Int32))) (fun h => by rw [Bd.returns] at h; cases h)
      refine ⟨_, _, retN X0 hx (t := .boolean) Bd.returns (by simp) (hb hby d2_43) hr, hrun, hended, _, _, rfl, ?_, ⟨_, rfl⟩, hW, hsame.mono (by decide) (by decide)⟩
      have hv186 : (t2f_0 q2 p4 p5 p6 p7 p8 p9 p10 p11 p12 q14 q15 q16 q17 q18 q19 q20 q21) = (0 : Int32) := by unfold t2f_0; rw [if_pos hc178, if_neg hc180]
      show Q2f Z o0 o1 q2 k3 p4 p5 p6 p7 p8 p9 p10 p11 p12 k13 q14 q15 q16 q17 q18 q19 q20 q21 h0 n0 _ s₁.heap _
      rw [e0]
      exact ⟨(by rw [hv186]), N0, rfl⟩
  · refine OGl.go (fun t k => XS.icmpNo X0.here hx rfl (hb hby d2_3) rfl (flt hc178).1 (XS.iconst X0.here hx rfl (hb hby d2_6) k)) ?_
    show OGl _ _ _ _ s₁ (mkF m 7 #[.val (.ref o0), .val (.ref o1), .val (.int (6 : Int32)), .val (.long q2), .second, .unset] [(.int (1 : Int32))])
    obtain ⟨fs, hr, hrun, hended, hW, hsame⟩ := X0.leave (v := some (.int (1 : Int32))) (fun h => by rw [Bd.returns] at h; cases h)
    refine ⟨_, _, retN X0 hx (t := .boolean) Bd.returns (by simp) (hb hby d2_7) hr, hrun, hended, _, _, rfl, ?_, ⟨_, rfl⟩, hW, hsame.mono (by decide) (by decide)⟩
    have hv187 : (t2f_0 q2 p4 p5 p6 p7 p8 p9 p10 p11 p12 q14 q15 q16 q17 q18 q19 q20 q21) = (1 : Int32) := by unfold t2f_0; rw [if_neg hc178]
    show Q2f Z o0 o1 q2 k3 p4 p5 p6 p7 p8 p9 p10 p11 p12 k13 q14 q15 q16 q17 q18 q19 q20 q21 h0 n0 _ s₁.heap _
    rw [e0]
    exact ⟨(by rw [hv187]), N0, rfl⟩
def e2g_0 (q2 : Int64) : Int32 := ((((((q2.toUInt64 >>> ((56 : Int32) &&& 0x3f).toInt64.toUInt64).toInt64)).toInt32)).toInt8.toInt32)
def t2g_0 (q2 : Int64) (p4 : Int32) (p5 : Int32) (p6 : Int32) (p7 : Int32) (p8 : Int32) (p9 : Int32) (p10 : Int32) (p11 : Int32) (p12 : Int32) (q14 : Int64) (q15 : Int64) (q16 : Int64) (q17 : Int64) (q18 : Int64) (q19 : Int64) (q20 : Int64) (q21 : Int64) : Int32 := (if (7 : Int32) < p4 then (if p12 = (e2g_0 q2) then (if q21 = (e3_3 (e2g_0 q2)) then (1 : Int32) else (0 : Int32)) else (0 : Int32)) else (1 : Int32))
def Q2g (Z : State) (o0 : Addr) (o1 : Addr) (q2 : Int64) (k3 : ClassId) (p4 : Int32) (p5 : Int32) (p6 : Int32) (p7 : Int32) (p8 : Int32) (p9 : Int32) (p10 : Int32) (p11 : Int32) (p12 : Int32) (k13 : ClassId) (q14 : Int64) (q15 : Int64) (q16 : Int64) (q17 : Int64) (q18 : Int64) (q19 : Int64) (q20 : Int64) (q21 : Int64) (h0 : Heap) (n0 : Nat) (v : Option Value) (h : Heap) (L : List Loc) : Prop := v = some (.int (t2g_0 q2 p4 p5 p6 p7 p8 p9 p10 p11 p12 q14 q15 q16 q17 q18 q19 q20 q21)) ∧ Fr n0 L ∧ h = h0
set_option maxRecDepth 65536 in
set_option maxHeartbeats 40000000 in
theorem rm2g (l : Launch) (Z : State) (a0 : Array Value) (hw : ∀ d ∈ tables_1, d.before a0 Z = true) (ws : List Jvm.Cond) (o0 : Addr) (o1 : Addr) (q2 : Int64) (k3 : ClassId) (p4 : Int32) (p5 : Int32) (p6 : Int32) (p7 : Int32) (p8 : Int32) (p9 : Int32) (p10 : Int32) (p11 : Int32) (p12 : Int32) (k13 : ClassId) (q14 : Int64) (q15 : Int64) (q16 : Int64) (q17 : Int64) (q18 : Int64) (q19 : Int64) (q20 : Int64) (q21 : Int64) (h0 : Heap) (n0 : Nat) (Z0 : n0 ≤ h0.size) (V_o1 : Arv Z h0 o1 k3 .byte p4 [(.int p5), (.int p6), (.int p7), (.int p8), (.int p9), (.int p10), (.int p11), (.int p12)] (.int (0 : Int32))) (V_o0 : Arv Z h0 o0 k13 .long p4 [(.long q14), (.long q15), (.long q16), (.long q17), (.long q18), (.long q19), (.long q20), (.long q21)] (.long (0 : Int64))) :
    MetFree l (⟨"com/example/skipscan/skipscan/ByteScanRepeatedPinLaw", "ok", "([J[BIJ)Z"⟩ : MethodName) (head1 (Jvm.Cond.code (⟨"com/example/skipscan/skipscan/ByteScanRepeatedPinLaw", "ok", "([J[BIJ)Z"⟩ : MethodName) method_3_code 6 (some .boolean) :: ws) ({ frames := 1, cells := 0, slots := 0, locals := 16 } : Room)) (fun a U => a = #[(.ref o0), (.ref o1), (.int (7 : Int32)), (.long q2)] ∧ Z.Warmed39 U.vm ∧ U.heap = h0) (fun _ _ _ _ _ => True) (fun _ U o U' => ∃ v L, o = .returned v ∧ Q2g Z o0 o1 q2 k3 p4 p5 p6 p7 p8 p9 p10 p11 p12 k13 q14 q15 q16 q17 q18 q19 q20 q21 h0 n0 v U'.heap L ∧ FrameEnd U o U' L ({ frames := 1, cells := 0, slots := 0, locals := 16 } : Room).cells ({ frames := 1, cells := 0, slots := 0, locals := 16 } : Room).slots) := by
  refine MetFree.of_bodySF (plainFor_of_name pn_1) hisR ?_
  intro p e s m args below meth c s₁ Bd hml0 hP hK
  obtain ⟨rfl, hZ, hh⟩ := hP
  have hx := Bd.exec
  have hby := Bd.bytes
  have hml : c.maxLocals = 6 := hml0
  have hown : s.vm.findClass "com/example/skipscan/skipscan/ByteScanRepeatedPinLaw" = some m.cls := findClass_of_methodNamed Bd.named
  have hnm := (name_of_methodNamed Bd.named Bd.method).1
  have X0 : Stand p l e ({ frames := 1, cells := 0, slots := 0, locals := 16 } : Room) s m #[(.ref o0), (.ref o1), (.int (7 : Int32)), (.long q2)] below meth c s₁ [] 0 0 := Stand.of_body Bd
  have e0 : s₁.heap = h0 := by rw [← hh, Bd.state]; rfl
  have N0 := Fr.nil n0
  refine OGl.start (ef_2 m o0 o1 (7 : Int32) q2) ?_
  show OGl _ _ _ _ s₁ (mkF m 0 #[.val (.ref o0), .val (.ref o1), .val (.int (7 : Int32)), .val (.long q2), .second, .unset] [])
  obtain ⟨cl190, Ar190, -, Sz190, Nn190, -, -⟩ := id V_o1
  refine OGl.go (fun t k => XS.iloadN X0.here hx rfl (hb hby d2_0) rfl (XS.aloadN X0.here hx rfl (hb hby d2_1) rfl rfl (own_len X0 hx (by rw [e0]; exact Ar190.1) (State.isArrayOf_alike hZ.alike Ar190.2.1) Sz190 Nn190 rfl rfl (hb hby d2_2) k))) ?_
  show OGl _ _ _ _ s₁ (mkF m 3 #[.val (.ref o0), .val (.ref o1), .val (.int (7 : Int32)), .val (.long q2), .second, .unset] [(.int p4), (.int (7 : Int32))])
  by_cases hc191 : (7 : Int32) < p4
  · refine OGl.go (fun t k => XS.icmpYes X0.here hx rfl (pc0 := 3) (pc' := 8) rfl (hb hby d2_3) rfl (tlt hc191).1 (by decide) (by decide) (XS.lloadN X0.here hx rfl (hb hby d2_8) rfl (XS.bipush X0.here hx rfl (hb hby d2_9) (XS.iloadN X0.here hx rfl (hb hby d2_11) rfl (XS.imul X0.here hx rfl (hb hby d2_12) rfl (XS.lushr X0.here hx rfl (hb hby d2_13) rfl (XS.l2i X0.here hx rfl (hb hby d2_14) rfl (XS.i2b X0.here hx rfl (hb hby d2_15) rfl k)))))))) ?_
    show OGl _ _ _ _ s₁ (mkF m 16 #[.val (.ref o0), .val (.ref o1), .val (.int (7 : Int32)), .val (.long q2), .second, .unset] [(.int ((((((q2.toUInt64 >>> ((56 : Int32) &&& 0x3f).toInt64.toUInt64).toInt64)).toInt32)).toInt8.toInt32))])
    obtain ⟨cl192, Ar192, -, Sz192, -, Ha192, -⟩ := id V_o1
    have hin192 : ¬ ((7 : Int32) < 0 ∨ cl192.slots.size ≤ ((7 : Int32)).toNatClampNeg) := inb_of Sz192 ⟨by decide, hc191⟩
    refine OGl.go (fun t k => XS.istore X0.here hx rfl (hb hby d2_16) rfl (l' := #[.val (.ref o0), .val (.ref o1), .val (.int (7 : Int32)), .val (.long q2), .second, .val (.int (e2g_0 q2))]) rfl (XS.aloadN X0.here hx rfl (hb hby d2_18) rfl rfl (XS.iloadN X0.here hx rfl (hb hby d2_19) rfl (own_baload X0 hx (j := (7 : Int32)) (v := (.int p12)) (by rw [e0]; exact Ar192.1) (State.isArrayOf_alike hZ.alike Ar192.2.1) Ar192.2.2 hin192 (Has.at Ha192 hin192 rfl) rfl rfl (hb hby d2_20) (XS.iload X0.here hx rfl (hb hby d2_21) rfl k))))) ?_
    show OGl _ _ _ _ s₁ (mkF m 23 #[.val (.ref o0), .val (.ref o1), .val (.int (7 : Int32)), .val (.long q2), .second, .val (.int (e2g_0 q2))] [(.int (e2g_0 q2)), (.int p12)])
    by_cases hc193 : p12 = (e2g_0 q2)
    · obtain ⟨cl194, Ar194, -, Sz194, -, Ha194, -⟩ := id V_o0
      have hin194 : ¬ ((7 : Int32) < 0 ∨ cl194.slots.size ≤ ((7 : Int32)).toNatClampNeg) := inb_of Sz194 ⟨by decide, hc191⟩
      refine OGl.go (fun t k => XS.icmpNo X0.here hx rfl (hb hby d2_23) rfl (teq hc193).2 (XS.aloadN X0.here hx rfl (hb hby d2_26) rfl rfl (XS.iloadN X0.here hx rfl (hb hby d2_27) rfl (own_laload X0 hx (j := (7 : Int32)) (v := (.long q21)) (by rw [e0]; exact Ar194.1) (State.isArrayOf_alike hZ.alike Ar194.2.1) Ar194.2.2 hin194 (Has.at Ha194 hin194 rfl) rfl rfl (hb hby d2_28) (XS.iload X0.here hx rfl (hb hby d2_29) rfl k))))) ?_
      show OGl _ _ _ _ s₁ (mkF m 31 #[.val (.ref o0), .val (.ref o1), .val (.int (7 : Int32)), .val (.long q2), .second, .val (.int (e2g_0 q2))] [(.int (e2g_0 q2)), (.long q21)])
      obtain ⟨_, _, ⟨T195, L195, kk195, n195⟩, -, X195, ⟨Lc195, hQ195, l195, y195, z195⟩, st195⟩ := Jvm.LawKit.callS X0 hx (y := (⟨"com/example/skipscan/skipscan/ByteScanRepeatedPinLaw", "rep", "(B)J"⟩ : MethodName)) hown (mvT hZ (hw _ (List.mem_of_getElem? (i := 12) rfl))) (mvT hZ (hw _ (List.mem_of_getElem? (i := 13) rfl))) (mvT hZ (hw _ (List.mem_of_getElem? (i := 9) rfl))) (mvT hZ (hw _ (List.mem_of_getElem? (i := 14) rfl))) (by decide) (backOf (W := 2) (rm3 l Z a0 hw [] (e2g_0 q2) h0 n0 Z0 ) hZ (hw _ (List.mem_of_getElem? (i := 14) rfl)) (hw _ (List.mem_of_getElem? (i := 9) rfl)) (by decide) (by decide)) (g := (mkF m 31 #[.val (.ref o0), .val (.ref o1), .val (.int (7 : Int32)), .val (.long q2), .second, .val (.int (e2g_0 q2))] [(.int (e2g_0 q2)), (.long q21)])) rfl (by rw [hml]; rfl) (argsL := [(.int (e2g_0 q2))]) (rest := [(.long q21)]) (lenOf pd_1 rfl) rfl (by show 2 * 0 + _ ≤ _; exact Nat.le_of_eq rfl) (hb hby d2_31) (fun _ _ => ⟨rfl, e0, (by decide : 0 + 0 ≤ _), (by decide : 0 + 0 ≤ _)⟩)
      dsimp only [Pt.U, Pt.locs, Pt.cells, Pt.slots] at X195 l195 y195 z195 st195 hQ195
      subst l195 y195 z195
      obtain ⟨rfl, Nq195, e195⟩ := hQ195
      have N195 := Fr.app N0 Nq195
      refine OGl.go st195 ?_
      show OGl _ _ _ _ T195 (mkF m 34 #[.val (.ref o0), .val (.ref o1), .val (.int (7 : Int32)), .val (.long q2), .second, .val (.int (e2g_0 q2))] [(.long (e3_3 (e2g_0 q2))), (.long q21)])
      refine OGl.go (fun t k => XS.lcmp X195.here hx rfl (hb hby d2_34) rfl k) ?_
      show OGl _ _ _ _ T195 (mkF m 35 #[.val (.ref o0), .val (.ref o1), .val (.int (7 : Int32)), .val (.long q2), .second, .val (.int (e2g_0 q2))] [(.int (lcmpW q21 (e3_3 (e2g_0 q2))))])
      by_cases hc196 : q21 = (e3_3 (e2g_0 q2))
      · refine OGl.go (fun t k => XS.ifNo X195.here hx rfl (hb hby d2_35) rfl (own_teqL hc196).2 (XS.iconst X195.here hx rfl (hb hby d2_38) (XS.goto X195.here hx rfl (pc0 := 39) (pc' := 43) rfl (hb hby d2_39) (by decide) (by decide) k))) ?_
        show OGl _ _ _ _ T195 (mkF m 43 #[.val (.ref o0), .val (.ref o1), .val (.int (7 : Int32)), .val (.long q2), .second, .val (.int (e2g_0 q2))] [(.int (1 : Int32))])
        obtain ⟨fs, hr, hrun, hended, hW, hsame⟩ := X195.leave (v := some (.int (1 : Int32))) (fun h => by rw [Bd.returns] at h; cases h)
        refine ⟨_, _, retN X195 hx (t := .boolean) Bd.returns (by simp) (hb hby d2_43) hr, hrun, hended, _, _, rfl, ?_, ⟨_, rfl⟩, hW, hsame.mono (by decide) (by decide)⟩
        have hv197 : (t2g_0 q2 p4 p5 p6 p7 p8 p9 p10 p11 p12 q14 q15 q16 q17 q18 q19 q20 q21) = (1 : Int32) := by unfold t2g_0; rw [if_pos hc191, if_pos hc193, if_pos hc196]
        show Q2g Z o0 o1 q2 k3 p4 p5 p6 p7 p8 p9 p10 p11 p12 k13 q14 q15 q16 q17 q18 q19 q20 q21 h0 n0 _ T195.heap _
        rw [e195]
        exact ⟨(by rw [hv197]), N195, rfl⟩
      · refine OGl.go (fun t k => XS.ifYes X195.here hx rfl (pc0 := 35) (pc' := 42) rfl (hb hby d2_35) rfl (own_feqL hc196).2 (by decide) (by decide) (XS.iconst X195.here hx rfl (hb hby d2_42) k)) ?_
        show OGl _ _ _ _ T195 (mkF m 43 #[.val (.ref o0), .val (.ref o1), .val (.int (7 : Int32)), .val (.long q2), .second, .val (.int (e2g_0 q2))] [(.int (0 : Int32))])
        obtain ⟨fs, hr, hrun, hended, hW, hsame⟩ := X195.leave (v := some (.int (0 : Int32))) (fun h => by rw [Bd.returns] at h; cases h)
        refine ⟨_, _, retN X195 hx (t := .boolean) Bd.returns (by simp) (hb hby d2_43) hr, hrun, hended, _, _, rfl, ?_, ⟨_, rfl⟩, hW, hsame.mono (by decide) (by decide)⟩
        have hv198 : (t2g_0 q2 p4 p5 p6 p7 p8 p9 p10 p11 p12 q14 q15 q16 q17 q18 q19 q20 q21) = (0 : Int32) := by unfold t2g_0; rw [if_pos hc191, if_pos hc193, if_neg hc196]
        show Q2g Z o0 o1 q2 k3 p4 p5 p6 p7 p8 p9 p10 p11 p12 k13 q14 q15 q16 q17 q18 q19 q20 q21 h0 n0 _ T195.heap _
        rw [e195]
        exact ⟨(by rw [hv198]), N195, rfl⟩
    · refine OGl.go (fun t k => XS.icmpYes X0.here hx rfl (pc0 := 23) (pc' := 42) rfl (hb hby d2_23) rfl (feq hc193).2 (by decide) (by decide) (XS.iconst X0.here hx rfl (hb hby d2_42) k)) ?_
      show OGl _ _ _ _ s₁ (mkF m 43 #[.val (.ref o0), .val (.ref o1), .val (.int (7 : Int32)), .val (.long q2), .second, .val (.int (e2g_0 q2))] [(.int (0 : Int32))])
      obtain ⟨fs, hr, hrun, hended, hW, hsame⟩ := X0.leave (v := some (.int (0 : Int32))) (fun h => by rw [Bd.returns] at h; cases h)
      refine ⟨_, _, retN X0 hx (t := .boolean) Bd.returns (by simp) (hb hby d2_43) hr, hrun, hended, _, _, rfl, ?_, ⟨_, rfl⟩, hW, hsame.mono (by decide) (by decide)⟩
      have hv199 : (t2g_0 q2 p4 p5 p6 p7 p8 p9 p10 p11 p12 q14 q15 q16 q17 q18 q19 q20 q21) = (0 : Int32) := by unfold t2g_0; rw [if_pos hc191, if_neg hc193]
      show Q2g Z o0 o1 q2 k3 p4 p5 p6 p7 p8 p9 p10 p11 p12 k13 q14 q15 q16 q17 q18 q19 q20 q21 h0 n0 _ s₁.heap _
      rw [e0]
      exact ⟨(by rw [hv199]), N0, rfl⟩
  · refine OGl.go (fun t k => XS.icmpNo X0.here hx rfl (hb hby d2_3) rfl (flt hc191).1 (XS.iconst X0.here hx rfl (hb hby d2_6) k)) ?_
    show OGl _ _ _ _ s₁ (mkF m 7 #[.val (.ref o0), .val (.ref o1), .val (.int (7 : Int32)), .val (.long q2), .second, .unset] [(.int (1 : Int32))])
    obtain ⟨fs, hr, hrun, hended, hW, hsame⟩ := X0.leave (v := some (.int (1 : Int32))) (fun h => by rw [Bd.returns] at h; cases h)
    refine ⟨_, _, retN X0 hx (t := .boolean) Bd.returns (by simp) (hb hby d2_7) hr, hrun, hended, _, _, rfl, ?_, ⟨_, rfl⟩, hW, hsame.mono (by decide) (by decide)⟩
    have hv200 : (t2g_0 q2 p4 p5 p6 p7 p8 p9 p10 p11 p12 q14 q15 q16 q17 q18 q19 q20 q21) = (1 : Int32) := by unfold t2g_0; rw [if_neg hc191]
    show Q2g Z o0 o1 q2 k3 p4 p5 p6 p7 p8 p9 p10 p11 p12 k13 q14 q15 q16 q17 q18 q19 q20 q21 h0 n0 _ s₁.heap _
    rw [e0]
    exact ⟨(by rw [hv200]), N0, rfl⟩
def e0_0 (q1 : Int64) : Int32 := ((((((q1.toUInt64 >>> ((8 : Int32) &&& 0x3f).toInt64.toUInt64).toInt64)).toInt32)).toInt8.toInt32)
def e0_1 (q1 : Int64) : Int32 := ((((((q1.toUInt64 >>> ((16 : Int32) &&& 0x3f).toInt64.toUInt64).toInt64)).toInt32)).toInt8.toInt32)
def e0_2 (q1 : Int64) : Int32 := ((((((q1.toUInt64 >>> ((24 : Int32) &&& 0x3f).toInt64.toUInt64).toInt64)).toInt32)).toInt8.toInt32)
def e0_3 (q1 : Int64) : Int32 := ((((((q1.toUInt64 >>> ((32 : Int32) &&& 0x3f).toInt64.toUInt64).toInt64)).toInt32)).toInt8.toInt32)
def e0_4 (q1 : Int64) : Int32 := ((((((q1.toUInt64 >>> ((40 : Int32) &&& 0x3f).toInt64.toUInt64).toInt64)).toInt32)).toInt8.toInt32)
def e0_5 (q1 : Int64) : Int32 := ((((((q1.toUInt64 >>> ((48 : Int32) &&& 0x3f).toInt64.toUInt64).toInt64)).toInt32)).toInt8.toInt32)
def e0_6 (q1 : Int64) : Int32 := ((((((q1.toUInt64 >>> ((56 : Int32) &&& 0x3f).toInt64.toUInt64).toInt64)).toInt32)).toInt8.toInt32)
def e0_7 (p0 : Int32) (q1 : Int64) : Int32 := (t2_0 q1 ((p0 &&& (2147483647 : Int32)) % (9 : Int32)) (nar .byte ((((q1).toInt32)).toInt8.toInt32)) (nar .byte (e0_0 q1)) (nar .byte (e0_1 q1)) (nar .byte (e0_2 q1)) (nar .byte (e0_3 q1)) (nar .byte (e0_4 q1)) (nar .byte (e0_5 q1)) (nar .byte (e0_6 q1)) ((72340172838076673 : Int64) * ((((nar .byte ((((q1).toInt32)).toInt8.toInt32)) &&& (255 : Int32))).toInt64)) ((72340172838076673 : Int64) * ((((nar .byte (e0_0 q1)) &&& (255 : Int32))).toInt64)) ((72340172838076673 : Int64) * ((((nar .byte (e0_1 q1)) &&& (255 : Int32))).toInt64)) ((72340172838076673 : Int64) * ((((nar .byte (e0_2 q1)) &&& (255 : Int32))).toInt64)) ((72340172838076673 : Int64) * ((((nar .byte (e0_3 q1)) &&& (255 : Int32))).toInt64)) ((72340172838076673 : Int64) * ((((nar .byte (e0_4 q1)) &&& (255 : Int32))).toInt64)) ((72340172838076673 : Int64) * ((((nar .byte (e0_5 q1)) &&& (255 : Int32))).toInt64)) ((72340172838076673 : Int64) * ((((nar .byte (e0_6 q1)) &&& (255 : Int32))).toInt64)))
def e0_8 (p0 : Int32) (q1 : Int64) : Int32 := (t2a_0 q1 ((p0 &&& (2147483647 : Int32)) % (9 : Int32)) (nar .byte ((((q1).toInt32)).toInt8.toInt32)) (nar .byte (e0_0 q1)) (nar .byte (e0_1 q1)) (nar .byte (e0_2 q1)) (nar .byte (e0_3 q1)) (nar .byte (e0_4 q1)) (nar .byte (e0_5 q1)) (nar .byte (e0_6 q1)) ((72340172838076673 : Int64) * ((((nar .byte ((((q1).toInt32)).toInt8.toInt32)) &&& (255 : Int32))).toInt64)) ((72340172838076673 : Int64) * ((((nar .byte (e0_0 q1)) &&& (255 : Int32))).toInt64)) ((72340172838076673 : Int64) * ((((nar .byte (e0_1 q1)) &&& (255 : Int32))).toInt64)) ((72340172838076673 : Int64) * ((((nar .byte (e0_2 q1)) &&& (255 : Int32))).toInt64)) ((72340172838076673 : Int64) * ((((nar .byte (e0_3 q1)) &&& (255 : Int32))).toInt64)) ((72340172838076673 : Int64) * ((((nar .byte (e0_4 q1)) &&& (255 : Int32))).toInt64)) ((72340172838076673 : Int64) * ((((nar .byte (e0_5 q1)) &&& (255 : Int32))).toInt64)) ((72340172838076673 : Int64) * ((((nar .byte (e0_6 q1)) &&& (255 : Int32))).toInt64)))
def e0_9 (p0 : Int32) (q1 : Int64) : Int32 := (t2b_0 q1 ((p0 &&& (2147483647 : Int32)) % (9 : Int32)) (nar .byte ((((q1).toInt32)).toInt8.toInt32)) (nar .byte (e0_0 q1)) (nar .byte (e0_1 q1)) (nar .byte (e0_2 q1)) (nar .byte (e0_3 q1)) (nar .byte (e0_4 q1)) (nar .byte (e0_5 q1)) (nar .byte (e0_6 q1)) ((72340172838076673 : Int64) * ((((nar .byte ((((q1).toInt32)).toInt8.toInt32)) &&& (255 : Int32))).toInt64)) ((72340172838076673 : Int64) * ((((nar .byte (e0_0 q1)) &&& (255 : Int32))).toInt64)) ((72340172838076673 : Int64) * ((((nar .byte (e0_1 q1)) &&& (255 : Int32))).toInt64)) ((72340172838076673 : Int64) * ((((nar .byte (e0_2 q1)) &&& (255 : Int32))).toInt64)) ((72340172838076673 : Int64) * ((((nar .byte (e0_3 q1)) &&& (255 : Int32))).toInt64)) ((72340172838076673 : Int64) * ((((nar .byte (e0_4 q1)) &&& (255 : Int32))).toInt64)) ((72340172838076673 : Int64) * ((((nar .byte (e0_5 q1)) &&& (255 : Int32))).toInt64)) ((72340172838076673 : Int64) * ((((nar .byte (e0_6 q1)) &&& (255 : Int32))).toInt64)))
def e0_10 (p0 : Int32) (q1 : Int64) : Int32 := (t2c_0 q1 ((p0 &&& (2147483647 : Int32)) % (9 : Int32)) (nar .byte ((((q1).toInt32)).toInt8.toInt32)) (nar .byte (e0_0 q1)) (nar .byte (e0_1 q1)) (nar .byte (e0_2 q1)) (nar .byte (e0_3 q1)) (nar .byte (e0_4 q1)) (nar .byte (e0_5 q1)) (nar .byte (e0_6 q1)) ((72340172838076673 : Int64) * ((((nar .byte ((((q1).toInt32)).toInt8.toInt32)) &&& (255 : Int32))).toInt64)) ((72340172838076673 : Int64) * ((((nar .byte (e0_0 q1)) &&& (255 : Int32))).toInt64)) ((72340172838076673 : Int64) * ((((nar .byte (e0_1 q1)) &&& (255 : Int32))).toInt64)) ((72340172838076673 : Int64) * ((((nar .byte (e0_2 q1)) &&& (255 : Int32))).toInt64)) ((72340172838076673 : Int64) * ((((nar .byte (e0_3 q1)) &&& (255 : Int32))).toInt64)) ((72340172838076673 : Int64) * ((((nar .byte (e0_4 q1)) &&& (255 : Int32))).toInt64)) ((72340172838076673 : Int64) * ((((nar .byte (e0_5 q1)) &&& (255 : Int32))).toInt64)) ((72340172838076673 : Int64) * ((((nar .byte (e0_6 q1)) &&& (255 : Int32))).toInt64)))
def e0_11 (p0 : Int32) (q1 : Int64) : Int32 := (t2d_0 q1 ((p0 &&& (2147483647 : Int32)) % (9 : Int32)) (nar .byte ((((q1).toInt32)).toInt8.toInt32)) (nar .byte (e0_0 q1)) (nar .byte (e0_1 q1)) (nar .byte (e0_2 q1)) (nar .byte (e0_3 q1)) (nar .byte (e0_4 q1)) (nar .byte (e0_5 q1)) (nar .byte (e0_6 q1)) ((72340172838076673 : Int64) * ((((nar .byte ((((q1).toInt32)).toInt8.toInt32)) &&& (255 : Int32))).toInt64)) ((72340172838076673 : Int64) * ((((nar .byte (e0_0 q1)) &&& (255 : Int32))).toInt64)) ((72340172838076673 : Int64) * ((((nar .byte (e0_1 q1)) &&& (255 : Int32))).toInt64)) ((72340172838076673 : Int64) * ((((nar .byte (e0_2 q1)) &&& (255 : Int32))).toInt64)) ((72340172838076673 : Int64) * ((((nar .byte (e0_3 q1)) &&& (255 : Int32))).toInt64)) ((72340172838076673 : Int64) * ((((nar .byte (e0_4 q1)) &&& (255 : Int32))).toInt64)) ((72340172838076673 : Int64) * ((((nar .byte (e0_5 q1)) &&& (255 : Int32))).toInt64)) ((72340172838076673 : Int64) * ((((nar .byte (e0_6 q1)) &&& (255 : Int32))).toInt64)))
def e0_12 (p0 : Int32) (q1 : Int64) : Int32 := (t2e_0 q1 ((p0 &&& (2147483647 : Int32)) % (9 : Int32)) (nar .byte ((((q1).toInt32)).toInt8.toInt32)) (nar .byte (e0_0 q1)) (nar .byte (e0_1 q1)) (nar .byte (e0_2 q1)) (nar .byte (e0_3 q1)) (nar .byte (e0_4 q1)) (nar .byte (e0_5 q1)) (nar .byte (e0_6 q1)) ((72340172838076673 : Int64) * ((((nar .byte ((((q1).toInt32)).toInt8.toInt32)) &&& (255 : Int32))).toInt64)) ((72340172838076673 : Int64) * ((((nar .byte (e0_0 q1)) &&& (255 : Int32))).toInt64)) ((72340172838076673 : Int64) * ((((nar .byte (e0_1 q1)) &&& (255 : Int32))).toInt64)) ((72340172838076673 : Int64) * ((((nar .byte (e0_2 q1)) &&& (255 : Int32))).toInt64)) ((72340172838076673 : Int64) * ((((nar .byte (e0_3 q1)) &&& (255 : Int32))).toInt64)) ((72340172838076673 : Int64) * ((((nar .byte (e0_4 q1)) &&& (255 : Int32))).toInt64)) ((72340172838076673 : Int64) * ((((nar .byte (e0_5 q1)) &&& (255 : Int32))).toInt64)) ((72340172838076673 : Int64) * ((((nar .byte (e0_6 q1)) &&& (255 : Int32))).toInt64)))
def e0_13 (p0 : Int32) (q1 : Int64) : Int32 := (t2f_0 q1 ((p0 &&& (2147483647 : Int32)) % (9 : Int32)) (nar .byte ((((q1).toInt32)).toInt8.toInt32)) (nar .byte (e0_0 q1)) (nar .byte (e0_1 q1)) (nar .byte (e0_2 q1)) (nar .byte (e0_3 q1)) (nar .byte (e0_4 q1)) (nar .byte (e0_5 q1)) (nar .byte (e0_6 q1)) ((72340172838076673 : Int64) * ((((nar .byte ((((q1).toInt32)).toInt8.toInt32)) &&& (255 : Int32))).toInt64)) ((72340172838076673 : Int64) * ((((nar .byte (e0_0 q1)) &&& (255 : Int32))).toInt64)) ((72340172838076673 : Int64) * ((((nar .byte (e0_1 q1)) &&& (255 : Int32))).toInt64)) ((72340172838076673 : Int64) * ((((nar .byte (e0_2 q1)) &&& (255 : Int32))).toInt64)) ((72340172838076673 : Int64) * ((((nar .byte (e0_3 q1)) &&& (255 : Int32))).toInt64)) ((72340172838076673 : Int64) * ((((nar .byte (e0_4 q1)) &&& (255 : Int32))).toInt64)) ((72340172838076673 : Int64) * ((((nar .byte (e0_5 q1)) &&& (255 : Int32))).toInt64)) ((72340172838076673 : Int64) * ((((nar .byte (e0_6 q1)) &&& (255 : Int32))).toInt64)))
def e0_14 (p0 : Int32) (q1 : Int64) : Int32 := (t2g_0 q1 ((p0 &&& (2147483647 : Int32)) % (9 : Int32)) (nar .byte ((((q1).toInt32)).toInt8.toInt32)) (nar .byte (e0_0 q1)) (nar .byte (e0_1 q1)) (nar .byte (e0_2 q1)) (nar .byte (e0_3 q1)) (nar .byte (e0_4 q1)) (nar .byte (e0_5 q1)) (nar .byte (e0_6 q1)) ((72340172838076673 : Int64) * ((((nar .byte ((((q1).toInt32)).toInt8.toInt32)) &&& (255 : Int32))).toInt64)) ((72340172838076673 : Int64) * ((((nar .byte (e0_0 q1)) &&& (255 : Int32))).toInt64)) ((72340172838076673 : Int64) * ((((nar .byte (e0_1 q1)) &&& (255 : Int32))).toInt64)) ((72340172838076673 : Int64) * ((((nar .byte (e0_2 q1)) &&& (255 : Int32))).toInt64)) ((72340172838076673 : Int64) * ((((nar .byte (e0_3 q1)) &&& (255 : Int32))).toInt64)) ((72340172838076673 : Int64) * ((((nar .byte (e0_4 q1)) &&& (255 : Int32))).toInt64)) ((72340172838076673 : Int64) * ((((nar .byte (e0_5 q1)) &&& (255 : Int32))).toInt64)) ((72340172838076673 : Int64) * ((((nar .byte (e0_6 q1)) &&& (255 : Int32))).toInt64)))
theorem ef_0 (m : MethodId) (x0 : Int32) (x1 : Int64) : entryFrame m #[(.int x0), (.long x1)] maxLocals = mkF m 0 #[.val (.int x0), .val (.long x1), .second, .unset, .unset, .unset] [] := by first | (simp [entryFrame, mkF, argsToLocals, Value.category, maxLocals]; done) | rfl
def t0_0 (p0 : Int32) (q1 : Int64) : Int32 := (if (e0_7 p0 q1) = (0 : Int32) then (0 : Int32) else (if (e0_8 p0 q1) = (0 : Int32) then (0 : Int32) else (if (e0_9 p0 q1) = (0 : Int32) then (0 : Int32) else (if (e0_10 p0 q1) = (0 : Int32) then (0 : Int32) else (if (e0_11 p0 q1) = (0 : Int32) then (0 : Int32) else (if (e0_12 p0 q1) = (0 : Int32) then (0 : Int32) else (if (e0_13 p0 q1) = (0 : Int32) then (0 : Int32) else (if (e0_14 p0 q1) = (0 : Int32) then (0 : Int32) else (1 : Int32)))))))))
def Q0 (Z : State) (p0 : Int32) (q1 : Int64) (h0 : Heap) (n0 : Nat) (v : Option Value) (h : Heap) (L : List Loc) : Prop := v = some (.int (t0_0 p0 q1)) ∧ Fr n0 L
set_option maxRecDepth 65536 in
set_option maxHeartbeats 40000000 in
theorem rm0 (l : Launch) (Z : State) (a0 : Array Value) (hw : ∀ d ∈ tables_1, d.before a0 Z = true) (ws : List Jvm.Cond) (p0 : Int32) (q1 : Int64) (h0 : Heap) (n0 : Nat) (Z0 : n0 ≤ h0.size) :
    MetFree l x (head1 (Jvm.Cond.code x code maxLocals ret :: ws) room_1) (fun a U => a = #[(.int p0), (.long q1)] ∧ Z.Warmed39 U.vm ∧ U.heap = h0) (fun _ _ _ _ _ => True) (fun _ U o U' => ∃ v L, o = .returned v ∧ Q0 Z p0 q1 h0 n0 v U'.heap L ∧ FrameEnd U o U' L 2 16) := by
  refine MetFree.of_bodySF (plainFor_of_name pn_1) hisR ?_
  intro p e s m args below meth c s₁ Bd hml0 hP hK
  obtain ⟨rfl, hZ, hh⟩ := hP
  have hx := Bd.exec
  have hby := Bd.bytes
  have hml : c.maxLocals = 6 := hml0
  have hown : s.vm.findClass "com/example/skipscan/skipscan/ByteScanRepeatedPinLaw" = some m.cls := findClass_of_methodNamed Bd.named
  have hnm := (name_of_methodNamed Bd.named Bd.method).1
  have X0 : Stand p l e room_1 s m #[(.int p0), (.long q1)] below meth c s₁ [] 0 0 := Stand.of_body Bd
  have e0 : s₁.heap = h0 := by rw [← hh, Bd.state]; rfl
  have N0 := Fr.nil n0
  refine OGl.start (ef_0 m p0 q1) ?_
  show OGl _ _ _ _ s₁ (mkF m 0 #[.val (.int p0), .val (.long q1), .second, .unset, .unset, .unset] [])
  refine OGl.go (fun t k => XS.iloadN X0.here hx rfl (hb hby at_0) rfl (own_ldc X0 hx hown (mvT hZ (hw _ (List.mem_of_getElem? (i := 0) rfl))) rfl (hb hby at_1) (XS.iand X0.here hx rfl (hb hby at_3) rfl (XS.bipush X0.here hx rfl (hb hby at_4) (iremM X0 hx rfl (hb hby at_6) rfl (by decide) (XS.istoreN X0.here hx rfl (hb hby at_7) rfl (l' := #[.val (.int p0), .val (.long q1), .second, .val (.int ((p0 &&& (2147483647 : Int32)) % (9 : Int32))), .unset, .unset]) rfl (XS.iloadN X0.here hx rfl (hb hby at_8) rfl k))))))) ?_
  show OGl _ _ _ _ s₁ (mkF m 9 #[.val (.int p0), .val (.long q1), .second, .val (.int ((p0 &&& (2147483647 : Int32)) % (9 : Int32))), .unset, .unset] [(.int ((p0 &&& (2147483647 : Int32)) % (9 : Int32)))])
  obtain ⟨T1, h1, k1, X1, e1, E1, A1, st1⟩ := newP X0 hx hZ (hw _ (List.mem_of_getElem? (i := 1) rfl)) e0 (g := (mkF m 9 #[.val (.int p0), .val (.long q1), .second, .val (.int ((p0 &&& (2147483647 : Int32)) % (9 : Int32))), .unset, .unset] [(.int ((p0 &&& (2147483647 : Int32)) % (9 : Int32)))])) rfl (hb hby at_9) rfl (own_nn p0) (cap := 8) (own_nc p0) (by decide) (by decide) (by decide)
  obtain ⟨b1, gb1⟩ : ∃ z, z = h0.size := ⟨_, rfl⟩
  rw [← gb1] at A1 st1
  have sz_b1 : h0.size ≤ b1 := Nat.le_trans (Keep.refl h0 []).1 (Nat.le_of_eq gb1.symm)
  have g_b1 : n0 ≤ b1 := Nat.le_trans Z0 sz_b1
  have V1 : Arv Z h1 b1 k1 .byte ((p0 &&& (2147483647 : Int32)) % (9 : Int32)) [(.int (0 : Int32)), (.int (0 : Int32)), (.int (0 : Int32)), (.int (0 : Int32)), (.int (0 : Int32)), (.int (0 : Int32)), (.int (0 : Int32)), (.int (0 : Int32))] (.int (0 : Int32)) := (Arv.new A1 (own_nn p0)).pad (pad_rep [] (.int (0 : Int32)) 8)
  have KK1 : Keep h0 h1 [] := (Keep.refl h0 []).ext E1
  refine OGl.go st1 ?_
  show OGl _ _ _ _ T1 (mkF m 11 #[.val (.int p0), .val (.long q1), .second, .val (.int ((p0 &&& (2147483647 : Int32)) % (9 : Int32))), .unset, .unset] [(.ref b1)])
  refine OGl.go (fun t k => XS.astore X1.here hx rfl (hb hby at_11) rfl rfl (l' := #[.val (.int p0), .val (.long q1), .second, .val (.int ((p0 &&& (2147483647 : Int32)) % (9 : Int32))), .val (.ref b1), .unset]) rfl (XS.iloadN X1.here hx rfl (hb hby at_13) rfl k)) ?_
  show OGl _ _ _ _ T1 (mkF m 14 #[.val (.int p0), .val (.long q1), .second, .val (.int ((p0 &&& (2147483647 : Int32)) % (9 : Int32))), .val (.ref b1), .unset] [(.int ((p0 &&& (2147483647 : Int32)) % (9 : Int32)))])
  have j3 : ∀ (T' : State) (locs' : List Loc) (h' : Heap), Stand p l e room_1 s m #[(.int p0), (.long q1)] below meth c T' locs' 1 8 → T'.heap = h' → Keep h0 h' [] → Fr n0 locs' → Arv Z h' b1 k1 .byte ((p0 &&& (2147483647 : Int32)) % (9 : Int32)) [(.int (nar .byte ((((q1).toInt32)).toInt8.toInt32))), (.int (0 : Int32)), (.int (0 : Int32)), (.int (0 : Int32)), (.int (0 : Int32)), (.int (0 : Int32)), (.int (0 : Int32)), (.int (0 : Int32))] (.int (0 : Int32)) → OGl p e below (fun o s₂ => ∃ v L, o = .returned v ∧ Q0 Z p0 q1 h0 n0 v s₂.heap L ∧ FrameEnd s o s₂ L 2 16) T' (mkF m 24 #[.val (.int p0), .val (.long q1), .second, .val (.int ((p0 &&& (2147483647 : Int32)) % (9 : Int32))), .val (.ref b1), .unset] []) := by
    intro T3 locs3 h3  X3 e3 KK3 N3 Fj3_0
    refine OGl.go (fun t k => XS.iloadN X3.here hx rfl (hb hby at_24) rfl (XS.iconst X3.here hx rfl (hb hby at_25) k)) ?_
    show OGl _ _ _ _ T3 (mkF m 26 #[.val (.int p0), .val (.long q1), .second, .val (.int ((p0 &&& (2147483647 : Int32)) % (9 : Int32))), .val (.ref b1), .unset] [(.int (1 : Int32)), (.int ((p0 &&& (2147483647 : Int32)) % (9 : Int32)))])
    have j5 : ∀ (T' : State) (locs' : List Loc) (h' : Heap), Stand p l e room_1 s m #[(.int p0), (.long q1)] below meth c T' locs' 1 8 → T'.heap = h' → Keep h0 h' [] → Fr n0 locs' → Arv Z h' b1 k1 .byte ((p0 &&& (2147483647 : Int32)) % (9 : Int32)) [(.int (nar .byte ((((q1).toInt32)).toInt8.toInt32))), (.int (nar .byte (e0_0 q1))), (.int (0 : Int32)), (.int (0 : Int32)), (.int (0 : Int32)), (.int (0 : Int32)), (.int (0 : Int32)), (.int (0 : Int32))] (.int (0 : Int32)) → OGl p e below (fun o s₂ => ∃ v L, o = .returned v ∧ Q0 Z p0 q1 h0 n0 v s₂.heap L ∧ FrameEnd s o s₂ L 2 16) T' (mkF m 39 #[.val (.int p0), .val (.long q1), .second, .val (.int ((p0 &&& (2147483647 : Int32)) % (9 : Int32))), .val (.ref b1), .unset] []) := by
      intro T5 locs5 h5  X5 e5 KK5 N5 Fj5_0
      refine OGl.go (fun t k => XS.iloadN X5.here hx rfl (hb hby at_39) rfl (XS.iconst X5.here hx rfl (hb hby at_40) k)) ?_
      show OGl _ _ _ _ T5 (mkF m 41 #[.val (.int p0), .val (.long q1), .second, .val (.int ((p0 &&& (2147483647 : Int32)) % (9 : Int32))), .val (.ref b1), .unset] [(.int (2 : Int32)), (.int ((p0 &&& (2147483647 : Int32)) % (9 : Int32)))])
      have j7 : ∀ (T' : State) (locs' : List Loc) (h' : Heap), Stand p l e room_1 s m #[(.int p0), (.long q1)] below meth c T' locs' 1 8 → T'.heap = h' → Keep h0 h' [] → Fr n0 locs' → Arv Z h' b1 k1 .byte ((p0 &&& (2147483647 : Int32)) % (9 : Int32)) [(.int (nar .byte ((((q1).toInt32)).toInt8.toInt32))), (.int (nar .byte (e0_0 q1))), (.int (nar .byte (e0_1 q1))), (.int (0 : Int32)), (.int (0 : Int32)), (.int (0 : Int32)), (.int (0 : Int32)), (.int (0 : Int32))] (.int (0 : Int32)) → OGl p e below (fun o s₂ => ∃ v L, o = .returned v ∧ Q0 Z p0 q1 h0 n0 v s₂.heap L ∧ FrameEnd s o s₂ L 2 16) T' (mkF m 54 #[.val (.int p0), .val (.long q1), .second, .val (.int ((p0 &&& (2147483647 : Int32)) % (9 : Int32))), .val (.ref b1), .unset] []) := by
        intro T7 locs7 h7  X7 e7 KK7 N7 Fj7_0
        refine OGl.go (fun t k => XS.iloadN X7.here hx rfl (hb hby at_54) rfl (XS.iconst X7.here hx rfl (hb hby at_55) k)) ?_
        show OGl _ _ _ _ T7 (mkF m 56 #[.val (.int p0), .val (.long q1), .second, .val (.int ((p0 &&& (2147483647 : Int32)) % (9 : Int32))), .val (.ref b1), .unset] [(.int (3 : Int32)), (.int ((p0 &&& (2147483647 : Int32)) % (9 : Int32)))])
        have j9 : ∀ (T' : State) (locs' : List Loc) (h' : Heap), Stand p l e room_1 s m #[(.int p0), (.long q1)] below meth c T' locs' 1 8 → T'.heap = h' → Keep h0 h' [] → Fr n0 locs' → Arv Z h' b1 k1 .byte ((p0 &&& (2147483647 : Int32)) % (9 : Int32)) [(.int (nar .byte ((((q1).toInt32)).toInt8.toInt32))), (.int (nar .byte (e0_0 q1))), (.int (nar .byte (e0_1 q1))), (.int (nar .byte (e0_2 q1))), (.int (0 : Int32)), (.int (0 : Int32)), (.int (0 : Int32)), (.int (0 : Int32))] (.int (0 : Int32)) → OGl p e below (fun o s₂ => ∃ v L, o = .returned v ∧ Q0 Z p0 q1 h0 n0 v s₂.heap L ∧ FrameEnd s o s₂ L 2 16) T' (mkF m 69 #[.val (.int p0), .val (.long q1), .second, .val (.int ((p0 &&& (2147483647 : Int32)) % (9 : Int32))), .val (.ref b1), .unset] []) := by
          intro T9 locs9 h9  X9 e9 KK9 N9 Fj9_0
          refine OGl.go (fun t k => XS.iloadN X9.here hx rfl (hb hby at_69) rfl (XS.iconst X9.here hx rfl (hb hby at_70) k)) ?_
          show OGl _ _ _ _ T9 (mkF m 71 #[.val (.int p0), .val (.long q1), .second, .val (.int ((p0 &&& (2147483647 : Int32)) % (9 : Int32))), .val (.ref b1), .unset] [(.int (4 : Int32)), (.int ((p0 &&& (2147483647 : Int32)) % (9 : Int32)))])
          have j11 : ∀ (T' : State) (locs' : List Loc) (h' : Heap), Stand p l e room_1 s m #[(.int p0), (.long q1)] below meth c T' locs' 1 8 → T'.heap = h' → Keep h0 h' [] → Fr n0 locs' → Arv Z h' b1 k1 .byte ((p0 &&& (2147483647 : Int32)) % (9 : Int32)) [(.int (nar .byte ((((q1).toInt32)).toInt8.toInt32))), (.int (nar .byte (e0_0 q1))), (.int (nar .byte (e0_1 q1))), (.int (nar .byte (e0_2 q1))), (.int (nar .byte (e0_3 q1))), (.int (0 : Int32)), (.int (0 : Int32)), (.int (0 : Int32))] (.int (0 : Int32)) → OGl p e below (fun o s₂ => ∃ v L, o = .returned v ∧ Q0 Z p0 q1 h0 n0 v s₂.heap L ∧ FrameEnd s o s₂ L 2 16) T' (mkF m 84 #[.val (.int p0), .val (.long q1), .second, .val (.int ((p0 &&& (2147483647 : Int32)) % (9 : Int32))), .val (.ref b1), .unset] []) := by
            intro T11 locs11 h11  X11 e11 KK11 N11 Fj11_0
            refine OGl.go (fun t k => XS.iloadN X11.here hx rfl (hb hby at_84) rfl (XS.iconst X11.here hx rfl (hb hby at_85) k)) ?_
            show OGl _ _ _ _ T11 (mkF m 86 #[.val (.int p0), .val (.long q1), .second, .val (.int ((p0 &&& (2147483647 : Int32)) % (9 : Int32))), .val (.ref b1), .unset] [(.int (5 : Int32)), (.int ((p0 &&& (2147483647 : Int32)) % (9 : Int32)))])
            have j13 : ∀ (T' : State) (locs' : List Loc) (h' : Heap), Stand p l e room_1 s m #[(.int p0), (.long q1)] below meth c T' locs' 1 8 → T'.heap = h' → Keep h0 h' [] → Fr n0 locs' → Arv Z h' b1 k1 .byte ((p0 &&& (2147483647 : Int32)) % (9 : Int32)) [(.int (nar .byte ((((q1).toInt32)).toInt8.toInt32))), (.int (nar .byte (e0_0 q1))), (.int (nar .byte (e0_1 q1))), (.int (nar .byte (e0_2 q1))), (.int (nar .byte (e0_3 q1))), (.int (nar .byte (e0_4 q1))), (.int (0 : Int32)), (.int (0 : Int32))] (.int (0 : Int32)) → OGl p e below (fun o s₂ => ∃ v L, o = .returned v ∧ Q0 Z p0 q1 h0 n0 v s₂.heap L ∧ FrameEnd s o s₂ L 2 16) T' (mkF m 99 #[.val (.int p0), .val (.long q1), .second, .val (.int ((p0 &&& (2147483647 : Int32)) % (9 : Int32))), .val (.ref b1), .unset] []) := by
              intro T13 locs13 h13  X13 e13 KK13 N13 Fj13_0
              refine OGl.go (fun t k => XS.iloadN X13.here hx rfl (hb hby at_99) rfl (XS.bipush X13.here hx rfl (hb hby at_100) k)) ?_
              show OGl _ _ _ _ T13 (mkF m 102 #[.val (.int p0), .val (.long q1), .second, .val (.int ((p0 &&& (2147483647 : Int32)) % (9 : Int32))), .val (.ref b1), .unset] [(.int (6 : Int32)), (.int ((p0 &&& (2147483647 : Int32)) % (9 : Int32)))])
              have j15 : ∀ (T' : State) (locs' : List Loc) (h' : Heap), Stand p l e room_1 s m #[(.int p0), (.long q1)] below meth c T' locs' 1 8 → T'.heap = h' → Keep h0 h' [] → Fr n0 locs' → Arv Z h' b1 k1 .byte ((p0 &&& (2147483647 : Int32)) % (9 : Int32)) [(.int (nar .byte ((((q1).toInt32)).toInt8.toInt32))), (.int (nar .byte (e0_0 q1))), (.int (nar .byte (e0_1 q1))), (.int (nar .byte (e0_2 q1))), (.int (nar .byte (e0_3 q1))), (.int (nar .byte (e0_4 q1))), (.int (nar .byte (e0_5 q1))), (.int (0 : Int32))] (.int (0 : Int32)) → OGl p e below (fun o s₂ => ∃ v L, o = .returned v ∧ Q0 Z p0 q1 h0 n0 v s₂.heap L ∧ FrameEnd s o s₂ L 2 16) T' (mkF m 116 #[.val (.int p0), .val (.long q1), .second, .val (.int ((p0 &&& (2147483647 : Int32)) % (9 : Int32))), .val (.ref b1), .unset] []) := by
                intro T15 locs15 h15  X15 e15 KK15 N15 Fj15_0
                refine OGl.go (fun t k => XS.iloadN X15.here hx rfl (hb hby at_116) rfl (XS.bipush X15.here hx rfl (hb hby at_117) k)) ?_
                show OGl _ _ _ _ T15 (mkF m 119 #[.val (.int p0), .val (.long q1), .second, .val (.int ((p0 &&& (2147483647 : Int32)) % (9 : Int32))), .val (.ref b1), .unset] [(.int (7 : Int32)), (.int ((p0 &&& (2147483647 : Int32)) % (9 : Int32)))])
                have j17 : ∀ (T' : State) (locs' : List Loc) (h' : Heap), Stand p l e room_1 s m #[(.int p0), (.long q1)] below meth c T' locs' 1 8 → T'.heap = h' → Keep h0 h' [] → Fr n0 locs' → Arv Z h' b1 k1 .byte ((p0 &&& (2147483647 : Int32)) % (9 : Int32)) [(.int (nar .byte ((((q1).toInt32)).toInt8.toInt32))), (.int (nar .byte (e0_0 q1))), (.int (nar .byte (e0_1 q1))), (.int (nar .byte (e0_2 q1))), (.int (nar .byte (e0_3 q1))), (.int (nar .byte (e0_4 q1))), (.int (nar .byte (e0_5 q1))), (.int (nar .byte (e0_6 q1)))] (.int (0 : Int32)) → OGl p e below (fun o s₂ => ∃ v L, o = .returned v ∧ Q0 Z p0 q1 h0 n0 v s₂.heap L ∧ FrameEnd s o s₂ L 2 16) T' (mkF m 133 #[.val (.int p0), .val (.long q1), .second, .val (.int ((p0 &&& (2147483647 : Int32)) % (9 : Int32))), .val (.ref b1), .unset] []) := by
                  intro T17 locs17 h17  X17 e17 KK17 N17 Fj17_0
                  refine OGl.go (fun t k => XS.aload X17.here hx rfl (hb hby at_133) rfl rfl k) ?_
                  show OGl _ _ _ _ T17 (mkF m 135 #[.val (.int p0), .val (.long q1), .second, .val (.int ((p0 &&& (2147483647 : Int32)) % (9 : Int32))), .val (.ref b1), .unset] [(.ref b1)])
                  obtain ⟨_, _, ⟨T18, L18, kk18, n18⟩, -, X18, ⟨Lc18, hQ18, l18, y18, z18⟩, st18⟩ := Jvm.LawKit.callS X17 hx (y := (⟨"com/example/skipscan/skipscan/ByteScan", "repeated", "([B)[J"⟩ : MethodName)) hown (mvT hZ (hw _ (List.mem_of_getElem? (i := 2) rfl))) (mvT hZ (hw _ (List.mem_of_getElem? (i := 3) rfl))) (mvT hZ (hw _ (List.mem_of_getElem? (i := 4) rfl))) (mvT hZ (hw _ (List.mem_of_getElem? (i := 5) rfl))) (by decide) (backOf (W := 0) (rm1 l Z a0 hw [] b1 k1 ((p0 &&& (2147483647 : Int32)) % (9 : Int32)) (nar .byte ((((q1).toInt32)).toInt8.toInt32)) (nar .byte (e0_0 q1)) (nar .byte (e0_1 q1)) (nar .byte (e0_2 q1)) (nar .byte (e0_3 q1)) (nar .byte (e0_4 q1)) (nar .byte (e0_5 q1)) (nar .byte (e0_6 q1)) h17 n0 (Nat.le_trans Z0 KK17.1) Fj17_0 (own_nc p0) (own_n8 p0)) hZ (hw _ (List.mem_of_getElem? (i := 5) rfl)) (hw _ (List.mem_of_getElem? (i := 4) rfl)) (by decide) (by decide)) (g := (mkF m 135 #[.val (.int p0), .val (.long q1), .second, .val (.int ((p0 &&& (2147483647 : Int32)) % (9 : Int32))), .val (.ref b1), .unset] [(.ref b1)])) rfl (by rw [hml]; rfl) (argsL := [(.ref b1)]) (rest := []) (lenOf pd_0 rfl) rfl (by show 2 * 0 + _ ≤ _; exact Nat.le_of_eq rfl) (hb hby at_135) (fun _ _ => ⟨rfl, e17, (by decide : 1 + 1 ≤ _), (by decide : 8 + 8 ≤ _)⟩)
                  dsimp only [Pt.U, Pt.locs, Pt.cells, Pt.slots] at X18 l18 y18 z18 st18 hQ18
                  subst l18 y18 z18
                  obtain ⟨b18_0, kb18_1, rfl, Nq18, K18, sb_b18_0, Fq18_0⟩ := hQ18
                  have ne_b1_b18_0 : b1 ≠ b18_0 := Nat.ne_of_lt (Nat.lt_of_lt_of_le Fj17_0.lt sb_b18_0)
                  have sz_b18_0 : h0.size ≤ b18_0 := Nat.le_trans KK17.1 sb_b18_0
                  have g_b18_0 : n0 ≤ b18_0 := Nat.le_trans Z0 sz_b18_0
                  have KK18 : Keep h0 T18.heap [] := KK17.trans K18 all0
                  have N18 := Fr.app N17 Nq18
                  refine OGl.go st18 ?_
                  show OGl _ _ _ _ T18 (mkF m 138 #[.val (.int p0), .val (.long q1), .second, .val (.int ((p0 &&& (2147483647 : Int32)) % (9 : Int32))), .val (.ref b1), .unset] [(.ref b18_0)])
                  obtain ⟨cl96, Ar96, -, Sz96, Nn96, -, -⟩ := id Fq18_0
                  refine OGl.go (fun t k => XS.astore X18.here hx rfl (hb hby at_138) rfl rfl (l' := #[.val (.int p0), .val (.long q1), .second, .val (.int ((p0 &&& (2147483647 : Int32)) % (9 : Int32))), .val (.ref b1), .val (.ref b18_0)]) rfl (XS.aload X18.here hx rfl (hb hby at_140) rfl rfl (XS.ifnullNo X18.here hx rfl (hb hby at_142) rfl (XS.aload X18.here hx rfl (hb hby at_145) rfl rfl (own_len X18 hx Ar96.1 (State.isArrayOf_alike hZ.alike Ar96.2.1) Sz96 Nn96 rfl rfl (hb hby at_147) (XS.iloadN X18.here hx rfl (hb hby at_148) rfl (XS.icmpNo X18.here hx rfl (hb hby at_149) rfl (teq (rfl : ((p0 &&& (2147483647 : Int32)) % (9 : Int32)) = ((p0 &&& (2147483647 : Int32)) % (9 : Int32)))).2 (XS.aload X18.here hx rfl (hb hby at_152) rfl rfl k)))))))) ?_
                  show OGl _ _ _ _ T18 (mkF m 154 #[.val (.int p0), .val (.long q1), .second, .val (.int ((p0 &&& (2147483647 : Int32)) % (9 : Int32))), .val (.ref b1), .val (.ref b18_0)] [(.ref b18_0)])
                  refine OGl.go (fun t k => XS.aload X18.here hx rfl (hb hby at_154) rfl rfl (XS.iconst X18.here hx rfl (hb hby at_156) (XS.lloadN X18.here hx rfl (hb hby at_157) rfl k))) ?_
                  show OGl _ _ _ _ T18 (mkF m 158 #[.val (.int p0), .val (.long q1), .second, .val (.int ((p0 &&& (2147483647 : Int32)) % (9 : Int32))), .val (.ref b1), .val (.ref b18_0)] [(.long q1), (.int (0 : Int32)), (.ref b1), (.ref b18_0)])
                  have F109 := (Fj17_0.keep K18 nin0)
                  obtain ⟨_, _, ⟨T97, L97, kk97, n97⟩, -, X97, ⟨Lc97, hQ97, l97, y97, z97⟩, st97⟩ := Jvm.LawKit.callS X18 hx (y := (⟨"com/example/skipscan/skipscan/ByteScanRepeatedPinLaw", "ok", "([J[BIJ)Z"⟩ : MethodName)) hown (mvT hZ (hw _ (List.mem_of_getElem? (i := 7) rfl))) (mvT hZ (hw _ (List.mem_of_getElem? (i := 8) rfl))) (mvT hZ (hw _ (List.mem_of_getElem? (i := 9) rfl))) (mvT hZ (hw _ (List.mem_of_getElem? (i := 10) rfl))) (by decide) (backOf (W := 0) (rm2 l Z a0 hw [] b18_0 b1 q1 k1 ((p0 &&& (2147483647 : Int32)) % (9 : Int32)) (nar .byte ((((q1).toInt32)).toInt8.toInt32)) (nar .byte (e0_0 q1)) (nar .byte (e0_1 q1)) (nar .byte (e0_2 q1)) (nar .byte (e0_3 q1)) (nar .byte (e0_4 q1)) (nar .byte (e0_5 q1)) (nar .byte (e0_6 q1)) kb18_1 ((72340172838076673 : Int64) * ((((nar .byte ((((q1).toInt32)).toInt8.toInt32)) &&& (255 : Int32))).toInt64)) ((72340172838076673 : Int64) * ((((nar .byte (e0_0 q1)) &&& (255 : Int32))).toInt64)) ((72340172838076673 : Int64) * ((((nar .byte (e0_1 q1)) &&& (255 : Int32))).toInt64)) ((72340172838076673 : Int64) * ((((nar .byte (e0_2 q1)) &&& (255 : Int32))).toInt64)) ((72340172838076673 : Int64) * ((((nar .byte (e0_3 q1)) &&& (255 : Int32))).toInt64)) ((72340172838076673 : Int64) * ((((nar .byte (e0_4 q1)) &&& (255 : Int32))).toInt64)) ((72340172838076673 : Int64) * ((((nar .byte (e0_5 q1)) &&& (255 : Int32))).toInt64)) ((72340172838076673 : Int64) * ((((nar .byte (e0_6 q1)) &&& (255 : Int32))).toInt64)) T18.heap n0 (Nat.le_trans Z0 KK18.1) F109 Fq18_0) hZ (hw _ (List.mem_of_getElem? (i := 10) rfl)) (hw _ (List.mem_of_getElem? (i := 9) rfl)) (by decide) (by decide)) (g := (mkF m 158 #[.val (.int p0), .val (.long q1), .second, .val (.int ((p0 &&& (2147483647 : Int32)) % (9 : Int32))), .val (.ref b1), .val (.ref b18_0)] [(.long q1), (.int (0 : Int32)), (.ref b1), (.ref b18_0)])) rfl (by rw [hml]; rfl) (argsL := [(.ref b18_0), (.ref b1), (.int (0 : Int32)), (.long q1)]) (rest := []) (lenOf pd_2 rfl) rfl (by show 2 * 0 + _ ≤ _; exact Nat.le_of_eq rfl) (hb hby at_158) (fun _ _ => ⟨rfl, rfl, (by decide : 2 + 0 ≤ _), (by decide : 16 + 0 ≤ _)⟩)
                  dsimp only [Pt.U, Pt.locs, Pt.cells, Pt.slots] at X97 l97 y97 z97 st97 hQ97
                  subst l97 y97 z97
                  obtain ⟨rfl, Nq97, e97⟩ := hQ97
                  have N97 := Fr.app N18 Nq97
                  refine OGl.go st97 ?_
                  show OGl _ _ _ _ T97 (mkF m 161 #[.val (.int p0), .val (.long q1), .second, .val (.int ((p0 &&& (2147483647 : Int32)) % (9 : Int32))), .val (.ref b1), .val (.ref b18_0)] [(.int (e0_7 p0 q1))])
                  by_cases hc110 : (e0_7 p0 q1) = (0 : Int32)
                  · refine OGl.go (fun t k => XS.ifYes X97.here hx rfl (pc0 := 161) (pc' := 254) rfl (hb hby at_161) rfl ((if0 _ _).trans (teq hc110).1) (by decide) (by decide) (XS.iconst X97.here hx rfl (hb hby at_254) k)) ?_
                    show OGl _ _ _ _ T97 (mkF m 255 #[.val (.int p0), .val (.long q1), .second, .val (.int ((p0 &&& (2147483647 : Int32)) % (9 : Int32))), .val (.ref b1), .val (.ref b18_0)] [(.int (0 : Int32))])
                    obtain ⟨fs, hr, hrun, hended, hW, hsame⟩ := X97.leave (v := some (.int (0 : Int32))) (fun h => by rw [Bd.returns] at h; cases h)
                    refine ⟨_, _, retN X97 hx (t := .boolean) Bd.returns (by simp) (hb hby at_255) hr, hrun, hended, _, _, rfl, ?_, ⟨_, rfl⟩, hW, hsame.mono (by decide) (by decide)⟩
                    have hv218 : (t0_0 p0 q1) = (0 : Int32) := by unfold t0_0; rw [if_pos hc110]
                    show Q0 Z p0 q1 h0 n0 _ T97.heap _
                    rw [e97]
                    exact ⟨(by rw [hv218]), N97⟩
                  · refine OGl.go (fun t k => XS.ifNo X97.here hx rfl (hb hby at_161) rfl ((if0 _ _).trans (feq hc110).1) (XS.aload X97.here hx rfl (hb hby at_164) rfl rfl (XS.aload X97.here hx rfl (hb hby at_166) rfl rfl (XS.iconst X97.here hx rfl (hb hby at_168) (XS.lloadN X97.here hx rfl (hb hby at_169) rfl k))))) ?_
                    show OGl _ _ _ _ T97 (mkF m 170 #[.val (.int p0), .val (.long q1), .second, .val (.int ((p0 &&& (2147483647 : Int32)) % (9 : Int32))), .val (.ref b1), .val (.ref b18_0)] [(.long q1), (.int (1 : Int32)), (.ref b1), (.ref b18_0)])
                    obtain ⟨_, _, ⟨T111, L111, kk111, n111⟩, -, X111, ⟨Lc111, hQ111, l111, y111, z111⟩, st111⟩ := Jvm.LawKit.callS X97 hx (y := (⟨"com/example/skipscan/skipscan/ByteScanRepeatedPinLaw", "ok", "([J[BIJ)Z"⟩ : MethodName)) hown (mvT hZ (hw _ (List.mem_of_getElem? (i := 7) rfl))) (mvT hZ (hw _ (List.mem_of_getElem? (i := 8) rfl))) (mvT hZ (hw _ (List.mem_of_getElem? (i := 9) rfl))) (mvT hZ (hw _ (List.mem_of_getElem? (i := 10) rfl))) (by decide) (backOf (W := 0) (rm2a l Z a0 hw [] b18_0 b1 q1 k1 ((p0 &&& (2147483647 : Int32)) % (9 : Int32)) (nar .byte ((((q1).toInt32)).toInt8.toInt32)) (nar .byte (e0_0 q1)) (nar .byte (e0_1 q1)) (nar .byte (e0_2 q1)) (nar .byte (e0_3 q1)) (nar .byte (e0_4 q1)) (nar .byte (e0_5 q1)) (nar .byte (e0_6 q1)) kb18_1 ((72340172838076673 : Int64) * ((((nar .byte ((((q1).toInt32)).toInt8.toInt32)) &&& (255 : Int32))).toInt64)) ((72340172838076673 : Int64) * ((((nar .byte (e0_0 q1)) &&& (255 : Int32))).toInt64)) ((72340172838076673 : Int64) * ((((nar .byte (e0_1 q1)) &&& (255 : Int32))).toInt64)) ((72340172838076673 : Int64) * ((((nar .byte (e0_2 q1)) &&& (255 : Int32))).toInt64)) ((72340172838076673 : Int64) * ((((nar .byte (e0_3 q1)) &&& (255 : Int32))).toInt64)) ((72340172838076673 : Int64) * ((((nar .byte (e0_4 q1)) &&& (255 : Int32))).toInt64)) ((72340172838076673 : Int64) * ((((nar .byte (e0_5 q1)) &&& (255 : Int32))).toInt64)) ((72340172838076673 : Int64) * ((((nar .byte (e0_6 q1)) &&& (255 : Int32))).toInt64)) T18.heap n0 (Nat.le_trans Z0 KK18.1) F109 Fq18_0) hZ (hw _ (List.mem_of_getElem? (i := 10) rfl)) (hw _ (List.mem_of_getElem? (i := 9) rfl)) (by decide) (by decide)) (g := (mkF m 170 #[.val (.int p0), .val (.long q1), .second, .val (.int ((p0 &&& (2147483647 : Int32)) % (9 : Int32))), .val (.ref b1), .val (.ref b18_0)] [(.long q1), (.int (1 : Int32)), (.ref b1), (.ref b18_0)])) rfl (by rw [hml]; rfl) (argsL := [(.ref b18_0), (.ref b1), (.int (1 : Int32)), (.long q1)]) (rest := []) (lenOf pd_2 rfl) rfl (by show 2 * 0 + _ ≤ _; exact Nat.le_of_eq rfl) (hb hby at_170) (fun _ _ => ⟨rfl, e97, (by decide : 2 + 0 ≤ _), (by decide : 16 + 0 ≤ _)⟩)
                    dsimp only [Pt.U, Pt.locs, Pt.cells, Pt.slots] at X111 l111 y111 z111 st111 hQ111
                    subst l111 y111 z111
                    obtain ⟨rfl, Nq111, e111⟩ := hQ111
                    have N111 := Fr.app N97 Nq111
                    refine OGl.go st111 ?_
                    show OGl _ _ _ _ T111 (mkF m 173 #[.val (.int p0), .val (.long q1), .second, .val (.int ((p0 &&& (2147483647 : Int32)) % (9 : Int32))), .val (.ref b1), .val (.ref b18_0)] [(.int (e0_8 p0 q1))])
                    by_cases hc123 : (e0_8 p0 q1) = (0 : Int32)
                    · refine OGl.go (fun t k => XS.ifYes X111.here hx rfl (pc0 := 173) (pc' := 254) rfl (hb hby at_173) rfl ((if0 _ _).trans (teq hc123).1) (by decide) (by decide) (XS.iconst X111.here hx rfl (hb hby at_254) k)) ?_
                      show OGl _ _ _ _ T111 (mkF m 255 #[.val (.int p0), .val (.long q1), .second, .val (.int ((p0 &&& (2147483647 : Int32)) % (9 : Int32))), .val (.ref b1), .val (.ref b18_0)] [(.int (0 : Int32))])
                      obtain ⟨fs, hr, hrun, hended, hW, hsame⟩ := X111.leave (v := some (.int (0 : Int32))) (fun h => by rw [Bd.returns] at h; cases h)
                      refine ⟨_, _, retN X111 hx (t := .boolean) Bd.returns (by simp) (hb hby at_255) hr, hrun, hended, _, _, rfl, ?_, ⟨_, rfl⟩, hW, hsame.mono (by decide) (by decide)⟩
                      have hv219 : (t0_0 p0 q1) = (0 : Int32) := by unfold t0_0; rw [if_neg hc110, if_pos hc123]
                      show Q0 Z p0 q1 h0 n0 _ T111.heap _
                      rw [e111]
                      exact ⟨(by rw [hv219]), N111⟩
                    · refine OGl.go (fun t k => XS.ifNo X111.here hx rfl (hb hby at_173) rfl ((if0 _ _).trans (feq hc123).1) (XS.aload X111.here hx rfl (hb hby at_176) rfl rfl (XS.aload X111.here hx rfl (hb hby at_178) rfl rfl (XS.iconst X111.here hx rfl (hb hby at_180) (XS.lloadN X111.here hx rfl (hb hby at_181) rfl k))))) ?_
                      show OGl _ _ _ _ T111 (mkF m 182 #[.val (.int p0), .val (.long q1), .second, .val (.int ((p0 &&& (2147483647 : Int32)) % (9 : Int32))), .val (.ref b1), .val (.ref b18_0)] [(.long q1), (.int (2 : Int32)), (.ref b1), (.ref b18_0)])
                      obtain ⟨_, _, ⟨T124, L124, kk124, n124⟩, -, X124, ⟨Lc124, hQ124, l124, y124, z124⟩, st124⟩ := Jvm.LawKit.callS X111 hx (y := (⟨"com/example/skipscan/skipscan/ByteScanRepeatedPinLaw", "ok", "([J[BIJ)Z"⟩ : MethodName)) hown (mvT hZ (hw _ (List.mem_of_getElem? (i := 7) rfl))) (mvT hZ (hw _ (List.mem_of_getElem? (i := 8) rfl))) (mvT hZ (hw _ (List.mem_of_getElem? (i := 9) rfl))) (mvT hZ (hw _ (List.mem_of_getElem? (i := 10) rfl))) (by decide) (backOf (W := 0) (rm2b l Z a0 hw [] b18_0 b1 q1 k1 ((p0 &&& (2147483647 : Int32)) % (9 : Int32)) (nar .byte ((((q1).toInt32)).toInt8.toInt32)) (nar .byte (e0_0 q1)) (nar .byte (e0_1 q1)) (nar .byte (e0_2 q1)) (nar .byte (e0_3 q1)) (nar .byte (e0_4 q1)) (nar .byte (e0_5 q1)) (nar .byte (e0_6 q1)) kb18_1 ((72340172838076673 : Int64) * ((((nar .byte ((((q1).toInt32)).toInt8.toInt32)) &&& (255 : Int32))).toInt64)) ((72340172838076673 : Int64) * ((((nar .byte (e0_0 q1)) &&& (255 : Int32))).toInt64)) ((72340172838076673 : Int64) * ((((nar .byte (e0_1 q1)) &&& (255 : Int32))).toInt64)) ((72340172838076673 : Int64) * ((((nar .byte (e0_2 q1)) &&& (255 : Int32))).toInt64)) ((72340172838076673 : Int64) * ((((nar .byte (e0_3 q1)) &&& (255 : Int32))).toInt64)) ((72340172838076673 : Int64) * ((((nar .byte (e0_4 q1)) &&& (255 : Int32))).toInt64)) ((72340172838076673 : Int64) * ((((nar .byte (e0_5 q1)) &&& (255 : Int32))).toInt64)) ((72340172838076673 : Int64) * ((((nar .byte (e0_6 q1)) &&& (255 : Int32))).toInt64)) T18.heap n0 (Nat.le_trans Z0 KK18.1) F109 Fq18_0) hZ (hw _ (List.mem_of_getElem? (i := 10) rfl)) (hw _ (List.mem_of_getElem? (i := 9) rfl)) (by decide) (by decide)) (g := (mkF m 182 #[.val (.int p0), .val (.long q1), .second, .val (.int ((p0 &&& (2147483647 : Int32)) % (9 : Int32))), .val (.ref b1), .val (.ref b18_0)] [(.long q1), (.int (2 : Int32)), (.ref b1), (.ref b18_0)])) rfl (by rw [hml]; rfl) (argsL := [(.ref b18_0), (.ref b1), (.int (2 : Int32)), (.long q1)]) (rest := []) (lenOf pd_2 rfl) rfl (by show 2 * 0 + _ ≤ _; exact Nat.le_of_eq rfl) (hb hby at_182) (fun _ _ => ⟨rfl, e111, (by decide : 2 + 0 ≤ _), (by decide : 16 + 0 ≤ _)⟩)
                      dsimp only [Pt.U, Pt.locs, Pt.cells, Pt.slots] at X124 l124 y124 z124 st124 hQ124
                      subst l124 y124 z124
                      obtain ⟨rfl, Nq124, e124⟩ := hQ124
                      have N124 := Fr.app N111 Nq124
                      refine OGl.go st124 ?_
                      show OGl _ _ _ _ T124 (mkF m 185 #[.val (.int p0), .val (.long q1), .second, .val (.int ((p0 &&& (2147483647 : Int32)) % (9 : Int32))), .val (.ref b1), .val (.ref b18_0)] [(.int (e0_9 p0 q1))])
                      by_cases hc136 : (e0_9 p0 q1) = (0 : Int32)
                      · refine OGl.go (fun t k => XS.ifYes X124.here hx rfl (pc0 := 185) (pc' := 254) rfl (hb hby at_185) rfl ((if0 _ _).trans (teq hc136).1) (by decide) (by decide) (XS.iconst X124.here hx rfl (hb hby at_254) k)) ?_
                        show OGl _ _ _ _ T124 (mkF m 255 #[.val (.int p0), .val (.long q1), .second, .val (.int ((p0 &&& (2147483647 : Int32)) % (9 : Int32))), .val (.ref b1), .val (.ref b18_0)] [(.int (0 : Int32))])
                        obtain ⟨fs, hr, hrun, hended, hW, hsame⟩ := X124.leave (v := some (.int (0 : Int32))) (fun h => by rw [Bd.returns] at h; cases h)
                        refine ⟨_, _, retN X124 hx (t := .boolean) Bd.returns (by simp) (hb hby at_255) hr, hrun, hended, _, _, rfl, ?_, ⟨_, rfl⟩, hW, hsame.mono (by decide) (by decide)⟩
                        have hv220 : (t0_0 p0 q1) = (0 : Int32) := by unfold t0_0; rw [if_neg hc110, if_neg hc123, if_pos hc136]
                        show Q0 Z p0 q1 h0 n0 _ T124.heap _
                        rw [e124]
                        exact ⟨(by rw [hv220]), N124⟩
                      · refine OGl.go (fun t k => XS.ifNo X124.here hx rfl (hb hby at_185) rfl ((if0 _ _).trans (feq hc136).1) (XS.aload X124.here hx rfl (hb hby at_188) rfl rfl (XS.aload X124.here hx rfl (hb hby at_190) rfl rfl (XS.iconst X124.here hx rfl (hb hby at_192) (XS.lloadN X124.here hx rfl (hb hby at_193) rfl k))))) ?_
                        show OGl _ _ _ _ T124 (mkF m 194 #[.val (.int p0), .val (.long q1), .second, .val (.int ((p0 &&& (2147483647 : Int32)) % (9 : Int32))), .val (.ref b1), .val (.ref b18_0)] [(.long q1), (.int (3 : Int32)), (.ref b1), (.ref b18_0)])
                        obtain ⟨_, _, ⟨T137, L137, kk137, n137⟩, -, X137, ⟨Lc137, hQ137, l137, y137, z137⟩, st137⟩ := Jvm.LawKit.callS X124 hx (y := (⟨"com/example/skipscan/skipscan/ByteScanRepeatedPinLaw", "ok", "([J[BIJ)Z"⟩ : MethodName)) hown (mvT hZ (hw _ (List.mem_of_getElem? (i := 7) rfl))) (mvT hZ (hw _ (List.mem_of_getElem? (i := 8) rfl))) (mvT hZ (hw _ (List.mem_of_getElem? (i := 9) rfl))) (mvT hZ (hw _ (List.mem_of_getElem? (i := 10) rfl))) (by decide) (backOf (W := 0) (rm2c l Z a0 hw [] b18_0 b1 q1 k1 ((p0 &&& (2147483647 : Int32)) % (9 : Int32)) (nar .byte ((((q1).toInt32)).toInt8.toInt32)) (nar .byte (e0_0 q1)) (nar .byte (e0_1 q1)) (nar .byte (e0_2 q1)) (nar .byte (e0_3 q1)) (nar .byte (e0_4 q1)) (nar .byte (e0_5 q1)) (nar .byte (e0_6 q1)) kb18_1 ((72340172838076673 : Int64) * ((((nar .byte ((((q1).toInt32)).toInt8.toInt32)) &&& (255 : Int32))).toInt64)) ((72340172838076673 : Int64) * ((((nar .byte (e0_0 q1)) &&& (255 : Int32))).toInt64)) ((72340172838076673 : Int64) * ((((nar .byte (e0_1 q1)) &&& (255 : Int32))).toInt64)) ((72340172838076673 : Int64) * ((((nar .byte (e0_2 q1)) &&& (255 : Int32))).toInt64)) ((72340172838076673 : Int64) * ((((nar .byte (e0_3 q1)) &&& (255 : Int32))).toInt64)) ((72340172838076673 : Int64) * ((((nar .byte (e0_4 q1)) &&& (255 : Int32))).toInt64)) ((72340172838076673 : Int64) * ((((nar .byte (e0_5 q1)) &&& (255 : Int32))).toInt64)) ((72340172838076673 : Int64) * ((((nar .byte (e0_6 q1)) &&& (255 : Int32))).toInt64)) T18.heap n0 (Nat.le_trans Z0 KK18.1) F109 Fq18_0) hZ (hw _ (List.mem_of_getElem? (i := 10) rfl)) (hw _ (List.mem_of_getElem? (i := 9) rfl)) (by decide) (by decide)) (g := (mkF m 194 #[.val (.int p0), .val (.long q1), .second, .val (.int ((p0 &&& (2147483647 : Int32)) % (9 : Int32))), .val (.ref b1), .val (.ref b18_0)] [(.long q1), (.int (3 : Int32)), (.ref b1), (.ref b18_0)])) rfl (by rw [hml]; rfl) (argsL := [(.ref b18_0), (.ref b1), (.int (3 : Int32)), (.long q1)]) (rest := []) (lenOf pd_2 rfl) rfl (by show 2 * 0 + _ ≤ _; exact Nat.le_of_eq rfl) (hb hby at_194) (fun _ _ => ⟨rfl, e124, (by decide : 2 + 0 ≤ _), (by decide : 16 + 0 ≤ _)⟩)
                        dsimp only [Pt.U, Pt.locs, Pt.cells, Pt.slots] at X137 l137 y137 z137 st137 hQ137
                        subst l137 y137 z137
                        obtain ⟨rfl, Nq137, e137⟩ := hQ137
                        have N137 := Fr.app N124 Nq137
                        refine OGl.go st137 ?_
                        show OGl _ _ _ _ T137 (mkF m 197 #[.val (.int p0), .val (.long q1), .second, .val (.int ((p0 &&& (2147483647 : Int32)) % (9 : Int32))), .val (.ref b1), .val (.ref b18_0)] [(.int (e0_10 p0 q1))])
                        by_cases hc149 : (e0_10 p0 q1) = (0 : Int32)
                        · refine OGl.go (fun t k => XS.ifYes X137.here hx rfl (pc0 := 197) (pc' := 254) rfl (hb hby at_197) rfl ((if0 _ _).trans (teq hc149).1) (by decide) (by decide) (XS.iconst X137.here hx rfl (hb hby at_254) k)) ?_
                          show OGl _ _ _ _ T137 (mkF m 255 #[.val (.int p0), .val (.long q1), .second, .val (.int ((p0 &&& (2147483647 : Int32)) % (9 : Int32))), .val (.ref b1), .val (.ref b18_0)] [(.int (0 : Int32))])
                          obtain ⟨fs, hr, hrun, hended, hW, hsame⟩ := X137.leave (v := some (.int (0 : Int32))) (fun h => by rw [Bd.returns] at h; cases h)
                          refine ⟨_, _, retN X137 hx (t := .boolean) Bd.returns (by simp) (hb hby at_255) hr, hrun, hended, _, _, rfl, ?_, ⟨_, rfl⟩, hW, hsame.mono (by decide) (by decide)⟩
                          have hv221 : (t0_0 p0 q1) = (0 : Int32) := by unfold t0_0; rw [if_neg hc110, if_neg hc123, if_neg hc136, if_pos hc149]
                          show Q0 Z p0 q1 h0 n0 _ T137.heap _
                          rw [e137]
                          exact ⟨(by rw [hv221]), N137⟩
                        · refine OGl.go (fun t k => XS.ifNo X137.here hx rfl (hb hby at_197) rfl ((if0 _ _).trans (feq hc149).1) (XS.aload X137.here hx rfl (hb hby at_200) rfl rfl (XS.aload X137.here hx rfl (hb hby at_202) rfl rfl (XS.iconst X137.here hx rfl (hb hby at_204) (XS.lloadN X137.here hx rfl (hb hby at_205) rfl k))))) ?_
                          show OGl _ _ _ _ T137 (mkF m 206 #[.val (.int p0), .val (.long q1), .second, .val (.int ((p0 &&& (2147483647 : Int32)) % (9 : Int32))), .val (.ref b1), .val (.ref b18_0)] [(.long q1), (.int (4 : Int32)), (.ref b1), (.ref b18_0)])
                          obtain ⟨_, _, ⟨T150, L150, kk150, n150⟩, -, X150, ⟨Lc150, hQ150, l150, y150, z150⟩, st150⟩ := Jvm.LawKit.callS X137 hx (y := (⟨"com/example/skipscan/skipscan/ByteScanRepeatedPinLaw", "ok", "([J[BIJ)Z"⟩ : MethodName)) hown (mvT hZ (hw _ (List.mem_of_getElem? (i := 7) rfl))) (mvT hZ (hw _ (List.mem_of_getElem? (i := 8) rfl))) (mvT hZ (hw _ (List.mem_of_getElem? (i := 9) rfl))) (mvT hZ (hw _ (List.mem_of_getElem? (i := 10) rfl))) (by decide) (backOf (W := 0) (rm2d l Z a0 hw [] b18_0 b1 q1 k1 ((p0 &&& (2147483647 : Int32)) % (9 : Int32)) (nar .byte ((((q1).toInt32)).toInt8.toInt32)) (nar .byte (e0_0 q1)) (nar .byte (e0_1 q1)) (nar .byte (e0_2 q1)) (nar .byte (e0_3 q1)) (nar .byte (e0_4 q1)) (nar .byte (e0_5 q1)) (nar .byte (e0_6 q1)) kb18_1 ((72340172838076673 : Int64) * ((((nar .byte ((((q1).toInt32)).toInt8.toInt32)) &&& (255 : Int32))).toInt64)) ((72340172838076673 : Int64) * ((((nar .byte (e0_0 q1)) &&& (255 : Int32))).toInt64)) ((72340172838076673 : Int64) * ((((nar .byte (e0_1 q1)) &&& (255 : Int32))).toInt64)) ((72340172838076673 : Int64) * ((((nar .byte (e0_2 q1)) &&& (255 : Int32))).toInt64)) ((72340172838076673 : Int64) * ((((nar .byte (e0_3 q1)) &&& (255 : Int32))).toInt64)) ((72340172838076673 : Int64) * ((((nar .byte (e0_4 q1)) &&& (255 : Int32))).toInt64)) ((72340172838076673 : Int64) * ((((nar .byte (e0_5 q1)) &&& (255 : Int32))).toInt64)) ((72340172838076673 : Int64) * ((((nar .byte (e0_6 q1)) &&& (255 : Int32))).toInt64)) T18.heap n0 (Nat.le_trans Z0 KK18.1) F109 Fq18_0) hZ (hw _ (List.mem_of_getElem? (i := 10) rfl)) (hw _ (List.mem_of_getElem? (i := 9) rfl)) (by decide) (by decide)) (g := (mkF m 206 #[.val (.int p0), .val (.long q1), .second, .val (.int ((p0 &&& (2147483647 : Int32)) % (9 : Int32))), .val (.ref b1), .val (.ref b18_0)] [(.long q1), (.int (4 : Int32)), (.ref b1), (.ref b18_0)])) rfl (by rw [hml]; rfl) (argsL := [(.ref b18_0), (.ref b1), (.int (4 : Int32)), (.long q1)]) (rest := []) (lenOf pd_2 rfl) rfl (by show 2 * 0 + _ ≤ _; exact Nat.le_of_eq rfl) (hb hby at_206) (fun _ _ => ⟨rfl, e137, (by decide : 2 + 0 ≤ _), (by decide : 16 + 0 ≤ _)⟩)
                          dsimp only [Pt.U, Pt.locs, Pt.cells, Pt.slots] at X150 l150 y150 z150 st150 hQ150
                          subst l150 y150 z150
                          obtain ⟨rfl, Nq150, e150⟩ := hQ150
                          have N150 := Fr.app N137 Nq150
                          refine OGl.go st150 ?_
                          show OGl _ _ _ _ T150 (mkF m 209 #[.val (.int p0), .val (.long q1), .second, .val (.int ((p0 &&& (2147483647 : Int32)) % (9 : Int32))), .val (.ref b1), .val (.ref b18_0)] [(.int (e0_11 p0 q1))])
                          by_cases hc162 : (e0_11 p0 q1) = (0 : Int32)
                          · refine OGl.go (fun t k => XS.ifYes X150.here hx rfl (pc0 := 209) (pc' := 254) rfl (hb hby at_209) rfl ((if0 _ _).trans (teq hc162).1) (by decide) (by decide) (XS.iconst X150.here hx rfl (hb hby at_254) k)) ?_
                            show OGl _ _ _ _ T150 (mkF m 255 #[.val (.int p0), .val (.long q1), .second, .val (.int ((p0 &&& (2147483647 : Int32)) % (9 : Int32))), .val (.ref b1), .val (.ref b18_0)] [(.int (0 : Int32))])
                            obtain ⟨fs, hr, hrun, hended, hW, hsame⟩ := X150.leave (v := some (.int (0 : Int32))) (fun h => by rw [Bd.returns] at h; cases h)
                            refine ⟨_, _, retN X150 hx (t := .boolean) Bd.returns (by simp) (hb hby at_255) hr, hrun, hended, _, _, rfl, ?_, ⟨_, rfl⟩, hW, hsame.mono (by decide) (by decide)⟩
                            have hv222 : (t0_0 p0 q1) = (0 : Int32) := by unfold t0_0; rw [if_neg hc110, if_neg hc123, if_neg hc136, if_neg hc149, if_pos hc162]
                            show Q0 Z p0 q1 h0 n0 _ T150.heap _
                            rw [e150]
                            exact ⟨(by rw [hv222]), N150⟩
                          · refine OGl.go (fun t k => XS.ifNo X150.here hx rfl (hb hby at_209) rfl ((if0 _ _).trans (feq hc162).1) (XS.aload X150.here hx rfl (hb hby at_212) rfl rfl (XS.aload X150.here hx rfl (hb hby at_214) rfl rfl (XS.iconst X150.here hx rfl (hb hby at_216) (XS.lloadN X150.here hx rfl (hb hby at_217) rfl k))))) ?_
                            show OGl _ _ _ _ T150 (mkF m 218 #[.val (.int p0), .val (.long q1), .second, .val (.int ((p0 &&& (2147483647 : Int32)) % (9 : Int32))), .val (.ref b1), .val (.ref b18_0)] [(.long q1), (.int (5 : Int32)), (.ref b1), (.ref b18_0)])
                            obtain ⟨_, _, ⟨T163, L163, kk163, n163⟩, -, X163, ⟨Lc163, hQ163, l163, y163, z163⟩, st163⟩ := Jvm.LawKit.callS X150 hx (y := (⟨"com/example/skipscan/skipscan/ByteScanRepeatedPinLaw", "ok", "([J[BIJ)Z"⟩ : MethodName)) hown (mvT hZ (hw _ (List.mem_of_getElem? (i := 7) rfl))) (mvT hZ (hw _ (List.mem_of_getElem? (i := 8) rfl))) (mvT hZ (hw _ (List.mem_of_getElem? (i := 9) rfl))) (mvT hZ (hw _ (List.mem_of_getElem? (i := 10) rfl))) (by decide) (backOf (W := 0) (rm2e l Z a0 hw [] b18_0 b1 q1 k1 ((p0 &&& (2147483647 : Int32)) % (9 : Int32)) (nar .byte ((((q1).toInt32)).toInt8.toInt32)) (nar .byte (e0_0 q1)) (nar .byte (e0_1 q1)) (nar .byte (e0_2 q1)) (nar .byte (e0_3 q1)) (nar .byte (e0_4 q1)) (nar .byte (e0_5 q1)) (nar .byte (e0_6 q1)) kb18_1 ((72340172838076673 : Int64) * ((((nar .byte ((((q1).toInt32)).toInt8.toInt32)) &&& (255 : Int32))).toInt64)) ((72340172838076673 : Int64) * ((((nar .byte (e0_0 q1)) &&& (255 : Int32))).toInt64)) ((72340172838076673 : Int64) * ((((nar .byte (e0_1 q1)) &&& (255 : Int32))).toInt64)) ((72340172838076673 : Int64) * ((((nar .byte (e0_2 q1)) &&& (255 : Int32))).toInt64)) ((72340172838076673 : Int64) * ((((nar .byte (e0_3 q1)) &&& (255 : Int32))).toInt64)) ((72340172838076673 : Int64) * ((((nar .byte (e0_4 q1)) &&& (255 : Int32))).toInt64)) ((72340172838076673 : Int64) * ((((nar .byte (e0_5 q1)) &&& (255 : Int32))).toInt64)) ((72340172838076673 : Int64) * ((((nar .byte (e0_6 q1)) &&& (255 : Int32))).toInt64)) T18.heap n0 (Nat.le_trans Z0 KK18.1) F109 Fq18_0) hZ (hw _ (List.mem_of_getElem? (i := 10) rfl)) (hw _ (List.mem_of_getElem? (i := 9) rfl)) (by decide) (by decide)) (g := (mkF m 218 #[.val (.int p0), .val (.long q1), .second, .val (.int ((p0 &&& (2147483647 : Int32)) % (9 : Int32))), .val (.ref b1), .val (.ref b18_0)] [(.long q1), (.int (5 : Int32)), (.ref b1), (.ref b18_0)])) rfl (by rw [hml]; rfl) (argsL := [(.ref b18_0), (.ref b1), (.int (5 : Int32)), (.long q1)]) (rest := []) (lenOf pd_2 rfl) rfl (by show 2 * 0 + _ ≤ _; exact Nat.le_of_eq rfl) (hb hby at_218) (fun _ _ => ⟨rfl, e150, (by decide : 2 + 0 ≤ _), (by decide : 16 + 0 ≤ _)⟩)
                            dsimp only [Pt.U, Pt.locs, Pt.cells, Pt.slots] at X163 l163 y163 z163 st163 hQ163
                            subst l163 y163 z163
                            obtain ⟨rfl, Nq163, e163⟩ := hQ163
                            have N163 := Fr.app N150 Nq163
                            refine OGl.go st163 ?_
                            show OGl _ _ _ _ T163 (mkF m 221 #[.val (.int p0), .val (.long q1), .second, .val (.int ((p0 &&& (2147483647 : Int32)) % (9 : Int32))), .val (.ref b1), .val (.ref b18_0)] [(.int (e0_12 p0 q1))])
                            by_cases hc175 : (e0_12 p0 q1) = (0 : Int32)
                            · refine OGl.go (fun t k => XS.ifYes X163.here hx rfl (pc0 := 221) (pc' := 254) rfl (hb hby at_221) rfl ((if0 _ _).trans (teq hc175).1) (by decide) (by decide) (XS.iconst X163.here hx rfl (hb hby at_254) k)) ?_
                              show OGl _ _ _ _ T163 (mkF m 255 #[.val (.int p0), .val (.long q1), .second, .val (.int ((p0 &&& (2147483647 : Int32)) % (9 : Int32))), .val (.ref b1), .val (.ref b18_0)] [(.int (0 : Int32))])
                              obtain ⟨fs, hr, hrun, hended, hW, hsame⟩ := X163.leave (v := some (.int (0 : Int32))) (fun h => by rw [Bd.returns] at h; cases h)
                              refine ⟨_, _, retN X163 hx (t := .boolean) Bd.returns (by simp) (hb hby at_255) hr, hrun, hended, _, _, rfl, ?_, ⟨_, rfl⟩, hW, hsame.mono (by decide) (by decide)⟩
                              have hv223 : (t0_0 p0 q1) = (0 : Int32) := by unfold t0_0; rw [if_neg hc110, if_neg hc123, if_neg hc136, if_neg hc149, if_neg hc162, if_pos hc175]
                              show Q0 Z p0 q1 h0 n0 _ T163.heap _
                              rw [e163]
                              exact ⟨(by rw [hv223]), N163⟩
                            · refine OGl.go (fun t k => XS.ifNo X163.here hx rfl (hb hby at_221) rfl ((if0 _ _).trans (feq hc175).1) (XS.aload X163.here hx rfl (hb hby at_224) rfl rfl (XS.aload X163.here hx rfl (hb hby at_226) rfl rfl (XS.bipush X163.here hx rfl (hb hby at_228) (XS.lloadN X163.here hx rfl (hb hby at_230) rfl k))))) ?_
                              show OGl _ _ _ _ T163 (mkF m 231 #[.val (.int p0), .val (.long q1), .second, .val (.int ((p0 &&& (2147483647 : Int32)) % (9 : Int32))), .val (.ref b1), .val (.ref b18_0)] [(.long q1), (.int (6 : Int32)), (.ref b1), (.ref b18_0)])
                              obtain ⟨_, _, ⟨T176, L176, kk176, n176⟩, -, X176, ⟨Lc176, hQ176, l176, y176, z176⟩, st176⟩ := Jvm.LawKit.callS X163 hx (y := (⟨"com/example/skipscan/skipscan/ByteScanRepeatedPinLaw", "ok", "([J[BIJ)Z"⟩ : MethodName)) hown (mvT hZ (hw _ (List.mem_of_getElem? (i := 7) rfl))) (mvT hZ (hw _ (List.mem_of_getElem? (i := 8) rfl))) (mvT hZ (hw _ (List.mem_of_getElem? (i := 9) rfl))) (mvT hZ (hw _ (List.mem_of_getElem? (i := 10) rfl))) (by decide) (backOf (W := 0) (rm2f l Z a0 hw [] b18_0 b1 q1 k1 ((p0 &&& (2147483647 : Int32)) % (9 : Int32)) (nar .byte ((((q1).toInt32)).toInt8.toInt32)) (nar .byte (e0_0 q1)) (nar .byte (e0_1 q1)) (nar .byte (e0_2 q1)) (nar .byte (e0_3 q1)) (nar .byte (e0_4 q1)) (nar .byte (e0_5 q1)) (nar .byte (e0_6 q1)) kb18_1 ((72340172838076673 : Int64) * ((((nar .byte ((((q1).toInt32)).toInt8.toInt32)) &&& (255 : Int32))).toInt64)) ((72340172838076673 : Int64) * ((((nar .byte (e0_0 q1)) &&& (255 : Int32))).toInt64)) ((72340172838076673 : Int64) * ((((nar .byte (e0_1 q1)) &&& (255 : Int32))).toInt64)) ((72340172838076673 : Int64) * ((((nar .byte (e0_2 q1)) &&& (255 : Int32))).toInt64)) ((72340172838076673 : Int64) * ((((nar .byte (e0_3 q1)) &&& (255 : Int32))).toInt64)) ((72340172838076673 : Int64) * ((((nar .byte (e0_4 q1)) &&& (255 : Int32))).toInt64)) ((72340172838076673 : Int64) * ((((nar .byte (e0_5 q1)) &&& (255 : Int32))).toInt64)) ((72340172838076673 : Int64) * ((((nar .byte (e0_6 q1)) &&& (255 : Int32))).toInt64)) T18.heap n0 (Nat.le_trans Z0 KK18.1) F109 Fq18_0) hZ (hw _ (List.mem_of_getElem? (i := 10) rfl)) (hw _ (List.mem_of_getElem? (i := 9) rfl)) (by decide) (by decide)) (g := (mkF m 231 #[.val (.int p0), .val (.long q1), .second, .val (.int ((p0 &&& (2147483647 : Int32)) % (9 : Int32))), .val (.ref b1), .val (.ref b18_0)] [(.long q1), (.int (6 : Int32)), (.ref b1), (.ref b18_0)])) rfl (by rw [hml]; rfl) (argsL := [(.ref b18_0), (.ref b1), (.int (6 : Int32)), (.long q1)]) (rest := []) (lenOf pd_2 rfl) rfl (by show 2 * 0 + _ ≤ _; exact Nat.le_of_eq rfl) (hb hby at_231) (fun _ _ => ⟨rfl, e163, (by decide : 2 + 0 ≤ _), (by decide : 16 + 0 ≤ _)⟩)
                              dsimp only [Pt.U, Pt.locs, Pt.cells, Pt.slots] at X176 l176 y176 z176 st176 hQ176
                              subst l176 y176 z176
                              obtain ⟨rfl, Nq176, e176⟩ := hQ176
                              have N176 := Fr.app N163 Nq176
                              refine OGl.go st176 ?_
                              show OGl _ _ _ _ T176 (mkF m 234 #[.val (.int p0), .val (.long q1), .second, .val (.int ((p0 &&& (2147483647 : Int32)) % (9 : Int32))), .val (.ref b1), .val (.ref b18_0)] [(.int (e0_13 p0 q1))])
                              by_cases hc188 : (e0_13 p0 q1) = (0 : Int32)
                              · refine OGl.go (fun t k => XS.ifYes X176.here hx rfl (pc0 := 234) (pc' := 254) rfl (hb hby at_234) rfl ((if0 _ _).trans (teq hc188).1) (by decide) (by decide) (XS.iconst X176.here hx rfl (hb hby at_254) k)) ?_
                                show OGl _ _ _ _ T176 (mkF m 255 #[.val (.int p0), .val (.long q1), .second, .val (.int ((p0 &&& (2147483647 : Int32)) % (9 : Int32))), .val (.ref b1), .val (.ref b18_0)] [(.int (0 : Int32))])
                                obtain ⟨fs, hr, hrun, hended, hW, hsame⟩ := X176.leave (v := some (.int (0 : Int32))) (fun h => by rw [Bd.returns] at h; cases h)
                                refine ⟨_, _, retN X176 hx (t := .boolean) Bd.returns (by simp) (hb hby at_255) hr, hrun, hended, _, _, rfl, ?_, ⟨_, rfl⟩, hW, hsame.mono (by decide) (by decide)⟩
                                have hv224 : (t0_0 p0 q1) = (0 : Int32) := by unfold t0_0; rw [if_neg hc110, if_neg hc123, if_neg hc136, if_neg hc149, if_neg hc162, if_neg hc175, if_pos hc188]
                                show Q0 Z p0 q1 h0 n0 _ T176.heap _
                                rw [e176]
                                exact ⟨(by rw [hv224]), N176⟩
                              · refine OGl.go (fun t k => XS.ifNo X176.here hx rfl (hb hby at_234) rfl ((if0 _ _).trans (feq hc188).1) (XS.aload X176.here hx rfl (hb hby at_237) rfl rfl (XS.aload X176.here hx rfl (hb hby at_239) rfl rfl (XS.bipush X176.here hx rfl (hb hby at_241) (XS.lloadN X176.here hx rfl (hb hby at_243) rfl k))))) ?_
                                show OGl _ _ _ _ T176 (mkF m 244 #[.val (.int p0), .val (.long q1), .second, .val (.int ((p0 &&& (2147483647 : Int32)) % (9 : Int32))), .val (.ref b1), .val (.ref b18_0)] [(.long q1), (.int (7 : Int32)), (.ref b1), (.ref b18_0)])
                                obtain ⟨_, _, ⟨T189, L189, kk189, n189⟩, -, X189, ⟨Lc189, hQ189, l189, y189, z189⟩, st189⟩ := Jvm.LawKit.callS X176 hx (y := (⟨"com/example/skipscan/skipscan/ByteScanRepeatedPinLaw", "ok", "([J[BIJ)Z"⟩ : MethodName)) hown (mvT hZ (hw _ (List.mem_of_getElem? (i := 7) rfl))) (mvT hZ (hw _ (List.mem_of_getElem? (i := 8) rfl))) (mvT hZ (hw _ (List.mem_of_getElem? (i := 9) rfl))) (mvT hZ (hw _ (List.mem_of_getElem? (i := 10) rfl))) (by decide) (backOf (W := 0) (rm2g l Z a0 hw [] b18_0 b1 q1 k1 ((p0 &&& (2147483647 : Int32)) % (9 : Int32)) (nar .byte ((((q1).toInt32)).toInt8.toInt32)) (nar .byte (e0_0 q1)) (nar .byte (e0_1 q1)) (nar .byte (e0_2 q1)) (nar .byte (e0_3 q1)) (nar .byte (e0_4 q1)) (nar .byte (e0_5 q1)) (nar .byte (e0_6 q1)) kb18_1 ((72340172838076673 : Int64) * ((((nar .byte ((((q1).toInt32)).toInt8.toInt32)) &&& (255 : Int32))).toInt64)) ((72340172838076673 : Int64) * ((((nar .byte (e0_0 q1)) &&& (255 : Int32))).toInt64)) ((72340172838076673 : Int64) * ((((nar .byte (e0_1 q1)) &&& (255 : Int32))).toInt64)) ((72340172838076673 : Int64) * ((((nar .byte (e0_2 q1)) &&& (255 : Int32))).toInt64)) ((72340172838076673 : Int64) * ((((nar .byte (e0_3 q1)) &&& (255 : Int32))).toInt64)) ((72340172838076673 : Int64) * ((((nar .byte (e0_4 q1)) &&& (255 : Int32))).toInt64)) ((72340172838076673 : Int64) * ((((nar .byte (e0_5 q1)) &&& (255 : Int32))).toInt64)) ((72340172838076673 : Int64) * ((((nar .byte (e0_6 q1)) &&& (255 : Int32))).toInt64)) T18.heap n0 (Nat.le_trans Z0 KK18.1) F109 Fq18_0) hZ (hw _ (List.mem_of_getElem? (i := 10) rfl)) (hw _ (List.mem_of_getElem? (i := 9) rfl)) (by decide) (by decide)) (g := (mkF m 244 #[.val (.int p0), .val (.long q1), .second, .val (.int ((p0 &&& (2147483647 : Int32)) % (9 : Int32))), .val (.ref b1), .val (.ref b18_0)] [(.long q1), (.int (7 : Int32)), (.ref b1), (.ref b18_0)])) rfl (by rw [hml]; rfl) (argsL := [(.ref b18_0), (.ref b1), (.int (7 : Int32)), (.long q1)]) (rest := []) (lenOf pd_2 rfl) rfl (by show 2 * 0 + _ ≤ _; exact Nat.le_of_eq rfl) (hb hby at_244) (fun _ _ => ⟨rfl, e176, (by decide : 2 + 0 ≤ _), (by decide : 16 + 0 ≤ _)⟩)
                                dsimp only [Pt.U, Pt.locs, Pt.cells, Pt.slots] at X189 l189 y189 z189 st189 hQ189
                                subst l189 y189 z189
                                obtain ⟨rfl, Nq189, e189⟩ := hQ189
                                have N189 := Fr.app N176 Nq189
                                refine OGl.go st189 ?_
                                show OGl _ _ _ _ T189 (mkF m 247 #[.val (.int p0), .val (.long q1), .second, .val (.int ((p0 &&& (2147483647 : Int32)) % (9 : Int32))), .val (.ref b1), .val (.ref b18_0)] [(.int (e0_14 p0 q1))])
                                by_cases hc201 : (e0_14 p0 q1) = (0 : Int32)
                                · refine OGl.go (fun t k => XS.ifYes X189.here hx rfl (pc0 := 247) (pc' := 254) rfl (hb hby at_247) rfl ((if0 _ _).trans (teq hc201).1) (by decide) (by decide) (XS.iconst X189.here hx rfl (hb hby at_254) k)) ?_
                                  show OGl _ _ _ _ T189 (mkF m 255 #[.val (.int p0), .val (.long q1), .second, .val (.int ((p0 &&& (2147483647 : Int32)) % (9 : Int32))), .val (.ref b1), .val (.ref b18_0)] [(.int (0 : Int32))])
                                  obtain ⟨fs, hr, hrun, hended, hW, hsame⟩ := X189.leave (v := some (.int (0 : Int32))) (fun h => by rw [Bd.returns] at h; cases h)
                                  refine ⟨_, _, retN X189 hx (t := .boolean) Bd.returns (by simp) (hb hby at_255) hr, hrun, hended, _, _, rfl, ?_, ⟨_, rfl⟩, hW, hsame.mono (by decide) (by decide)⟩
                                  have hv225 : (t0_0 p0 q1) = (0 : Int32) := by unfold t0_0; rw [if_neg hc110, if_neg hc123, if_neg hc136, if_neg hc149, if_neg hc162, if_neg hc175, if_neg hc188, if_pos hc201]
                                  show Q0 Z p0 q1 h0 n0 _ T189.heap _
                                  rw [e189]
                                  exact ⟨(by rw [hv225]), N189⟩
                                · refine OGl.go (fun t k => XS.ifNo X189.here hx rfl (hb hby at_247) rfl ((if0 _ _).trans (feq hc201).1) (XS.iconst X189.here hx rfl (hb hby at_250) (XS.goto X189.here hx rfl (pc0 := 251) (pc' := 255) rfl (hb hby at_251) (by decide) (by decide) k))) ?_
                                  show OGl _ _ _ _ T189 (mkF m 255 #[.val (.int p0), .val (.long q1), .second, .val (.int ((p0 &&& (2147483647 : Int32)) % (9 : Int32))), .val (.ref b1), .val (.ref b18_0)] [(.int (1 : Int32))])
                                  obtain ⟨fs, hr, hrun, hended, hW, hsame⟩ := X189.leave (v := some (.int (1 : Int32))) (fun h => by rw [Bd.returns] at h; cases h)
                                  refine ⟨_, _, retN X189 hx (t := .boolean) Bd.returns (by simp) (hb hby at_255) hr, hrun, hended, _, _, rfl, ?_, ⟨_, rfl⟩, hW, hsame.mono (by decide) (by decide)⟩
                                  have hv226 : (t0_0 p0 q1) = (1 : Int32) := by unfold t0_0; rw [if_neg hc110, if_neg hc123, if_neg hc136, if_neg hc149, if_neg hc162, if_neg hc175, if_neg hc188, if_neg hc201]
                                  show Q0 Z p0 q1 h0 n0 _ T189.heap _
                                  rw [e189]
                                  exact ⟨(by rw [hv226]), N189⟩
                by_cases hc202 : (7 : Int32) < ((p0 &&& (2147483647 : Int32)) % (9 : Int32))
                · refine OGl.go (fun t k => XS.icmpNo X15.here hx rfl (hb hby at_119) rfl (tlt hc202).2.2.2 (XS.aload X15.here hx rfl (hb hby at_122) rfl rfl (XS.bipush X15.here hx rfl (hb hby at_124) (XS.lloadN X15.here hx rfl (hb hby at_126) rfl (XS.bipush X15.here hx rfl (hb hby at_127) (XS.lushr X15.here hx rfl (hb hby at_129) rfl (XS.l2i X15.here hx rfl (hb hby at_130) rfl (XS.i2b X15.here hx rfl (hb hby at_131) rfl k)))))))) ?_
                  show OGl _ _ _ _ T15 (mkF m 132 #[.val (.int p0), .val (.long q1), .second, .val (.int ((p0 &&& (2147483647 : Int32)) % (9 : Int32))), .val (.ref b1), .unset] [(.int ((((((q1.toUInt64 >>> ((56 : Int32) &&& 0x3f).toInt64.toUInt64).toInt64)).toInt32)).toInt8.toInt32)), (.int (7 : Int32)), (.ref b1)])
                  obtain ⟨cl203, Ar203, qk203, Sz203, Nn203, Ha203, Gf203⟩ := id Fj15_0
                  have hin203 : ¬ ((7 : Int32) < 0 ∨ cl203.slots.size ≤ ((7 : Int32)).toNatClampNeg) := inb_of Sz203 ⟨by decide, hc202⟩
                  obtain ⟨T203, h203, X203, e203, W203, st203⟩ := stB X15 hx hZ e15 Ar203 (j := (7 : Int32)) hin203 (g := (mkF m 132 #[.val (.int p0), .val (.long q1), .second, .val (.int ((p0 &&& (2147483647 : Int32)) % (9 : Int32))), .val (.ref b1), .unset] [(.int ((((((q1.toUInt64 >>> ((56 : Int32) &&& 0x3f).toInt64.toUInt64).toInt64)).toInt32)).toInt8.toInt32)), (.int (7 : Int32)), (.ref b1)])) rfl rfl (hb hby at_132)
                  have V203 : Arv Z h203 b1 k1 .byte ((p0 &&& (2147483647 : Int32)) % (9 : Int32)) [(.int (nar .byte ((((q1).toInt32)).toInt8.toInt32))), (.int (nar .byte (e0_0 q1))), (.int (nar .byte (e0_1 q1))), (.int (nar .byte (e0_2 q1))), (.int (nar .byte (e0_3 q1))), (.int (nar .byte (e0_4 q1))), (.int (nar .byte (e0_5 q1))), (.int (nar .byte (e0_6 q1)))] (.int (0 : Int32)) := Arv.set Ar203 qk203 Sz203 Nn203 Ha203 Gf203 (fits_nar_byte _) W203 7 rfl (Nat.le_of_ble_eq_true rfl)
                  refine OGl.go st203 ?_
                  have N203 := Fr.snoc X203 N15 g_b1
                  have KK203 : Keep h0 h203 [] := KK15.wr W203 (Or.inr sz_b1)
                  show OGl _ _ _ _ T203 (mkF m 133 #[.val (.int p0), .val (.long q1), .second, .val (.int ((p0 &&& (2147483647 : Int32)) % (9 : Int32))), .val (.ref b1), .unset] [])
                  exact j17 T203 _ h203  X203 e203 KK203 N203 V203
                · refine OGl.go (fun t k => XS.icmpYes X15.here hx rfl (pc0 := 119) (pc' := 133) rfl (hb hby at_119) rfl (flt hc202).2.2.2 (by decide) (by decide) k) ?_
                  show OGl _ _ _ _ T15 (mkF m 133 #[.val (.int p0), .val (.long q1), .second, .val (.int ((p0 &&& (2147483647 : Int32)) % (9 : Int32))), .val (.ref b1), .unset] [])
                  exact j17 T15 _ h15  X15 e15 KK15 N15 (own_weak Fj15_0 (fun i hi => by have hi2 : i < 7 := own_cl hc202 (by decide) hi; rcases i with _ | _ | _ | _ | _ | _ | _ | i <;> first | rfl | omega))
              by_cases hc204 : (6 : Int32) < ((p0 &&& (2147483647 : Int32)) % (9 : Int32))
              · refine OGl.go (fun t k => XS.icmpNo X13.here hx rfl (hb hby at_102) rfl (tlt hc204).2.2.2 (XS.aload X13.here hx rfl (hb hby at_105) rfl rfl (XS.bipush X13.here hx rfl (hb hby at_107) (XS.lloadN X13.here hx rfl (hb hby at_109) rfl (XS.bipush X13.here hx rfl (hb hby at_110) (XS.lushr X13.here hx rfl (hb hby at_112) rfl (XS.l2i X13.here hx rfl (hb hby at_113) rfl (XS.i2b X13.here hx rfl (hb hby at_114) rfl k)))))))) ?_
                show OGl _ _ _ _ T13 (mkF m 115 #[.val (.int p0), .val (.long q1), .second, .val (.int ((p0 &&& (2147483647 : Int32)) % (9 : Int32))), .val (.ref b1), .unset] [(.int ((((((q1.toUInt64 >>> ((48 : Int32) &&& 0x3f).toInt64.toUInt64).toInt64)).toInt32)).toInt8.toInt32)), (.int (6 : Int32)), (.ref b1)])
                obtain ⟨cl205, Ar205, qk205, Sz205, Nn205, Ha205, Gf205⟩ := id Fj13_0
                have hin205 : ¬ ((6 : Int32) < 0 ∨ cl205.slots.size ≤ ((6 : Int32)).toNatClampNeg) := inb_of Sz205 ⟨by decide, hc204⟩
                obtain ⟨T205, h205, X205, e205, W205, st205⟩ := stB X13 hx hZ e13 Ar205 (j := (6 : Int32)) hin205 (g := (mkF m 115 #[.val (.int p0), .val (.long q1), .second, .val (.int ((p0 &&& (2147483647 : Int32)) % (9 : Int32))), .val (.ref b1), .unset] [(.int ((((((q1.toUInt64 >>> ((48 : Int32) &&& 0x3f).toInt64.toUInt64).toInt64)).toInt32)).toInt8.toInt32)), (.int (6 : Int32)), (.ref b1)])) rfl rfl (hb hby at_115)
                have V205 : Arv Z h205 b1 k1 .byte ((p0 &&& (2147483647 : Int32)) % (9 : Int32)) [(.int (nar .byte ((((q1).toInt32)).toInt8.toInt32))), (.int (nar .byte (e0_0 q1))), (.int (nar .byte (e0_1 q1))), (.int (nar .byte (e0_2 q1))), (.int (nar .byte (e0_3 q1))), (.int (nar .byte (e0_4 q1))), (.int (nar .byte (e0_5 q1))), (.int (0 : Int32))] (.int (0 : Int32)) := Arv.set Ar205 qk205 Sz205 Nn205 Ha205 Gf205 (fits_nar_byte _) W205 6 rfl (Nat.le_of_ble_eq_true rfl)
                refine OGl.go st205 ?_
                have N205 := Fr.snoc X205 N13 g_b1
                have KK205 : Keep h0 h205 [] := KK13.wr W205 (Or.inr sz_b1)
                show OGl _ _ _ _ T205 (mkF m 116 #[.val (.int p0), .val (.long q1), .second, .val (.int ((p0 &&& (2147483647 : Int32)) % (9 : Int32))), .val (.ref b1), .unset] [])
                exact j15 T205 _ h205  X205 e205 KK205 N205 V205
              · refine OGl.go (fun t k => XS.icmpYes X13.here hx rfl (pc0 := 102) (pc' := 116) rfl (hb hby at_102) rfl (flt hc204).2.2.2 (by decide) (by decide) k) ?_
                show OGl _ _ _ _ T13 (mkF m 116 #[.val (.int p0), .val (.long q1), .second, .val (.int ((p0 &&& (2147483647 : Int32)) % (9 : Int32))), .val (.ref b1), .unset] [])
                exact j15 T13 _ h13  X13 e13 KK13 N13 (own_weak Fj13_0 (fun i hi => by have hi2 : i < 6 := own_cl hc204 (by decide) hi; rcases i with _ | _ | _ | _ | _ | _ | i <;> first | rfl | omega))
            by_cases hc206 : (5 : Int32) < ((p0 &&& (2147483647 : Int32)) % (9 : Int32))
            · refine OGl.go (fun t k => XS.icmpNo X11.here hx rfl (hb hby at_86) rfl (tlt hc206).2.2.2 (XS.aload X11.here hx rfl (hb hby at_89) rfl rfl (XS.iconst X11.here hx rfl (hb hby at_91) (XS.lloadN X11.here hx rfl (hb hby at_92) rfl (XS.bipush X11.here hx rfl (hb hby at_93) (XS.lushr X11.here hx rfl (hb hby at_95) rfl (XS.l2i X11.here hx rfl (hb hby at_96) rfl (XS.i2b X11.here hx rfl (hb hby at_97) rfl k)))))))) ?_
              show OGl _ _ _ _ T11 (mkF m 98 #[.val (.int p0), .val (.long q1), .second, .val (.int ((p0 &&& (2147483647 : Int32)) % (9 : Int32))), .val (.ref b1), .unset] [(.int ((((((q1.toUInt64 >>> ((40 : Int32) &&& 0x3f).toInt64.toUInt64).toInt64)).toInt32)).toInt8.toInt32)), (.int (5 : Int32)), (.ref b1)])
              obtain ⟨cl207, Ar207, qk207, Sz207, Nn207, Ha207, Gf207⟩ := id Fj11_0
              have hin207 : ¬ ((5 : Int32) < 0 ∨ cl207.slots.size ≤ ((5 : Int32)).toNatClampNeg) := inb_of Sz207 ⟨by decide, hc206⟩
              obtain ⟨T207, h207, X207, e207, W207, st207⟩ := stB X11 hx hZ e11 Ar207 (j := (5 : Int32)) hin207 (g := (mkF m 98 #[.val (.int p0), .val (.long q1), .second, .val (.int ((p0 &&& (2147483647 : Int32)) % (9 : Int32))), .val (.ref b1), .unset] [(.int ((((((q1.toUInt64 >>> ((40 : Int32) &&& 0x3f).toInt64.toUInt64).toInt64)).toInt32)).toInt8.toInt32)), (.int (5 : Int32)), (.ref b1)])) rfl rfl (hb hby at_98)
              have V207 : Arv Z h207 b1 k1 .byte ((p0 &&& (2147483647 : Int32)) % (9 : Int32)) [(.int (nar .byte ((((q1).toInt32)).toInt8.toInt32))), (.int (nar .byte (e0_0 q1))), (.int (nar .byte (e0_1 q1))), (.int (nar .byte (e0_2 q1))), (.int (nar .byte (e0_3 q1))), (.int (nar .byte (e0_4 q1))), (.int (0 : Int32)), (.int (0 : Int32))] (.int (0 : Int32)) := Arv.set Ar207 qk207 Sz207 Nn207 Ha207 Gf207 (fits_nar_byte _) W207 5 rfl (Nat.le_of_ble_eq_true rfl)
              refine OGl.go st207 ?_
              have N207 := Fr.snoc X207 N11 g_b1
              have KK207 : Keep h0 h207 [] := KK11.wr W207 (Or.inr sz_b1)
              show OGl _ _ _ _ T207 (mkF m 99 #[.val (.int p0), .val (.long q1), .second, .val (.int ((p0 &&& (2147483647 : Int32)) % (9 : Int32))), .val (.ref b1), .unset] [])
              exact j13 T207 _ h207  X207 e207 KK207 N207 V207
            · refine OGl.go (fun t k => XS.icmpYes X11.here hx rfl (pc0 := 86) (pc' := 99) rfl (hb hby at_86) rfl (flt hc206).2.2.2 (by decide) (by decide) k) ?_
              show OGl _ _ _ _ T11 (mkF m 99 #[.val (.int p0), .val (.long q1), .second, .val (.int ((p0 &&& (2147483647 : Int32)) % (9 : Int32))), .val (.ref b1), .unset] [])
              exact j13 T11 _ h11  X11 e11 KK11 N11 (own_weak Fj11_0 (fun i hi => by have hi2 : i < 5 := own_cl hc206 (by decide) hi; rcases i with _ | _ | _ | _ | _ | i <;> first | rfl | omega))
          by_cases hc208 : (4 : Int32) < ((p0 &&& (2147483647 : Int32)) % (9 : Int32))
          · refine OGl.go (fun t k => XS.icmpNo X9.here hx rfl (hb hby at_71) rfl (tlt hc208).2.2.2 (XS.aload X9.here hx rfl (hb hby at_74) rfl rfl (XS.iconst X9.here hx rfl (hb hby at_76) (XS.lloadN X9.here hx rfl (hb hby at_77) rfl (XS.bipush X9.here hx rfl (hb hby at_78) (XS.lushr X9.here hx rfl (hb hby at_80) rfl (XS.l2i X9.here hx rfl (hb hby at_81) rfl (XS.i2b X9.here hx rfl (hb hby at_82) rfl k)))))))) ?_
            show OGl _ _ _ _ T9 (mkF m 83 #[.val (.int p0), .val (.long q1), .second, .val (.int ((p0 &&& (2147483647 : Int32)) % (9 : Int32))), .val (.ref b1), .unset] [(.int ((((((q1.toUInt64 >>> ((32 : Int32) &&& 0x3f).toInt64.toUInt64).toInt64)).toInt32)).toInt8.toInt32)), (.int (4 : Int32)), (.ref b1)])
            obtain ⟨cl209, Ar209, qk209, Sz209, Nn209, Ha209, Gf209⟩ := id Fj9_0
            have hin209 : ¬ ((4 : Int32) < 0 ∨ cl209.slots.size ≤ ((4 : Int32)).toNatClampNeg) := inb_of Sz209 ⟨by decide, hc208⟩
            obtain ⟨T209, h209, X209, e209, W209, st209⟩ := stB X9 hx hZ e9 Ar209 (j := (4 : Int32)) hin209 (g := (mkF m 83 #[.val (.int p0), .val (.long q1), .second, .val (.int ((p0 &&& (2147483647 : Int32)) % (9 : Int32))), .val (.ref b1), .unset] [(.int ((((((q1.toUInt64 >>> ((32 : Int32) &&& 0x3f).toInt64.toUInt64).toInt64)).toInt32)).toInt8.toInt32)), (.int (4 : Int32)), (.ref b1)])) rfl rfl (hb hby at_83)
            have V209 : Arv Z h209 b1 k1 .byte ((p0 &&& (2147483647 : Int32)) % (9 : Int32)) [(.int (nar .byte ((((q1).toInt32)).toInt8.toInt32))), (.int (nar .byte (e0_0 q1))), (.int (nar .byte (e0_1 q1))), (.int (nar .byte (e0_2 q1))), (.int (nar .byte (e0_3 q1))), (.int (0 : Int32)), (.int (0 : Int32)), (.int (0 : Int32))] (.int (0 : Int32)) := Arv.set Ar209 qk209 Sz209 Nn209 Ha209 Gf209 (fits_nar_byte _) W209 4 rfl (Nat.le_of_ble_eq_true rfl)
            refine OGl.go st209 ?_
            have N209 := Fr.snoc X209 N9 g_b1
            have KK209 : Keep h0 h209 [] := KK9.wr W209 (Or.inr sz_b1)
            show OGl _ _ _ _ T209 (mkF m 84 #[.val (.int p0), .val (.long q1), .second, .val (.int ((p0 &&& (2147483647 : Int32)) % (9 : Int32))), .val (.ref b1), .unset] [])
            exact j11 T209 _ h209  X209 e209 KK209 N209 V209
          · refine OGl.go (fun t k => XS.icmpYes X9.here hx rfl (pc0 := 71) (pc' := 84) rfl (hb hby at_71) rfl (flt hc208).2.2.2 (by decide) (by decide) k) ?_
            show OGl _ _ _ _ T9 (mkF m 84 #[.val (.int p0), .val (.long q1), .second, .val (.int ((p0 &&& (2147483647 : Int32)) % (9 : Int32))), .val (.ref b1), .unset] [])
            exact j11 T9 _ h9  X9 e9 KK9 N9 (own_weak Fj9_0 (fun i hi => by have hi2 : i < 4 := own_cl hc208 (by decide) hi; rcases i with _ | _ | _ | _ | i <;> first | rfl | omega))
        by_cases hc210 : (3 : Int32) < ((p0 &&& (2147483647 : Int32)) % (9 : Int32))
        · refine OGl.go (fun t k => XS.icmpNo X7.here hx rfl (hb hby at_56) rfl (tlt hc210).2.2.2 (XS.aload X7.here hx rfl (hb hby at_59) rfl rfl (XS.iconst X7.here hx rfl (hb hby at_61) (XS.lloadN X7.here hx rfl (hb hby at_62) rfl (XS.bipush X7.here hx rfl (hb hby at_63) (XS.lushr X7.here hx rfl (hb hby at_65) rfl (XS.l2i X7.here hx rfl (hb hby at_66) rfl (XS.i2b X7.here hx rfl (hb hby at_67) rfl k)))))))) ?_
          show OGl _ _ _ _ T7 (mkF m 68 #[.val (.int p0), .val (.long q1), .second, .val (.int ((p0 &&& (2147483647 : Int32)) % (9 : Int32))), .val (.ref b1), .unset] [(.int ((((((q1.toUInt64 >>> ((24 : Int32) &&& 0x3f).toInt64.toUInt64).toInt64)).toInt32)).toInt8.toInt32)), (.int (3 : Int32)), (.ref b1)])
          obtain ⟨cl211, Ar211, qk211, Sz211, Nn211, Ha211, Gf211⟩ := id Fj7_0
          have hin211 : ¬ ((3 : Int32) < 0 ∨ cl211.slots.size ≤ ((3 : Int32)).toNatClampNeg) := inb_of Sz211 ⟨by decide, hc210⟩
          obtain ⟨T211, h211, X211, e211, W211, st211⟩ := stB X7 hx hZ e7 Ar211 (j := (3 : Int32)) hin211 (g := (mkF m 68 #[.val (.int p0), .val (.long q1), .second, .val (.int ((p0 &&& (2147483647 : Int32)) % (9 : Int32))), .val (.ref b1), .unset] [(.int ((((((q1.toUInt64 >>> ((24 : Int32) &&& 0x3f).toInt64.toUInt64).toInt64)).toInt32)).toInt8.toInt32)), (.int (3 : Int32)), (.ref b1)])) rfl rfl (hb hby at_68)
          have V211 : Arv Z h211 b1 k1 .byte ((p0 &&& (2147483647 : Int32)) % (9 : Int32)) [(.int (nar .byte ((((q1).toInt32)).toInt8.toInt32))), (.int (nar .byte (e0_0 q1))), (.int (nar .byte (e0_1 q1))), (.int (nar .byte (e0_2 q1))), (.int (0 : Int32)), (.int (0 : Int32)), (.int (0 : Int32)), (.int (0 : Int32))] (.int (0 : Int32)) := Arv.set Ar211 qk211 Sz211 Nn211 Ha211 Gf211 (fits_nar_byte _) W211 3 rfl (Nat.le_of_ble_eq_true rfl)
          refine OGl.go st211 ?_
          have N211 := Fr.snoc X211 N7 g_b1
          have KK211 : Keep h0 h211 [] := KK7.wr W211 (Or.inr sz_b1)
          show OGl _ _ _ _ T211 (mkF m 69 #[.val (.int p0), .val (.long q1), .second, .val (.int ((p0 &&& (2147483647 : Int32)) % (9 : Int32))), .val (.ref b1), .unset] [])
          exact j9 T211 _ h211  X211 e211 KK211 N211 V211
        · refine OGl.go (fun t k => XS.icmpYes X7.here hx rfl (pc0 := 56) (pc' := 69) rfl (hb hby at_56) rfl (flt hc210).2.2.2 (by decide) (by decide) k) ?_
          show OGl _ _ _ _ T7 (mkF m 69 #[.val (.int p0), .val (.long q1), .second, .val (.int ((p0 &&& (2147483647 : Int32)) % (9 : Int32))), .val (.ref b1), .unset] [])
          exact j9 T7 _ h7  X7 e7 KK7 N7 (own_weak Fj7_0 (fun i hi => by have hi2 : i < 3 := own_cl hc210 (by decide) hi; rcases i with _ | _ | _ | i <;> first | rfl | omega))
      by_cases hc212 : (2 : Int32) < ((p0 &&& (2147483647 : Int32)) % (9 : Int32))
      · refine OGl.go (fun t k => XS.icmpNo X5.here hx rfl (hb hby at_41) rfl (tlt hc212).2.2.2 (XS.aload X5.here hx rfl (hb hby at_44) rfl rfl (XS.iconst X5.here hx rfl (hb hby at_46) (XS.lloadN X5.here hx rfl (hb hby at_47) rfl (XS.bipush X5.here hx rfl (hb hby at_48) (XS.lushr X5.here hx rfl (hb hby at_50) rfl (XS.l2i X5.here hx rfl (hb hby at_51) rfl (XS.i2b X5.here hx rfl (hb hby at_52) rfl k)))))))) ?_
        show OGl _ _ _ _ T5 (mkF m 53 #[.val (.int p0), .val (.long q1), .second, .val (.int ((p0 &&& (2147483647 : Int32)) % (9 : Int32))), .val (.ref b1), .unset] [(.int ((((((q1.toUInt64 >>> ((16 : Int32) &&& 0x3f).toInt64.toUInt64).toInt64)).toInt32)).toInt8.toInt32)), (.int (2 : Int32)), (.ref b1)])
        obtain ⟨cl213, Ar213, qk213, Sz213, Nn213, Ha213, Gf213⟩ := id Fj5_0
        have hin213 : ¬ ((2 : Int32) < 0 ∨ cl213.slots.size ≤ ((2 : Int32)).toNatClampNeg) := inb_of Sz213 ⟨by decide, hc212⟩
        obtain ⟨T213, h213, X213, e213, W213, st213⟩ := stB X5 hx hZ e5 Ar213 (j := (2 : Int32)) hin213 (g := (mkF m 53 #[.val (.int p0), .val (.long q1), .second, .val (.int ((p0 &&& (2147483647 : Int32)) % (9 : Int32))), .val (.ref b1), .unset] [(.int ((((((q1.toUInt64 >>> ((16 : Int32) &&& 0x3f).toInt64.toUInt64).toInt64)).toInt32)).toInt8.toInt32)), (.int (2 : Int32)), (.ref b1)])) rfl rfl (hb hby at_53)
        have V213 : Arv Z h213 b1 k1 .byte ((p0 &&& (2147483647 : Int32)) % (9 : Int32)) [(.int (nar .byte ((((q1).toInt32)).toInt8.toInt32))), (.int (nar .byte (e0_0 q1))), (.int (nar .byte (e0_1 q1))), (.int (0 : Int32)), (.int (0 : Int32)), (.int (0 : Int32)), (.int (0 : Int32)), (.int (0 : Int32))] (.int (0 : Int32)) := Arv.set Ar213 qk213 Sz213 Nn213 Ha213 Gf213 (fits_nar_byte _) W213 2 rfl (Nat.le_of_ble_eq_true rfl)
        refine OGl.go st213 ?_
        have N213 := Fr.snoc X213 N5 g_b1
        have KK213 : Keep h0 h213 [] := KK5.wr W213 (Or.inr sz_b1)
        show OGl _ _ _ _ T213 (mkF m 54 #[.val (.int p0), .val (.long q1), .second, .val (.int ((p0 &&& (2147483647 : Int32)) % (9 : Int32))), .val (.ref b1), .unset] [])
        exact j7 T213 _ h213  X213 e213 KK213 N213 V213
      · refine OGl.go (fun t k => XS.icmpYes X5.here hx rfl (pc0 := 41) (pc' := 54) rfl (hb hby at_41) rfl (flt hc212).2.2.2 (by decide) (by decide) k) ?_
        show OGl _ _ _ _ T5 (mkF m 54 #[.val (.int p0), .val (.long q1), .second, .val (.int ((p0 &&& (2147483647 : Int32)) % (9 : Int32))), .val (.ref b1), .unset] [])
        exact j7 T5 _ h5  X5 e5 KK5 N5 (own_weak Fj5_0 (fun i hi => by have hi2 : i < 2 := own_cl hc212 (by decide) hi; rcases i with _ | _ | i <;> first | rfl | omega))
    by_cases hc214 : (1 : Int32) < ((p0 &&& (2147483647 : Int32)) % (9 : Int32))
    · refine OGl.go (fun t k => XS.icmpNo X3.here hx rfl (hb hby at_26) rfl (tlt hc214).2.2.2 (XS.aload X3.here hx rfl (hb hby at_29) rfl rfl (XS.iconst X3.here hx rfl (hb hby at_31) (XS.lloadN X3.here hx rfl (hb hby at_32) rfl (XS.bipush X3.here hx rfl (hb hby at_33) (XS.lushr X3.here hx rfl (hb hby at_35) rfl (XS.l2i X3.here hx rfl (hb hby at_36) rfl (XS.i2b X3.here hx rfl (hb hby at_37) rfl k)))))))) ?_
      show OGl _ _ _ _ T3 (mkF m 38 #[.val (.int p0), .val (.long q1), .second, .val (.int ((p0 &&& (2147483647 : Int32)) % (9 : Int32))), .val (.ref b1), .unset] [(.int ((((((q1.toUInt64 >>> ((8 : Int32) &&& 0x3f).toInt64.toUInt64).toInt64)).toInt32)).toInt8.toInt32)), (.int (1 : Int32)), (.ref b1)])
      obtain ⟨cl215, Ar215, qk215, Sz215, Nn215, Ha215, Gf215⟩ := id Fj3_0
      have hin215 : ¬ ((1 : Int32) < 0 ∨ cl215.slots.size ≤ ((1 : Int32)).toNatClampNeg) := inb_of Sz215 ⟨by decide, hc214⟩
      obtain ⟨T215, h215, X215, e215, W215, st215⟩ := stB X3 hx hZ e3 Ar215 (j := (1 : Int32)) hin215 (g := (mkF m 38 #[.val (.int p0), .val (.long q1), .second, .val (.int ((p0 &&& (2147483647 : Int32)) % (9 : Int32))), .val (.ref b1), .unset] [(.int ((((((q1.toUInt64 >>> ((8 : Int32) &&& 0x3f).toInt64.toUInt64).toInt64)).toInt32)).toInt8.toInt32)), (.int (1 : Int32)), (.ref b1)])) rfl rfl (hb hby at_38)
      have V215 : Arv Z h215 b1 k1 .byte ((p0 &&& (2147483647 : Int32)) % (9 : Int32)) [(.int (nar .byte ((((q1).toInt32)).toInt8.toInt32))), (.int (nar .byte (e0_0 q1))), (.int (0 : Int32)), (.int (0 : Int32)), (.int (0 : Int32)), (.int (0 : Int32)), (.int (0 : Int32)), (.int (0 : Int32))] (.int (0 : Int32)) := Arv.set Ar215 qk215 Sz215 Nn215 Ha215 Gf215 (fits_nar_byte _) W215 1 rfl (Nat.le_of_ble_eq_true rfl)
      refine OGl.go st215 ?_
      have N215 := Fr.snoc X215 N3 g_b1
      have KK215 : Keep h0 h215 [] := KK3.wr W215 (Or.inr sz_b1)
      show OGl _ _ _ _ T215 (mkF m 39 #[.val (.int p0), .val (.long q1), .second, .val (.int ((p0 &&& (2147483647 : Int32)) % (9 : Int32))), .val (.ref b1), .unset] [])
      exact j5 T215 _ h215  X215 e215 KK215 N215 V215
    · refine OGl.go (fun t k => XS.icmpYes X3.here hx rfl (pc0 := 26) (pc' := 39) rfl (hb hby at_26) rfl (flt hc214).2.2.2 (by decide) (by decide) k) ?_
      show OGl _ _ _ _ T3 (mkF m 39 #[.val (.int p0), .val (.long q1), .second, .val (.int ((p0 &&& (2147483647 : Int32)) % (9 : Int32))), .val (.ref b1), .unset] [])
      exact j5 T3 _ h3  X3 e3 KK3 N3 (own_weak Fj3_0 (fun i hi => by have hi2 : i < 1 := own_cl hc214 (by decide) hi; rcases i with _ | i <;> first | rfl | omega))
  by_cases hc216 : (0 : Int32) < ((p0 &&& (2147483647 : Int32)) % (9 : Int32))
  · refine OGl.go (fun t k => XS.ifNo X1.here hx rfl (hb hby at_14) rfl ((if0 _ _).trans (tlt hc216).2.2.2) (XS.aload X1.here hx rfl (hb hby at_17) rfl rfl (XS.iconst X1.here hx rfl (hb hby at_19) (XS.lloadN X1.here hx rfl (hb hby at_20) rfl (XS.l2i X1.here hx rfl (hb hby at_21) rfl (XS.i2b X1.here hx rfl (hb hby at_22) rfl k)))))) ?_
    show OGl _ _ _ _ T1 (mkF m 23 #[.val (.int p0), .val (.long q1), .second, .val (.int ((p0 &&& (2147483647 : Int32)) % (9 : Int32))), .val (.ref b1), .unset] [(.int ((((q1).toInt32)).toInt8.toInt32)), (.int (0 : Int32)), (.ref b1)])
    obtain ⟨cl217, Ar217, qk217, Sz217, Nn217, Ha217, Gf217⟩ := id V1
    have hin217 : ¬ ((0 : Int32) < 0 ∨ cl217.slots.size ≤ ((0 : Int32)).toNatClampNeg) := inb_of Sz217 ⟨by decide, hc216⟩
    obtain ⟨T217, h217, X217, e217, W217, st217⟩ := stB X1 hx hZ e1 Ar217 (j := (0 : Int32)) hin217 (g := (mkF m 23 #[.val (.int p0), .val (.long q1), .second, .val (.int ((p0 &&& (2147483647 : Int32)) % (9 : Int32))), .val (.ref b1), .unset] [(.int ((((q1).toInt32)).toInt8.toInt32)), (.int (0 : Int32)), (.ref b1)])) rfl rfl (hb hby at_23)
    have V217 : Arv Z h217 b1 k1 .byte ((p0 &&& (2147483647 : Int32)) % (9 : Int32)) [(.int (nar .byte ((((q1).toInt32)).toInt8.toInt32))), (.int (0 : Int32)), (.int (0 : Int32)), (.int (0 : Int32)), (.int (0 : Int32)), (.int (0 : Int32)), (.int (0 : Int32)), (.int (0 : Int32))] (.int (0 : Int32)) := Arv.set Ar217 qk217 Sz217 Nn217 Ha217 Gf217 (fits_nar_byte _) W217 0 rfl (Nat.le_of_ble_eq_true rfl)
    refine OGl.go st217 ?_
    have N217 := Fr.snoc X217 N0 g_b1
    have KK217 : Keep h0 h217 [] := KK1.wr W217 (Or.inr sz_b1)
    show OGl _ _ _ _ T217 (mkF m 24 #[.val (.int p0), .val (.long q1), .second, .val (.int ((p0 &&& (2147483647 : Int32)) % (9 : Int32))), .val (.ref b1), .unset] [])
    exact j3 T217 _ h217  X217 e217 KK217 N217 V217
  · refine OGl.go (fun t k => XS.ifYes X1.here hx rfl (pc0 := 14) (pc' := 24) rfl (hb hby at_14) rfl ((if0 _ _).trans (flt hc216).2.2.2) (by decide) (by decide) k) ?_
    show OGl _ _ _ _ T1 (mkF m 24 #[.val (.int p0), .val (.long q1), .second, .val (.int ((p0 &&& (2147483647 : Int32)) % (9 : Int32))), .val (.ref b1), .unset] [])
    exact j3 T1 _ h1  X1 e1 KK1 N0 (own_weak V1 (fun i hi => by have hi2 : i < 0 := own_cl hc216 (by decide) hi; omega))
theorem own_nb (x : Int32) : (nar .byte (x.toInt8.toInt32)) = x.toInt8.toInt32 := by
  have h1 := c_i2b x
  have h2 := c_i2b (x.toInt8.toInt32)
  exact Int32.toInt_inj.mp (by show ((x.toInt8.toInt32).toInt8.toInt32).toInt = _; omega)
theorem own_rep (b : Int32) : (72340172838076673 : Int64) * (((b &&& (255 : Int32))).toInt64) = e3_3 b := by
  have a0 := c_mask b 255 8 (by decide) (by decide)
  have a1 := c_i2l (b &&& 255)
  have k := c_lmul 72340172838076673 (((b &&& (255 : Int32))).toInt64)
  have kk : (72340172838076673 : Int64).toInt = 72340172838076673 := by decide
  rw [kk] at k
  have b0 := c_maskL (b.toInt64) 255 8 (by decide) (by decide)
  have b1 := c_i2l b
  unfold e3_3 e3_2 e3_1 e3_0
  generalize ((b.toInt64) &&& (255 : Int64)) = v at *
  have s1 := c_lshl v 8 8 (by decide)
  have r1 := rng64 (v <<< ((8 : Int32) &&& 0x3f).toInt64)
  generalize (v <<< ((8 : Int32) &&& 0x3f).toInt64) = w at *
  have hv : 0 ≤ v.toInt ∧ v.toInt ≤ 255 := by omega
  have hw : w.toInt = v.toInt * 256 := by omega
  have o1 := c_orL' v w 8 (by decide) 256 (by decide) (by omega) (by omega) (by omega)
  have r2 := rng64 (v ||| w)
  generalize (v ||| w) = v1 at *
  have hv1 : v1.toInt = v.toInt * 257 := by omega
  have s2 := c_lshl v1 16 16 (by decide)
  have r3 := rng64 (v1 <<< ((16 : Int32) &&& 0x3f).toInt64)
  generalize (v1 <<< ((16 : Int32) &&& 0x3f).toInt64) = w1 at *
  have hw1 : w1.toInt = v1.toInt * 65536 := by omega
  have o2 := c_orL' v1 w1 16 (by decide) 65536 (by decide) (by omega) (by omega) (by omega)
  have r4 := rng64 (v1 ||| w1)
  generalize (v1 ||| w1) = v2 at *
  have hv2 : v2.toInt = v.toInt * 16843009 := by omega
  have s3 := c_lshl v2 32 32 (by decide)
  have r5 := rng64 (v2 <<< ((32 : Int32) &&& 0x3f).toInt64)
  generalize (v2 <<< ((32 : Int32) &&& 0x3f).toInt64) = w2 at *
  have o3 := c_orL' v2 w2 32 (by decide) 4294967296 (by decide) (by omega) (by omega) (by omega)
  have r6 := rng64 (v2 ||| w2)
  have r7 := rng64 ((72340172838076673 : Int64) * (((b &&& (255 : Int32))).toInt64))
  have hx : ((b &&& (255 : Int32)).toInt64).toInt = v.toInt := by omega
  rw [hx] at k
  have k2 : ((v2 ||| w2).toInt - v.toInt * 72340172838076673) % 18446744073709551616 = 0 := by
    clear k r7 a0 a1 b0 b1 s1 s2 o1 o2 hw hw1 hv1 r1 r2 r3 r4
    omega
  clear s1 s2 s3 o1 o2 o3 hw hw1 hv1 r1 r2 r3 r4 r5 a0 a1 b0 b1 hx hv2
  exact Int64.toInt_inj.mp (by omega)
theorem own_z (q : Int64) : ((q.toUInt64 >>> ((0 : Int32) &&& 0x3f).toInt64.toUInt64).toInt64) = q := by
  apply Int64.toBitVec_inj.mp
  show q.toBitVec >>> (0 : Nat) = q.toBitVec
  exact BitVec.ushiftRight_zero _
theorem own_s0 (a : Int32) (q : Int64) : e0_7 a q = 1 := by
  unfold e0_7 t2_0
  by_cases h : (0 : Int32) < ((a &&& 2147483647) % 9)
  · have h1 : (nar .byte (((q.toInt32)).toInt8.toInt32)) = e2_0 q := by unfold e2_0; rw [own_z]; exact own_nb _
    rw [if_pos h, if_pos h1, if_pos (by rw [h1]; exact own_rep _)]
  · rw [if_neg h]
theorem own_s1 (a : Int32) (q : Int64) : e0_8 a q = 1 := by
  unfold e0_8 t2a_0
  by_cases h : (1 : Int32) < ((a &&& 2147483647) % 9)
  · have h1 : (nar .byte (e0_0 q)) = e2a_0 q := by unfold e2a_0 e0_0; exact own_nb _
    rw [if_pos h, if_pos h1, if_pos (by rw [h1]; exact own_rep _)]
  · rw [if_neg h]
theorem own_s2 (a : Int32) (q : Int64) : e0_9 a q = 1 := by
  unfold e0_9 t2b_0
  by_cases h : (2 : Int32) < ((a &&& 2147483647) % 9)
  · have h1 : (nar .byte (e0_1 q)) = e2b_0 q := by unfold e2b_0 e0_1; exact own_nb _
    rw [if_pos h, if_pos h1, if_pos (by rw [h1]; exact own_rep _)]
  · rw [if_neg h]
theorem own_s3 (a : Int32) (q : Int64) : e0_10 a q = 1 := by
  unfold e0_10 t2c_0
  by_cases h : (3 : Int32) < ((a &&& 2147483647) % 9)
  · have h1 : (nar .byte (e0_2 q)) = e2c_0 q := by unfold e2c_0 e0_2; exact own_nb _
    rw [if_pos h, if_pos h1, if_pos (by rw [h1]; exact own_rep _)]
  · rw [if_neg h]
theorem own_s4 (a : Int32) (q : Int64) : e0_11 a q = 1 := by
  unfold e0_11 t2d_0
  by_cases h : (4 : Int32) < ((a &&& 2147483647) % 9)
  · have h1 : (nar .byte (e0_3 q)) = e2d_0 q := by unfold e2d_0 e0_3; exact own_nb _
    rw [if_pos h, if_pos h1, if_pos (by rw [h1]; exact own_rep _)]
  · rw [if_neg h]
theorem own_s5 (a : Int32) (q : Int64) : e0_12 a q = 1 := by
  unfold e0_12 t2e_0
  by_cases h : (5 : Int32) < ((a &&& 2147483647) % 9)
  · have h1 : (nar .byte (e0_4 q)) = e2e_0 q := by unfold e2e_0 e0_4; exact own_nb _
    rw [if_pos h, if_pos h1, if_pos (by rw [h1]; exact own_rep _)]
  · rw [if_neg h]
theorem own_s6 (a : Int32) (q : Int64) : e0_13 a q = 1 := by
  unfold e0_13 t2f_0
  by_cases h : (6 : Int32) < ((a &&& 2147483647) % 9)
  · have h1 : (nar .byte (e0_5 q)) = e2f_0 q := by unfold e2f_0 e0_5; exact own_nb _
    rw [if_pos h, if_pos h1, if_pos (by rw [h1]; exact own_rep _)]
  · rw [if_neg h]
theorem own_s7 (a : Int32) (q : Int64) : e0_14 a q = 1 := by
  unfold e0_14 t2g_0
  by_cases h : (7 : Int32) < ((a &&& 2147483647) % 9)
  · have h1 : (nar .byte (e0_6 q)) = e2g_0 q := by unfold e2g_0 e0_6; exact own_nb _
    rw [if_pos h, if_pos h1, if_pos (by rw [h1]; exact own_rep _)]
  · rw [if_neg h]
theorem own_law (a : Int32) (b : Int64) : t0_0 a b = 1 := by
  unfold t0_0
  rw [own_s0, own_s1, own_s2, own_s3, own_s4, own_s5, own_s6, own_s7]
  decide
set_option maxRecDepth 65536 in
set_option maxHeartbeats 40000000 in
theorem comes_1 {Post : Tables → Env → Array Value → State → Outcome → State → Prop} (hpost : ∀ tb e args s v u, (limb_1_1.after args s (.returned v) u = true ∧ limb_1_2.after args s (.returned v) u = true ∧ True) → FrameEnd s (.returned v) u (Jvm.fieldLocs frame_1_writes args s ++ Jvm.arrayLocs frame_1_arrays args s ++ Jvm.staticLocs frame_1_statics s) 16 128 → Post tb e args s (.returned v) u) :
    ArmFor flags0 classFile x code maxLocals ret World_1 tables_1 room_1 Calls_1 rest_1 Pre_1 Post := by
  intro l hfl _ _ p e ha hc hk s m args below hf hA hF happ hP
  obtain ⟨hcalls, hrest, hpre⟩ := hP
  obtain ⟨-, -, -, hnamed, -, -, -, hat⟩ := (Spec.applies_iff hf).mp happ
  obtain ⟨hg, hn⟩ := and_e (Cond.before_iff.mp (show (Jvm.Cond.and given_1 narrow_1).before args s = true from hpre))
  obtain ⟨hz, hy0⟩ := and_e hg
  obtain ⟨ha0, hy1⟩ := and_e hy0
  obtain ⟨w0, w1, rfl⟩ : ∃ w0 w1 : Value, args = #[w0, w1] := by
    have hs : args.size = 2 := by simpa [Cond.value, given_1] using hz
    obtain ⟨L⟩ := args
    match L, hs with
    | [w0, w1], _ => exact ⟨w0, w1, rfl⟩
  have hw := fun d (hd : d ∈ tables_1) => atoms_spec (ws := Jvm.Cond.code x code maxLocals ret :: tables_1) hat d (List.mem_cons_of_mem _ hd)
  obtain ⟨i0, ev0⟩ := is_v ha0
  obtain rfl : w0 = (.int i0) := Option.some.inj ev0
  obtain ⟨i1, ev1⟩ := isL_v hy1
  obtain rfl : w1 = (.long i1) := Option.some.inj ev1
  obtain ⟨n, o, h1, h2, h3, _, L, rfl, ⟨hv, N⟩, hq⟩ := rm0 l s _ hw tables_1 i0 i1  s.heap s.heap.size (Nat.le_refl _)  p e ha hc hk s m _ below hf ((Spec.applies_iff_loose hf).mp happ).1 ⟨rfl, State.Warmed39.refl s, rfl⟩ trivial
  rw [own_law] at hv
  subst hv
  refine ⟨n, _, h1, h2, h3, hpost _ _ _ _ _ _ ⟨Cond.after_iff.mpr rfl, Cond.after_iff.mpr (eq_i res_at (Term.int_eval (1)) rfl), trivial⟩ ⟨hq.1, hq.2.1, (hq.2.2.sift fun y hy => Or.inr (N y hy)).mono (by decide) (by decide)⟩⟩
theorem main_1_1 : Claimed_1_1 := comes_1 fun _ _ _ _ _ _ h hF => ⟨h.1, hF⟩
theorem main_1_2 : Claimed_1_2 := comes_1 fun _ _ _ _ _ _ h hF => ⟨h.2.1, hF⟩
end Jvm.Pilot.@@N@@
namespace Jvm.Pilot.@@N@@
open Jvm Jvm.ClassFile Sem Op Lib Jvm.Free Jvm.Stand Jvm.Pilot.@@N@@.Jvm.D
/-! MADE BY PROGRAM (witnessworld.py) out of the Statement's table words and the real class files: 11 classes; the members and pool entries that the words name. The judged class is class 1, her method 1. -/
namespace start1
open Jvm.ClassFile
def u (s : String) : CpInfo := .utf8 (stringToUtf16 s)
/-- a pool by its gaps: so many unusable entries, then the entry; so many at the end -/
def gap : Nat → List CpInfo → List CpInfo
  | 0, r => r
  | n + 1, r => .unusable :: gap n r
def poolList (es : List (Nat × CpInfo)) (last : Nat) : List CpInfo := es.foldr (fun e r => gap e.1 (e.2 :: r)) (gap last [])
def pool (es : List (Nat × CpInfo)) (last : Nat) : Array CpInfo := ⟨poolList es last⟩
def fileOf (pool : Array CpInfo) (this : Nat) (attrs : Array Attribute := #[]) (ms : Array MethodInfo := #[]) (fl : Nat := 33) (sup : Nat := 0) (ifs : Array Nat := #[]) (fds : Array FieldInfo := #[]) : ClassFile where
  minorVersion := 0
  majorVersion := 65
  constantPool := pool
  accessFlags := fl
  thisClass := this
  superClass := sup
  interfaces := ifs
  fields := fds
  methods := ms
  attributes := attrs
def plain (name : String) (sup : Option ClassId) : Class where
  name := name
  kind := .ordinary
  loader := none
  accessFlags := 33
  super := sup
  interfaces := #[]
  cf := none
  fields := #[]
  methods := #[]
  instanceTypes := #[]
  staticTypes := #[]
  resolved := #[]
  callSites := []
  init := .initialized
  statics := none
  mirror := none

def pool0 : Array CpInfo := pool [(5, u "<init>"), (0, u "()V"), (1, .class_ 10), (1, u "java/lang/Object")] 113

def k0m0 : Method := { name := "<init>", desc := "()V", sig := { parameters := [], returnType := none }, accessFlags := 1, code := none }
/-- java/lang/Object -/
def k0 : Class := { plain "java/lang/Object" none with
  accessFlags := 33
  interfaces := #[]
  cf := some (fileOf pool0 8 #[] #[{ accessFlags := 1, nameIndex := 5, descriptorIndex := 6, attributes := #[] }] 33 0 #[] #[])
  fields := #[]
  methods := #[k0m0]
  instanceTypes := #[]
  staticTypes := #[]
  resolved := Array.replicate 124 none
  statics := none }

def pool1 : Array CpInfo := pool [(2, .class_ 4), (1, u "java/lang/Object"), (0, u "<init>"), (0, u "()V"), (0, .integer 2147483647), (0, .methodref 9 10), (0, .class_ 11), (0, .nameAndType 12 13), (0, u "com/example/skipscan/skipscan/ByteScan"), (0, u "repeated"), (0, u "([B)[J"), (0, .methodref 15 16), (0, .class_ 17), (0, .nameAndType 18 19), (0, u "com/example/skipscan/skipscan/ByteScanRepeatedPinLaw"), (0, u "ok"), (0, u "([J[BIJ)Z"), (0, .methodref 15 21), (0, .nameAndType 22 23), (0, u "rep"), (0, u "(B)J"), (0, .long 255), (3, u "law"), (0, u "(IJ)Z")] 7

def k1m0 : Method := { name := "<init>", desc := "()V", sig := { parameters := [], returnType := none }, accessFlags := 2, code := none }
def k1c1 : Code := { maxStack := 5, maxLocals := 6, code := code, exceptionTable := #[], attributes := #[] }
def k1m1 : Method := { name := "law", desc := "(IJ)Z", sig := { parameters := [.int, .long], returnType := some .boolean }, accessFlags := 9, code := some k1c1 }
def k1c2 : Code := { maxStack := 4, maxLocals := 6, code := method_3_code, exceptionTable := #[], attributes := #[] }
def k1m2 : Method := { name := "ok", desc := "([J[BIJ)Z", sig := { parameters := [(.array .long), (.array .byte), .int, .long], returnType := some .boolean }, accessFlags := 10, code := some k1c2 }
def k1c3 : Code := { maxStack := 5, maxLocals := 3, code := method_4_code, exceptionTable := #[], attributes := #[] }
def k1m3 : Method := { name := "rep", desc := "(B)J", sig := { parameters := [.byte], returnType := some .long }, accessFlags := 10, code := some k1c3 }
/-- com/example/skipscan/skipscan/ByteScanRepeatedPinLaw -/
def k1 : Class := { plain "com/example/skipscan/skipscan/ByteScanRepeatedPinLaw" (some 0) with
  accessFlags := 49
  interfaces := #[]
  cf := some (fileOf pool1 15 #[] #[{ accessFlags := 2, nameIndex := 5, descriptorIndex := 6, attributes := #[] }, { accessFlags := 9, nameIndex := 28, descriptorIndex := 29, attributes := #[] }, { accessFlags := 10, nameIndex := 18, descriptorIndex := 19, attributes := #[] }, { accessFlags := 10, nameIndex := 22, descriptorIndex := 23, attributes := #[] }] 49 2 #[] #[])
  fields := #[]
  methods := #[k1m0, k1m1, k1m2, k1m3]
  instanceTypes := #[]
  staticTypes := #[]
  resolved := Array.replicate 37 none
  statics := none }

def pool2 : Array CpInfo := pool [(2, .class_ 4), (1, u "java/lang/Object"), (0, u "<init>"), (0, u "()V"), (1, .class_ 10), (1, u "com/example/skipscan/skipscan/ByteScan"), (27, .class_ 40), (1, u "com/example/skipscan/skipscan/ByteScan$Place"), (1, u "I"), (3, u "J"), (6, .long 72340172838076673), (80, u "LONGS"), (0, u "Ljava/lang/invoke/VarHandle;"), (101, u "ONES"), (1, u "HIGHS"), (0, u "LOWS"), (0, u "BLOCK"), (1, u "MOST_WHOLE"), (1, u "GATHER"), (0, u "HASH"), (9, u "repeated"), (0, u "([B)[J")] 10

def k2m0 : Method := { name := "<init>", desc := "()V", sig := { parameters := [], returnType := none }, accessFlags := 2, code := none }
def k2c1 : Code := { maxStack := 6, maxLocals := 3, code := prog_10_method_15_code, exceptionTable := #[], attributes := #[] }
def k2m1 : Method := { name := "repeated", desc := "([B)[J", sig := { parameters := [(.array .byte)], returnType := some (.array .long) }, accessFlags := 8, code := some k2c1 }
/-- com/example/skipscan/skipscan/ByteScan -/
def k2 : Class := { plain "com/example/skipscan/skipscan/ByteScan" (some 0) with
  accessFlags := 32
  interfaces := #[]
  cf := some (fileOf pool2 8 #[.nestMembers #[38]] #[{ accessFlags := 2, nameIndex := 5, descriptorIndex := 6, attributes := #[] }, { accessFlags := 8, nameIndex := 256, descriptorIndex := 257, attributes := #[] }] 32 2 #[] #[{ accessFlags := 26, nameIndex := 134, descriptorIndex := 135, attributes := #[] }, { accessFlags := 24, nameIndex := 237, descriptorIndex := 46, attributes := #[] }, { accessFlags := 26, nameIndex := 239, descriptorIndex := 46, attributes := #[] }, { accessFlags := 26, nameIndex := 240, descriptorIndex := 46, attributes := #[] }, { accessFlags := 24, nameIndex := 241, descriptorIndex := 42, attributes := #[] }, { accessFlags := 24, nameIndex := 243, descriptorIndex := 42, attributes := #[] }, { accessFlags := 26, nameIndex := 245, descriptorIndex := 46, attributes := #[] }, { accessFlags := 26, nameIndex := 246, descriptorIndex := 46, attributes := #[] }])
  fields := #[{ name := "LONGS", type := (.object "java/lang/invoke/VarHandle"), accessFlags := 26, slot := 0, constantValue := 0 }, { name := "ONES", type := .long, accessFlags := 24, slot := 1, constantValue := 0 }, { name := "HIGHS", type := .long, accessFlags := 26, slot := 2, constantValue := 0 }, { name := "LOWS", type := .long, accessFlags := 26, slot := 3, constantValue := 0 }, { name := "BLOCK", type := .int, accessFlags := 24, slot := 4, constantValue := 0 }, { name := "MOST_WHOLE", type := .int, accessFlags := 24, slot := 5, constantValue := 0 }, { name := "GATHER", type := .long, accessFlags := 26, slot := 6, constantValue := 0 }, { name := "HASH", type := .long, accessFlags := 26, slot := 7, constantValue := 0 }]
  methods := #[k2m0, k2m1]
  instanceTypes := #[]
  staticTypes := #[(.object "java/lang/invoke/VarHandle"), .long, .long, .long, .int, .int, .long, .long]
  resolved := Array.replicate 268 none
  statics := none }

def pool3 : Array CpInfo := pool [(1, u "java/lang/Cloneable"), (0, .class_ 1), (0, u "java/lang/Object"), (0, .class_ 3)] 3

/-- java/lang/Cloneable -/
def k3 : Class := { plain "java/lang/Cloneable" (some 0) with
  accessFlags := 1537
  interfaces := #[]
  cf := some (fileOf pool3 2 #[] #[] 1537 4 #[] #[])
  fields := #[]
  methods := #[]
  instanceTypes := #[]
  staticTypes := #[]
  resolved := Array.replicate 8 none
  statics := none }

def pool4 : Array CpInfo := pool [(1, u "java/io/Serializable"), (0, .class_ 1), (0, u "java/lang/Object"), (0, .class_ 3)] 3

/-- java/io/Serializable -/
def k4 : Class := { plain "java/io/Serializable" (some 0) with
  accessFlags := 1537
  interfaces := #[]
  cf := some (fileOf pool4 2 #[] #[] 1537 4 #[] #[])
  fields := #[]
  methods := #[]
  instanceTypes := #[]
  staticTypes := #[]
  resolved := Array.replicate 8 none
  statics := none }

/-- the primitive byte -/
def k5 : Class := { plain "byte" none with kind := .primitive 'B', accessFlags := 0x411 }
/-- [B -/
def k6 : Class := { plain "[B" (some 0) with kind := .array 5 .byte, interfaces := #[3, 4], accessFlags := 1041 }

/-- the primitive int -/
def k7 : Class := { plain "int" none with kind := .primitive 'I', accessFlags := 0x411 }
/-- [I -/
def k8 : Class := { plain "[I" (some 0) with kind := .array 7 .int, interfaces := #[3, 4], accessFlags := 1041 }

/-- the primitive long -/
def k9 : Class := { plain "long" none with kind := .primitive 'J', accessFlags := 0x411 }
/-- [J -/
def k10 : Class := { plain "[J" (some 0) with kind := .array 9 .long, interfaces := #[3, 4], accessFlags := 1041 }

def heap : Heap := #[]
def classes : Array Class := #[k0, k1, k2, k3, k4, k5, k6, k7, k8, k9, k10]
def interned : List (Array UInt16 × Addr) := []
def slotsUsed : Nat := 0
def theMethod : MethodId := ⟨1, 1⟩
def args0 : Array Value := #[.int 5, .long 77]
def aboutOver (below : List Frame) : State where
  vm := { classes := classes, interned := interned.toArray }
  heap := heap
  slotsUsed := slotsUsed
  threads := #[{ frames := .invoking theMethod args0 :: below }]
def below0 : List Frame := [.native { method := ⟨0, 0⟩, args := #[] }]
def about1 : State := aboutOver below0
def p0 : Program := .bare "" "" ""
def e0 : Env := launch0.env 0 0 0
theorem w_frames : about1.frames = Frame.invoking theMethod args0 :: below0 := rfl
set_option maxRecDepth 65536 in
theorem w_args : argsFit about1.vm theMethod args0 = true := by decide +kernel
set_option maxRecDepth 65536 in
theorem w_heap : heapFits about1 = true := by decide +kernel
set_option maxRecDepth 65536 in
theorem w_runnable : about1.curStatus? = some .runnable := by decide +kernel
set_option maxRecDepth 65536 in
theorem w_alone : about1.alone = true := by decide +kernel
set_option maxRecDepth 65536 in
theorem w_named : about1.methodNamed? x = some theMethod := by decide +kernel
set_option maxRecDepth 65536 in
theorem w_hears : about1.hears theMethod below0 = true := by decide +kernel
set_option maxRecDepth 65536 in
theorem w_ripe : about1.ripe theMethod args0 below0 = true := by decide +kernel
theorem w_running : about1.status = .running := rfl
set_option maxRecDepth 65536 in
theorem w_room : about1.hasRoom e0.platform room_1 = true :=
  launch0.hasRoom_least _ room_1 (by decide +kernel) (by decide +kernel) (by decide +kernel) (by decide +kernel) (by decide +kernel) (by decide +kernel)
theorem allAtoms_all (ts : List Jvm.Cond) (a : Array Jvm.Value) (st : Jvm.State) : (allAtoms ts).before a st = ts.all (fun c => c.before a st) := by
  induction ts with
  | nil => rfl
  | cons c t ih =>
    show (Jvm.Cond.and c (allAtoms t)).before a st = _
    rw [Jvm.Cond.before_and, ih, List.all_cons]
def words1 : List Jvm.Cond := Jvm.Cond.code x code maxLocals ret :: tables_1
/-- a 'code' word, met by the world's own term for the bytes: nothing is compared byte by byte -/
theorem code_word {y : MethodName} {bytes : ByteArray} {mx : Nat} {rt : Option FieldType} {a : Array Value} {s : State} {m : MethodId} {meth : Method} {c : Code} (h1 : s.methodNamed? y = some m) (h2 : s.vm.method? m = some meth) (h3 : meth.code = some c) (h4 : c.code = bytes)
    (h5 : (c.maxLocals == mx && c.exceptionTable.isEmpty && decide (c.maxStack ≤ mostOperands) && decide (meth.sig.returnType = rt) && !meth.locks && decide (parseMethodDescriptor y.desc = some meth.sig)) = true) : (Jvm.Cond.code y bytes mx rt).before a s = true := by
  simp only [Bool.and_eq_true, beq_iff_eq, Bool.not_eq_true', decide_eq_true_eq] at h5
  obtain ⟨⟨⟨⟨⟨g1, g2⟩, g3⟩, g4⟩, g5⟩, g6⟩ := h5
  simp [Cond.before, Cond.holds, Cond.value, h1, h2, h3, h4, g1, g2, g3, g4, g5, g6]
def isCode : Jvm.Cond → Bool
  | .code _ _ _ _ => true
  | _ => false
theorem all_split {L : List Jvm.Cond} {P : Jvm.Cond → Bool} (h1 : L.all (fun c => isCode c || P c) = true) (h2 : ∀ c ∈ L.filter isCode, P c = true) : L.all P = true := by
  refine List.all_eq_true.mpr fun c hc => ?_
  have h := List.all_eq_true.mp h1 c hc
  rcases Bool.eq_false_or_eq_true (isCode c) with hi | hi
  · exact h2 c (List.mem_filter.mpr ⟨hc, hi⟩)
  · simpa [hi] using h
set_option maxRecDepth 65536 in
theorem w_c0 : (Jvm.Cond.code x code maxLocals ret).before args0 about1 = true := code_word (m := ⟨1, 1⟩) (meth := k1m1) (c := k1c1) (by decide +kernel) rfl rfl rfl (by decide +kernel)
set_option maxRecDepth 65536 in
theorem w_c1 : (Jvm.Cond.code ({ cls := "com/example/skipscan/skipscan/ByteScan", name := "repeated", desc := "([B)[J" } : Jvm.MethodName) prog_10_method_15_code (3 : Nat) (Option.some (Jvm.ClassFile.FieldType.array Jvm.ClassFile.FieldType.long))).before args0 about1 = true := code_word (m := ⟨2, 1⟩) (meth := k2m1) (c := k2c1) (by decide +kernel) rfl rfl rfl (by decide +kernel)
set_option maxRecDepth 65536 in
theorem w_c2 : (Jvm.Cond.code ({ cls := "com/example/skipscan/skipscan/ByteScanRepeatedPinLaw", name := "ok", desc := "([J[BIJ)Z" } : Jvm.MethodName) method_3_code (6 : Nat) (Option.some Jvm.ClassFile.FieldType.boolean)).before args0 about1 = true := code_word (m := ⟨1, 2⟩) (meth := k1m2) (c := k1c2) (by decide +kernel) rfl rfl rfl (by decide +kernel)
set_option maxRecDepth 65536 in
theorem w_c3 : (Jvm.Cond.code ({ cls := "com/example/skipscan/skipscan/ByteScanRepeatedPinLaw", name := "rep", desc := "(B)J" } : Jvm.MethodName) method_4_code (3 : Nat) (Option.some Jvm.ClassFile.FieldType.long)).before args0 about1 = true := code_word (m := ⟨1, 3⟩) (meth := k1m3) (c := k1c3) (by decide +kernel) rfl rfl rfl (by decide +kernel)
def codes1 : List Jvm.Cond := [Jvm.Cond.code x code maxLocals ret, Jvm.Cond.code ({ cls := "com/example/skipscan/skipscan/ByteScan", name := "repeated", desc := "([B)[J" } : Jvm.MethodName) prog_10_method_15_code (3 : Nat) (Option.some (Jvm.ClassFile.FieldType.array Jvm.ClassFile.FieldType.long)), Jvm.Cond.code ({ cls := "com/example/skipscan/skipscan/ByteScanRepeatedPinLaw", name := "ok", desc := "([J[BIJ)Z" } : Jvm.MethodName) method_3_code (6 : Nat) (Option.some Jvm.ClassFile.FieldType.boolean), Jvm.Cond.code ({ cls := "com/example/skipscan/skipscan/ByteScanRepeatedPinLaw", name := "rep", desc := "(B)J" } : Jvm.MethodName) method_4_code (3 : Nat) (Option.some Jvm.ClassFile.FieldType.long)]
set_option maxRecDepth 65536 in
theorem codes_eq : words1.filter isCode = codes1 := rfl
theorem w_codes : ∀ c ∈ words1.filter isCode, c.before args0 about1 = true := by
  rw [codes_eq]
  intro c hc
  simp only [codes1, List.mem_cons, List.not_mem_nil, or_false] at hc
  rcases hc with rfl | rfl | rfl | rfl
  · exact w_c0
  · exact w_c1
  · exact w_c2
  · exact w_c3
set_option maxRecDepth 65536 in
theorem w_t1 : words1.all (fun c => isCode c || c.before args0 about1) = true := by decide +kernel
theorem w_tables : (allAtoms (Jvm.Cond.code x code maxLocals ret :: tables_1)).before args0 about1 = true := by
  rw [allAtoms_all]
  show words1.all (fun c => c.before args0 about1) = true
  refine all_split ?_ w_codes
  rw [w_t1]
set_option maxRecDepth 65536 in
theorem w_case : (Jvm.Cond.and given_1 narrow_1).before args0 about1 = true := by decide +kernel
theorem w_applies : (headSpec (Jvm.Cond.code x code maxLocals ret :: tables_1) room_1).applies x e0.platform about1 = true :=
  (Spec.applies_iff w_frames).mpr ⟨w_running, w_runnable, w_alone, w_named, w_hears, w_ripe, w_room, w_tables⟩
theorem atStart : AtStart classFile x code maxLocals ret World_1 tables_1 room_1 Calls_1 rest_1 Pre_1 launch0 p0 e0 about1 theMethod args0 below0 :=
  ⟨lists_1, trivial, launch0.admits_env _ _ _, launch0.least_env, fairChoices_fair.cas, fairChoices_fair.clock, w_frames, w_args, w_heap, w_applies, trivial, trivial, w_case⟩
end start1
theorem witness_1 : WitnessClaimed_1 := ⟨start1.p0, start1.e0, start1.about1, start1.theMethod, start1.args0, start1.below0, start1.atStart⟩
end Jvm.Pilot.@@N@@
