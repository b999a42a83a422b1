import JvmDerived
import JvmDerived.Pilot.@@N@@Statement
import JvmDerived.Pilot.@@N@@Code
set_option linter.unusedVariables false
set_option linter.unusedSimpArgs false
namespace Jvm.RoadKit
open Sem ClassFile Op Lib Jvm.Stand Jvm.Free Jvm.LawKit
section New
variable {p : Program} {l : Launch} {e : Env} {R : Room} {s : State} {m : MethodId} {args : Array Value} {below : List Frame} {meth : Method} {c : Code} {T : State} {locs : List Loc} {cells slots : Nat}
theorem retI (X : Stand p l e R s m args below meth c T locs cells slots) (hx : p.tables.exec = Jvm.exec) {pc : Nat} {Ls : Array Slot} {z : Int32} {rest : List Value} (hret : meth.sig.returnType = some .int) (hd : decode c.code pc = .ok (.ireturn, 1)) {fs : List Frame}
    (hl : ∀ (f : JFrame) (acts : List Action), f.method = m → f.locked = none → f.entered = [] → (doReturn e (T.setTop f) acts (some (.int z))).1 = T.setFrames fs) : Steps p.tables e below (T.setTop (mkF m pc Ls (.int z :: rest))) (T.setFrames fs) := by
  have hm' : T.vm.method? m = some meth := X.method'
  have hn : narrow .int (.int z) = .int z := rfl
  show Steps p.tables e below (T.setTop { method := m, pc := pc, locals := Ls, stack := _ :: rest, locked := none }) _
  jvm_step X.here [X.here.top, hx, hd, hm', hret, hn]
  first | (intro acts; rw [hl _ acts rfl rfl rfl]) | rw [hl _ _ rfl rfl rfl]
  exact Steps.refl _
theorem own_ldc {g : JFrame} {target : State} (X : Stand p l e R s m args below meth c T locs cells slots) (hx : p.tables.exec = Jvm.exec) {own : String} {index : Nat} {v : Int32} (hown : s.vm.findClass own = some m.cls) (w : (Cond.constant own index v).before args s = true) (hg : g.method = m) (hd : decode c.code g.pc = .ok (.ldc index, 2))
    (hr : Steps p.tables e below (T.setTop { g with pc := g.pc + 2, stack := .int v :: g.stack }) target) : Steps p.tables e below (T.setTop g) target := X.ldcInt hx hown w hg hd target hr
theorem own_ldc2 {g : JFrame} {target : State} (X : Stand p l e R s m args below meth c T locs cells slots) (hx : p.tables.exec = Jvm.exec) {own : String} {index : Nat} {v : Int64} (hown : s.vm.findClass own = some m.cls) (w : (Cond.constantLong own index v).before args s = true) (hg : g.method = m) (hd : decode c.code g.pc = .ok (.ldc2_w index, 3))
    (hr : Steps p.tables e below (T.setTop { g with pc := g.pc + 3, stack := .long v :: g.stack }) target) : Steps p.tables e below (T.setTop g) target := X.ldc2Long hx hown w hg hd target hr
theorem own_len {g : JFrame} {target : State} (X : Stand p l e R s m args below meth c T locs cells slots) (hx : p.tables.exec = Jvm.exec) {a : Addr} {cell : Cell} {ty : FieldType} {z : Int32} (hcell : T.heap[a]? = some cell) (harr : s.isArrayOf cell ty) (hz : cell.slots.size = z.toNatClampNeg) (hn : ¬ z < 0) (hg : g.method = m) {rest : List Value} (hs : g.stack = .ref a :: rest) (hd : decode c.code g.pc = .ok (.arraylength, 1))
    (hr : Steps p.tables e below (T.setTop { g with pc := g.pc + 1, stack := .int z :: rest }) target) : Steps p.tables e below (T.setTop g) target := X.arraylength hx hcell harr hg hs hd target (by rw [len_of hz hn]; exact hr)
theorem own_iaload {g : JFrame} {target : State} (X : Stand p l e R s m args below meth c T locs cells slots) (hx : p.tables.exec = Jvm.exec) {a : Addr} {cell : Cell} {j : Int32} {v : Value} (hcell : T.heap[a]? = some cell) (harr : s.isArrayOf cell .int) (hk : cell.vm ≠ .unknown) (hin : ¬ (j < 0 ∨ cell.slots.size ≤ j.toNatClampNeg)) (hv : cell.slots[j.toNatClampNeg]? = some v) (hg : g.method = m) {rest : List Value} (hs : g.stack = .int j :: .ref a :: rest) (hd : decode c.code g.pc = .ok (.iaload, 1))
    (hr : Steps p.tables e below (T.setTop { g with pc := g.pc + 1, stack := v :: rest }) target) : Steps p.tables e below (T.setTop g) target := X.iaload hx hcell harr hk hin hv hg hs hd target hr
theorem own_laload {g : JFrame} {target : State} (X : Stand p l e R s m args below meth c T locs cells slots) (hx : p.tables.exec = Jvm.exec) {a : Addr} {cell : Cell} {j : Int32} {v : Value} (hcell : T.heap[a]? = some cell) (harr : s.isArrayOf cell .long) (hk : cell.vm ≠ .unknown) (hin : ¬ (j < 0 ∨ cell.slots.size ≤ j.toNatClampNeg)) (hv : cell.slots[j.toNatClampNeg]? = some v) (hg : g.method = m) {rest : List Value} (hs : g.stack = .int j :: .ref a :: rest) (hd : decode c.code g.pc = .ok (.laload, 1))
    (hr : Steps p.tables e below (T.setTop { g with pc := g.pc + 1, stack := v :: rest }) target) : Steps p.tables e below (T.setTop g) target := X.laload hx hcell harr hk hin hv hg hs hd target hr
theorem own_baload {g : JFrame} {target : State} (X : Stand p l e R s m args below meth c T locs cells slots) (hx : p.tables.exec = Jvm.exec) {a : Addr} {cell : Cell} {j : Int32} {v : Value} (hcell : T.heap[a]? = some cell) (harr : s.isArrayOf cell .byte) (hk : cell.vm ≠ .unknown) (hin : ¬ (j < 0 ∨ cell.slots.size ≤ j.toNatClampNeg)) (hv : cell.slots[j.toNatClampNeg]? = some v) (hg : g.method = m) {rest : List Value} (hs : g.stack = .int j :: .ref a :: rest) (hd : decode c.code g.pc = .ok (.baload, 1))
    (hr : Steps p.tables e below (T.setTop { g with pc := g.pc + 1, stack := v :: rest }) target) : Steps p.tables e below (T.setTop g) target := X.baloadBytes hx hcell harr hk hin hv hg hs hd target hr
theorem own_lrem {g : JFrame} {target : State} (X : Stand p l e R s m args below meth c T locs cells slots) (hx : p.tables.exec = Jvm.exec) (hg : g.method = m) {x y : Int64} {rest : List Value} (hd : decode c.code g.pc = .ok (.lrem, 1)) (hs : g.stack = .long y :: .long x :: rest) (hy : y ≠ 0)
    (hr : Steps p.tables e below (T.setTop { g with pc := g.pc + 1, stack := .long (x % y) :: rest }) target) : Steps p.tables e below (T.setTop g) target :=
  XS.lrem X.here hx hg hd hs hy (by rw [lrem_mod]; exact hr)
theorem own_tltL {x y : Int64} (h : x < y) : ifCond.holds .lt (lcmpW x y) = true ∧ ifCond.holds .ge (lcmpW x y) = false ∧ ifCond.holds .gt (lcmpW y x) = true ∧ ifCond.holds .le (lcmpW y x) = false := by
  have h1 : lcmpW x y < 0 := by rw [lcW]; exact (lc_lt x y).mpr h
  have h2 : 0 < lcmpW y x := by rw [lcW]; exact (lc_gt y x).mpr h
  exact ⟨(if0 _ _).trans (tlt h1).1, (if0 _ _).trans (tlt h1).2.1, (if0 _ _).trans (tlt h2).2.2.1, (if0 _ _).trans (tlt h2).2.2.2⟩
theorem own_fltL {x y : Int64} (h : ¬ x < y) : ifCond.holds .lt (lcmpW x y) = false ∧ ifCond.holds .ge (lcmpW x y) = true ∧ ifCond.holds .gt (lcmpW y x) = false ∧ ifCond.holds .le (lcmpW y x) = true := by
  have h1 : ¬ lcmpW x y < 0 := by rw [lcW, lc_lt]; exact h
  have h2 : ¬ 0 < lcmpW y x := by rw [lcW, lc_gt]; exact h
  exact ⟨(if0 _ _).trans (flt h1).1, (if0 _ _).trans (flt h1).2.1, (if0 _ _).trans (flt h2).2.2.1, (if0 _ _).trans (flt h2).2.2.2⟩
theorem own_teqL {x y : Int64} (h : x = y) : ifCond.holds .eq (lcmpW x y) = true ∧ ifCond.holds .ne (lcmpW x y) = false := by
  have h1 : lcmpW x y = 0 := by rw [lcW, lc_eq]; exact h
  exact ⟨(if0 _ _).trans (teq h1).1, (if0 _ _).trans (teq h1).2⟩
theorem own_feqL {x y : Int64} (h : ¬ x = y) : ifCond.holds .eq (lcmpW x y) = false ∧ ifCond.holds .ne (lcmpW x y) = true := by
  have h1 : ¬ lcmpW x y = 0 := by rw [lcW, lc_eq]; exact h
  exact ⟨(if0 _ _).trans (feq h1).1, (if0 _ _).trans (feq h1).2⟩
end New
end Jvm.RoadKit
namespace Jvm.Pilot.@@N@@
open Jvm Jvm.ClassFile Sem Op Lib Jvm.Free Jvm.Stand Jvm.LawKit Jvm.RoadKit Bundle Jvm.Pilot.@@N@@.Jvm.D
/-- what is left to show from a place of the walk on -/
abbrev OGl (p : Program) (e : Env) (below : List Frame) (Q : Outcome → State → Prop) (T : State) (g : JFrame) : Prop :=
  ∃ s₂ o, Steps p.tables e below (T.setTop g) s₂ ∧ s₂.status = .running ∧ Ended s₂ below o ∧ Q o s₂
theorem OGl.go {p : Program} {e : Env} {below : List Frame} {Q : Outcome → State → Prop} {T T' : State} {g g' : JFrame} (h : ∀ t, Steps p.tables e below (T'.setTop g') t → Steps p.tables e below (T.setTop g) t) (k : OGl p e below Q T' g') : OGl p e below Q T g := by
  obtain ⟨s2, o, h1, h2⟩ := k
  exact ⟨s2, o, h _ h1, h2⟩
theorem OGl.start {p : Program} {e : Env} {below : List Frame} {Q : Outcome → State → Prop} {T : State} {g g' : JFrame} (q : g = g') (k : OGl p e below Q T g') : OGl p e below Q T g := q ▸ k
theorem own_selPriv {s : State} {args : Array Value} {y y' x' : MethodName} {C' : String} (hp : s.PrivateAt y) (hi : (Cond.instanceMethod y).before args s = true) (hs : (Cond.selects C' x' y').before args s = true) (hc : y'.cls = y.cls) (hy : y.cls ≠ "java/lang/invoke/MethodHandle" ∧ y.cls ≠ "java/lang/invoke/VarHandle" := by decide) : (Cond.selects y.cls y y).before args s = true := by
  obtain ⟨mk, meth, hn, hm, -, -⟩ := Cond.instanceMethod_spec hi
  obtain ⟨c2, r2, m2, -, -, q3, -, kP, hkP, hkPi⟩ := Cond.selects_spec hs
  have h1 := findClass_of_methodNamed hn
  have h2 := findClass_of_methodNamed q3
  rw [hc, h1] at h2
  have h3 : mk.cls = m2.cls := Option.some.inj h2
  have hf := State.methodFound?_of_named hn hy
  have hsel : selectMethod {} s.vm mk.cls mk = .method mk := selectMethod_private hm (hp mk meth hn hm)
  rw [← h3] at hkP
  simp [Cond.before, Cond.holds, Cond.value, h1, hf, hn, hsel, hkP, hkPi]
theorem own_weak {Z : State} {h : Heap} {a : Addr} {k : ClassId} {ty : FieldType} {z : Int32} {vs vs' : List Value} {d : Value} (F : Arv Z h a k ty z vs d) (q : ∀ i, i < z.toNatClampNeg → vs'.getD i d = vs.getD i d) : Arv Z h a k ty z vs' d := by
  obtain ⟨c, A, r1, r2, r3, H, G⟩ := F
  exact ⟨c, A, r1, r2, r3, fun i hi => by rw [q i (r2 ▸ hi)]; exact H i hi, fun i hi => by rw [q i (r2 ▸ hi)]; exact G i hi⟩
theorem own_cl {z j : Int32} {k i : Nat} (h : ¬ j < z) (hk : j.toInt = k) (hi : i < z.toNatClampNeg) : i < k := by
  rw [Int32.lt_iff_toInt_lt] at h
  have : z.toNatClampNeg = z.toInt.toNat := rfl
  omega
theorem own_irr {α : Type} [LT α] [Std.Irrefl (α := α) (· < ·)] (x : α) : ¬ x < x := Std.Irrefl.irrefl x
theorem d1_0 : decode prog_61_method_5_code 0 = .ok (.iconst 3, 1) := by decide +kernel
theorem d1_1 : decode prog_61_method_5_code 1 = .ok (.newarray .byte, 2) := by decide +kernel
theorem d1_3 : decode prog_61_method_5_code 3 = .ok (.dup, 1) := by decide +kernel
theorem d1_4 : decode prog_61_method_5_code 4 = .ok (.iconst 0, 1) := by decide +kernel
theorem d1_5 : decode prog_61_method_5_code 5 = .ok (.iload_n 0, 1) := by decide +kernel
theorem d1_6 : decode prog_61_method_5_code 6 = .ok (.i2b, 1) := by decide +kernel
theorem d1_7 : decode prog_61_method_5_code 7 = .ok (.bastore, 1) := by decide +kernel
theorem d1_8 : decode prog_61_method_5_code 8 = .ok (.dup, 1) := by decide +kernel
theorem d1_9 : decode prog_61_method_5_code 9 = .ok (.iconst 1, 1) := by decide +kernel
theorem d1_10 : decode prog_61_method_5_code 10 = .ok (.iload_n 0, 1) := by decide +kernel
theorem d1_11 : decode prog_61_method_5_code 11 = .ok (.bipush 8, 2) := by decide +kernel
theorem d1_13 : decode prog_61_method_5_code 13 = .ok (.iushr, 1) := by decide +kernel
theorem d1_14 : decode prog_61_method_5_code 14 = .ok (.i2b, 1) := by decide +kernel
theorem d1_15 : decode prog_61_method_5_code 15 = .ok (.bastore, 1) := by decide +kernel
theorem d1_16 : decode prog_61_method_5_code 16 = .ok (.dup, 1) := by decide +kernel
theorem d1_17 : decode prog_61_method_5_code 17 = .ok (.iconst 2, 1) := by decide +kernel
theorem d1_18 : decode prog_61_method_5_code 18 = .ok (.iload_n 0, 1) := by decide +kernel
theorem d1_19 : decode prog_61_method_5_code 19 = .ok (.bipush 16, 2) := by decide +kernel
theorem d1_21 : decode prog_61_method_5_code 21 = .ok (.iushr, 1) := by decide +kernel
theorem d1_22 : decode prog_61_method_5_code 22 = .ok (.i2b, 1) := by decide +kernel
theorem d1_23 : decode prog_61_method_5_code 23 = .ok (.bastore, 1) := by decide +kernel
theorem d1_24 : decode prog_61_method_5_code 24 = .ok (.areturn, 1) := by decide +kernel
def e1_0 (p0 : Int32) : Int32 := ((((p0.toUInt32 >>> ((8 : Int32) &&& 31).toUInt32).toInt32)).toInt8.toInt32)
def e1_1 (p0 : Int32) : Int32 := ((((p0.toUInt32 >>> ((16 : Int32) &&& 31).toUInt32).toInt32)).toInt8.toInt32)
theorem ef_1 (m : MethodId) (x0 : Int32) : entryFrame m #[(.int x0)] 1 = mkF m 0 #[.val (.int x0)] [] := by first | (simp [entryFrame, mkF, argsToLocals, Value.category]; done) | rfl
theorem pn_0 : plainName "com/example/tapwright/tapwright/sun/Sdm" = true := by first | (simp [plainName, overriddenIn]; done) | decide +kernel
def Q1 (Z : State) (p0 : Int32) (h0 : Heap) (n0 : Nat) (v : Option Value) (h : Heap) (L : List Loc) : Prop := ∃ (nb0 : Addr), ∃ (nk0 : ClassId), v = some (.ref nb0) ∧ Fr n0 L ∧ Keep h0 h [] ∧ h0.size ≤ nb0 ∧ Arv Z h nb0 nk0 .byte (3 : Int32) [(.int (nar .byte ((p0).toInt8.toInt32))), (.int (nar .byte (e1_0 p0))), (.int (nar .byte (e1_1 p0)))] (.int (0 : Int32))
set_option maxRecDepth 65536 in
set_option maxHeartbeats 40000000 in
theorem rm1 (l : Launch) (Z : State) (a0 : Array Value) (hw : ∀ d ∈ tables_1, d.before a0 Z = true) (ws : List Jvm.Cond) (p0 : Int32) (h0 : Heap) (n0 : Nat) (Z0 : n0 ≤ h0.size) :
    MetFree l (⟨"com/example/tapwright/tapwright/sun/Sdm", "counterBytes", "(I)[B"⟩ : MethodName) (head1 (Jvm.Cond.code (⟨"com/example/tapwright/tapwright/sun/Sdm", "counterBytes", "(I)[B"⟩ : MethodName) prog_61_method_5_code 1 (some (.array .byte)) :: ws) ({ frames := 0, cells := 1, slots := 3, locals := 0 } : Room)) (fun a U => a = #[(.int p0)] ∧ Z.Warmed39 U.vm ∧ U.heap = h0) (fun _ _ _ _ _ => True) (fun _ U o U' => ∃ v L, o = .returned v ∧ Q1 Z p0 h0 n0 v U'.heap L ∧ FrameEnd U o U' L ({ frames := 0, cells := 1, slots := 3, locals := 0 } : Room).cells ({ frames := 0, cells := 1, slots := 3, locals := 0 } : Room).slots) := by
  refine MetFree.of_bodySF (plainFor_of_name pn_0) hisR ?_
  intro p e s m args below meth c s₁ Bd hml0 hP hK
  obtain ⟨rfl, hZ, hh⟩ := hP
  have hx := Bd.exec
  have hby := Bd.bytes
  have hml : c.maxLocals = 1 := hml0
  have hown : s.vm.findClass "com/example/tapwright/tapwright/sun/Sdm" = some m.cls := findClass_of_methodNamed Bd.named
  have hnm := (name_of_methodNamed Bd.named Bd.method).1
  have X0 : Stand p l e ({ frames := 0, cells := 1, slots := 3, locals := 0 } : Room) s m #[(.int p0)] below meth c s₁ [] 0 0 := Stand.of_body Bd
  have e0 : s₁.heap = h0 := by rw [← hh, Bd.state]; rfl
  have N0 := Fr.nil n0
  refine OGl.start (ef_1 m p0) ?_
  show OGl _ _ _ _ s₁ (mkF m 0 #[.val (.int p0)] [])
  refine OGl.go (fun t k => XS.iconst X0.here hx rfl (hb hby d1_0) k) ?_
  show OGl _ _ _ _ s₁ (mkF m 1 #[.val (.int p0)] [(.int (3 : Int32))])
  obtain ⟨T2, h2, k2, X2, e2, E2, A2, st2⟩ := newP X0 hx hZ (hw _ (List.mem_of_getElem? (i := 5) rfl)) e0 (g := (mkF m 1 #[.val (.int p0)] [(.int (3 : Int32))])) rfl (hb hby d1_1) rfl (by decide) (cap := 3) (by decide) (by decide) (by decide) (by decide)
  obtain ⟨b2, gb2⟩ : ∃ z, z = h0.size := ⟨_, rfl⟩
  rw [← gb2] at A2 st2
  have sz_b2 : h0.size ≤ b2 := Nat.le_trans (Keep.refl h0 []).1 (Nat.le_of_eq gb2.symm)
  have g_b2 : n0 ≤ b2 := Nat.le_trans Z0 sz_b2
  have V2 : Arv Z h2 b2 k2 .byte (3 : Int32) [(.int (0 : Int32)), (.int (0 : Int32)), (.int (0 : Int32))] (.int (0 : Int32)) := (Arv.new A2 (by decide)).pad (pad_rep [] (.int (0 : Int32)) 3)
  have KK2 : Keep h0 h2 [] := (Keep.refl h0 []).ext E2
  refine OGl.go st2 ?_
  show OGl _ _ _ _ T2 (mkF m 3 #[.val (.int p0)] [(.ref b2)])
  refine OGl.go (fun t k => XS.dup X2.here hx rfl (hb hby d1_3) rfl rfl (XS.iconst X2.here hx rfl (hb hby d1_4) (XS.iloadN X2.here hx rfl (hb hby d1_5) rfl (XS.i2b X2.here hx rfl (hb hby d1_6) rfl k)))) ?_
  show OGl _ _ _ _ T2 (mkF m 7 #[.val (.int p0)] [(.int ((p0).toInt8.toInt32)), (.int (0 : Int32)), (.ref b2), (.ref b2)])
  obtain ⟨cl3, Ar3, qk3, Sz3, Nn3, Ha3, Gf3⟩ := id V2
  have hin3 : ¬ ((0 : Int32) < 0 ∨ cl3.slots.size ≤ ((0 : Int32)).toNatClampNeg) := inb_of Sz3 ⟨by decide, by decide⟩
  obtain ⟨T3, h3, X3, e3, W3, st3⟩ := stB X2 hx hZ e2 Ar3 (j := (0 : Int32)) hin3 (g := (mkF m 7 #[.val (.int p0)] [(.int ((p0).toInt8.toInt32)), (.int (0 : Int32)), (.ref b2), (.ref b2)])) rfl rfl (hb hby d1_7)
  have V3 : Arv Z h3 b2 k2 .byte (3 : Int32) [(.int (nar .byte ((p0).toInt8.toInt32))), (.int (0 : Int32)), (.int (0 : Int32))] (.int (0 : Int32)) := Arv.set Ar3 qk3 Sz3 Nn3 Ha3 Gf3 (fits_nar_byte _) W3 0 rfl (Nat.le_of_ble_eq_true rfl)
  refine OGl.go st3 ?_
  have N3 := Fr.snoc X3 N0 g_b2
  have KK3 : Keep h0 h3 [] := KK2.wr W3 (Or.inr sz_b2)
  show OGl _ _ _ _ T3 (mkF m 8 #[.val (.int p0)] [(.ref b2)])
  refine OGl.go (fun t k => XS.dup X3.here hx rfl (hb hby d1_8) rfl rfl (XS.iconst X3.here hx rfl (hb hby d1_9) (XS.iloadN X3.here hx rfl (hb hby d1_10) rfl (XS.bipush X3.here hx rfl (hb hby d1_11) (XS.iushr X3.here hx rfl (hb hby d1_13) rfl (XS.i2b X3.here hx rfl (hb hby d1_14) rfl k)))))) ?_
  show OGl _ _ _ _ T3 (mkF m 15 #[.val (.int p0)] [(.int ((((p0.toUInt32 >>> ((8 : Int32) &&& 31).toUInt32).toInt32)).toInt8.toInt32)), (.int (1 : Int32)), (.ref b2), (.ref b2)])
  obtain ⟨cl4, Ar4, qk4, Sz4, Nn4, Ha4, Gf4⟩ := id V3
  have hin4 : ¬ ((1 : Int32) < 0 ∨ cl4.slots.size ≤ ((1 : Int32)).toNatClampNeg) := inb_of Sz4 ⟨by decide, by decide⟩
  obtain ⟨T4, h4, X4, e4, W4, st4⟩ := stB X3 hx hZ e3 Ar4 (j := (1 : Int32)) hin4 (g := (mkF m 15 #[.val (.int p0)] [(.int ((((p0.toUInt32 >>> ((8 : Int32) &&& 31).toUInt32).toInt32)).toInt8.toInt32)), (.int (1 : Int32)), (.ref b2), (.ref b2)])) rfl rfl (hb hby d1_15)
  have V4 : Arv Z h4 b2 k2 .byte (3 : Int32) [(.int (nar .byte ((p0).toInt8.toInt32))), (.int (nar .byte (e1_0 p0))), (.int (0 : Int32))] (.int (0 : Int32)) := Arv.set Ar4 qk4 Sz4 Nn4 Ha4 Gf4 (fits_nar_byte _) W4 1 rfl (Nat.le_of_ble_eq_true rfl)
  refine OGl.go st4 ?_
  have N4 := Fr.snoc X4 N3 g_b2
  have KK4 : Keep h0 h4 [] := KK3.wr W4 (Or.inr sz_b2)
  show OGl _ _ _ _ T4 (mkF m 16 #[.val (.int p0)] [(.ref b2)])
  refine OGl.go (fun t k => XS.dup X4.here hx rfl (hb hby d1_16) rfl rfl (XS.iconst X4.here hx rfl (hb hby d1_17) (XS.iloadN X4.here hx rfl (hb hby d1_18) rfl (XS.bipush X4.here hx rfl (hb hby d1_19) (XS.iushr X4.here hx rfl (hb hby d1_21) rfl (XS.i2b X4.here hx rfl (hb hby d1_22) rfl k)))))) ?_
  show OGl _ _ _ _ T4 (mkF m 23 #[.val (.int p0)] [(.int ((((p0.toUInt32 >>> ((16 : Int32) &&& 31).toUInt32).toInt32)).toInt8.toInt32)), (.int (2 : Int32)), (.ref b2), (.ref b2)])
  obtain ⟨cl5, Ar5, qk5, Sz5, Nn5, Ha5, Gf5⟩ := id V4
  have hin5 : ¬ ((2 : Int32) < 0 ∨ cl5.slots.size ≤ ((2 : Int32)).toNatClampNeg) := inb_of Sz5 ⟨by decide, by decide⟩
  obtain ⟨T5, h5, X5, e5, W5, st5⟩ := stB X4 hx hZ e4 Ar5 (j := (2 : Int32)) hin5 (g := (mkF m 23 #[.val (.int p0)] [(.int ((((p0.toUInt32 >>> ((16 : Int32) &&& 31).toUInt32).toInt32)).toInt8.toInt32)), (.int (2 : Int32)), (.ref b2), (.ref b2)])) rfl rfl (hb hby d1_23)
  have V5 : Arv Z h5 b2 k2 .byte (3 : Int32) [(.int (nar .byte ((p0).toInt8.toInt32))), (.int (nar .byte (e1_0 p0))), (.int (nar .byte (e1_1 p0)))] (.int (0 : Int32)) := Arv.set Ar5 qk5 Sz5 Nn5 Ha5 Gf5 (fits_nar_byte _) W5 2 rfl (Nat.le_of_ble_eq_true rfl)
  refine OGl.go st5 ?_
  have N5 := Fr.snoc X5 N4 g_b2
  have KK5 : Keep h0 h5 [] := KK4.wr W5 (Or.inr sz_b2)
  show OGl _ _ _ _ T5 (mkF m 24 #[.val (.int p0)] [(.ref b2)])
  obtain ⟨fs, hr, hrun, hended, hW, hsame⟩ := X5.leave (v := some (.ref b2)) (fun h => by rw [Bd.returns] at h; cases h)
  refine ⟨_, _, retOut X5 hx (t := (.array .byte)) Bd.returns rfl (Or.inr (Or.inr (Or.inr (Or.inr ⟨rfl, rfl, rfl⟩)))) (hb hby d1_24) hr, hrun, hended, _, _, rfl, ?_, ⟨_, rfl⟩, hW, hsame.mono (by decide) (by decide)⟩
  show Q1 Z p0 h0 n0 _ T5.heap _
  rw [e5]
  exact ⟨b2, k2, rfl, N5, KK5, sz_b2, V5⟩
theorem pd_0 : parseMethodDescriptor "(I)[B" = some ⟨[.int], some (.array .byte)⟩ := by decide +kernel
def e0_0 (p0 : Int32) : Int32 := ((nar .byte (((p0 &&& (16777215 : Int32))).toInt8.toInt32)) &&& (255 : Int32))
theorem ef_0 (m : MethodId) (x0 : Int32) : entryFrame m #[(.int x0)] maxLocals = mkF m 0 #[.val (.int x0), .unset, .unset, .unset, .unset, .unset] [] := by first | (simp [entryFrame, mkF, argsToLocals, Value.category, maxLocals]; done) | rfl
theorem pn_1 : plainName "com/example/tapwright/tapwright/sun/SdmCounterBytesPinLaw" = true := by first | (simp [plainName, overriddenIn]; done) | decide +kernel
def t0_0 (p0 : Int32) : Int32 := (if (e0_0 p0) = ((p0 &&& (16777215 : Int32)) % (256 : Int32)) then (if ((nar .byte (e1_0 (p0 &&& (16777215 : Int32)))) &&& (255 : Int32)) = (((p0 &&& (16777215 : Int32)) / (256 : Int32)) % (256 : Int32)) then (if ((nar .byte (e1_1 (p0 &&& (16777215 : Int32)))) &&& (255 : Int32)) = ((p0 &&& (16777215 : Int32)) / (65536 : Int32)) then (1 : Int32) else (0 : Int32)) else (0 : Int32)) else (0 : Int32))
def Q0 (Z : State) (p0 : Int32) (h0 : Heap) (n0 : Nat) (v : Option Value) (h : Heap) (L : List Loc) : Prop := v = some (.int (t0_0 p0)) ∧ Fr n0 L
set_option maxRecDepth 65536 in
set_option maxHeartbeats 40000000 in
theorem rm0 (l : Launch) (Z : State) (a0 : Array Value) (hw : ∀ d ∈ tables_1, d.before a0 Z = true) (ws : List Jvm.Cond) (p0 : Int32) (h0 : Heap) (n0 : Nat) (Z0 : n0 ≤ h0.size) :
    MetFree l x (head1 (Jvm.Cond.code x code maxLocals ret :: ws) room_1) (fun a U => a = #[(.int p0)] ∧ Z.Warmed39 U.vm ∧ U.heap = h0) (fun _ _ _ _ _ => True) (fun _ U o U' => ∃ v L, o = .returned v ∧ Q0 Z p0 h0 n0 v U'.heap L ∧ FrameEnd U o U' L 1 3) := by
  refine MetFree.of_bodySF (plainFor_of_name pn_1) hisR ?_
  intro p e s m args below meth c s₁ Bd hml0 hP hK
  obtain ⟨rfl, hZ, hh⟩ := hP
  have hx := Bd.exec
  have hby := Bd.bytes
  have hml : c.maxLocals = 6 := hml0
  have hown : s.vm.findClass "com/example/tapwright/tapwright/sun/SdmCounterBytesPinLaw" = some m.cls := findClass_of_methodNamed Bd.named
  have hnm := (name_of_methodNamed Bd.named Bd.method).1
  have X0 : Stand p l e room_1 s m #[(.int p0)] below meth c s₁ [] 0 0 := Stand.of_body Bd
  have e0 : s₁.heap = h0 := by rw [← hh, Bd.state]; rfl
  have N0 := Fr.nil n0
  refine OGl.start (ef_0 m p0) ?_
  show OGl _ _ _ _ s₁ (mkF m 0 #[.val (.int p0), .unset, .unset, .unset, .unset, .unset] [])
  refine OGl.go (fun t k => XS.iloadN X0.here hx rfl (hb hby at_0) rfl (own_ldc X0 hx hown (mvT hZ (hw _ (List.mem_of_getElem? (i := 0) rfl))) rfl (hb hby at_1) (XS.iand X0.here hx rfl (hb hby at_3) rfl (XS.istoreN X0.here hx rfl (hb hby at_4) rfl (l' := #[.val (.int p0), .val (.int (p0 &&& (16777215 : Int32))), .unset, .unset, .unset, .unset]) rfl (XS.iloadN X0.here hx rfl (hb hby at_5) rfl k))))) ?_
  show OGl _ _ _ _ s₁ (mkF m 6 #[.val (.int p0), .val (.int (p0 &&& (16777215 : Int32))), .unset, .unset, .unset, .unset] [(.int (p0 &&& (16777215 : Int32)))])
  obtain ⟨_, _, ⟨T1, L1, kk1, n1⟩, -, X1, ⟨Lc1, hQ1, l1, y1, z1⟩, st1⟩ := Jvm.LawKit.callS X0 hx (y := (⟨"com/example/tapwright/tapwright/sun/Sdm", "counterBytes", "(I)[B"⟩ : MethodName)) hown (mvT hZ (hw _ (List.mem_of_getElem? (i := 1) rfl))) (mvT hZ (hw _ (List.mem_of_getElem? (i := 2) rfl))) (mvT hZ (hw _ (List.mem_of_getElem? (i := 3) rfl))) (mvT hZ (hw _ (List.mem_of_getElem? (i := 4) rfl))) (by decide) (backOf (W := 0) (rm1 l Z a0 hw [] (p0 &&& (16777215 : Int32)) h0 n0 Z0 ) hZ (hw _ (List.mem_of_getElem? (i := 4) rfl)) (hw _ (List.mem_of_getElem? (i := 3) rfl)) (by decide) (by decide)) (g := (mkF m 6 #[.val (.int p0), .val (.int (p0 &&& (16777215 : Int32))), .unset, .unset, .unset, .unset] [(.int (p0 &&& (16777215 : Int32)))])) rfl (by rw [hml]; rfl) (argsL := [(.int (p0 &&& (16777215 : Int32)))]) (rest := []) (lenOf pd_0 rfl) rfl (by show 2 * 0 + _ ≤ _; exact Nat.le_of_eq rfl) (hb hby at_6) (fun _ _ => ⟨rfl, e0, (by decide : 0 + 1 ≤ _), (by decide : 0 + 3 ≤ _)⟩)
  dsimp only [Pt.U, Pt.locs, Pt.cells, Pt.slots] at X1 l1 y1 z1 st1 hQ1
  subst l1 y1 z1
  obtain ⟨b1_0, kb1_1, rfl, Nq1, K1, sb_b1_0, Fq1_0⟩ := hQ1
  have sz_b1_0 : h0.size ≤ b1_0 := Nat.le_trans (Keep.refl h0 []).1 sb_b1_0
  have g_b1_0 : n0 ≤ b1_0 := Nat.le_trans Z0 sz_b1_0
  have KK1 : Keep h0 T1.heap [] := (Keep.refl h0 []).trans K1 all0
  have N1 := Fr.app N0 Nq1
  refine OGl.go st1 ?_
  show OGl _ _ _ _ T1 (mkF m 9 #[.val (.int p0), .val (.int (p0 &&& (16777215 : Int32))), .unset, .unset, .unset, .unset] [(.ref b1_0)])
  obtain ⟨cl6, Ar6, -, Sz6, Nn6, -, -⟩ := id Fq1_0
  refine OGl.go (fun t k => XS.astoreN X1.here hx rfl (hb hby at_9) rfl rfl (l' := #[.val (.int p0), .val (.int (p0 &&& (16777215 : Int32))), .val (.ref b1_0), .unset, .unset, .unset]) rfl (XS.aloadN X1.here hx rfl (hb hby at_10) rfl rfl (XS.ifnullNo X1.here hx rfl (hb hby at_11) rfl (XS.aloadN X1.here hx rfl (hb hby at_14) rfl rfl (own_len X1 hx Ar6.1 (State.isArrayOf_alike hZ.alike Ar6.2.1) Sz6 Nn6 rfl rfl (hb hby at_15) (XS.iconst X1.here hx rfl (hb hby at_16) (XS.icmpYes X1.here hx rfl (pc0 := 17) (pc' := 22) rfl (hb hby at_17) rfl (teq (by decide : (3 : Int32) = (3 : Int32))).1 (by decide) (by decide) (XS.iloadN X1.here hx rfl (hb hby at_22) rfl k)))))))) ?_
  show OGl _ _ _ _ T1 (mkF m 23 #[.val (.int p0), .val (.int (p0 &&& (16777215 : Int32))), .val (.ref b1_0), .unset, .unset, .unset] [(.int (p0 &&& (16777215 : Int32)))])
  refine OGl.go (fun t k => XS.sipush X1.here hx rfl (hb hby at_23) (iremM X1 hx rfl (hb hby at_26) rfl (by decide) (XS.istoreN X1.here hx rfl (hb hby at_27) rfl (l' := #[.val (.int p0), .val (.int (p0 &&& (16777215 : Int32))), .val (.ref b1_0), .val (.int ((p0 &&& (16777215 : Int32)) % (256 : Int32))), .unset, .unset]) rfl (XS.iloadN X1.here hx rfl (hb hby at_28) rfl (XS.sipush X1.here hx rfl (hb hby at_29) (XS.idiv X1.here hx rfl (hb hby at_32) rfl (by decide) (XS.sipush X1.here hx rfl (hb hby at_33) (iremM X1 hx rfl (hb hby at_36) rfl (by decide) k)))))))) ?_
  show OGl _ _ _ _ T1 (mkF m 37 #[.val (.int p0), .val (.int (p0 &&& (16777215 : Int32))), .val (.ref b1_0), .val (.int ((p0 &&& (16777215 : Int32)) % (256 : Int32))), .unset, .unset] [(.int (((p0 &&& (16777215 : Int32)) / (256 : Int32)) % (256 : Int32)))])
  obtain ⟨cl7, Ar7, -, Sz7, -, Ha7, -⟩ := id Fq1_0
  have hin7 : ¬ ((0 : Int32) < 0 ∨ cl7.slots.size ≤ ((0 : Int32)).toNatClampNeg) := inb_of Sz7 ⟨by decide, by decide⟩
  refine OGl.go (fun t k => XS.istore X1.here hx rfl (hb hby at_37) rfl (l' := #[.val (.int p0), .val (.int (p0 &&& (16777215 : Int32))), .val (.ref b1_0), .val (.int ((p0 &&& (16777215 : Int32)) % (256 : Int32))), .val (.int (((p0 &&& (16777215 : Int32)) / (256 : Int32)) % (256 : Int32))), .unset]) rfl (XS.iloadN X1.here hx rfl (hb hby at_39) rfl (own_ldc X1 hx hown (mvT hZ (hw _ (List.mem_of_getElem? (i := 6) rfl))) rfl (hb hby at_40) (XS.idiv X1.here hx rfl (hb hby at_42) rfl (by decide) (XS.istore X1.here hx rfl (hb hby at_43) rfl (l' := #[.val (.int p0), .val (.int (p0 &&& (16777215 : Int32))), .val (.ref b1_0), .val (.int ((p0 &&& (16777215 : Int32)) % (256 : Int32))), .val (.int (((p0 &&& (16777215 : Int32)) / (256 : Int32)) % (256 : Int32))), .val (.int ((p0 &&& (16777215 : Int32)) / (65536 : Int32)))]) rfl (XS.aloadN X1.here hx rfl (hb hby at_45) rfl rfl (XS.iconst X1.here hx rfl (hb hby at_46) (own_baload X1 hx (j := (0 : Int32)) (v := (.int (nar .byte (((p0 &&& (16777215 : Int32))).toInt8.toInt32)))) Ar7.1 (State.isArrayOf_alike hZ.alike Ar7.2.1) Ar7.2.2 hin7 (Has.at Ha7 hin7 rfl) rfl rfl (hb hby at_47) k)))))))) ?_
  show OGl _ _ _ _ T1 (mkF m 48 #[.val (.int p0), .val (.int (p0 &&& (16777215 : Int32))), .val (.ref b1_0), .val (.int ((p0 &&& (16777215 : Int32)) % (256 : Int32))), .val (.int (((p0 &&& (16777215 : Int32)) / (256 : Int32)) % (256 : Int32))), .val (.int ((p0 &&& (16777215 : Int32)) / (65536 : Int32)))] [(.int (nar .byte (((p0 &&& (16777215 : Int32))).toInt8.toInt32)))])
  refine OGl.go (fun t k => XS.sipush X1.here hx rfl (hb hby at_48) (XS.iand X1.here hx rfl (hb hby at_51) rfl (XS.iloadN X1.here hx rfl (hb hby at_52) rfl k))) ?_
  show OGl _ _ _ _ T1 (mkF m 53 #[.val (.int p0), .val (.int (p0 &&& (16777215 : Int32))), .val (.ref b1_0), .val (.int ((p0 &&& (16777215 : Int32)) % (256 : Int32))), .val (.int (((p0 &&& (16777215 : Int32)) / (256 : Int32)) % (256 : Int32))), .val (.int ((p0 &&& (16777215 : Int32)) / (65536 : Int32)))] [(.int ((p0 &&& (16777215 : Int32)) % (256 : Int32))), (.int (e0_0 p0))])
  by_cases hc8 : (e0_0 p0) = ((p0 &&& (16777215 : Int32)) % (256 : Int32))
  · obtain ⟨cl9, Ar9, -, Sz9, -, Ha9, -⟩ := id Fq1_0
    have hin9 : ¬ ((1 : Int32) < 0 ∨ cl9.slots.size ≤ ((1 : Int32)).toNatClampNeg) := inb_of Sz9 ⟨by decide, by decide⟩
    refine OGl.go (fun t k => XS.icmpNo X1.here hx rfl (hb hby at_53) rfl (teq hc8).2 (XS.aloadN X1.here hx rfl (hb hby at_56) rfl rfl (XS.iconst X1.here hx rfl (hb hby at_57) (own_baload X1 hx (j := (1 : Int32)) (v := (.int (nar .byte (e1_0 (p0 &&& (16777215 : Int32)))))) Ar9.1 (State.isArrayOf_alike hZ.alike Ar9.2.1) Ar9.2.2 hin9 (Has.at Ha9 hin9 rfl) rfl rfl (hb hby at_58) (XS.sipush X1.here hx rfl (hb hby at_59) (XS.iand X1.here hx rfl (hb hby at_62) rfl (XS.iload X1.here hx rfl (hb hby at_63) rfl k))))))) ?_
    show OGl _ _ _ _ T1 (mkF m 65 #[.val (.int p0), .val (.int (p0 &&& (16777215 : Int32))), .val (.ref b1_0), .val (.int ((p0 &&& (16777215 : Int32)) % (256 : Int32))), .val (.int (((p0 &&& (16777215 : Int32)) / (256 : Int32)) % (256 : Int32))), .val (.int ((p0 &&& (16777215 : Int32)) / (65536 : Int32)))] [(.int (((p0 &&& (16777215 : Int32)) / (256 : Int32)) % (256 : Int32))), (.int ((nar .byte (e1_0 (p0 &&& (16777215 : Int32)))) &&& (255 : Int32)))])
    by_cases hc10 : ((nar .byte (e1_0 (p0 &&& (16777215 : Int32)))) &&& (255 : Int32)) = (((p0 &&& (16777215 : Int32)) / (256 : Int32)) % (256 : Int32))
    · obtain ⟨cl11, Ar11, -, Sz11, -, Ha11, -⟩ := id Fq1_0
      have hin11 : ¬ ((2 : Int32) < 0 ∨ cl11.slots.size ≤ ((2 : Int32)).toNatClampNeg) := inb_of Sz11 ⟨by decide, by decide⟩
      refine OGl.go (fun t k => XS.icmpNo X1.here hx rfl (hb hby at_65) rfl (teq hc10).2 (XS.aloadN X1.here hx rfl (hb hby at_68) rfl rfl (XS.iconst X1.here hx rfl (hb hby at_69) (own_baload X1 hx (j := (2 : Int32)) (v := (.int (nar .byte (e1_1 (p0 &&& (16777215 : Int32)))))) Ar11.1 (State.isArrayOf_alike hZ.alike Ar11.2.1) Ar11.2.2 hin11 (Has.at Ha11 hin11 rfl) rfl rfl (hb hby at_70) (XS.sipush X1.here hx rfl (hb hby at_71) (XS.iand X1.here hx rfl (hb hby at_74) rfl (XS.iload X1.here hx rfl (hb hby at_75) rfl k))))))) ?_
      show OGl _ _ _ _ T1 (mkF m 77 #[.val (.int p0), .val (.int (p0 &&& (16777215 : Int32))), .val (.ref b1_0), .val (.int ((p0 &&& (16777215 : Int32)) % (256 : Int32))), .val (.int (((p0 &&& (16777215 : Int32)) / (256 : Int32)) % (256 : Int32))), .val (.int ((p0 &&& (16777215 : Int32)) / (65536 : Int32)))] [(.int ((p0 &&& (16777215 : Int32)) / (65536 : Int32))), (.int ((nar .byte (e1_1 (p0 &&& (16777215 : Int32)))) &&& (255 : Int32)))])
      by_cases hc12 : ((nar .byte (e1_1 (p0 &&& (16777215 : Int32)))) &&& (255 : Int32)) = ((p0 &&& (16777215 : Int32)) / (65536 : Int32))
      · refine OGl.go (fun t k => XS.icmpNo X1.here hx rfl (hb hby at_77) rfl (teq hc12).2 (XS.iconst X1.here hx rfl (hb hby at_80) (XS.goto X1.here hx rfl (pc0 := 81) (pc' := 85) rfl (hb hby at_81) (by decide) (by decide) k))) ?_
        show OGl _ _ _ _ T1 (mkF m 85 #[.val (.int p0), .val (.int (p0 &&& (16777215 : Int32))), .val (.ref b1_0), .val (.int ((p0 &&& (16777215 : Int32)) % (256 : Int32))), .val (.int (((p0 &&& (16777215 : Int32)) / (256 : Int32)) % (256 : Int32))), .val (.int ((p0 &&& (16777215 : Int32)) / (65536 : Int32)))] [(.int (1 : Int32))])
        obtain ⟨fs, hr, hrun, hended, hW, hsame⟩ := X1.leave (v := some (.int (1 : Int32))) (fun h => by rw [Bd.returns] at h; cases h)
        refine ⟨_, _, retN X1 hx (t := .boolean) Bd.returns (by simp) (hb hby at_85) hr, hrun, hended, _, _, rfl, ?_, ⟨_, rfl⟩, hW, hsame.mono (by decide) (by decide)⟩
        have hv13 : (t0_0 p0) = (1 : Int32) := by unfold t0_0; rw [if_pos hc8, if_pos hc10, if_pos hc12]
        show Q0 Z p0 h0 n0 _ T1.heap _
        exact ⟨(by rw [hv13]), N1⟩
      · refine OGl.go (fun t k => XS.icmpYes X1.here hx rfl (pc0 := 77) (pc' := 84) rfl (hb hby at_77) rfl (feq hc12).2 (by decide) (by decide) (XS.iconst X1.here hx rfl (hb hby at_84) k)) ?_
        show OGl _ _ _ _ T1 (mkF m 85 #[.val (.int p0), .val (.int (p0 &&& (16777215 : Int32))), .val (.ref b1_0), .val (.int ((p0 &&& (16777215 : Int32)) % (256 : Int32))), .val (.int (((p0 &&& (16777215 : Int32)) / (256 : Int32)) % (256 : Int32))), .val (.int ((p0 &&& (16777215 : Int32)) / (65536 : Int32)))] [(.int (0 : Int32))])
        obtain ⟨fs, hr, hrun, hended, hW, hsame⟩ := X1.leave (v := some (.int (0 : Int32))) (fun h => by rw [Bd.returns] at h; cases h)
        refine ⟨_, _, retN X1 hx (t := .boolean) Bd.returns (by simp) (hb hby at_85) hr, hrun, hended, _, _, rfl, ?_, ⟨_, rfl⟩, hW, hsame.mono (by decide) (by decide)⟩
        have hv14 : (t0_0 p0) = (0 : Int32) := by unfold t0_0; rw [if_pos hc8, if_pos hc10, if_neg hc12]
        show Q0 Z p0 h0 n0 _ T1.heap _
        exact ⟨(by rw [hv14]), N1⟩
    · refine OGl.go (fun t k => XS.icmpYes X1.here hx rfl (pc0 := 65) (pc' := 84) rfl (hb hby at_65) rfl (feq hc10).2 (by decide) (by decide) (XS.iconst X1.here hx rfl (hb hby at_84) k)) ?_
      show OGl _ _ _ _ T1 (mkF m 85 #[.val (.int p0), .val (.int (p0 &&& (16777215 : Int32))), .val (.ref b1_0), .val (.int ((p0 &&& (16777215 : Int32)) % (256 : Int32))), .val (.int (((p0 &&& (16777215 : Int32)) / (256 : Int32)) % (256 : Int32))), .val (.int ((p0 &&& (16777215 : Int32)) / (65536 : Int32)))] [(.int (0 : Int32))])
      obtain ⟨fs, hr, hrun, hended, hW, hsame⟩ := X1.leave (v := some (.int (0 : Int32))) (fun h => by rw [Bd.returns] at h; cases h)
      refine ⟨_, _, retN X1 hx (t := .boolean) Bd.returns (by simp) (hb hby at_85) hr, hrun, hended, _, _, rfl, ?_, ⟨_, rfl⟩, hW, hsame.mono (by decide) (by decide)⟩
      have hv15 : (t0_0 p0) = (0 : Int32) := by unfold t0_0; rw [if_pos hc8, if_neg hc10]
      show Q0 Z p0 h0 n0 _ T1.heap _
      exact ⟨(by rw [hv15]), N1⟩
  · refine OGl.go (fun t k => XS.icmpYes X1.here hx rfl (pc0 := 53) (pc' := 84) rfl (hb hby at_53) rfl (feq hc8).2 (by decide) (by decide) (XS.iconst X1.here hx rfl (hb hby at_84) k)) ?_
    show OGl _ _ _ _ T1 (mkF m 85 #[.val (.int p0), .val (.int (p0 &&& (16777215 : Int32))), .val (.ref b1_0), .val (.int ((p0 &&& (16777215 : Int32)) % (256 : Int32))), .val (.int (((p0 &&& (16777215 : Int32)) / (256 : Int32)) % (256 : Int32))), .val (.int ((p0 &&& (16777215 : Int32)) / (65536 : Int32)))] [(.int (0 : Int32))])
    obtain ⟨fs, hr, hrun, hended, hW, hsame⟩ := X1.leave (v := some (.int (0 : Int32))) (fun h => by rw [Bd.returns] at h; cases h)
    refine ⟨_, _, retN X1 hx (t := .boolean) Bd.returns (by simp) (hb hby at_85) hr, hrun, hended, _, _, rfl, ?_, ⟨_, rfl⟩, hW, hsame.mono (by decide) (by decide)⟩
    have hv16 : (t0_0 p0) = (0 : Int32) := by unfold t0_0; rw [if_neg hc8]
    show Q0 Z p0 h0 n0 _ T1.heap _
    exact ⟨(by rw [hv16]), N1⟩
theorem own_byte (x : Int32) : ((nar .byte (x.toInt8.toInt32)) &&& (255 : Int32)).toInt = x.toInt % 256 := by
  have h1 := c_mask (nar .byte (x.toInt8.toInt32)) 255 8 (by decide) (by decide)
  have h2 := c_i2b x
  have h3 : (nar .byte (x.toInt8.toInt32)) = (x.toInt8.toInt32).toInt8.toInt32 := rfl
  have h4 := c_i2b (x.toInt8.toInt32)
  rw [h3] at h1 ⊢
  omega
theorem own_law (a : Int32) : t0_0 a = 1 := by
  have h0 := c_mask a 16777215 24 (by decide) (by decide)
  unfold t0_0 e0_0 e1_0 e1_1
  generalize (a &&& 16777215) = c at *
  have b0 := own_byte c
  have b1 := own_byte ((c.toUInt32 >>> ((8 : Int32) &&& 31).toUInt32).toInt32)
  have b2 := own_byte ((c.toUInt32 >>> ((16 : Int32) &&& 31).toUInt32).toInt32)
  have s1 := c_iushr c 8 8 (by decide) (by decide)
  have s2 := c_iushr c 16 16 (by decide) (by decide)
  have d0 := (c_irem c 256 256 (by decide)).1
  have d1 := (c_idiv c 256 256 (by decide) (by decide)).1
  have d2 := (c_irem (c / 256) 256 256 (by decide)).1
  have d3 := (c_idiv c 65536 65536 (by decide) (by decide)).1
  rw [if_pos (Int32.toInt_inj.mp (by omega)), if_pos (Int32.toInt_inj.mp (by omega)), if_pos (Int32.toInt_inj.mp (by omega))]
set_option maxRecDepth 65536 in
set_option maxHeartbeats 40000000 in
theorem comes_1 {Post : Tables → Env → Array Value → State → Outcome → State → Prop} (hpost : ∀ tb e args s v u, (limb_1_1.after args s (.returned v) u = true ∧ limb_1_2.after args s (.returned v) u = true ∧ True) → FrameEnd s (.returned v) u (Jvm.fieldLocs frame_1_writes args s ++ Jvm.arrayLocs frame_1_arrays args s ++ Jvm.staticLocs frame_1_statics s) 16 128 → Post tb e args s (.returned v) u) :
    ArmFor flags0 classFile x code maxLocals ret World_1 tables_1 room_1 Calls_1 rest_1 Pre_1 Post := by
  intro l hfl _ _ p e ha hc hk s m args below hf hA hF happ hP
  obtain ⟨hcalls, hrest, hpre⟩ := hP
  obtain ⟨-, -, -, hnamed, -, -, -, hat⟩ := (Spec.applies_iff hf).mp happ
  obtain ⟨hg, hn⟩ := and_e (Cond.before_iff.mp (show (Jvm.Cond.and given_1 narrow_1).before args s = true from hpre))
  obtain ⟨hz, hy0⟩ := and_e hg
  obtain ⟨w0, rfl⟩ : ∃ w0 : Value, args = #[w0] := by
    have hs : args.size = 1 := by simpa [Cond.value, given_1] using hz
    obtain ⟨L⟩ := args
    match L, hs with
    | [w0], _ => exact ⟨w0, rfl⟩
  have hw := fun d (hd : d ∈ tables_1) => atoms_spec (ws := Jvm.Cond.code x code maxLocals ret :: tables_1) hat d (List.mem_cons_of_mem _ hd)
  obtain ⟨i0, ev0⟩ := is_v hy0
  obtain rfl : w0 = (.int i0) := Option.some.inj ev0
  obtain ⟨n, o, h1, h2, h3, _, L, rfl, ⟨hv, N⟩, hq⟩ := rm0 l s _ hw tables_1 i0  s.heap s.heap.size (Nat.le_refl _)  p e ha hc hk s m _ below hf ((Spec.applies_iff_loose hf).mp happ).1 ⟨rfl, State.Warmed39.refl s, rfl⟩ trivial
  rw [own_law] at hv
  subst hv
  refine ⟨n, _, h1, h2, h3, hpost _ _ _ _ _ _ ⟨Cond.after_iff.mpr rfl, Cond.after_iff.mpr (eq_i res_at (Term.int_eval (1)) rfl), trivial⟩ ⟨hq.1, hq.2.1, (hq.2.2.sift fun y hy => Or.inr (N y hy)).mono (by decide) (by decide)⟩⟩
theorem main_1_1 : Claimed_1_1 := comes_1 fun _ _ _ _ _ _ h hF => ⟨h.1, hF⟩
theorem main_1_2 : Claimed_1_2 := comes_1 fun _ _ _ _ _ _ h hF => ⟨h.2.1, hF⟩
end Jvm.Pilot.@@N@@
namespace Jvm.Pilot.@@N@@
open Jvm Jvm.ClassFile Sem Op Lib Jvm.Free Jvm.Stand Jvm.Pilot.@@N@@.Jvm.D
/-! MADE BY PROGRAM (witnessworld.py) out of the Statement's table words and the real class files: 9 classes; the members and pool entries that the words name. The judged class is class 1, her method 1. -/
namespace start1
open Jvm.ClassFile
def u (s : String) : CpInfo := .utf8 (stringToUtf16 s)
/-- a pool by its gaps: so many unusable entries, then the entry; so many at the end -/
def gap : Nat → List CpInfo → List CpInfo
  | 0, r => r
  | n + 1, r => .unusable :: gap n r
def poolList (es : List (Nat × CpInfo)) (last : Nat) : List CpInfo := es.foldr (fun e r => gap e.1 (e.2 :: r)) (gap last [])
def pool (es : List (Nat × CpInfo)) (last : Nat) : Array CpInfo := ⟨poolList es last⟩
def fileOf (pool : Array CpInfo) (this : Nat) (attrs : Array Attribute := #[]) (ms : Array MethodInfo := #[]) (fl : Nat := 33) (sup : Nat := 0) (ifs : Array Nat := #[]) (fds : Array FieldInfo := #[]) : ClassFile where
  minorVersion := 0
  majorVersion := 65
  constantPool := pool
  accessFlags := fl
  thisClass := this
  superClass := sup
  interfaces := ifs
  fields := fds
  methods := ms
  attributes := attrs
def plain (name : String) (sup : Option ClassId) : Class where
  name := name
  kind := .ordinary
  loader := none
  accessFlags := 33
  super := sup
  interfaces := #[]
  cf := none
  fields := #[]
  methods := #[]
  instanceTypes := #[]
  staticTypes := #[]
  resolved := #[]
  callSites := []
  init := .initialized
  statics := none
  mirror := none

def pool0 : Array CpInfo := pool [(5, u "<init>"), (0, u "()V"), (1, .class_ 10), (1, u "java/lang/Object")] 113

def k0m0 : Method := { name := "<init>", desc := "()V", sig := { parameters := [], returnType := none }, accessFlags := 1, code := none }
/-- java/lang/Object -/
def k0 : Class := { plain "java/lang/Object" none with
  accessFlags := 33
  interfaces := #[]
  cf := some (fileOf pool0 8 #[] #[{ accessFlags := 1, nameIndex := 5, descriptorIndex := 6, attributes := #[] }] 33 0 #[] #[])
  fields := #[]
  methods := #[k0m0]
  instanceTypes := #[]
  staticTypes := #[]
  resolved := Array.replicate 124 none
  statics := none }

def pool1 : Array CpInfo := pool [(2, .class_ 4), (1, u "java/lang/Object"), (0, u "<init>"), (0, u "()V"), (0, .integer 16777215), (0, .methodref 9 10), (0, .class_ 11), (0, .nameAndType 12 13), (0, u "com/example/tapwright/tapwright/sun/Sdm"), (0, u "counterBytes"), (0, u "(I)[B"), (0, .integer 65536), (0, .class_ 16), (0, u "com/example/tapwright/tapwright/sun/SdmCounterBytesPinLaw"), (2, u "law"), (0, u "(I)Z")] 5

def k1m0 : Method := { name := "<init>", desc := "()V", sig := { parameters := [], returnType := none }, accessFlags := 2, code := none }
def k1c1 : Code := { maxStack := 2, maxLocals := 6, code := code, exceptionTable := #[], attributes := #[] }
def k1m1 : Method := { name := "law", desc := "(I)Z", sig := { parameters := [.int], returnType := some .boolean }, accessFlags := 9, code := some k1c1 }
/-- com/example/tapwright/tapwright/sun/SdmCounterBytesPinLaw -/
def k1 : Class := { plain "com/example/tapwright/tapwright/sun/SdmCounterBytesPinLaw" (some 0) with
  accessFlags := 49
  interfaces := #[]
  cf := some (fileOf pool1 15 #[] #[{ accessFlags := 2, nameIndex := 5, descriptorIndex := 6, attributes := #[] }, { accessFlags := 9, nameIndex := 19, descriptorIndex := 20, attributes := #[] }] 49 2 #[] #[])
  fields := #[]
  methods := #[k1m0, k1m1]
  instanceTypes := #[]
  staticTypes := #[]
  resolved := Array.replicate 26 none
  statics := none }

def pool2 : Array CpInfo := pool [(1, .class_ 2), (0, u "com/example/tapwright/tapwright/sun/Sdm"), (1, .class_ 6), (1, u "java/lang/Object"), (0, u "<init>"), (0, u "()V"), (28, u "SV2_PREFIX"), (0, u "[B"), (12, u "SV1_PREFIX"), (0, u "PICC_DATA_TAG"), (0, u "B"), (2, u "UID_START"), (0, u "I"), (1, u "COUNTER_START"), (1, u "COUNTER_END"), (1, u "UID_SIZE"), (9, u "counterBytes"), (0, u "(I)[B")] 15

def k2m0 : Method := { name := "<init>", desc := "()V", sig := { parameters := [], returnType := none }, accessFlags := 2, code := none }
def k2c1 : Code := { maxStack := 5, maxLocals := 1, code := prog_61_method_5_code, exceptionTable := #[], attributes := #[] }
def k2m1 : Method := { name := "counterBytes", desc := "(I)[B", sig := { parameters := [.int], returnType := some (.array .byte) }, accessFlags := 8, code := some k2c1 }
/-- com/example/tapwright/tapwright/sun/Sdm -/
def k2 : Class := { plain "com/example/tapwright/tapwright/sun/Sdm" (some 0) with
  accessFlags := 48
  interfaces := #[]
  cf := some (fileOf pool2 1 #[] #[{ accessFlags := 2, nameIndex := 7, descriptorIndex := 8, attributes := #[] }, { accessFlags := 8, nameIndex := 73, descriptorIndex := 74, attributes := #[] }] 48 4 #[] #[{ accessFlags := 26, nameIndex := 52, descriptorIndex := 53, attributes := #[] }, { accessFlags := 26, nameIndex := 51, descriptorIndex := 38, attributes := #[] }, { accessFlags := 26, nameIndex := 37, descriptorIndex := 38, attributes := #[] }, { accessFlags := 26, nameIndex := 56, descriptorIndex := 57, attributes := #[] }, { accessFlags := 26, nameIndex := 59, descriptorIndex := 57, attributes := #[] }, { accessFlags := 26, nameIndex := 61, descriptorIndex := 57, attributes := #[] }, { accessFlags := 24, nameIndex := 63, descriptorIndex := 57, attributes := #[] }])
  fields := #[{ name := "PICC_DATA_TAG", type := .byte, accessFlags := 26, slot := 0, constantValue := 0 }, { name := "SV1_PREFIX", type := (.array .byte), accessFlags := 26, slot := 1, constantValue := 0 }, { name := "SV2_PREFIX", type := (.array .byte), accessFlags := 26, slot := 2, constantValue := 0 }, { name := "UID_START", type := .int, accessFlags := 26, slot := 3, constantValue := 0 }, { name := "COUNTER_START", type := .int, accessFlags := 26, slot := 4, constantValue := 0 }, { name := "COUNTER_END", type := .int, accessFlags := 26, slot := 5, constantValue := 0 }, { name := "UID_SIZE", type := .int, accessFlags := 24, slot := 6, constantValue := 0 }]
  methods := #[k2m0, k2m1]
  instanceTypes := #[]
  staticTypes := #[.byte, (.array .byte), (.array .byte), .int, .int, .int, .int]
  resolved := Array.replicate 90 none
  statics := none }

def pool3 : Array CpInfo := pool [(1, u "java/lang/Cloneable"), (0, .class_ 1), (0, u "java/lang/Object"), (0, .class_ 3)] 3

/-- java/lang/Cloneable -/
def k3 : Class := { plain "java/lang/Cloneable" (some 0) with
  accessFlags := 1537
  interfaces := #[]
  cf := some (fileOf pool3 2 #[] #[] 1537 4 #[] #[])
  fields := #[]
  methods := #[]
  instanceTypes := #[]
  staticTypes := #[]
  resolved := Array.replicate 8 none
  statics := none }

def pool4 : Array CpInfo := pool [(1, u "java/io/Serializable"), (0, .class_ 1), (0, u "java/lang/Object"), (0, .class_ 3)] 3

/-- java/io/Serializable -/
def k4 : Class := { plain "java/io/Serializable" (some 0) with
  accessFlags := 1537
  interfaces := #[]
  cf := some (fileOf pool4 2 #[] #[] 1537 4 #[] #[])
  fields := #[]
  methods := #[]
  instanceTypes := #[]
  staticTypes := #[]
  resolved := Array.replicate 8 none
  statics := none }

/-- the primitive byte -/
def k5 : Class := { plain "byte" none with kind := .primitive 'B', accessFlags := 0x411 }
/-- [B -/
def k6 : Class := { plain "[B" (some 0) with kind := .array 5 .byte, interfaces := #[3, 4], accessFlags := 1041 }

/-- the primitive int -/
def k7 : Class := { plain "int" none with kind := .primitive 'I', accessFlags := 0x411 }
/-- [I -/
def k8 : Class := { plain "[I" (some 0) with kind := .array 7 .int, interfaces := #[3, 4], accessFlags := 1041 }

def heap : Heap := #[]
def classes : Array Class := #[k0, k1, k2, k3, k4, k5, k6, k7, k8]
def interned : List (Array UInt16 × Addr) := []
def slotsUsed : Nat := 0
def theMethod : MethodId := ⟨1, 1⟩
def args0 : Array Value := #[.int 5]
def aboutOver (below : List Frame) : State where
  vm := { classes := classes, interned := interned.toArray }
  heap := heap
  slotsUsed := slotsUsed
  threads := #[{ frames := .invoking theMethod args0 :: below }]
def below0 : List Frame := [.native { method := ⟨0, 0⟩, args := #[] }]
def about1 : State := aboutOver below0
def p0 : Program := .bare "" "" ""
def e0 : Env := launch0.env 0 0 0
theorem w_frames : about1.frames = Frame.invoking theMethod args0 :: below0 := rfl
set_option maxRecDepth 65536 in
theorem w_args : argsFit about1.vm theMethod args0 = true := by decide +kernel
set_option maxRecDepth 65536 in
theorem w_heap : heapFits about1 = true := by decide +kernel
set_option maxRecDepth 65536 in
theorem w_runnable : about1.curStatus? = some .runnable := by decide +kernel
set_option maxRecDepth 65536 in
theorem w_alone : about1.alone = true := by decide +kernel
set_option maxRecDepth 65536 in
theorem w_named : about1.methodNamed? x = some theMethod := by decide +kernel
set_option maxRecDepth 65536 in
theorem w_hears : about1.hears theMethod below0 = true := by decide +kernel
set_option maxRecDepth 65536 in
theorem w_ripe : about1.ripe theMethod args0 below0 = true := by decide +kernel
theorem w_running : about1.status = .running := rfl
set_option maxRecDepth 65536 in
theorem w_room : about1.hasRoom e0.platform room_1 = true :=
  launch0.hasRoom_least _ room_1 (by decide +kernel) (by decide +kernel) (by decide +kernel) (by decide +kernel) (by decide +kernel) (by decide +kernel)
theorem allAtoms_all (ts : List Jvm.Cond) (a : Array Jvm.Value) (st : Jvm.State) : (allAtoms ts).before a st = ts.all (fun c => c.before a st) := by
  induction ts with
  | nil => rfl
  | cons c t ih =>
    show (Jvm.Cond.and c (allAtoms t)).before a st = _
    rw [Jvm.Cond.before_and, ih, List.all_cons]
def words1 : List Jvm.Cond := Jvm.Cond.code x code maxLocals ret :: tables_1
/-- a 'code' word, met by the world's own term for the bytes: nothing is compared byte by byte -/
theorem code_word {y : MethodName} {bytes : ByteArray} {mx : Nat} {rt : Option FieldType} {a : Array Value} {s : State} {m : MethodId} {meth : Method} {c : Code} (h1 : s.methodNamed? y = some m) (h2 : s.vm.method? m = some meth) (h3 : meth.code = some c) (h4 : c.code = bytes)
    (h5 : (c.maxLocals == mx && c.exceptionTable.isEmpty && decide (c.maxStack ≤ mostOperands) && decide (meth.sig.returnType = rt) && !meth.locks && decide (parseMethodDescriptor y.desc = some meth.sig)) = true) : (Jvm.Cond.code y bytes mx rt).before a s = true := by
  simp only [Bool.and_eq_true, beq_iff_eq, Bool.not_eq_true', decide_eq_true_eq] at h5
  obtain ⟨⟨⟨⟨⟨g1, g2⟩, g3⟩, g4⟩, g5⟩, g6⟩ := h5
  simp [Cond.before, Cond.holds, Cond.value, h1, h2, h3, h4, g1, g2, g3, g4, g5, g6]
def isCode : Jvm.Cond → Bool
  | .code _ _ _ _ => true
  | _ => false
theorem all_split {L : List Jvm.Cond} {P : Jvm.Cond → Bool} (h1 : L.all (fun c => isCode c || P c) = true) (h2 : ∀ c ∈ L.filter isCode, P c = true) : L.all P = true := by
  refine List.all_eq_true.mpr fun c hc => ?_
  have h := List.all_eq_true.mp h1 c hc
  rcases Bool.eq_false_or_eq_true (isCode c) with hi | hi
  · exact h2 c (List.mem_filter.mpr ⟨hc, hi⟩)
  · simpa [hi] using h
set_option maxRecDepth 65536 in
theorem w_c0 : (Jvm.Cond.code x code maxLocals ret).before args0 about1 = true := code_word (m := ⟨1, 1⟩) (meth := k1m1) (c := k1c1) (by decide +kernel) rfl rfl rfl (by decide +kernel)
set_option maxRecDepth 65536 in
theorem w_c1 : (Jvm.Cond.code ({ cls := "com/example/tapwright/tapwright/sun/Sdm", name := "counterBytes", desc := "(I)[B" } : Jvm.MethodName) prog_61_method_5_code (1 : Nat) (Option.some (Jvm.ClassFile.FieldType.array Jvm.ClassFile.FieldType.byte))).before args0 about1 = true := code_word (m := ⟨2, 1⟩) (meth := k2m1) (c := k2c1) (by decide +kernel) rfl rfl rfl (by decide +kernel)
def codes1 : List Jvm.Cond := [Jvm.Cond.code x code maxLocals ret, Jvm.Cond.code ({ cls := "com/example/tapwright/tapwright/sun/Sdm", name := "counterBytes", desc := "(I)[B" } : Jvm.MethodName) prog_61_method_5_code (1 : Nat) (Option.some (Jvm.ClassFile.FieldType.array Jvm.ClassFile.FieldType.byte))]
set_option maxRecDepth 65536 in
theorem codes_eq : words1.filter isCode = codes1 := rfl
theorem w_codes : ∀ c ∈ words1.filter isCode, c.before args0 about1 = true := by
  rw [codes_eq]
  intro c hc
  simp only [codes1, List.mem_cons, List.not_mem_nil, or_false] at hc
  rcases hc with rfl | rfl
  · exact w_c0
  · exact w_c1
set_option maxRecDepth 65536 in
theorem w_t1 : words1.all (fun c => isCode c || c.before args0 about1) = true := by decide +kernel
theorem w_tables : (allAtoms (Jvm.Cond.code x code maxLocals ret :: tables_1)).before args0 about1 = true := by
  rw [allAtoms_all]
  show words1.all (fun c => c.before args0 about1) = true
  refine all_split ?_ w_codes
  rw [w_t1]
set_option maxRecDepth 65536 in
theorem w_case : (Jvm.Cond.and given_1 narrow_1).before args0 about1 = true := by decide +kernel
theorem w_applies : (headSpec (Jvm.Cond.code x code maxLocals ret :: tables_1) room_1).applies x e0.platform about1 = true :=
  (Spec.applies_iff w_frames).mpr ⟨w_running, w_runnable, w_alone, w_named, w_hears, w_ripe, w_room, w_tables⟩
theorem atStart : AtStart classFile x code maxLocals ret World_1 tables_1 room_1 Calls_1 rest_1 Pre_1 launch0 p0 e0 about1 theMethod args0 below0 :=
  ⟨lists_1, trivial, launch0.admits_env _ _ _, launch0.least_env, fairChoices_fair.cas, fairChoices_fair.clock, w_frames, w_args, w_heap, w_applies, trivial, trivial, w_case⟩
end start1
theorem witness_1 : WitnessClaimed_1 := ⟨start1.p0, start1.e0, start1.about1, start1.theMethod, start1.args0, start1.below0, start1.atStart⟩
end Jvm.Pilot.@@N@@
