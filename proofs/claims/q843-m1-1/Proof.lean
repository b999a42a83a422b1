import JvmDerived
import JvmDerived.Pilot.@@N@@Statement
import JvmDerived.Pilot.@@N@@Code
set_option linter.unusedVariables false
set_option linter.unusedSimpArgs false
namespace Jvm.RoadKit
open Sem ClassFile Op Lib Jvm.Stand Jvm.Free Jvm.LawKit
section New
variable {p : Program} {l : Launch} {e : Env} {R : Room} {s : State} {m : MethodId} {args : Array Value} {below : List Frame} {meth : Method} {c : Code} {T : State} {locs : List Loc} {cells slots : Nat}
theorem retI (X : Stand p l e R s m args below meth c T locs cells slots) (hx : p.tables.exec = Jvm.exec) {pc : Nat} {Ls : Array Slot} {z : Int32} {rest : List Value} (hret : meth.sig.returnType = some .int) (hd : decode c.code pc = .ok (.ireturn, 1)) {fs : List Frame}
    (hl : ∀ (f : JFrame) (acts : List Action), f.method = m → f.locked = none → f.entered = [] → (doReturn e (T.setTop f) acts (some (.int z))).1 = T.setFrames fs) : Steps p.tables e below (T.setTop (mkF m pc Ls (.int z :: rest))) (T.setFrames fs) := by
  have hm' : T.vm.method? m = some meth := X.method'
  have hn : narrow .int (.int z) = .int z := rfl
  show Steps p.tables e below (T.setTop { method := m, pc := pc, locals := Ls, stack := _ :: rest, locked := none }) _
  jvm_step X.here [X.here.top, hx, hd, hm', hret, hn]
  first | (intro acts; rw [hl _ acts rfl rfl rfl]) | rw [hl _ _ rfl rfl rfl]
  exact Steps.refl _
theorem own_ldc {g : JFrame} {target : State} (X : Stand p l e R s m args below meth c T locs cells slots) (hx : p.tables.exec = Jvm.exec) {own : String} {index : Nat} {v : Int32} (hown : s.vm.findClass own = some m.cls) (w : (Cond.constant own index v).before args s = true) (hg : g.method = m) (hd : decode c.code g.pc = .ok (.ldc index, 2))
    (hr : Steps p.tables e below (T.setTop { g with pc := g.pc + 2, stack := .int v :: g.stack }) target) : Steps p.tables e below (T.setTop g) target := X.ldcInt hx hown w hg hd target hr
theorem own_ldc2 {g : JFrame} {target : State} (X : Stand p l e R s m args below meth c T locs cells slots) (hx : p.tables.exec = Jvm.exec) {own : String} {index : Nat} {v : Int64} (hown : s.vm.findClass own = some m.cls) (w : (Cond.constantLong own index v).before args s = true) (hg : g.method = m) (hd : decode c.code g.pc = .ok (.ldc2_w index, 3))
    (hr : Steps p.tables e below (T.setTop { g with pc := g.pc + 3, stack := .long v :: g.stack }) target) : Steps p.tables e below (T.setTop g) target := X.ldc2Long hx hown w hg hd target hr
theorem own_len {g : JFrame} {target : State} (X : Stand p l e R s m args below meth c T locs cells slots) (hx : p.tables.exec = Jvm.exec) {a : Addr} {cell : Cell} {ty : FieldType} {z : Int32} (hcell : T.heap[a]? = some cell) (harr : s.isArrayOf cell ty) (hz : cell.slots.size = z.toNatClampNeg) (hn : ¬ z < 0) (hg : g.method = m) {rest : List Value} (hs : g.stack = .ref a :: rest) (hd : decode c.code g.pc = .ok (.arraylength, 1))
    (hr : Steps p.tables e below (T.setTop { g with pc := g.pc + 1, stack := .int z :: rest }) target) : Steps p.tables e below (T.setTop g) target := X.arraylength hx hcell harr hg hs hd target (by rw [len_of hz hn]; exact hr)
theorem own_iaload {g : JFrame} {target : State} (X : Stand p l e R s m args below meth c T locs cells slots) (hx : p.tables.exec = Jvm.exec) {a : Addr} {cell : Cell} {j : Int32} {v : Value} (hcell : T.heap[a]? = some cell) (harr : s.isArrayOf cell .int) (hk : cell.vm ≠ .unknown) (hin : ¬ (j < 0 ∨ cell.slots.size ≤ j.toNatClampNeg)) (hv : cell.slots[j.toNatClampNeg]? = some v) (hg : g.method = m) {rest : List Value} (hs : g.stack = .int j :: .ref a :: rest) (hd : decode c.code g.pc = .ok (.iaload, 1))
    (hr : Steps p.tables e below (T.setTop { g with pc := g.pc + 1, stack := v :: rest }) target) : Steps p.tables e below (T.setTop g) target := X.iaload hx hcell harr hk hin hv hg hs hd target hr
theorem own_laload {g : JFrame} {target : State} (X : Stand p l e R s m args below meth c T locs cells slots) (hx : p.tables.exec = Jvm.exec) {a : Addr} {cell : Cell} {j : Int32} {v : Value} (hcell : T.heap[a]? = some cell) (harr : s.isArrayOf cell .long) (hk : cell.vm ≠ .unknown) (hin : ¬ (j < 0 ∨ cell.slots.size ≤ j.toNatClampNeg)) (hv : cell.slots[j.toNatClampNeg]? = some v) (hg : g.method = m) {rest : List Value} (hs : g.stack = .int j :: .ref a :: rest) (hd : decode c.code g.pc = .ok (.laload, 1))
    (hr : Steps p.tables e below (T.setTop { g with pc := g.pc + 1, stack := v :: rest }) target) : Steps p.tables e below (T.setTop g) target := X.laload hx hcell harr hk hin hv hg hs hd target hr
theorem own_baload {g : JFrame} {target : State} (X : Stand p l e R s m args below meth c T locs cells slots) (hx : p.tables.exec = Jvm.exec) {a : Addr} {cell : Cell} {j : Int32} {v : Value} (hcell : T.heap[a]? = some cell) (harr : s.isArrayOf cell .byte) (hk : cell.vm ≠ .unknown) (hin : ¬ (j < 0 ∨ cell.slots.size ≤ j.toNatClampNeg)) (hv : cell.slots[j.toNatClampNeg]? = some v) (hg : g.method = m) {rest : List Value} (hs : g.stack = .int j :: .ref a :: rest) (hd : decode c.code g.pc = .ok (.baload, 1))
    (hr : Steps p.tables e below (T.setTop { g with pc := g.pc + 1, stack := v :: rest }) target) : Steps p.tables e below (T.setTop g) target := X.baloadBytes hx hcell harr hk hin hv hg hs hd target hr
theorem own_lrem {g : JFrame} {target : State} (X : Stand p l e R s m args below meth c T locs cells slots) (hx : p.tables.exec = Jvm.exec) (hg : g.method = m) {x y : Int64} {rest : List Value} (hd : decode c.code g.pc = .ok (.lrem, 1)) (hs : g.stack = .long y :: .long x :: rest) (hy : y ≠ 0)
    (hr : Steps p.tables e below (T.setTop { g with pc := g.pc + 1, stack := .long (x % y) :: rest }) target) : Steps p.tables e below (T.setTop g) target :=
  XS.lrem X.here hx hg hd hs hy (by rw [lrem_mod]; exact hr)
theorem own_tltL {x y : Int64} (h : x < y) : ifCond.holds .lt (lcmpW x y) = true ∧ ifCond.holds .ge (lcmpW x y) = false ∧ ifCond.holds .gt (lcmpW y x) = true ∧ ifCond.holds .le (lcmpW y x) = false := by
  have h1 : lcmpW x y < 0 := by rw [lcW]; exact (lc_lt x y).mpr h
  have h2 : 0 < lcmpW y x := by rw [lcW]; exact (lc_gt y x).mpr h
  exact ⟨(if0 _ _).trans (tlt h1).1, (if0 _ _).trans (tlt h1).2.1, (if0 _ _).trans (tlt h2).2.2.1, (if0 _ _).trans (tlt h2).2.2.2⟩
theorem own_fltL {x y : Int64} (h : ¬ x < y) : ifCond.holds .lt (lcmpW x y) = false ∧ ifCond.holds .ge (lcmpW x y) = true ∧ ifCond.holds .gt (lcmpW y x) = false ∧ ifCond.holds .le (lcmpW y x) = true := by
  have h1 : ¬ lcmpW x y < 0 := by rw [lcW, lc_lt]; exact h
  have h2 : ¬ 0 < lcmpW y x := by rw [lcW, lc_gt]; exact h
  exact ⟨(if0 _ _).trans (flt h1).1, (if0 _ _).trans (flt h1).2.1, (if0 _ _).trans (flt h2).2.2.1, (if0 _ _).trans (flt h2).2.2.2⟩
theorem own_teqL {x y : Int64} (h : x = y) : ifCond.holds .eq (lcmpW x y) = true ∧ ifCond.holds .ne (lcmpW x y) = false := by
  have h1 : lcmpW x y = 0 := by rw [lcW, lc_eq]; exact h
  exact ⟨(if0 _ _).trans (teq h1).1, (if0 _ _).trans (teq h1).2⟩
theorem own_feqL {x y : Int64} (h : ¬ x = y) : ifCond.holds .eq (lcmpW x y) = false ∧ ifCond.holds .ne (lcmpW x y) = true := by
  have h1 : ¬ lcmpW x y = 0 := by rw [lcW, lc_eq]; exact h
  exact ⟨(if0 _ _).trans (feq h1).1, (if0 _ _).trans (feq h1).2⟩
end New
end Jvm.RoadKit
namespace Jvm.Pilot.@@N@@
open Jvm Jvm.ClassFile Sem Op Lib Jvm.Free Jvm.Stand Jvm.LawKit Jvm.RoadKit Bundle Jvm.Pilot.@@N@@.Jvm.D
abbrev jv (x : Int64) : Slot := .val (.long x)
abbrev un : Slot := .unset
abbrev sc : Slot := .second
abbrev ta (l : List Slot) : Array Slot := List.toArray l
/-- what is left to show from a place of the walk on -/
abbrev OGl (p : Program) (e : Env) (below : List Frame) (Q : Outcome → State → Prop) (T : State) (g : JFrame) : Prop :=
  ∃ s₂ o, Steps p.tables e below (T.setTop g) s₂ ∧ s₂.status = .running ∧ Ended s₂ below o ∧ Q o s₂
theorem OGl.go {p : Program} {e : Env} {below : List Frame} {Q : Outcome → State → Prop} {T T' : State} {g g' : JFrame} (h : ∀ t, Steps p.tables e below (T'.setTop g') t → Steps p.tables e below (T.setTop g) t) (k : OGl p e below Q T' g') : OGl p e below Q T g := by
  obtain ⟨s2, o, h1, h2⟩ := k
  exact ⟨s2, o, h _ h1, h2⟩
theorem OGl.start {p : Program} {e : Env} {below : List Frame} {Q : Outcome → State → Prop} {T : State} {g g' : JFrame} (q : g = g') (k : OGl p e below Q T g') : OGl p e below Q T g := q ▸ k
theorem own_selPriv {s : State} {args : Array Value} {y y' x' : MethodName} {C' : String} (hp : s.PrivateAt y) (hi : (Cond.instanceMethod y).before args s = true) (hs : (Cond.selects C' x' y').before args s = true) (hc : y'.cls = y.cls) (hy : y.cls ≠ "java/lang/invoke/MethodHandle" ∧ y.cls ≠ "java/lang/invoke/VarHandle" := by decide) : (Cond.selects y.cls y y).before args s = true := by
  obtain ⟨mk, meth, hn, hm, -, -⟩ := Cond.instanceMethod_spec hi
  obtain ⟨c2, r2, m2, -, -, q3, -, kP, hkP, hkPi⟩ := Cond.selects_spec hs
  have h1 := findClass_of_methodNamed hn
  have h2 := findClass_of_methodNamed q3
  rw [hc, h1] at h2
  have h3 : mk.cls = m2.cls := Option.some.inj h2
  have hf := State.methodFound?_of_named hn hy
  have hsel : selectMethod {} s.vm mk.cls mk = .method mk := selectMethod_private hm (hp mk meth hn hm)
  rw [← h3] at hkP
  simp [Cond.before, Cond.holds, Cond.value, h1, hf, hn, hsel, hkP, hkPi]
theorem own_weak {Z : State} {h : Heap} {a : Addr} {k : ClassId} {ty : FieldType} {z : Int32} {vs vs' : List Value} {d : Value} (F : Arv Z h a k ty z vs d) (q : ∀ i, i < z.toNatClampNeg → vs'.getD i d = vs.getD i d) : Arv Z h a k ty z vs' d := by
  obtain ⟨c, A, r1, r2, r3, H, G⟩ := F
  exact ⟨c, A, r1, r2, r3, fun i hi => by rw [q i (r2 ▸ hi)]; exact H i hi, fun i hi => by rw [q i (r2 ▸ hi)]; exact G i hi⟩
theorem own_cl {z j : Int32} {k i : Nat} (h : ¬ j < z) (hk : j.toInt = k) (hi : i < z.toNatClampNeg) : i < k := by
  rw [Int32.lt_iff_toInt_lt] at h
  have : z.toNatClampNeg = z.toInt.toNat := rfl
  omega
section OwnKit
variable {p : Program} {l : Launch} {e : Env} {R : Room} {s : State} {m : MethodId} {args : Array Value} {below : List Frame} {meth : Method} {c : Code} {T : State} {locs : List Loc} {cells slots : Nat} {Z : State} {a0 : Array Value} {h : Heap} {a : Addr} {k : ClassId} {z : Int32} {vs : List Value} {d : Value} {g : JFrame} {target : State} {rest : List Value} {Q : Outcome → State → Prop}
theorem own_lenV {ty : FieldType} (X : Stand p l e R s m args below meth c T locs cells slots) (hx : p.tables.exec = Jvm.exec) (hZ : Z.Warmed39 s.vm) (eT : T.heap = h) (F : Arv Z h a k ty z vs d) (hg : g.method = m) (hs : g.stack = .ref a :: rest) (hd : decode c.code g.pc = .ok (.arraylength, 1))
    (hr : Steps p.tables e below (T.setTop { g with pc := g.pc + 1, stack := .int z :: rest }) target) : Steps p.tables e below (T.setTop g) target := by
  obtain ⟨cl, A, -, S, N, -, -⟩ := F
  exact own_len X hx (by rw [eT]; exact A.1) (State.isArrayOf_alike hZ.alike A.2.1) S N hg hs hd hr
theorem own_ialoadV (X : Stand p l e R s m args below meth c T locs cells slots) (hx : p.tables.exec = Jvm.exec) (hZ : Z.Warmed39 s.vm) (eT : T.heap = h) (F : Arv Z h a k .int z vs d) {j : Int32} {v : Value} (h0 : ¬ j < 0) (h1 : j < z) (hv : vs.getD j.toNatClampNeg d = v) (hg : g.method = m) (hs : g.stack = .int j :: .ref a :: rest) (hd : decode c.code g.pc = .ok (.iaload, 1))
    (hr : Steps p.tables e below (T.setTop { g with pc := g.pc + 1, stack := v :: rest }) target) : Steps p.tables e below (T.setTop g) target := by
  obtain ⟨cl, A, -, S, N, H, -⟩ := F
  have hin := inb_of S ⟨h0, h1⟩
  exact own_iaload X hx (by rw [eT]; exact A.1) (State.isArrayOf_alike hZ.alike A.2.1) A.2.2 hin (Has.at H hin hv) hg hs hd hr
theorem own_laloadV (X : Stand p l e R s m args below meth c T locs cells slots) (hx : p.tables.exec = Jvm.exec) (hZ : Z.Warmed39 s.vm) (eT : T.heap = h) (F : Arv Z h a k .long z vs d) {j : Int32} {v : Value} (h0 : ¬ j < 0) (h1 : j < z) (hv : vs.getD j.toNatClampNeg d = v) (hg : g.method = m) (hs : g.stack = .int j :: .ref a :: rest) (hd : decode c.code g.pc = .ok (.laload, 1))
    (hr : Steps p.tables e below (T.setTop { g with pc := g.pc + 1, stack := v :: rest }) target) : Steps p.tables e below (T.setTop g) target := by
  obtain ⟨cl, A, -, S, N, H, -⟩ := F
  have hin := inb_of S ⟨h0, h1⟩
  exact own_laload X hx (by rw [eT]; exact A.1) (State.isArrayOf_alike hZ.alike A.2.1) A.2.2 hin (Has.at H hin hv) hg hs hd hr
theorem own_baloadV (X : Stand p l e R s m args below meth c T locs cells slots) (hx : p.tables.exec = Jvm.exec) (hZ : Z.Warmed39 s.vm) (eT : T.heap = h) (F : Arv Z h a k .byte z vs d) {j : Int32} {v : Value} (h0 : ¬ j < 0) (h1 : j < z) (hv : vs.getD j.toNatClampNeg d = v) (hg : g.method = m) (hs : g.stack = .int j :: .ref a :: rest) (hd : decode c.code g.pc = .ok (.baload, 1))
    (hr : Steps p.tables e below (T.setTop { g with pc := g.pc + 1, stack := v :: rest }) target) : Steps p.tables e below (T.setTop g) target := by
  obtain ⟨cl, A, -, S, N, H, -⟩ := F
  have hin := inb_of S ⟨h0, h1⟩
  exact own_baload X hx (by rw [eT]; exact A.1) (State.isArrayOf_alike hZ.alike A.2.1) A.2.2 hin (Has.at H hin hv) hg hs hd hr
theorem own_zaloadV (X : Stand p l e R s m args below meth c T locs cells slots) (hx : p.tables.exec = Jvm.exec) (hZ : Z.Warmed39 s.vm) (eT : T.heap = h) (F : Arv Z h a k .boolean z vs d) {j : Int32} {v : Value} (h0 : ¬ j < 0) (h1 : j < z) (hv : vs.getD j.toNatClampNeg d = v) (hg : g.method = m) (hs : g.stack = .int j :: .ref a :: rest) (hd : decode c.code g.pc = .ok (.baload, 1))
    (hr : Steps p.tables e below (T.setTop { g with pc := g.pc + 1, stack := v :: rest }) target) : Steps p.tables e below (T.setTop g) target := by
  obtain ⟨cl, A, -, S, N, H, -⟩ := F
  have hin := inb_of S ⟨h0, h1⟩
  exact X.baloadBooleans hx (by rw [eT]; exact A.1) (State.isArrayOf_alike hZ.alike A.2.1) A.2.2 hin (Has.at H hin hv) hg hs hd target hr
theorem own_getF (X : Stand p l e R s m args below meth c T locs cells slots) (hx : p.tables.exec = Jvm.exec) (hZ : Z.Warmed39 s.vm) {own R0 O n d host : String} {index : Nat} (hown : s.vm.findClass own = some m.cls) (w : (Cond.fieldLink own index R0 n d).before a0 Z = true ∨ (Cond.fieldLinkNest own index R0 n d host).before a0 Z = true) (via : Via Z R0 O n d)
    (eT : T.heap = h) {v : Value} (F : Fld Z h a O n d v) (hg : g.method = m) (hs : g.stack = .ref a :: rest) (hd : decode c.code g.pc = .ok (.getfield index, 3)) (kk : ∀ T', Stand p l e R s m args below meth c T' locs cells slots → T'.heap = h → OGl p e below Q T' { g with pc := g.pc + 3, stack := v :: rest }) : OGl p e below Q T g := by
  obtain ⟨T', X', e', st⟩ := getF X hx hZ hown w via eT F hg hs hd
  exact OGl.go st (kk T' X' e')
theorem own_stIV (X : Stand p l e R s m args below meth c T locs cells slots) (hx : p.tables.exec = Jvm.exec) (hZ : Z.Warmed39 s.vm) (eT : T.heap = h) (F : Arv Z h a k .int z vs d) {j : Int32} {x : Int32} (h0 : ¬ j < 0) (h1 : j < z) (i : Nat) (hi : j.toNatClampNeg = i) (hl : i < vs.length) (hg : g.method = m) (hs : g.stack = .int x :: .int j :: .ref a :: rest) (hd : decode c.code g.pc = .ok (.iastore, 1))
    (kk : ∀ T' h', Stand p l e R s m args below meth c T' (locs ++ [⟨a, j.toNatClampNeg⟩]) cells slots → T'.heap = h' → Wr h h' a j.toNatClampNeg (.int x) → Arv Z h' a k .int z (vs.set i (.int x)) d → OGl p e below Q T' { g with pc := g.pc + 1, stack := rest }) : OGl p e below Q T g := by
  obtain ⟨cl, A, q, S, N, H, G⟩ := F
  have hin := inb_of S ⟨h0, h1⟩
  obtain ⟨T', h', X', e', W, st⟩ := stI X hx hZ eT A hin hg hs hd
  exact OGl.go st (kk T' h' X' e' W (Arv.set A q S N H G rfl W i hi hl))
theorem own_stJV (X : Stand p l e R s m args below meth c T locs cells slots) (hx : p.tables.exec = Jvm.exec) (hZ : Z.Warmed39 s.vm) (eT : T.heap = h) (F : Arv Z h a k .long z vs d) {j : Int32} {x : Int64} (h0 : ¬ j < 0) (h1 : j < z) (i : Nat) (hi : j.toNatClampNeg = i) (hl : i < vs.length) (hg : g.method = m) (hs : g.stack = .long x :: .int j :: .ref a :: rest) (hd : decode c.code g.pc = .ok (.lastore, 1))
    (kk : ∀ T' h', Stand p l e R s m args below meth c T' (locs ++ [⟨a, j.toNatClampNeg⟩]) cells slots → T'.heap = h' → Wr h h' a j.toNatClampNeg (.long x) → Arv Z h' a k .long z (vs.set i (.long x)) d → OGl p e below Q T' { g with pc := g.pc + 1, stack := rest }) : OGl p e below Q T g := by
  obtain ⟨cl, A, q, S, N, H, G⟩ := F
  have hin := inb_of S ⟨h0, h1⟩
  obtain ⟨T', h', X', e', W, st⟩ := stJ X hx hZ eT A hin hg hs hd
  exact OGl.go st (kk T' h' X' e' W (Arv.set A q S N H G rfl W i hi hl))
theorem own_stBV (X : Stand p l e R s m args below meth c T locs cells slots) (hx : p.tables.exec = Jvm.exec) (hZ : Z.Warmed39 s.vm) (eT : T.heap = h) (F : Arv Z h a k .byte z vs d) {j : Int32} {x : Int32} (h0 : ¬ j < 0) (h1 : j < z) (i : Nat) (hi : j.toNatClampNeg = i) (hl : i < vs.length) (hg : g.method = m) (hs : g.stack = .int x :: .int j :: .ref a :: rest) (hd : decode c.code g.pc = .ok (.bastore, 1))
    (kk : ∀ T' h', Stand p l e R s m args below meth c T' (locs ++ [⟨a, j.toNatClampNeg⟩]) cells slots → T'.heap = h' → Wr h h' a j.toNatClampNeg (.int (nar .byte x)) → Arv Z h' a k .byte z (vs.set i (.int (nar .byte x))) d → OGl p e below Q T' { g with pc := g.pc + 1, stack := rest }) : OGl p e below Q T g := by
  obtain ⟨cl, A, q, S, N, H, G⟩ := F
  have hin := inb_of S ⟨h0, h1⟩
  obtain ⟨T', h', X', e', W, st⟩ := stB X hx hZ eT A hin hg hs hd
  exact OGl.go st (kk T' h' X' e' W (Arv.set A q S N H G (fits_nar_byte _) W i hi hl))
theorem own_stZV (X : Stand p l e R s m args below meth c T locs cells slots) (hx : p.tables.exec = Jvm.exec) (hZ : Z.Warmed39 s.vm) (eT : T.heap = h) (F : Arv Z h a k .boolean z vs d) {j : Int32} {x : Int32} (h0 : ¬ j < 0) (h1 : j < z) (i : Nat) (hi : j.toNatClampNeg = i) (hl : i < vs.length) (hg : g.method = m) (hs : g.stack = .int x :: .int j :: .ref a :: rest) (hd : decode c.code g.pc = .ok (.bastore, 1))
    (kk : ∀ T' h', Stand p l e R s m args below meth c T' (locs ++ [⟨a, j.toNatClampNeg⟩]) cells slots → T'.heap = h' → Wr h h' a j.toNatClampNeg (.int (nar .boolean x)) → Arv Z h' a k .boolean z (vs.set i (.int (nar .boolean x))) d → OGl p e below Q T' { g with pc := g.pc + 1, stack := rest }) : OGl p e below Q T g := by
  obtain ⟨cl, A, q, S, N, H, G⟩ := F
  have hin := inb_of S ⟨h0, h1⟩
  obtain ⟨T', h', X', e', W, st⟩ := stZ X hx hZ eT A hin hg hs hd
  exact OGl.go st (kk T' h' X' e' W (Arv.set A q S N H G (fits_nar_bool _) W i hi hl))
theorem own_getG (X : Stand p l e R s m args below meth c T locs cells slots) (hx : p.tables.exec = Jvm.exec) (hZ : Z.Warmed39 s.vm) {own O n d : String} {index : Nat} (hown : s.vm.findClass own = some m.cls) (w : (Cond.fieldLink own index O n d).before a0 Z = true)
    (eT : T.heap = h) {v : Value} (F : Fld Z h a O n d v) (hg : g.method = m) (hs : g.stack = .ref a :: rest) (hd : decode c.code g.pc = .ok (.getfield index, 3)) (kk : ∀ T', Stand p l e R s m args below meth c T' locs cells slots → T'.heap = h → OGl p e below Q T' { g with pc := g.pc + 3, stack := v :: rest }) : OGl p e below Q T g :=
  own_getF X hx hZ hown (host := "") (Or.inl w) Via.refl eT F hg hs hd kk
end OwnKit
section OwnShort
variable {p : Program} {l : Launch} {e : Env} {R : Room} {s : State} {m : MethodId} {args : Array Value} {below : List Frame} {meth : Method} {c : Code} {T : State} {locs : List Loc} {cells slots : Nat} {Z : State} {a0 : Array Value} {h : Heap} {target : State} {bytes : ByteArray} {pc : Nat} {L : Array Slot} {S : List Value} {Q : Outcome → State → Prop}
theorem kaN (X : Stand p l e R s m args below meth c T locs cells slots) (hx : p.tables.exec = Jvm.exec) (hby : c.code = bytes) {k : Fin 4} {v : Value} (hd : decode bytes pc = .ok (.aload_n k, 1)) (hl : L[k.val]? = some (.val v)) (hv : v.isRef = true) (hr : Steps p.tables e below (T.setTop (mkF m (pc + 1) L (v :: S))) target) : Steps p.tables e below (T.setTop (mkF m pc L S)) target := XS.aloadN X.here hx rfl (hb hby hd) hl hv hr
theorem ka (X : Stand p l e R s m args below meth c T locs cells slots) (hx : p.tables.exec = Jvm.exec) (hby : c.code = bytes) {k : Nat} {v : Value} (hd : decode bytes pc = .ok (.aload k, 2)) (hl : L[k]? = some (.val v)) (hv : v.isRef = true) (hr : Steps p.tables e below (T.setTop (mkF m (pc + 2) L (v :: S))) target) : Steps p.tables e below (T.setTop (mkF m pc L S)) target := XS.aload X.here hx rfl (hb hby hd) hl hv hr
theorem kiN (X : Stand p l e R s m args below meth c T locs cells slots) (hx : p.tables.exec = Jvm.exec) (hby : c.code = bytes) {k : Fin 4} {v : Int32} (hd : decode bytes pc = .ok (.iload_n k, 1)) (hl : L[k.val]? = some (.val (.int v))) (hr : Steps p.tables e below (T.setTop (mkF m (pc + 1) L (.int v :: S))) target) : Steps p.tables e below (T.setTop (mkF m pc L S)) target := XS.iloadN X.here hx rfl (hb hby hd) hl hr
theorem ki (X : Stand p l e R s m args below meth c T locs cells slots) (hx : p.tables.exec = Jvm.exec) (hby : c.code = bytes) {k : Nat} {v : Int32} (hd : decode bytes pc = .ok (.iload k, 2)) (hl : L[k]? = some (.val (.int v))) (hr : Steps p.tables e below (T.setTop (mkF m (pc + 2) L (.int v :: S))) target) : Steps p.tables e below (T.setTop (mkF m pc L S)) target := XS.iload X.here hx rfl (hb hby hd) hl hr
theorem klN (X : Stand p l e R s m args below meth c T locs cells slots) (hx : p.tables.exec = Jvm.exec) (hby : c.code = bytes) {k : Fin 4} {v : Int64} (hd : decode bytes pc = .ok (.lload_n k, 1)) (hl : L[k.val]? = some (.val (.long v))) (hr : Steps p.tables e below (T.setTop (mkF m (pc + 1) L (.long v :: S))) target) : Steps p.tables e below (T.setTop (mkF m pc L S)) target := XS.lloadN X.here hx rfl (hb hby hd) hl hr
theorem kl (X : Stand p l e R s m args below meth c T locs cells slots) (hx : p.tables.exec = Jvm.exec) (hby : c.code = bytes) {k : Nat} {v : Int64} (hd : decode bytes pc = .ok (.lload k, 2)) (hl : L[k]? = some (.val (.long v))) (hr : Steps p.tables e below (T.setTop (mkF m (pc + 2) L (.long v :: S))) target) : Steps p.tables e below (T.setTop (mkF m pc L S)) target := XS.lload X.here hx rfl (hb hby hd) hl hr
theorem siN (X : Stand p l e R s m args below meth c T locs cells slots) (hx : p.tables.exec = Jvm.exec) (hby : c.code = bytes) {k : Fin 4} {x : Int32} (L' : Array Slot) (hd : decode bytes pc = .ok (.istore_n k, 1)) (hl : storeLocals L k.val (.int x) = some L') (hr : Steps p.tables e below (T.setTop (mkF m (pc + 1) L' S)) target) : Steps p.tables e below (T.setTop (mkF m pc L (.int x :: S))) target := XS.istoreN X.here hx rfl (hb hby hd) rfl hl hr
theorem si (X : Stand p l e R s m args below meth c T locs cells slots) (hx : p.tables.exec = Jvm.exec) (hby : c.code = bytes) {k : Nat} {x : Int32} (L' : Array Slot) (hd : decode bytes pc = .ok (.istore k, 2)) (hl : storeLocals L k (.int x) = some L') (hr : Steps p.tables e below (T.setTop (mkF m (pc + 2) L' S)) target) : Steps p.tables e below (T.setTop (mkF m pc L (.int x :: S))) target := XS.istore X.here hx rfl (hb hby hd) rfl hl hr
theorem slN (X : Stand p l e R s m args below meth c T locs cells slots) (hx : p.tables.exec = Jvm.exec) (hby : c.code = bytes) {k : Fin 4} {x : Int64} (L' : Array Slot) (hd : decode bytes pc = .ok (.lstore_n k, 1)) (hl : storeLocals L k.val (.long x) = some L') (hr : Steps p.tables e below (T.setTop (mkF m (pc + 1) L' S)) target) : Steps p.tables e below (T.setTop (mkF m pc L (.long x :: S))) target := XS.lstoreN X.here hx rfl (hb hby hd) rfl hl hr
theorem sl (X : Stand p l e R s m args below meth c T locs cells slots) (hx : p.tables.exec = Jvm.exec) (hby : c.code = bytes) {k : Nat} {x : Int64} (L' : Array Slot) (hd : decode bytes pc = .ok (.lstore k, 2)) (hl : storeLocals L k (.long x) = some L') (hr : Steps p.tables e below (T.setTop (mkF m (pc + 2) L' S)) target) : Steps p.tables e below (T.setTop (mkF m pc L (.long x :: S))) target := XS.lstore X.here hx rfl (hb hby hd) rfl hl hr
theorem saN (X : Stand p l e R s m args below meth c T locs cells slots) (hx : p.tables.exec = Jvm.exec) (hby : c.code = bytes) {k : Fin 4} {x : Value} (L' : Array Slot) (hd : decode bytes pc = .ok (.astore_n k, 1)) (hv : x.isRef = true) (hl : storeLocals L k.val x = some L') (hr : Steps p.tables e below (T.setTop (mkF m (pc + 1) L' S)) target) : Steps p.tables e below (T.setTop (mkF m pc L (x :: S))) target := XS.astoreN X.here hx rfl (hb hby hd) rfl hv hl hr
theorem sa (X : Stand p l e R s m args below meth c T locs cells slots) (hx : p.tables.exec = Jvm.exec) (hby : c.code = bytes) {k : Nat} {x : Value} (L' : Array Slot) (hd : decode bytes pc = .ok (.astore k, 2)) (hv : x.isRef = true) (hl : storeLocals L k x = some L') (hr : Steps p.tables e below (T.setTop (mkF m (pc + 2) L' S)) target) : Steps p.tables e below (T.setTop (mkF m pc L (x :: S))) target := XS.astore X.here hx rfl (hb hby hd) rfl hv hl hr
theorem kc (X : Stand p l e R s m args below meth c T locs cells slots) (hx : p.tables.exec = Jvm.exec) (hby : c.code = bytes) {i : Int} (hd : decode bytes pc = .ok (.iconst i, 1))  (hr : Steps p.tables e below (T.setTop (mkF m (pc + 1) L (.int (Int32.ofInt i) :: S))) target) : Steps p.tables e below (T.setTop (mkF m pc L S)) target := XS.iconst X.here hx rfl (hb hby hd) hr
theorem kb (X : Stand p l e R s m args below meth c T locs cells slots) (hx : p.tables.exec = Jvm.exec) (hby : c.code = bytes) {i : Int} (hd : decode bytes pc = .ok (.bipush i, 2))  (hr : Steps p.tables e below (T.setTop (mkF m (pc + 2) L (.int (Int8.ofInt i).toInt32 :: S))) target) : Steps p.tables e below (T.setTop (mkF m pc L S)) target := XS.bipush X.here hx rfl (hb hby hd) hr
theorem kcl (X : Stand p l e R s m args below meth c T locs cells slots) (hx : p.tables.exec = Jvm.exec) (hby : c.code = bytes) {k : Fin 2} (hd : decode bytes pc = .ok (.lconst k, 1))  (hr : Steps p.tables e below (T.setTop (mkF m (pc + 1) L (.long (Int64.ofNat k) :: S))) target) : Steps p.tables e below (T.setTop (mkF m pc L S)) target := XS.lconst X.here hx rfl (hb hby hd) hr
theorem o_iadd (X : Stand p l e R s m args below meth c T locs cells slots) (hx : p.tables.exec = Jvm.exec) (hby : c.code = bytes) {x y : Int32} (hd : decode bytes pc = .ok (.iadd, 1))  (hr : Steps p.tables e below (T.setTop (mkF m (pc + 1) L (.int (x + y) :: S))) target) : Steps p.tables e below (T.setTop (mkF m pc L (.int y :: .int x :: S))) target := XS.iadd X.here hx rfl (hb hby hd) rfl hr
theorem o_isub (X : Stand p l e R s m args below meth c T locs cells slots) (hx : p.tables.exec = Jvm.exec) (hby : c.code = bytes) {x y : Int32} (hd : decode bytes pc = .ok (.isub, 1))  (hr : Steps p.tables e below (T.setTop (mkF m (pc + 1) L (.int (x - y) :: S))) target) : Steps p.tables e below (T.setTop (mkF m pc L (.int y :: .int x :: S))) target := XS.isub X.here hx rfl (hb hby hd) rfl hr
theorem o_imul (X : Stand p l e R s m args below meth c T locs cells slots) (hx : p.tables.exec = Jvm.exec) (hby : c.code = bytes) {x y : Int32} (hd : decode bytes pc = .ok (.imul, 1))  (hr : Steps p.tables e below (T.setTop (mkF m (pc + 1) L (.int (x * y) :: S))) target) : Steps p.tables e below (T.setTop (mkF m pc L (.int y :: .int x :: S))) target := XS.imul X.here hx rfl (hb hby hd) rfl hr
theorem o_ixor (X : Stand p l e R s m args below meth c T locs cells slots) (hx : p.tables.exec = Jvm.exec) (hby : c.code = bytes) {x y : Int32} (hd : decode bytes pc = .ok (.ixor, 1))  (hr : Steps p.tables e below (T.setTop (mkF m (pc + 1) L (.int (x ^^^ y) :: S))) target) : Steps p.tables e below (T.setTop (mkF m pc L (.int y :: .int x :: S))) target := XS.ixor X.here hx rfl (hb hby hd) rfl hr
theorem o_iand (X : Stand p l e R s m args below meth c T locs cells slots) (hx : p.tables.exec = Jvm.exec) (hby : c.code = bytes) {x y : Int32} (hd : decode bytes pc = .ok (.iand, 1))  (hr : Steps p.tables e below (T.setTop (mkF m (pc + 1) L (.int (x &&& y) :: S))) target) : Steps p.tables e below (T.setTop (mkF m pc L (.int y :: .int x :: S))) target := XS.iand X.here hx rfl (hb hby hd) rfl hr
theorem o_ladd (X : Stand p l e R s m args below meth c T locs cells slots) (hx : p.tables.exec = Jvm.exec) (hby : c.code = bytes) {x y : Int64} (hd : decode bytes pc = .ok (.ladd, 1))  (hr : Steps p.tables e below (T.setTop (mkF m (pc + 1) L (.long (x + y) :: S))) target) : Steps p.tables e below (T.setTop (mkF m pc L (.long y :: .long x :: S))) target := XS.ladd X.here hx rfl (hb hby hd) rfl hr
theorem o_lsub (X : Stand p l e R s m args below meth c T locs cells slots) (hx : p.tables.exec = Jvm.exec) (hby : c.code = bytes) {x y : Int64} (hd : decode bytes pc = .ok (.lsub, 1))  (hr : Steps p.tables e below (T.setTop (mkF m (pc + 1) L (.long (x - y) :: S))) target) : Steps p.tables e below (T.setTop (mkF m pc L (.long y :: .long x :: S))) target := XS.lsub X.here hx rfl (hb hby hd) rfl hr
theorem o_lmul (X : Stand p l e R s m args below meth c T locs cells slots) (hx : p.tables.exec = Jvm.exec) (hby : c.code = bytes) {x y : Int64} (hd : decode bytes pc = .ok (.lmul, 1))  (hr : Steps p.tables e below (T.setTop (mkF m (pc + 1) L (.long (x * y) :: S))) target) : Steps p.tables e below (T.setTop (mkF m pc L (.long y :: .long x :: S))) target := XS.lmul X.here hx rfl (hb hby hd) rfl hr
theorem o_land (X : Stand p l e R s m args below meth c T locs cells slots) (hx : p.tables.exec = Jvm.exec) (hby : c.code = bytes) {x y : Int64} (hd : decode bytes pc = .ok (.land, 1))  (hr : Steps p.tables e below (T.setTop (mkF m (pc + 1) L (.long (x &&& y) :: S))) target) : Steps p.tables e below (T.setTop (mkF m pc L (.long y :: .long x :: S))) target := XS.land X.here hx rfl (hb hby hd) rfl hr
theorem o_lxor (X : Stand p l e R s m args below meth c T locs cells slots) (hx : p.tables.exec = Jvm.exec) (hby : c.code = bytes) {x y : Int64} (hd : decode bytes pc = .ok (.lxor, 1))  (hr : Steps p.tables e below (T.setTop (mkF m (pc + 1) L (.long (x ^^^ y) :: S))) target) : Steps p.tables e below (T.setTop (mkF m pc L (.long y :: .long x :: S))) target := XS.lxor X.here hx rfl (hb hby hd) rfl hr
theorem o_dup (X : Stand p l e R s m args below meth c T locs cells slots) (hx : p.tables.exec = Jvm.exec) (hby : c.code = bytes) {x : Value} (hd : decode bytes pc = .ok (.dup, 1)) (hc : x.category = 1) (hr : Steps p.tables e below (T.setTop (mkF m (pc + 1) L (x :: x :: S))) target) : Steps p.tables e below (T.setTop (mkF m pc L (x :: S))) target := XS.dup X.here hx rfl (hb hby hd) rfl hc hr
theorem o_dupX1 (X : Stand p l e R s m args below meth c T locs cells slots) (hx : p.tables.exec = Jvm.exec) (hby : c.code = bytes) {x y : Value} (hd : decode bytes pc = .ok (.dup_x1, 1)) (hc : x.category = 1) (hc' : y.category = 1) (hr : Steps p.tables e below (T.setTop (mkF m (pc + 1) L (x :: y :: x :: S))) target) : Steps p.tables e below (T.setTop (mkF m pc L (x :: y :: S))) target := XS.dupX1 X.here hx rfl (hb hby hd) rfl hc hc' hr
theorem o_lcmp (X : Stand p l e R s m args below meth c T locs cells slots) (hx : p.tables.exec = Jvm.exec) (hby : c.code = bytes) {x y : Int64} (hd : decode bytes pc = .ok (.lcmp, 1))  (hr : Steps p.tables e below (T.setTop (mkF m (pc + 1) L (.int (lcmpW x y) :: S))) target) : Steps p.tables e below (T.setTop (mkF m pc L (.long y :: .long x :: S))) target := XS.lcmp X.here hx rfl (hb hby hd) rfl hr
theorem o_iinc (X : Stand p l e R s m args below meth c T locs cells slots) (hx : p.tables.exec = Jvm.exec) (hby : c.code = bytes) {k : Nat} {i : Int} {x : Int32} (L' : Array Slot) (hd : decode bytes pc = .ok (.iinc k i, 3)) (hl : L[k]? = some (.val (.int x))) (hl' : storeLocals L k (.int (x + Int32.ofInt i)) = some L') (hr : Steps p.tables e below (T.setTop (mkF m (pc + 3) L' S)) target) : Steps p.tables e below (T.setTop (mkF m pc L S)) target := XS.iinc X.here hx rfl (hb hby hd) hl hl' hr
theorem o_goto (X : Stand p l e R s m args below meth c T locs cells slots) (hx : p.tables.exec = Jvm.exec) (hby : c.code = bytes) {o : Int} (pc' : Nat) (hd : decode bytes pc = .ok (.goto o, 3)) (hq : (decide (0 ≤ (pc : Int) + o) && decide (((pc : Int) + o).toNat = pc')) = true) (hr : Steps p.tables e below (T.setTop (mkF m pc' L S)) target) : Steps p.tables e below (T.setTop (mkF m pc L S)) target := XS.goto X.here hx rfl (pc0 := pc) rfl (hb hby hd) (of_decide_eq_true (Bool.and_eq_true_iff.mp hq).1) (of_decide_eq_true (Bool.and_eq_true_iff.mp hq).2) hr
theorem cN (X : Stand p l e R s m args below meth c T locs cells slots) (hx : p.tables.exec = Jvm.exec) (hby : c.code = bytes) {cd : ClassFile.Cond} {o : Int} {x y : Int32} (hd : decode bytes pc = .ok (.if_icmp cd o, 3)) (hc : if_icmp.holds cd x y = false) (hr : Steps p.tables e below (T.setTop (mkF m (pc + 3) L S)) target) : Steps p.tables e below (T.setTop (mkF m pc L (.int y :: .int x :: S))) target := XS.icmpNo X.here hx rfl (hb hby hd) rfl hc hr
theorem cY (X : Stand p l e R s m args below meth c T locs cells slots) (hx : p.tables.exec = Jvm.exec) (hby : c.code = bytes) {cd : ClassFile.Cond} {o : Int} {x y : Int32} (pc' : Nat) (hd : decode bytes pc = .ok (.if_icmp cd o, 3)) (hc : if_icmp.holds cd x y = true) (hq : (decide (0 ≤ (pc : Int) + o) && decide (((pc : Int) + o).toNat = pc')) = true) (hr : Steps p.tables e below (T.setTop (mkF m pc' L S)) target) : Steps p.tables e below (T.setTop (mkF m pc L (.int y :: .int x :: S))) target := XS.icmpYes X.here hx rfl (pc0 := pc) rfl (hb hby hd) rfl hc (of_decide_eq_true (Bool.and_eq_true_iff.mp hq).1) (of_decide_eq_true (Bool.and_eq_true_iff.mp hq).2) hr
theorem iN (X : Stand p l e R s m args below meth c T locs cells slots) (hx : p.tables.exec = Jvm.exec) (hby : c.code = bytes) {cd : ClassFile.Cond} {o : Int} {x : Int32} (hd : decode bytes pc = .ok (.ifCond cd o, 3)) (hc : ifCond.holds cd x = false) (hr : Steps p.tables e below (T.setTop (mkF m (pc + 3) L S)) target) : Steps p.tables e below (T.setTop (mkF m pc L (.int x :: S))) target := XS.ifNo X.here hx rfl (hb hby hd) rfl hc hr
theorem iY (X : Stand p l e R s m args below meth c T locs cells slots) (hx : p.tables.exec = Jvm.exec) (hby : c.code = bytes) {cd : ClassFile.Cond} {o : Int} {x : Int32} (pc' : Nat) (hd : decode bytes pc = .ok (.ifCond cd o, 3)) (hc : ifCond.holds cd x = true) (hq : (decide (0 ≤ (pc : Int) + o) && decide (((pc : Int) + o).toNat = pc')) = true) (hr : Steps p.tables e below (T.setTop (mkF m pc' L S)) target) : Steps p.tables e below (T.setTop (mkF m pc L (.int x :: S))) target := XS.ifYes X.here hx rfl (pc0 := pc) rfl (hb hby hd) rfl hc (of_decide_eq_true (Bool.and_eq_true_iff.mp hq).1) (of_decide_eq_true (Bool.and_eq_true_iff.mp hq).2) hr
theorem rI (X : Stand p l e R s m args below meth c T locs cells slots) (hx : p.tables.exec = Jvm.exec) (hby : c.code = bytes) (hZ : Z.Warmed39 s.vm) (eT : T.heap = h) {a : Addr} {k : ClassId} {z : Int32} {vs : List Value} {d : Value} (F : Arv Z h a k .int z vs d) {j : Int32} (v : Value) (hq : (decide (¬ j < 0) && decide (j < z)) = true) (hv : vs.getD j.toNatClampNeg d = v) (hd : decode bytes pc = .ok (.iaload, 1)) (hr : Steps p.tables e below (T.setTop (mkF m (pc + 1) L (v :: S))) target) : Steps p.tables e below (T.setTop (mkF m pc L (.int j :: .ref a :: S))) target := own_ialoadV X hx hZ eT F (of_decide_eq_true (Bool.and_eq_true_iff.mp hq).1) (of_decide_eq_true (Bool.and_eq_true_iff.mp hq).2) hv rfl rfl (hb hby hd) hr
theorem rJ (X : Stand p l e R s m args below meth c T locs cells slots) (hx : p.tables.exec = Jvm.exec) (hby : c.code = bytes) (hZ : Z.Warmed39 s.vm) (eT : T.heap = h) {a : Addr} {k : ClassId} {z : Int32} {vs : List Value} {d : Value} (F : Arv Z h a k .long z vs d) {j : Int32} (v : Value) (hq : (decide (¬ j < 0) && decide (j < z)) = true) (hv : vs.getD j.toNatClampNeg d = v) (hd : decode bytes pc = .ok (.laload, 1)) (hr : Steps p.tables e below (T.setTop (mkF m (pc + 1) L (v :: S))) target) : Steps p.tables e below (T.setTop (mkF m pc L (.int j :: .ref a :: S))) target := own_laloadV X hx hZ eT F (of_decide_eq_true (Bool.and_eq_true_iff.mp hq).1) (of_decide_eq_true (Bool.and_eq_true_iff.mp hq).2) hv rfl rfl (hb hby hd) hr
theorem rB (X : Stand p l e R s m args below meth c T locs cells slots) (hx : p.tables.exec = Jvm.exec) (hby : c.code = bytes) (hZ : Z.Warmed39 s.vm) (eT : T.heap = h) {a : Addr} {k : ClassId} {z : Int32} {vs : List Value} {d : Value} (F : Arv Z h a k .byte z vs d) {j : Int32} (v : Value) (hq : (decide (¬ j < 0) && decide (j < z)) = true) (hv : vs.getD j.toNatClampNeg d = v) (hd : decode bytes pc = .ok (.baload, 1)) (hr : Steps p.tables e below (T.setTop (mkF m (pc + 1) L (v :: S))) target) : Steps p.tables e below (T.setTop (mkF m pc L (.int j :: .ref a :: S))) target := own_baloadV X hx hZ eT F (of_decide_eq_true (Bool.and_eq_true_iff.mp hq).1) (of_decide_eq_true (Bool.and_eq_true_iff.mp hq).2) hv rfl rfl (hb hby hd) hr
theorem rZ (X : Stand p l e R s m args below meth c T locs cells slots) (hx : p.tables.exec = Jvm.exec) (hby : c.code = bytes) (hZ : Z.Warmed39 s.vm) (eT : T.heap = h) {a : Addr} {k : ClassId} {z : Int32} {vs : List Value} {d : Value} (F : Arv Z h a k .boolean z vs d) {j : Int32} (v : Value) (hq : (decide (¬ j < 0) && decide (j < z)) = true) (hv : vs.getD j.toNatClampNeg d = v) (hd : decode bytes pc = .ok (.baload, 1)) (hr : Steps p.tables e below (T.setTop (mkF m (pc + 1) L (v :: S))) target) : Steps p.tables e below (T.setTop (mkF m pc L (.int j :: .ref a :: S))) target := own_zaloadV X hx hZ eT F (of_decide_eq_true (Bool.and_eq_true_iff.mp hq).1) (of_decide_eq_true (Bool.and_eq_true_iff.mp hq).2) hv rfl rfl (hb hby hd) hr
theorem rL (X : Stand p l e R s m args below meth c T locs cells slots) (hx : p.tables.exec = Jvm.exec) (hby : c.code = bytes) (hZ : Z.Warmed39 s.vm) (eT : T.heap = h) {a : Addr} {k : ClassId} {ty : FieldType} {z : Int32} {vs : List Value} {d : Value} (F : Arv Z h a k ty z vs d) (hd : decode bytes pc = .ok (.arraylength, 1)) (hr : Steps p.tables e below (T.setTop (mkF m (pc + 1) L (.int z :: S))) target) : Steps p.tables e below (T.setTop (mkF m pc L (.ref a :: S))) target := own_lenV X hx hZ eT F rfl rfl (hb hby hd) hr
theorem gG (X : Stand p l e R s m args below meth c T locs cells slots) (hx : p.tables.exec = Jvm.exec) (hby : c.code = bytes) (hZ : Z.Warmed39 s.vm) {own O n d : String} {index : Nat} (hown : s.vm.findClass own = some m.cls) (w : (Cond.fieldLink own index O n d).before a0 Z = true)
    (eT : T.heap = h) {a : Addr} {v : Value} (F : Fld Z h a O n d v) (hd : decode bytes pc = .ok (.getfield index, 3)) (kk : ∀ T', Stand p l e R s m args below meth c T' locs cells slots → T'.heap = h → OGl p e below Q T' (mkF m (pc + 3) L (v :: S))) : OGl p e below Q T (mkF m pc L (.ref a :: S)) :=
  own_getG X hx hZ hown w eT F rfl rfl (hb hby hd) kk
theorem wI (X : Stand p l e R s m args below meth c T locs cells slots) (hx : p.tables.exec = Jvm.exec) (hby : c.code = bytes) (hZ : Z.Warmed39 s.vm) (eT : T.heap = h) {a : Addr} {k : ClassId} {z : Int32} {vs : List Value} {d : Value} (F : Arv Z h a k .int z vs d) {j : Int32} {x : Int32} (i : Nat) (hq : (decide (¬ j < 0) && decide (j < z) && decide (j.toNatClampNeg = i)) = true) (hl : i < vs.length) (hd : decode bytes pc = .ok (.iastore, 1))
    (kk : ∀ T' h', Stand p l e R s m args below meth c T' (locs ++ [⟨a, j.toNatClampNeg⟩]) cells slots → T'.heap = h' → Wr h h' a j.toNatClampNeg (.int x) → Arv Z h' a k .int z (vs.set i (.int x)) d → OGl p e below Q T' (mkF m (pc + 1) L S)) : OGl p e below Q T (mkF m pc L (.int x :: .int j :: .ref a :: S)) := by
  have h1 := Bool.and_eq_true_iff.mp hq
  have h2 := Bool.and_eq_true_iff.mp h1.1
  exact own_stIV X hx hZ eT F (of_decide_eq_true h2.1) (of_decide_eq_true h2.2) i (of_decide_eq_true h1.2) hl rfl rfl (hb hby hd) kk
theorem wJ (X : Stand p l e R s m args below meth c T locs cells slots) (hx : p.tables.exec = Jvm.exec) (hby : c.code = bytes) (hZ : Z.Warmed39 s.vm) (eT : T.heap = h) {a : Addr} {k : ClassId} {z : Int32} {vs : List Value} {d : Value} (F : Arv Z h a k .long z vs d) {j : Int32} {x : Int64} (i : Nat) (hq : (decide (¬ j < 0) && decide (j < z) && decide (j.toNatClampNeg = i)) = true) (hl : i < vs.length) (hd : decode bytes pc = .ok (.lastore, 1))
    (kk : ∀ T' h', Stand p l e R s m args below meth c T' (locs ++ [⟨a, j.toNatClampNeg⟩]) cells slots → T'.heap = h' → Wr h h' a j.toNatClampNeg (.long x) → Arv Z h' a k .long z (vs.set i (.long x)) d → OGl p e below Q T' (mkF m (pc + 1) L S)) : OGl p e below Q T (mkF m pc L (.long x :: .int j :: .ref a :: S)) := by
  have h1 := Bool.and_eq_true_iff.mp hq
  have h2 := Bool.and_eq_true_iff.mp h1.1
  exact own_stJV X hx hZ eT F (of_decide_eq_true h2.1) (of_decide_eq_true h2.2) i (of_decide_eq_true h1.2) hl rfl rfl (hb hby hd) kk
theorem wB (X : Stand p l e R s m args below meth c T locs cells slots) (hx : p.tables.exec = Jvm.exec) (hby : c.code = bytes) (hZ : Z.Warmed39 s.vm) (eT : T.heap = h) {a : Addr} {k : ClassId} {z : Int32} {vs : List Value} {d : Value} (F : Arv Z h a k .byte z vs d) {j : Int32} {x : Int32} (i : Nat) (hq : (decide (¬ j < 0) && decide (j < z) && decide (j.toNatClampNeg = i)) = true) (hl : i < vs.length) (hd : decode bytes pc = .ok (.bastore, 1))
    (kk : ∀ T' h', Stand p l e R s m args below meth c T' (locs ++ [⟨a, j.toNatClampNeg⟩]) cells slots → T'.heap = h' → Wr h h' a j.toNatClampNeg (.int (nar .byte x)) → Arv Z h' a k .byte z (vs.set i (.int (nar .byte x))) d → OGl p e below Q T' (mkF m (pc + 1) L S)) : OGl p e below Q T (mkF m pc L (.int x :: .int j :: .ref a :: S)) := by
  have h1 := Bool.and_eq_true_iff.mp hq
  have h2 := Bool.and_eq_true_iff.mp h1.1
  exact own_stBV X hx hZ eT F (of_decide_eq_true h2.1) (of_decide_eq_true h2.2) i (of_decide_eq_true h1.2) hl rfl rfl (hb hby hd) kk
theorem wZ (X : Stand p l e R s m args below meth c T locs cells slots) (hx : p.tables.exec = Jvm.exec) (hby : c.code = bytes) (hZ : Z.Warmed39 s.vm) (eT : T.heap = h) {a : Addr} {k : ClassId} {z : Int32} {vs : List Value} {d : Value} (F : Arv Z h a k .boolean z vs d) {j : Int32} {x : Int32} (i : Nat) (hq : (decide (¬ j < 0) && decide (j < z) && decide (j.toNatClampNeg = i)) = true) (hl : i < vs.length) (hd : decode bytes pc = .ok (.bastore, 1))
    (kk : ∀ T' h', Stand p l e R s m args below meth c T' (locs ++ [⟨a, j.toNatClampNeg⟩]) cells slots → T'.heap = h' → Wr h h' a j.toNatClampNeg (.int (nar .boolean x)) → Arv Z h' a k .boolean z (vs.set i (.int (nar .boolean x))) d → OGl p e below Q T' (mkF m (pc + 1) L S)) : OGl p e below Q T (mkF m pc L (.int x :: .int j :: .ref a :: S)) := by
  have h1 := Bool.and_eq_true_iff.mp hq
  have h2 := Bool.and_eq_true_iff.mp h1.1
  exact own_stZV X hx hZ eT F (of_decide_eq_true h2.1) (of_decide_eq_true h2.2) i (of_decide_eq_true h1.2) hl rfl rfl (hb hby hd) kk
end OwnShort
theorem gO {p : Program} {e : Env} {below : List Frame} {Q : Outcome → State → Prop} {T T' : State} {g g' : JFrame} (h : ∀ t, Steps p.tables e below (T'.setTop g') t → Steps p.tables e below (T.setTop g) t) (k : OGl p e below Q T' g') : OGl p e below Q T g := OGl.go h k
theorem own_irr {α : Type} [LT α] [Std.Irrefl (α := α) (· < ·)] (x : α) : ¬ x < x := Std.Irrefl.irrefl x
theorem own_j11 (n : Int32) (h0 : 0 ≤ n.toInt) (h1 : n.toInt < 11) : n = (0 : Int32) ∨ n = (1 : Int32) ∨ n = (2 : Int32) ∨ n = (3 : Int32) ∨ n = (4 : Int32) ∨ n = (5 : Int32) ∨ n = (6 : Int32) ∨ n = (7 : Int32) ∨ n = (8 : Int32) ∨ n = (9 : Int32) ∨ n = (10 : Int32) := by
  have h5 : n.toInt = 0 ∨ n.toInt = 1 ∨ n.toInt = 2 ∨ n.toInt = 3 ∨ n.toInt = 4 ∨ n.toInt = 5 ∨ n.toInt = 6 ∨ n.toInt = 7 ∨ n.toInt = 8 ∨ n.toInt = 9 ∨ n.toInt = 10 := by omega
  have e : ∀ m : Int32, n.toInt = m.toInt → n = m := fun m h => Int32.toInt_inj.mp h
  rcases h5 with h | h | h | h | h | h | h | h | h | h | h
  · exact Or.inl (e 0 h)
  · exact Or.inr (Or.inl (e 1 h))
  · exact Or.inr (Or.inr (Or.inl (e 2 h)))
  · exact Or.inr (Or.inr (Or.inr (Or.inl (e 3 h))))
  · exact Or.inr (Or.inr (Or.inr (Or.inr (Or.inl (e 4 h)))))
  · exact Or.inr (Or.inr (Or.inr (Or.inr (Or.inr (Or.inl (e 5 h))))))
  · exact Or.inr (Or.inr (Or.inr (Or.inr (Or.inr (Or.inr (Or.inl (e 6 h)))))))
  · exact Or.inr (Or.inr (Or.inr (Or.inr (Or.inr (Or.inr (Or.inr (Or.inl (e 7 h))))))))
  · exact Or.inr (Or.inr (Or.inr (Or.inr (Or.inr (Or.inr (Or.inr (Or.inr (Or.inl (e 8 h)))))))))
  · exact Or.inr (Or.inr (Or.inr (Or.inr (Or.inr (Or.inr (Or.inr (Or.inr (Or.inr (Or.inl (e 9 h))))))))))
  · exact Or.inr (Or.inr (Or.inr (Or.inr (Or.inr (Or.inr (Or.inr (Or.inr (Or.inr (Or.inr (e 10 h))))))))))
theorem own_j (p1 : Int32) : (¬ ((((p1.toUInt32 >>> ((1 : Int32) &&& 31).toUInt32).toInt32) &&& (2147483647 : Int32)) % (11 : Int32)) < (0 : Int32)) ∧ ((((p1.toUInt32 >>> ((1 : Int32) &&& 31).toUInt32).toInt32) &&& (2147483647 : Int32)) % (11 : Int32)) < (11 : Int32) ∧ (((((p1.toUInt32 >>> ((1 : Int32) &&& 31).toUInt32).toInt32) &&& (2147483647 : Int32)) % (11 : Int32)) = (0 : Int32) ∨ ((((p1.toUInt32 >>> ((1 : Int32) &&& 31).toUInt32).toInt32) &&& (2147483647 : Int32)) % (11 : Int32)) = (1 : Int32) ∨ ((((p1.toUInt32 >>> ((1 : Int32) &&& 31).toUInt32).toInt32) &&& (2147483647 : Int32)) % (11 : Int32)) = (2 : Int32) ∨ ((((p1.toUInt32 >>> ((1 : Int32) &&& 31).toUInt32).toInt32) &&& (2147483647 : Int32)) % (11 : Int32)) = (3 : Int32) ∨ ((((p1.toUInt32 >>> ((1 : Int32) &&& 31).toUInt32).toInt32) &&& (2147483647 : Int32)) % (11 : Int32)) = (4 : Int32) ∨ ((((p1.toUInt32 >>> ((1 : Int32) &&& 31).toUInt32).toInt32) &&& (2147483647 : Int32)) % (11 : Int32)) = (5 : Int32) ∨ ((((p1.toUInt32 >>> ((1 : Int32) &&& 31).toUInt32).toInt32) &&& (2147483647 : Int32)) % (11 : Int32)) = (6 : Int32) ∨ ((((p1.toUInt32 >>> ((1 : Int32) &&& 31).toUInt32).toInt32) &&& (2147483647 : Int32)) % (11 : Int32)) = (7 : Int32) ∨ ((((p1.toUInt32 >>> ((1 : Int32) &&& 31).toUInt32).toInt32) &&& (2147483647 : Int32)) % (11 : Int32)) = (8 : Int32) ∨ ((((p1.toUInt32 >>> ((1 : Int32) &&& 31).toUInt32).toInt32) &&& (2147483647 : Int32)) % (11 : Int32)) = (9 : Int32) ∨ ((((p1.toUInt32 >>> ((1 : Int32) &&& 31).toUInt32).toInt32) &&& (2147483647 : Int32)) % (11 : Int32)) = (10 : Int32)) := by
  have h := c_mask ((p1.toUInt32 >>> ((1 : Int32) &&& 31).toUInt32).toInt32) 2147483647 31 (by decide) (by decide)
  generalize (((p1.toUInt32 >>> ((1 : Int32) &&& 31).toUInt32).toInt32) &&& (2147483647 : Int32)) = m at *
  have h1 := (c_irem m 11 11 (by decide)).1 (by omega)
  generalize m % 11 = n at *
  have k0 : (0 : Int32).toInt = 0 := by decide
  have k11 : (11 : Int32).toInt = 11 := by decide
  refine ⟨?_, ?_, own_j11 n (by omega) (by omega)⟩
  · rw [Int32.lt_iff_toInt_lt]; omega
  · rw [Int32.lt_iff_toInt_lt]; omega
theorem d6_0 : decode prog_60_method_27_code 0 = .ok (.iload_n 0, 1) := by decide +kernel
theorem d6_1 : decode prog_60_method_27_code 1 = .ok (.lookupswitch 138 #[(34, 134), (39, 134), (63, 134), (92, 134), (97, 129), (98, 114), (102, 119), (110, 99), (114, 109), (116, 104), (118, 124)], 99) := by decide +kernel
theorem d6_135 : decode prog_60_method_27_code 135 = .ok (.iload_n 0, 1) := by decide +kernel
theorem d6_136 : decode prog_60_method_27_code 136 = .ok (.goto 4, 3) := by decide +kernel
theorem d6_140 : decode prog_60_method_27_code 140 = .ok (.ireturn, 1) := by decide +kernel
theorem d6_130 : decode prog_60_method_27_code 130 = .ok (.bipush 7, 2) := by decide +kernel
theorem d6_132 : decode prog_60_method_27_code 132 = .ok (.goto 8, 3) := by decide +kernel
theorem d6_115 : decode prog_60_method_27_code 115 = .ok (.bipush 8, 2) := by decide +kernel
theorem d6_117 : decode prog_60_method_27_code 117 = .ok (.goto 23, 3) := by decide +kernel
theorem d6_120 : decode prog_60_method_27_code 120 = .ok (.bipush 12, 2) := by decide +kernel
theorem d6_122 : decode prog_60_method_27_code 122 = .ok (.goto 18, 3) := by decide +kernel
theorem d6_100 : decode prog_60_method_27_code 100 = .ok (.bipush 10, 2) := by decide +kernel
theorem d6_102 : decode prog_60_method_27_code 102 = .ok (.goto 38, 3) := by decide +kernel
theorem d6_110 : decode prog_60_method_27_code 110 = .ok (.bipush 13, 2) := by decide +kernel
theorem d6_112 : decode prog_60_method_27_code 112 = .ok (.goto 28, 3) := by decide +kernel
theorem d6_105 : decode prog_60_method_27_code 105 = .ok (.bipush 9, 2) := by decide +kernel
theorem d6_107 : decode prog_60_method_27_code 107 = .ok (.goto 33, 3) := by decide +kernel
theorem d6_125 : decode prog_60_method_27_code 125 = .ok (.bipush 11, 2) := by decide +kernel
theorem d6_127 : decode prog_60_method_27_code 127 = .ok (.goto 13, 3) := by decide +kernel
theorem d6_139 : decode prog_60_method_27_code 139 = .ok (.iconst (-1), 1) := by decide +kernel
theorem ef_6 (m : MethodId) (x0 : Int32) : entryFrame m #[.int x0] 1 = mkF m 0 #[iv x0] [] := by first | (simp [entryFrame, mkF, argsToLocals, Value.category]; done) | rfl
theorem pn_0 : plainName "com/example/wyrmsmith/wyrmsmith/SourceText" = true := by first | (simp [plainName, overriddenIn]; done) | decide +kernel
def t6_0 (p0 : Int32) : Int32 := (if p0 = (34 : Int32) then p0 else (if p0 = (39 : Int32) then p0 else (if p0 = (63 : Int32) then p0 else (if p0 = (92 : Int32) then p0 else (if p0 = (97 : Int32) then (7 : Int32) else (if p0 = (98 : Int32) then (8 : Int32) else (if p0 = (102 : Int32) then (12 : Int32) else (if p0 = (110 : Int32) then (10 : Int32) else (if p0 = (114 : Int32) then (13 : Int32) else (if p0 = (116 : Int32) then (9 : Int32) else (if p0 = (118 : Int32) then (11 : Int32) else (-1 : Int32))))))))))))
def Q6 (Z : State) (p0 : Int32) (h0 : Heap) (n0 : Nat) (v : Option Value) (h : Heap) (L : List Loc) : Prop := v = some (.int (t6_0 p0)) ∧ Fr n0 L ∧ h = h0
set_option maxRecDepth 65536 in
set_option maxHeartbeats 40000000 in
theorem rm6 (l : Launch) (Z : State) (a0 : Array Value) (hw : ∀ d ∈ tables_1, d.before a0 Z = true) (ws : List Jvm.Cond) (p0 : Int32) (h0 : Heap) (n0 : Nat) (Z0 : n0 ≤ h0.size) :
    MetFree l (⟨"com/example/wyrmsmith/wyrmsmith/SourceText", "simpleEscape", "(C)I"⟩ : MethodName) (head1 (Jvm.Cond.code (⟨"com/example/wyrmsmith/wyrmsmith/SourceText", "simpleEscape", "(C)I"⟩ : MethodName) prog_60_method_27_code 1 (some .int) :: ws) ({ frames := 0, cells := 0, slots := 0, locals := 0 } : Room)) (fun a U => a = #[.int p0] ∧ Z.Warmed39 U.vm ∧ U.heap = h0) (fun _ _ _ _ _ => True) (fun _ U o U' => ∃ v L, o = .returned v ∧ Q6 Z p0 h0 n0 v U'.heap L ∧ FrameEnd U o U' L ({ frames := 0, cells := 0, slots := 0, locals := 0 } : Room).cells ({ frames := 0, cells := 0, slots := 0, locals := 0 } : Room).slots) := by
  refine MetFree.of_bodySF (plainFor_of_name pn_0) hisR ?_
  intro p e s m args below meth c s₁ Bd hml0 hP hK
  obtain ⟨rfl, hZ, hh⟩ := hP
  have hx := Bd.exec
  have hby := Bd.bytes
  have hml : c.maxLocals = 1 := hml0
  have hown : s.vm.findClass "com/example/wyrmsmith/wyrmsmith/SourceText" = some m.cls := findClass_of_methodNamed Bd.named
  have hnm := (name_of_methodNamed Bd.named Bd.method).1
  have X0 : Stand p l e ({ frames := 0, cells := 0, slots := 0, locals := 0 } : Room) s m #[.int p0] below meth c s₁ [] 0 0 := Stand.of_body Bd
  have e0 : s₁.heap = h0 := by rw [← hh, Bd.state]; rfl
  have N0 := Fr.nil n0
  refine OGl.start (ef_6 m p0) ?_
  show OGl _ _ _ _ s₁ (mkF m 0 #[iv p0] [])
  refine OGl.go (fun t k => XS.iloadN X0.here hx rfl (hb hby d6_0) rfl k) ?_
  show OGl _ _ _ _ s₁ (mkF m 1 #[iv p0] [.int p0])
  by_cases hl4 : p0 = (34 : Int32)
  · have m_hl4 : p0.toInt = 34 := by rw [hl4]; decide
    refine OGl.go (T' := s₁) (g' := (mkF m 135 #[iv p0] [])) (fun t k => ?_) ?_
    · show Steps p.tables e below (s₁.setTop (mkF m 1 #[iv p0] [.int p0])) _
      jvm_step X0.here [X0.here.top, hx, (hb hby d6_1), m_hl4]
      exact k
    show OGl _ _ _ _ s₁ (mkF m 135 #[iv p0] [])
    refine OGl.go (fun t k => XS.iloadN X0.here hx rfl (hb hby d6_135) rfl (XS.goto X0.here hx rfl (pc0 := 136) (pc' := 140) rfl (hb hby d6_136) (by decide) (by decide) k)) ?_
    show OGl _ _ _ _ s₁ (mkF m 140 #[iv p0] [.int p0])
    obtain ⟨fs, hr, hrun, hended, hW, hsame⟩ := X0.leave (v := some (.int p0)) (fun h => by rw [Bd.returns] at h; cases h)
    refine ⟨_, _, retI X0 hx Bd.returns (hb hby d6_140) hr, hrun, hended, _, _, rfl, ?_, ⟨_, rfl⟩, hW, hsame.mono (by decide) (by decide)⟩
    have hv15 : (t6_0 p0) = p0 := by unfold t6_0; rw [if_pos hl4]
    show Q6 Z p0 h0 n0 _ s₁.heap _
    rw [e0]
    exact ⟨(by rw [hv15]), N0, rfl⟩
  · by_cases hl5 : p0 = (39 : Int32)
    · have m_hl5 : p0.toInt = 39 := by rw [hl5]; decide
      refine OGl.go (T' := s₁) (g' := (mkF m 135 #[iv p0] [])) (fun t k => ?_) ?_
      · show Steps p.tables e below (s₁.setTop (mkF m 1 #[iv p0] [.int p0])) _
        jvm_step X0.here [X0.here.top, hx, (hb hby d6_1), m_hl5]
        exact k
      show OGl _ _ _ _ s₁ (mkF m 135 #[iv p0] [])
      refine OGl.go (fun t k => XS.iloadN X0.here hx rfl (hb hby d6_135) rfl (XS.goto X0.here hx rfl (pc0 := 136) (pc' := 140) rfl (hb hby d6_136) (by decide) (by decide) k)) ?_
      show OGl _ _ _ _ s₁ (mkF m 140 #[iv p0] [.int p0])
      obtain ⟨fs, hr, hrun, hended, hW, hsame⟩ := X0.leave (v := some (.int p0)) (fun h => by rw [Bd.returns] at h; cases h)
      refine ⟨_, _, retI X0 hx Bd.returns (hb hby d6_140) hr, hrun, hended, _, _, rfl, ?_, ⟨_, rfl⟩, hW, hsame.mono (by decide) (by decide)⟩
      have hv16 : (t6_0 p0) = p0 := by unfold t6_0; rw [if_neg hl4, if_pos hl5]
      show Q6 Z p0 h0 n0 _ s₁.heap _
      rw [e0]
      exact ⟨(by rw [hv16]), N0, rfl⟩
    · by_cases hl6 : p0 = (63 : Int32)
      · have m_hl6 : p0.toInt = 63 := by rw [hl6]; decide
        refine OGl.go (T' := s₁) (g' := (mkF m 135 #[iv p0] [])) (fun t k => ?_) ?_
        · show Steps p.tables e below (s₁.setTop (mkF m 1 #[iv p0] [.int p0])) _
          jvm_step X0.here [X0.here.top, hx, (hb hby d6_1), m_hl6]
          exact k
        show OGl _ _ _ _ s₁ (mkF m 135 #[iv p0] [])
        refine OGl.go (fun t k => XS.iloadN X0.here hx rfl (hb hby d6_135) rfl (XS.goto X0.here hx rfl (pc0 := 136) (pc' := 140) rfl (hb hby d6_136) (by decide) (by decide) k)) ?_
        show OGl _ _ _ _ s₁ (mkF m 140 #[iv p0] [.int p0])
        obtain ⟨fs, hr, hrun, hended, hW, hsame⟩ := X0.leave (v := some (.int p0)) (fun h => by rw [Bd.returns] at h; cases h)
        refine ⟨_, _, retI X0 hx Bd.returns (hb hby d6_140) hr, hrun, hended, _, _, rfl, ?_, ⟨_, rfl⟩, hW, hsame.mono (by decide) (by decide)⟩
        have hv17 : (t6_0 p0) = p0 := by unfold t6_0; rw [if_neg hl4, if_neg hl5, if_pos hl6]
        show Q6 Z p0 h0 n0 _ s₁.heap _
        rw [e0]
        exact ⟨(by rw [hv17]), N0, rfl⟩
      · by_cases hl7 : p0 = (92 : Int32)
        · have m_hl7 : p0.toInt = 92 := by rw [hl7]; decide
          refine OGl.go (T' := s₁) (g' := (mkF m 135 #[iv p0] [])) (fun t k => ?_) ?_
          · show Steps p.tables e below (s₁.setTop (mkF m 1 #[iv p0] [.int p0])) _
            jvm_step X0.here [X0.here.top, hx, (hb hby d6_1), m_hl7]
            exact k
          show OGl _ _ _ _ s₁ (mkF m 135 #[iv p0] [])
          refine OGl.go (fun t k => XS.iloadN X0.here hx rfl (hb hby d6_135) rfl (XS.goto X0.here hx rfl (pc0 := 136) (pc' := 140) rfl (hb hby d6_136) (by decide) (by decide) k)) ?_
          show OGl _ _ _ _ s₁ (mkF m 140 #[iv p0] [.int p0])
          obtain ⟨fs, hr, hrun, hended, hW, hsame⟩ := X0.leave (v := some (.int p0)) (fun h => by rw [Bd.returns] at h; cases h)
          refine ⟨_, _, retI X0 hx Bd.returns (hb hby d6_140) hr, hrun, hended, _, _, rfl, ?_, ⟨_, rfl⟩, hW, hsame.mono (by decide) (by decide)⟩
          have hv18 : (t6_0 p0) = p0 := by unfold t6_0; rw [if_neg hl4, if_neg hl5, if_neg hl6, if_pos hl7]
          show Q6 Z p0 h0 n0 _ s₁.heap _
          rw [e0]
          exact ⟨(by rw [hv18]), N0, rfl⟩
        · by_cases hl8 : p0 = (97 : Int32)
          · have m_hl8 : p0.toInt = 97 := by rw [hl8]; decide
            refine OGl.go (T' := s₁) (g' := (mkF m 130 #[iv p0] [])) (fun t k => ?_) ?_
            · show Steps p.tables e below (s₁.setTop (mkF m 1 #[iv p0] [.int p0])) _
              jvm_step X0.here [X0.here.top, hx, (hb hby d6_1), m_hl8]
              exact k
            show OGl _ _ _ _ s₁ (mkF m 130 #[iv p0] [])
            refine OGl.go (fun t k => XS.bipush X0.here hx rfl (hb hby d6_130) (XS.goto X0.here hx rfl (pc0 := 132) (pc' := 140) rfl (hb hby d6_132) (by decide) (by decide) k)) ?_
            show OGl _ _ _ _ s₁ (mkF m 140 #[iv p0] [.int 7])
            obtain ⟨fs, hr, hrun, hended, hW, hsame⟩ := X0.leave (v := some (.int 7)) (fun h => by rw [Bd.returns] at h; cases h)
            refine ⟨_, _, retI X0 hx Bd.returns (hb hby d6_140) hr, hrun, hended, _, _, rfl, ?_, ⟨_, rfl⟩, hW, hsame.mono (by decide) (by decide)⟩
            have hv19 : (t6_0 p0) = (7 : Int32) := by unfold t6_0; rw [if_neg hl4, if_neg hl5, if_neg hl6, if_neg hl7, if_pos hl8]
            show Q6 Z p0 h0 n0 _ s₁.heap _
            rw [e0]
            exact ⟨(by rw [hv19]), N0, rfl⟩
          · by_cases hl9 : p0 = (98 : Int32)
            · have m_hl9 : p0.toInt = 98 := by rw [hl9]; decide
              refine OGl.go (T' := s₁) (g' := (mkF m 115 #[iv p0] [])) (fun t k => ?_) ?_
              · show Steps p.tables e below (s₁.setTop (mkF m 1 #[iv p0] [.int p0])) _
                jvm_step X0.here [X0.here.top, hx, (hb hby d6_1), m_hl9]
                exact k
              show OGl _ _ _ _ s₁ (mkF m 115 #[iv p0] [])
              refine OGl.go (fun t k => XS.bipush X0.here hx rfl (hb hby d6_115) (XS.goto X0.here hx rfl (pc0 := 117) (pc' := 140) rfl (hb hby d6_117) (by decide) (by decide) k)) ?_
              show OGl _ _ _ _ s₁ (mkF m 140 #[iv p0] [.int 8])
              obtain ⟨fs, hr, hrun, hended, hW, hsame⟩ := X0.leave (v := some (.int 8)) (fun h => by rw [Bd.returns] at h; cases h)
              refine ⟨_, _, retI X0 hx Bd.returns (hb hby d6_140) hr, hrun, hended, _, _, rfl, ?_, ⟨_, rfl⟩, hW, hsame.mono (by decide) (by decide)⟩
              have hv20 : (t6_0 p0) = (8 : Int32) := by unfold t6_0; rw [if_neg hl4, if_neg hl5, if_neg hl6, if_neg hl7, if_neg hl8, if_pos hl9]
              show Q6 Z p0 h0 n0 _ s₁.heap _
              rw [e0]
              exact ⟨(by rw [hv20]), N0, rfl⟩
            · by_cases hl10 : p0 = (102 : Int32)
              · have m_hl10 : p0.toInt = 102 := by rw [hl10]; decide
                refine OGl.go (T' := s₁) (g' := (mkF m 120 #[iv p0] [])) (fun t k => ?_) ?_
                · show Steps p.tables e below (s₁.setTop (mkF m 1 #[iv p0] [.int p0])) _
                  jvm_step X0.here [X0.here.top, hx, (hb hby d6_1), m_hl10]
                  exact k
                show OGl _ _ _ _ s₁ (mkF m 120 #[iv p0] [])
                refine OGl.go (fun t k => XS.bipush X0.here hx rfl (hb hby d6_120) (XS.goto X0.here hx rfl (pc0 := 122) (pc' := 140) rfl (hb hby d6_122) (by decide) (by decide) k)) ?_
                show OGl _ _ _ _ s₁ (mkF m 140 #[iv p0] [.int 12])
                obtain ⟨fs, hr, hrun, hended, hW, hsame⟩ := X0.leave (v := some (.int 12)) (fun h => by rw [Bd.returns] at h; cases h)
                refine ⟨_, _, retI X0 hx Bd.returns (hb hby d6_140) hr, hrun, hended, _, _, rfl, ?_, ⟨_, rfl⟩, hW, hsame.mono (by decide) (by decide)⟩
                have hv21 : (t6_0 p0) = (12 : Int32) := by unfold t6_0; rw [if_neg hl4, if_neg hl5, if_neg hl6, if_neg hl7, if_neg hl8, if_neg hl9, if_pos hl10]
                show Q6 Z p0 h0 n0 _ s₁.heap _
                rw [e0]
                exact ⟨(by rw [hv21]), N0, rfl⟩
              · by_cases hl11 : p0 = (110 : Int32)
                · have m_hl11 : p0.toInt = 110 := by rw [hl11]; decide
                  refine OGl.go (T' := s₁) (g' := (mkF m 100 #[iv p0] [])) (fun t k => ?_) ?_
                  · show Steps p.tables e below (s₁.setTop (mkF m 1 #[iv p0] [.int p0])) _
                    jvm_step X0.here [X0.here.top, hx, (hb hby d6_1), m_hl11]
                    exact k
                  show OGl _ _ _ _ s₁ (mkF m 100 #[iv p0] [])
                  refine OGl.go (fun t k => XS.bipush X0.here hx rfl (hb hby d6_100) (XS.goto X0.here hx rfl (pc0 := 102) (pc' := 140) rfl (hb hby d6_102) (by decide) (by decide) k)) ?_
                  show OGl _ _ _ _ s₁ (mkF m 140 #[iv p0] [.int 10])
                  obtain ⟨fs, hr, hrun, hended, hW, hsame⟩ := X0.leave (v := some (.int 10)) (fun h => by rw [Bd.returns] at h; cases h)
                  refine ⟨_, _, retI X0 hx Bd.returns (hb hby d6_140) hr, hrun, hended, _, _, rfl, ?_, ⟨_, rfl⟩, hW, hsame.mono (by decide) (by decide)⟩
                  have hv22 : (t6_0 p0) = (10 : Int32) := by unfold t6_0; rw [if_neg hl4, if_neg hl5, if_neg hl6, if_neg hl7, if_neg hl8, if_neg hl9, if_neg hl10, if_pos hl11]
                  show Q6 Z p0 h0 n0 _ s₁.heap _
                  rw [e0]
                  exact ⟨(by rw [hv22]), N0, rfl⟩
                · by_cases hl12 : p0 = (114 : Int32)
                  · have m_hl12 : p0.toInt = 114 := by rw [hl12]; decide
                    refine OGl.go (T' := s₁) (g' := (mkF m 110 #[iv p0] [])) (fun t k => ?_) ?_
                    · show Steps p.tables e below (s₁.setTop (mkF m 1 #[iv p0] [.int p0])) _
                      jvm_step X0.here [X0.here.top, hx, (hb hby d6_1), m_hl12]
                      exact k
                    show OGl _ _ _ _ s₁ (mkF m 110 #[iv p0] [])
                    refine OGl.go (fun t k => XS.bipush X0.here hx rfl (hb hby d6_110) (XS.goto X0.here hx rfl (pc0 := 112) (pc' := 140) rfl (hb hby d6_112) (by decide) (by decide) k)) ?_
                    show OGl _ _ _ _ s₁ (mkF m 140 #[iv p0] [.int 13])
                    obtain ⟨fs, hr, hrun, hended, hW, hsame⟩ := X0.leave (v := some (.int 13)) (fun h => by rw [Bd.returns] at h; cases h)
                    refine ⟨_, _, retI X0 hx Bd.returns (hb hby d6_140) hr, hrun, hended, _, _, rfl, ?_, ⟨_, rfl⟩, hW, hsame.mono (by decide) (by decide)⟩
                    have hv23 : (t6_0 p0) = (13 : Int32) := by unfold t6_0; rw [if_neg hl4, if_neg hl5, if_neg hl6, if_neg hl7, if_neg hl8, if_neg hl9, if_neg hl10, if_neg hl11, if_pos hl12]
                    show Q6 Z p0 h0 n0 _ s₁.heap _
                    rw [e0]
                    exact ⟨(by rw [hv23]), N0, rfl⟩
                  · by_cases hl13 : p0 = (116 : Int32)
                    · have m_hl13 : p0.toInt = 116 := by rw [hl13]; decide
                      refine OGl.go (T' := s₁) (g' := (mkF m 105 #[iv p0] [])) (fun t k => ?_) ?_
                      · show Steps p.tables e below (s₁.setTop (mkF m 1 #[iv p0] [.int p0])) _
                        jvm_step X0.here [X0.here.top, hx, (hb hby d6_1), m_hl13]
                        exact k
                      show OGl _ _ _ _ s₁ (mkF m 105 #[iv p0] [])
                      refine OGl.go (fun t k => XS.bipush X0.here hx rfl (hb hby d6_105) (XS.goto X0.here hx rfl (pc0 := 107) (pc' := 140) rfl (hb hby d6_107) (by decide) (by decide) k)) ?_
                      show OGl _ _ _ _ s₁ (mkF m 140 #[iv p0] [.int 9])
                      obtain ⟨fs, hr, hrun, hended, hW, hsame⟩ := X0.leave (v := some (.int 9)) (fun h => by rw [Bd.returns] at h; cases h)
                      refine ⟨_, _, retI X0 hx Bd.returns (hb hby d6_140) hr, hrun, hended, _, _, rfl, ?_, ⟨_, rfl⟩, hW, hsame.mono (by decide) (by decide)⟩
                      have hv24 : (t6_0 p0) = (9 : Int32) := by unfold t6_0; rw [if_neg hl4, if_neg hl5, if_neg hl6, if_neg hl7, if_neg hl8, if_neg hl9, if_neg hl10, if_neg hl11, if_neg hl12, if_pos hl13]
                      show Q6 Z p0 h0 n0 _ s₁.heap _
                      rw [e0]
                      exact ⟨(by rw [hv24]), N0, rfl⟩
                    · by_cases hl14 : p0 = (118 : Int32)
                      · have m_hl14 : p0.toInt = 118 := by rw [hl14]; decide
                        refine OGl.go (T' := s₁) (g' := (mkF m 125 #[iv p0] [])) (fun t k => ?_) ?_
                        · show Steps p.tables e below (s₁.setTop (mkF m 1 #[iv p0] [.int p0])) _
                          jvm_step X0.here [X0.here.top, hx, (hb hby d6_1), m_hl14]
                          exact k
                        show OGl _ _ _ _ s₁ (mkF m 125 #[iv p0] [])
                        refine OGl.go (fun t k => XS.bipush X0.here hx rfl (hb hby d6_125) (XS.goto X0.here hx rfl (pc0 := 127) (pc' := 140) rfl (hb hby d6_127) (by decide) (by decide) k)) ?_
                        show OGl _ _ _ _ s₁ (mkF m 140 #[iv p0] [.int 11])
                        obtain ⟨fs, hr, hrun, hended, hW, hsame⟩ := X0.leave (v := some (.int 11)) (fun h => by rw [Bd.returns] at h; cases h)
                        refine ⟨_, _, retI X0 hx Bd.returns (hb hby d6_140) hr, hrun, hended, _, _, rfl, ?_, ⟨_, rfl⟩, hW, hsame.mono (by decide) (by decide)⟩
                        have hv25 : (t6_0 p0) = (11 : Int32) := by unfold t6_0; rw [if_neg hl4, if_neg hl5, if_neg hl6, if_neg hl7, if_neg hl8, if_neg hl9, if_neg hl10, if_neg hl11, if_neg hl12, if_neg hl13, if_pos hl14]
                        show Q6 Z p0 h0 n0 _ s₁.heap _
                        rw [e0]
                        exact ⟨(by rw [hv25]), N0, rfl⟩
                      · have m_hl4 : ¬ (34 : Int) = p0.toInt := fun q => hl4 (Int32.toInt_inj.mp (q.symm.trans (by decide)))
                        have m_hl5 : ¬ (39 : Int) = p0.toInt := fun q => hl5 (Int32.toInt_inj.mp (q.symm.trans (by decide)))
                        have m_hl6 : ¬ (63 : Int) = p0.toInt := fun q => hl6 (Int32.toInt_inj.mp (q.symm.trans (by decide)))
                        have m_hl7 : ¬ (92 : Int) = p0.toInt := fun q => hl7 (Int32.toInt_inj.mp (q.symm.trans (by decide)))
                        have m_hl8 : ¬ (97 : Int) = p0.toInt := fun q => hl8 (Int32.toInt_inj.mp (q.symm.trans (by decide)))
                        have m_hl9 : ¬ (98 : Int) = p0.toInt := fun q => hl9 (Int32.toInt_inj.mp (q.symm.trans (by decide)))
                        have m_hl10 : ¬ (102 : Int) = p0.toInt := fun q => hl10 (Int32.toInt_inj.mp (q.symm.trans (by decide)))
                        have m_hl11 : ¬ (110 : Int) = p0.toInt := fun q => hl11 (Int32.toInt_inj.mp (q.symm.trans (by decide)))
                        have m_hl12 : ¬ (114 : Int) = p0.toInt := fun q => hl12 (Int32.toInt_inj.mp (q.symm.trans (by decide)))
                        have m_hl13 : ¬ (116 : Int) = p0.toInt := fun q => hl13 (Int32.toInt_inj.mp (q.symm.trans (by decide)))
                        have m_hl14 : ¬ (118 : Int) = p0.toInt := fun q => hl14 (Int32.toInt_inj.mp (q.symm.trans (by decide)))
                        refine OGl.go (T' := s₁) (g' := (mkF m 139 #[iv p0] [])) (fun t k => ?_) ?_
                        · show Steps p.tables e below (s₁.setTop (mkF m 1 #[iv p0] [.int p0])) _
                          jvm_step X0.here [X0.here.top, hx, (hb hby d6_1), m_hl4, m_hl5, m_hl6, m_hl7, m_hl8, m_hl9, m_hl10, m_hl11, m_hl12, m_hl13, m_hl14]
                          exact k
                        show OGl _ _ _ _ s₁ (mkF m 139 #[iv p0] [])
                        refine OGl.go (fun t k => XS.iconst X0.here hx rfl (hb hby d6_139) k) ?_
                        show OGl _ _ _ _ s₁ (mkF m 140 #[iv p0] [.int (-1)])
                        obtain ⟨fs, hr, hrun, hended, hW, hsame⟩ := X0.leave (v := some (.int (-1))) (fun h => by rw [Bd.returns] at h; cases h)
                        refine ⟨_, _, retI X0 hx Bd.returns (hb hby d6_140) hr, hrun, hended, _, _, rfl, ?_, ⟨_, rfl⟩, hW, hsame.mono (by decide) (by decide)⟩
                        have hv26 : (t6_0 p0) = (-1 : Int32) := by unfold t6_0; rw [if_neg hl4, if_neg hl5, if_neg hl6, if_neg hl7, if_neg hl8, if_neg hl9, if_neg hl10, if_neg hl11, if_neg hl12, if_neg hl13, if_neg hl14]
                        show Q6 Z p0 h0 n0 _ s₁.heap _
                        rw [e0]
                        exact ⟨(by rw [hv26]), N0, rfl⟩
theorem pd_0 : parseMethodDescriptor "(C)I" = some ⟨[.char], some .int⟩ := by decide +kernel
theorem d7_0 : decode method_4_code 0 = .ok (.iload_n 0, 1) := by decide +kernel
theorem d7_1 : decode method_4_code 1 = .ok (.invokestatic 28, 3) := by decide +kernel
theorem d8_0 : decode method_3_code 0 = .ok (.iload_n 0, 1) := by decide +kernel
theorem d8_1 : decode method_3_code 1 = .ok (.bipush 97, 2) := by decide +kernel
theorem d8_3 : decode method_3_code 3 = .ok (.if_icmp .ne 5, 3) := by decide +kernel
theorem d8_6 : decode method_3_code 6 = .ok (.iconst 0, 1) := by decide +kernel
theorem d8_7 : decode method_3_code 7 = .ok (.ireturn, 1) := by decide +kernel
theorem d8_8 : decode method_3_code 8 = .ok (.iload_n 0, 1) := by decide +kernel
theorem d8_9 : decode method_3_code 9 = .ok (.bipush 98, 2) := by decide +kernel
theorem d8_11 : decode method_3_code 11 = .ok (.if_icmp .ne 5, 3) := by decide +kernel
theorem d8_14 : decode method_3_code 14 = .ok (.iconst 1, 1) := by decide +kernel
theorem d8_15 : decode method_3_code 15 = .ok (.ireturn, 1) := by decide +kernel
theorem d8_16 : decode method_3_code 16 = .ok (.iload_n 0, 1) := by decide +kernel
theorem d8_17 : decode method_3_code 17 = .ok (.bipush 116, 2) := by decide +kernel
theorem d8_19 : decode method_3_code 19 = .ok (.if_icmp .ne 5, 3) := by decide +kernel
theorem d8_22 : decode method_3_code 22 = .ok (.iconst 2, 1) := by decide +kernel
theorem d8_23 : decode method_3_code 23 = .ok (.ireturn, 1) := by decide +kernel
theorem d8_24 : decode method_3_code 24 = .ok (.iload_n 0, 1) := by decide +kernel
theorem d8_25 : decode method_3_code 25 = .ok (.bipush 110, 2) := by decide +kernel
theorem d8_27 : decode method_3_code 27 = .ok (.if_icmp .ne 5, 3) := by decide +kernel
theorem d8_30 : decode method_3_code 30 = .ok (.iconst 3, 1) := by decide +kernel
theorem d8_31 : decode method_3_code 31 = .ok (.ireturn, 1) := by decide +kernel
theorem d8_32 : decode method_3_code 32 = .ok (.iload_n 0, 1) := by decide +kernel
theorem d8_33 : decode method_3_code 33 = .ok (.bipush 118, 2) := by decide +kernel
theorem d8_35 : decode method_3_code 35 = .ok (.if_icmp .ne 5, 3) := by decide +kernel
theorem d8_38 : decode method_3_code 38 = .ok (.iconst 4, 1) := by decide +kernel
theorem d8_39 : decode method_3_code 39 = .ok (.ireturn, 1) := by decide +kernel
theorem d8_40 : decode method_3_code 40 = .ok (.iload_n 0, 1) := by decide +kernel
theorem d8_41 : decode method_3_code 41 = .ok (.bipush 102, 2) := by decide +kernel
theorem d8_43 : decode method_3_code 43 = .ok (.if_icmp .ne 5, 3) := by decide +kernel
theorem d8_46 : decode method_3_code 46 = .ok (.iconst 5, 1) := by decide +kernel
theorem d8_47 : decode method_3_code 47 = .ok (.ireturn, 1) := by decide +kernel
theorem d8_48 : decode method_3_code 48 = .ok (.iload_n 0, 1) := by decide +kernel
theorem d8_49 : decode method_3_code 49 = .ok (.bipush 114, 2) := by decide +kernel
theorem d8_51 : decode method_3_code 51 = .ok (.if_icmp .ne 6, 3) := by decide +kernel
theorem d8_54 : decode method_3_code 54 = .ok (.bipush 6, 2) := by decide +kernel
theorem d8_56 : decode method_3_code 56 = .ok (.ireturn, 1) := by decide +kernel
theorem d8_57 : decode method_3_code 57 = .ok (.iconst (-1), 1) := by decide +kernel
theorem d8_58 : decode method_3_code 58 = .ok (.ireturn, 1) := by decide +kernel
theorem ef_8 (m : MethodId) (x0 : Int32) : entryFrame m #[.int x0] 1 = mkF m 0 #[iv x0] [] := by first | (simp [entryFrame, mkF, argsToLocals, Value.category]; done) | rfl
theorem pn_1 : plainName "com/example/wyrmsmith/wyrmsmith/SourceTextSimpleEscapePinLaw" = true := by first | (simp [plainName, overriddenIn]; done) | decide +kernel
def t8_0 (p0 : Int32) : Int32 := (if p0 = (97 : Int32) then (0 : Int32) else (if p0 = (98 : Int32) then (1 : Int32) else (if p0 = (116 : Int32) then (2 : Int32) else (if p0 = (110 : Int32) then (3 : Int32) else (if p0 = (118 : Int32) then (4 : Int32) else (if p0 = (102 : Int32) then (5 : Int32) else (if p0 = (114 : Int32) then (6 : Int32) else (-1 : Int32))))))))
def Q8 (Z : State) (p0 : Int32) (h0 : Heap) (n0 : Nat) (v : Option Value) (h : Heap) (L : List Loc) : Prop := v = some (.int (t8_0 p0)) ∧ Fr n0 L ∧ h = h0
set_option maxRecDepth 65536 in
set_option maxHeartbeats 40000000 in
theorem rm8 (l : Launch) (Z : State) (a0 : Array Value) (hw : ∀ d ∈ tables_1, d.before a0 Z = true) (ws : List Jvm.Cond) (p0 : Int32) (h0 : Heap) (n0 : Nat) (Z0 : n0 ≤ h0.size) :
    MetFree l (⟨"com/example/wyrmsmith/wyrmsmith/SourceTextSimpleEscapePinLaw", "controlPosition", "(C)I"⟩ : MethodName) (head1 (Jvm.Cond.code (⟨"com/example/wyrmsmith/wyrmsmith/SourceTextSimpleEscapePinLaw", "controlPosition", "(C)I"⟩ : MethodName) method_3_code 1 (some .int) :: ws) ({ frames := 0, cells := 0, slots := 0, locals := 0 } : Room)) (fun a U => a = #[.int p0] ∧ Z.Warmed39 U.vm ∧ U.heap = h0) (fun _ _ _ _ _ => True) (fun _ U o U' => ∃ v L, o = .returned v ∧ Q8 Z p0 h0 n0 v U'.heap L ∧ FrameEnd U o U' L ({ frames := 0, cells := 0, slots := 0, locals := 0 } : Room).cells ({ frames := 0, cells := 0, slots := 0, locals := 0 } : Room).slots) := by
  refine MetFree.of_bodySF (plainFor_of_name pn_1) hisR ?_
  intro p e s m args below meth c s₁ Bd hml0 hP hK
  obtain ⟨rfl, hZ, hh⟩ := hP
  have hx := Bd.exec
  have hby := Bd.bytes
  have hml : c.maxLocals = 1 := hml0
  have hown : s.vm.findClass "com/example/wyrmsmith/wyrmsmith/SourceTextSimpleEscapePinLaw" = some m.cls := findClass_of_methodNamed Bd.named
  have hnm := (name_of_methodNamed Bd.named Bd.method).1
  have X0 : Stand p l e ({ frames := 0, cells := 0, slots := 0, locals := 0 } : Room) s m #[.int p0] below meth c s₁ [] 0 0 := Stand.of_body Bd
  have e0 : s₁.heap = h0 := by rw [← hh, Bd.state]; rfl
  have N0 := Fr.nil n0
  refine OGl.start (ef_8 m p0) ?_
  show OGl _ _ _ _ s₁ (mkF m 0 #[iv p0] [])
  refine OGl.go (fun t k => XS.iloadN X0.here hx rfl (hb hby d8_0) rfl (XS.bipush X0.here hx rfl (hb hby d8_1) k)) ?_
  show OGl _ _ _ _ s₁ (mkF m 3 #[iv p0] [.int 97, .int p0])
  by_cases hc29 : p0 = (97 : Int32)
  · refine OGl.go (fun t k => XS.icmpNo X0.here hx rfl (hb hby d8_3) rfl (teq hc29).2 (XS.iconst X0.here hx rfl (hb hby d8_6) k)) ?_
    show OGl _ _ _ _ s₁ (mkF m 7 #[iv p0] [.int 0])
    obtain ⟨fs, hr, hrun, hended, hW, hsame⟩ := X0.leave (v := some (.int 0)) (fun h => by rw [Bd.returns] at h; cases h)
    refine ⟨_, _, retI X0 hx Bd.returns (hb hby d8_7) hr, hrun, hended, _, _, rfl, ?_, ⟨_, rfl⟩, hW, hsame.mono (by decide) (by decide)⟩
    have hv36 : (t8_0 p0) = (0 : Int32) := by unfold t8_0; rw [if_pos hc29]
    show Q8 Z p0 h0 n0 _ s₁.heap _
    rw [e0]
    exact ⟨(by rw [hv36]), N0, rfl⟩
  · refine OGl.go (fun t k => XS.icmpYes X0.here hx rfl (pc0 := 3) (pc' := 8) rfl (hb hby d8_3) rfl (feq hc29).2 (by decide) (by decide) (XS.iloadN X0.here hx rfl (hb hby d8_8) rfl (XS.bipush X0.here hx rfl (hb hby d8_9) k))) ?_
    show OGl _ _ _ _ s₁ (mkF m 11 #[iv p0] [.int 98, .int p0])
    by_cases hc30 : p0 = (98 : Int32)
    · refine OGl.go (fun t k => XS.icmpNo X0.here hx rfl (hb hby d8_11) rfl (teq hc30).2 (XS.iconst X0.here hx rfl (hb hby d8_14) k)) ?_
      show OGl _ _ _ _ s₁ (mkF m 15 #[iv p0] [.int 1])
      obtain ⟨fs, hr, hrun, hended, hW, hsame⟩ := X0.leave (v := some (.int 1)) (fun h => by rw [Bd.returns] at h; cases h)
      refine ⟨_, _, retI X0 hx Bd.returns (hb hby d8_15) hr, hrun, hended, _, _, rfl, ?_, ⟨_, rfl⟩, hW, hsame.mono (by decide) (by decide)⟩
      have hv37 : (t8_0 p0) = (1 : Int32) := by unfold t8_0; rw [if_neg hc29, if_pos hc30]
      show Q8 Z p0 h0 n0 _ s₁.heap _
      rw [e0]
      exact ⟨(by rw [hv37]), N0, rfl⟩
    · refine OGl.go (fun t k => XS.icmpYes X0.here hx rfl (pc0 := 11) (pc' := 16) rfl (hb hby d8_11) rfl (feq hc30).2 (by decide) (by decide) (XS.iloadN X0.here hx rfl (hb hby d8_16) rfl (XS.bipush X0.here hx rfl (hb hby d8_17) k))) ?_
      show OGl _ _ _ _ s₁ (mkF m 19 #[iv p0] [.int 116, .int p0])
      by_cases hc31 : p0 = (116 : Int32)
      · refine OGl.go (fun t k => XS.icmpNo X0.here hx rfl (hb hby d8_19) rfl (teq hc31).2 (XS.iconst X0.here hx rfl (hb hby d8_22) k)) ?_
        show OGl _ _ _ _ s₁ (mkF m 23 #[iv p0] [.int 2])
        obtain ⟨fs, hr, hrun, hended, hW, hsame⟩ := X0.leave (v := some (.int 2)) (fun h => by rw [Bd.returns] at h; cases h)
        refine ⟨_, _, retI X0 hx Bd.returns (hb hby d8_23) hr, hrun, hended, _, _, rfl, ?_, ⟨_, rfl⟩, hW, hsame.mono (by decide) (by decide)⟩
        have hv38 : (t8_0 p0) = (2 : Int32) := by unfold t8_0; rw [if_neg hc29, if_neg hc30, if_pos hc31]
        show Q8 Z p0 h0 n0 _ s₁.heap _
        rw [e0]
        exact ⟨(by rw [hv38]), N0, rfl⟩
      · refine OGl.go (fun t k => XS.icmpYes X0.here hx rfl (pc0 := 19) (pc' := 24) rfl (hb hby d8_19) rfl (feq hc31).2 (by decide) (by decide) (XS.iloadN X0.here hx rfl (hb hby d8_24) rfl (XS.bipush X0.here hx rfl (hb hby d8_25) k))) ?_
        show OGl _ _ _ _ s₁ (mkF m 27 #[iv p0] [.int 110, .int p0])
        by_cases hc32 : p0 = (110 : Int32)
        · refine OGl.go (fun t k => XS.icmpNo X0.here hx rfl (hb hby d8_27) rfl (teq hc32).2 (XS.iconst X0.here hx rfl (hb hby d8_30) k)) ?_
          show OGl _ _ _ _ s₁ (mkF m 31 #[iv p0] [.int 3])
          obtain ⟨fs, hr, hrun, hended, hW, hsame⟩ := X0.leave (v := some (.int 3)) (fun h => by rw [Bd.returns] at h; cases h)
          refine ⟨_, _, retI X0 hx Bd.returns (hb hby d8_31) hr, hrun, hended, _, _, rfl, ?_, ⟨_, rfl⟩, hW, hsame.mono (by decide) (by decide)⟩
          have hv39 : (t8_0 p0) = (3 : Int32) := by unfold t8_0; rw [if_neg hc29, if_neg hc30, if_neg hc31, if_pos hc32]
          show Q8 Z p0 h0 n0 _ s₁.heap _
          rw [e0]
          exact ⟨(by rw [hv39]), N0, rfl⟩
        · refine OGl.go (fun t k => XS.icmpYes X0.here hx rfl (pc0 := 27) (pc' := 32) rfl (hb hby d8_27) rfl (feq hc32).2 (by decide) (by decide) (XS.iloadN X0.here hx rfl (hb hby d8_32) rfl (XS.bipush X0.here hx rfl (hb hby d8_33) k))) ?_
          show OGl _ _ _ _ s₁ (mkF m 35 #[iv p0] [.int 118, .int p0])
          by_cases hc33 : p0 = (118 : Int32)
          · refine OGl.go (fun t k => XS.icmpNo X0.here hx rfl (hb hby d8_35) rfl (teq hc33).2 (XS.iconst X0.here hx rfl (hb hby d8_38) k)) ?_
            show OGl _ _ _ _ s₁ (mkF m 39 #[iv p0] [.int 4])
            obtain ⟨fs, hr, hrun, hended, hW, hsame⟩ := X0.leave (v := some (.int 4)) (fun h => by rw [Bd.returns] at h; cases h)
            refine ⟨_, _, retI X0 hx Bd.returns (hb hby d8_39) hr, hrun, hended, _, _, rfl, ?_, ⟨_, rfl⟩, hW, hsame.mono (by decide) (by decide)⟩
            have hv40 : (t8_0 p0) = (4 : Int32) := by unfold t8_0; rw [if_neg hc29, if_neg hc30, if_neg hc31, if_neg hc32, if_pos hc33]
            show Q8 Z p0 h0 n0 _ s₁.heap _
            rw [e0]
            exact ⟨(by rw [hv40]), N0, rfl⟩
          · refine OGl.go (fun t k => XS.icmpYes X0.here hx rfl (pc0 := 35) (pc' := 40) rfl (hb hby d8_35) rfl (feq hc33).2 (by decide) (by decide) (XS.iloadN X0.here hx rfl (hb hby d8_40) rfl (XS.bipush X0.here hx rfl (hb hby d8_41) k))) ?_
            show OGl _ _ _ _ s₁ (mkF m 43 #[iv p0] [.int 102, .int p0])
            by_cases hc34 : p0 = (102 : Int32)
            · refine OGl.go (fun t k => XS.icmpNo X0.here hx rfl (hb hby d8_43) rfl (teq hc34).2 (XS.iconst X0.here hx rfl (hb hby d8_46) k)) ?_
              show OGl _ _ _ _ s₁ (mkF m 47 #[iv p0] [.int 5])
              obtain ⟨fs, hr, hrun, hended, hW, hsame⟩ := X0.leave (v := some (.int 5)) (fun h => by rw [Bd.returns] at h; cases h)
              refine ⟨_, _, retI X0 hx Bd.returns (hb hby d8_47) hr, hrun, hended, _, _, rfl, ?_, ⟨_, rfl⟩, hW, hsame.mono (by decide) (by decide)⟩
              have hv41 : (t8_0 p0) = (5 : Int32) := by unfold t8_0; rw [if_neg hc29, if_neg hc30, if_neg hc31, if_neg hc32, if_neg hc33, if_pos hc34]
              show Q8 Z p0 h0 n0 _ s₁.heap _
              rw [e0]
              exact ⟨(by rw [hv41]), N0, rfl⟩
            · refine OGl.go (fun t k => XS.icmpYes X0.here hx rfl (pc0 := 43) (pc' := 48) rfl (hb hby d8_43) rfl (feq hc34).2 (by decide) (by decide) (XS.iloadN X0.here hx rfl (hb hby d8_48) rfl (XS.bipush X0.here hx rfl (hb hby d8_49) k))) ?_
              show OGl _ _ _ _ s₁ (mkF m 51 #[iv p0] [.int 114, .int p0])
              by_cases hc35 : p0 = (114 : Int32)
              · refine OGl.go (fun t k => XS.icmpNo X0.here hx rfl (hb hby d8_51) rfl (teq hc35).2 (XS.bipush X0.here hx rfl (hb hby d8_54) k)) ?_
                show OGl _ _ _ _ s₁ (mkF m 56 #[iv p0] [.int 6])
                obtain ⟨fs, hr, hrun, hended, hW, hsame⟩ := X0.leave (v := some (.int 6)) (fun h => by rw [Bd.returns] at h; cases h)
                refine ⟨_, _, retI X0 hx Bd.returns (hb hby d8_56) hr, hrun, hended, _, _, rfl, ?_, ⟨_, rfl⟩, hW, hsame.mono (by decide) (by decide)⟩
                have hv42 : (t8_0 p0) = (6 : Int32) := by unfold t8_0; rw [if_neg hc29, if_neg hc30, if_neg hc31, if_neg hc32, if_neg hc33, if_neg hc34, if_pos hc35]
                show Q8 Z p0 h0 n0 _ s₁.heap _
                rw [e0]
                exact ⟨(by rw [hv42]), N0, rfl⟩
              · refine OGl.go (fun t k => XS.icmpYes X0.here hx rfl (pc0 := 51) (pc' := 57) rfl (hb hby d8_51) rfl (feq hc35).2 (by decide) (by decide) (XS.iconst X0.here hx rfl (hb hby d8_57) k)) ?_
                show OGl _ _ _ _ s₁ (mkF m 58 #[iv p0] [.int (-1)])
                obtain ⟨fs, hr, hrun, hended, hW, hsame⟩ := X0.leave (v := some (.int (-1))) (fun h => by rw [Bd.returns] at h; cases h)
                refine ⟨_, _, retI X0 hx Bd.returns (hb hby d8_58) hr, hrun, hended, _, _, rfl, ?_, ⟨_, rfl⟩, hW, hsame.mono (by decide) (by decide)⟩
                have hv43 : (t8_0 p0) = (-1 : Int32) := by unfold t8_0; rw [if_neg hc29, if_neg hc30, if_neg hc31, if_neg hc32, if_neg hc33, if_neg hc34, if_neg hc35]
                show Q8 Z p0 h0 n0 _ s₁.heap _
                rw [e0]
                exact ⟨(by rw [hv43]), N0, rfl⟩
theorem d7_4 : decode method_4_code 4 = .ok (.istore_n 1, 1) := by decide +kernel
theorem d7_5 : decode method_4_code 5 = .ok (.iload_n 1, 1) := by decide +kernel
theorem d7_6 : decode method_4_code 6 = .ok (.ifCond .lt 8, 3) := by decide +kernel
theorem d7_14 : decode method_4_code 14 = .ok (.iload_n 0, 1) := by decide +kernel
theorem d7_15 : decode method_4_code 15 = .ok (.bipush 92, 2) := by decide +kernel
theorem d7_17 : decode method_4_code 17 = .ok (.if_icmp .eq 21, 3) := by decide +kernel
theorem d7_38 : decode method_4_code 38 = .ok (.iload_n 0, 1) := by decide +kernel
theorem d7_39 : decode method_4_code 39 = .ok (.ireturn, 1) := by decide +kernel
theorem d7_20 : decode method_4_code 20 = .ok (.iload_n 0, 1) := by decide +kernel
theorem d7_21 : decode method_4_code 21 = .ok (.bipush 39, 2) := by decide +kernel
theorem d7_23 : decode method_4_code 23 = .ok (.if_icmp .eq 15, 3) := by decide +kernel
theorem d7_26 : decode method_4_code 26 = .ok (.iload_n 0, 1) := by decide +kernel
theorem d7_27 : decode method_4_code 27 = .ok (.bipush 34, 2) := by decide +kernel
theorem d7_29 : decode method_4_code 29 = .ok (.if_icmp .eq 9, 3) := by decide +kernel
theorem d7_32 : decode method_4_code 32 = .ok (.iload_n 0, 1) := by decide +kernel
theorem d7_33 : decode method_4_code 33 = .ok (.bipush 63, 2) := by decide +kernel
theorem d7_35 : decode method_4_code 35 = .ok (.if_icmp .ne 5, 3) := by decide +kernel
theorem d7_40 : decode method_4_code 40 = .ok (.iconst (-1), 1) := by decide +kernel
theorem d7_41 : decode method_4_code 41 = .ok (.ireturn, 1) := by decide +kernel
theorem d7_9 : decode method_4_code 9 = .ok (.bipush 7, 2) := by decide +kernel
theorem d7_11 : decode method_4_code 11 = .ok (.iload_n 1, 1) := by decide +kernel
theorem d7_12 : decode method_4_code 12 = .ok (.iadd, 1) := by decide +kernel
theorem d7_13 : decode method_4_code 13 = .ok (.ireturn, 1) := by decide +kernel
theorem ef_7 (m : MethodId) (x0 : Int32) : entryFrame m #[.int x0] 2 = mkF m 0 #[iv x0, un] [] := by first | (simp [entryFrame, mkF, argsToLocals, Value.category]; done) | rfl
def t7_0 (p0 : Int32) : Int32 := (if (t8_0 p0) < (0 : Int32) then (if p0 = (92 : Int32) then p0 else (if p0 = (39 : Int32) then p0 else (if p0 = (34 : Int32) then p0 else (if p0 = (63 : Int32) then p0 else (-1 : Int32))))) else ((7 : Int32) + (t8_0 p0)))
def Q7 (Z : State) (p0 : Int32) (h0 : Heap) (n0 : Nat) (v : Option Value) (h : Heap) (L : List Loc) : Prop := v = some (.int (t7_0 p0)) ∧ Fr n0 L ∧ h = h0
set_option maxRecDepth 65536 in
set_option maxHeartbeats 40000000 in
theorem rm7 (l : Launch) (Z : State) (a0 : Array Value) (hw : ∀ d ∈ tables_1, d.before a0 Z = true) (ws : List Jvm.Cond) (p0 : Int32) (h0 : Heap) (n0 : Nat) (Z0 : n0 ≤ h0.size) :
    MetFree l (⟨"com/example/wyrmsmith/wyrmsmith/SourceTextSimpleEscapePinLaw", "expected", "(C)I"⟩ : MethodName) (head1 (Jvm.Cond.code (⟨"com/example/wyrmsmith/wyrmsmith/SourceTextSimpleEscapePinLaw", "expected", "(C)I"⟩ : MethodName) method_4_code 2 (some .int) :: ws) ({ frames := 1, cells := 0, slots := 0, locals := 12 } : Room)) (fun a U => a = #[.int p0] ∧ Z.Warmed39 U.vm ∧ U.heap = h0) (fun _ _ _ _ _ => True) (fun _ U o U' => ∃ v L, o = .returned v ∧ Q7 Z p0 h0 n0 v U'.heap L ∧ FrameEnd U o U' L ({ frames := 1, cells := 0, slots := 0, locals := 12 } : Room).cells ({ frames := 1, cells := 0, slots := 0, locals := 12 } : Room).slots) := by
  refine MetFree.of_bodySF (plainFor_of_name pn_1) hisR ?_
  intro p e s m args below meth c s₁ Bd hml0 hP hK
  obtain ⟨rfl, hZ, hh⟩ := hP
  have hx := Bd.exec
  have hby := Bd.bytes
  have hml : c.maxLocals = 2 := hml0
  have hown : s.vm.findClass "com/example/wyrmsmith/wyrmsmith/SourceTextSimpleEscapePinLaw" = some m.cls := findClass_of_methodNamed Bd.named
  have hnm := (name_of_methodNamed Bd.named Bd.method).1
  have X0 : Stand p l e ({ frames := 1, cells := 0, slots := 0, locals := 12 } : Room) s m #[.int p0] below meth c s₁ [] 0 0 := Stand.of_body Bd
  have e0 : s₁.heap = h0 := by rw [← hh, Bd.state]; rfl
  have N0 := Fr.nil n0
  refine OGl.start (ef_7 m p0) ?_
  show OGl _ _ _ _ s₁ (mkF m 0 #[iv p0, un] [])
  refine OGl.go (fun t k => XS.iloadN X0.here hx rfl (hb hby d7_0) rfl k) ?_
  show OGl _ _ _ _ s₁ (mkF m 1 #[iv p0, un] [.int p0])
  obtain ⟨_, _, ⟨T28, L28, kk28, n28⟩, -, X28, ⟨Lc28, hQ28, l28, y28, z28⟩, st28⟩ := Jvm.LawKit.callS X0 hx (y := (⟨"com/example/wyrmsmith/wyrmsmith/SourceTextSimpleEscapePinLaw", "controlPosition", "(C)I"⟩ : MethodName)) hown (mvT hZ (hw _ (List.mem_of_getElem? (i := 42) rfl))) (mvT hZ (hw _ (List.mem_of_getElem? (i := 43) rfl))) (mvT hZ (hw _ (List.mem_of_getElem? (i := 40) rfl))) (mvT hZ (hw _ (List.mem_of_getElem? (i := 44) rfl))) (by decide) (backOf (W := 0) (rm8 l Z a0 hw [] p0 h0 n0 Z0 ) hZ (hw _ (List.mem_of_getElem? (i := 44) rfl)) (hw _ (List.mem_of_getElem? (i := 40) rfl)) (by decide) (by decide)) (g := (mkF m 1 #[iv p0, un] [.int p0])) rfl (by rw [hml]; rfl) (argsL := [.int p0]) (rest := []) (lenOf pd_0 rfl) rfl (by show 2 * 0 + _ ≤ _; exact Nat.le_of_eq rfl) (hb hby d7_1) (fun _ _ => ⟨rfl, e0, (by decide : 0 + 0 ≤ _), (by decide : 0 + 0 ≤ _)⟩)
  dsimp only [Pt.U, Pt.locs, Pt.cells, Pt.slots] at X28 l28 y28 z28 st28 hQ28
  subst l28 y28 z28
  obtain ⟨rfl, Nq28, e28⟩ := hQ28
  have N28 := Fr.app N0 Nq28
  refine OGl.go st28 ?_
  show OGl _ _ _ _ T28 (mkF m 4 #[iv p0, un] [.int (t8_0 p0)])
  refine OGl.go (fun t k => XS.istoreN X28.here hx rfl (hb hby d7_4) rfl (l' := #[iv p0, iv (t8_0 p0)]) rfl (XS.iloadN X28.here hx rfl (hb hby d7_5) rfl k)) ?_
  show OGl _ _ _ _ T28 (mkF m 6 #[iv p0, iv (t8_0 p0)] [.int (t8_0 p0)])
  by_cases hc44 : (t8_0 p0) < (0 : Int32)
  · refine OGl.go (fun t k => XS.ifYes X28.here hx rfl (pc0 := 6) (pc' := 14) rfl (hb hby d7_6) rfl ((if0 _ _).trans (tlt hc44).1) (by decide) (by decide) (XS.iloadN X28.here hx rfl (hb hby d7_14) rfl (XS.bipush X28.here hx rfl (hb hby d7_15) k))) ?_
    show OGl _ _ _ _ T28 (mkF m 17 #[iv p0, iv (t8_0 p0)] [.int 92, .int p0])
    by_cases hc45 : p0 = (92 : Int32)
    · refine OGl.go (fun t k => XS.icmpYes X28.here hx rfl (pc0 := 17) (pc' := 38) rfl (hb hby d7_17) rfl (teq hc45).1 (by decide) (by decide) (XS.iloadN X28.here hx rfl (hb hby d7_38) rfl k)) ?_
      show OGl _ _ _ _ T28 (mkF m 39 #[iv p0, iv (t8_0 p0)] [.int p0])
      obtain ⟨fs, hr, hrun, hended, hW, hsame⟩ := X28.leave (v := some (.int p0)) (fun h => by rw [Bd.returns] at h; cases h)
      refine ⟨_, _, retI X28 hx Bd.returns (hb hby d7_39) hr, hrun, hended, _, _, rfl, ?_, ⟨_, rfl⟩, hW, hsame.mono (by decide) (by decide)⟩
      have hv49 : (t7_0 p0) = p0 := by unfold t7_0; rw [if_pos hc44, if_pos hc45]
      show Q7 Z p0 h0 n0 _ T28.heap _
      rw [e28]
      exact ⟨(by rw [hv49]), N28, rfl⟩
    · refine OGl.go (fun t k => XS.icmpNo X28.here hx rfl (hb hby d7_17) rfl (feq hc45).1 (XS.iloadN X28.here hx rfl (hb hby d7_20) rfl (XS.bipush X28.here hx rfl (hb hby d7_21) k))) ?_
      show OGl _ _ _ _ T28 (mkF m 23 #[iv p0, iv (t8_0 p0)] [.int 39, .int p0])
      by_cases hc46 : p0 = (39 : Int32)
      · refine OGl.go (fun t k => XS.icmpYes X28.here hx rfl (pc0 := 23) (pc' := 38) rfl (hb hby d7_23) rfl (teq hc46).1 (by decide) (by decide) (XS.iloadN X28.here hx rfl (hb hby d7_38) rfl k)) ?_
        show OGl _ _ _ _ T28 (mkF m 39 #[iv p0, iv (t8_0 p0)] [.int p0])
        obtain ⟨fs, hr, hrun, hended, hW, hsame⟩ := X28.leave (v := some (.int p0)) (fun h => by rw [Bd.returns] at h; cases h)
        refine ⟨_, _, retI X28 hx Bd.returns (hb hby d7_39) hr, hrun, hended, _, _, rfl, ?_, ⟨_, rfl⟩, hW, hsame.mono (by decide) (by decide)⟩
        have hv50 : (t7_0 p0) = p0 := by unfold t7_0; rw [if_pos hc44, if_neg hc45, if_pos hc46]
        show Q7 Z p0 h0 n0 _ T28.heap _
        rw [e28]
        exact ⟨(by rw [hv50]), N28, rfl⟩
      · refine OGl.go (fun t k => XS.icmpNo X28.here hx rfl (hb hby d7_23) rfl (feq hc46).1 (XS.iloadN X28.here hx rfl (hb hby d7_26) rfl (XS.bipush X28.here hx rfl (hb hby d7_27) k))) ?_
        show OGl _ _ _ _ T28 (mkF m 29 #[iv p0, iv (t8_0 p0)] [.int 34, .int p0])
        by_cases hc47 : p0 = (34 : Int32)
        · refine OGl.go (fun t k => XS.icmpYes X28.here hx rfl (pc0 := 29) (pc' := 38) rfl (hb hby d7_29) rfl (teq hc47).1 (by decide) (by decide) (XS.iloadN X28.here hx rfl (hb hby d7_38) rfl k)) ?_
          show OGl _ _ _ _ T28 (mkF m 39 #[iv p0, iv (t8_0 p0)] [.int p0])
          obtain ⟨fs, hr, hrun, hended, hW, hsame⟩ := X28.leave (v := some (.int p0)) (fun h => by rw [Bd.returns] at h; cases h)
          refine ⟨_, _, retI X28 hx Bd.returns (hb hby d7_39) hr, hrun, hended, _, _, rfl, ?_, ⟨_, rfl⟩, hW, hsame.mono (by decide) (by decide)⟩
          have hv51 : (t7_0 p0) = p0 := by unfold t7_0; rw [if_pos hc44, if_neg hc45, if_neg hc46, if_pos hc47]
          show Q7 Z p0 h0 n0 _ T28.heap _
          rw [e28]
          exact ⟨(by rw [hv51]), N28, rfl⟩
        · refine OGl.go (fun t k => XS.icmpNo X28.here hx rfl (hb hby d7_29) rfl (feq hc47).1 (XS.iloadN X28.here hx rfl (hb hby d7_32) rfl (XS.bipush X28.here hx rfl (hb hby d7_33) k))) ?_
          show OGl _ _ _ _ T28 (mkF m 35 #[iv p0, iv (t8_0 p0)] [.int 63, .int p0])
          by_cases hc48 : p0 = (63 : Int32)
          · refine OGl.go (fun t k => XS.icmpNo X28.here hx rfl (hb hby d7_35) rfl (teq hc48).2 (XS.iloadN X28.here hx rfl (hb hby d7_38) rfl k)) ?_
            show OGl _ _ _ _ T28 (mkF m 39 #[iv p0, iv (t8_0 p0)] [.int p0])
            obtain ⟨fs, hr, hrun, hended, hW, hsame⟩ := X28.leave (v := some (.int p0)) (fun h => by rw [Bd.returns] at h; cases h)
            refine ⟨_, _, retI X28 hx Bd.returns (hb hby d7_39) hr, hrun, hended, _, _, rfl, ?_, ⟨_, rfl⟩, hW, hsame.mono (by decide) (by decide)⟩
            have hv52 : (t7_0 p0) = p0 := by unfold t7_0; rw [if_pos hc44, if_neg hc45, if_neg hc46, if_neg hc47, if_pos hc48]
            show Q7 Z p0 h0 n0 _ T28.heap _
            rw [e28]
            exact ⟨(by rw [hv52]), N28, rfl⟩
          · refine OGl.go (fun t k => XS.icmpYes X28.here hx rfl (pc0 := 35) (pc' := 40) rfl (hb hby d7_35) rfl (feq hc48).2 (by decide) (by decide) (XS.iconst X28.here hx rfl (hb hby d7_40) k)) ?_
            show OGl _ _ _ _ T28 (mkF m 41 #[iv p0, iv (t8_0 p0)] [.int (-1)])
            obtain ⟨fs, hr, hrun, hended, hW, hsame⟩ := X28.leave (v := some (.int (-1))) (fun h => by rw [Bd.returns] at h; cases h)
            refine ⟨_, _, retI X28 hx Bd.returns (hb hby d7_41) hr, hrun, hended, _, _, rfl, ?_, ⟨_, rfl⟩, hW, hsame.mono (by decide) (by decide)⟩
            have hv53 : (t7_0 p0) = (-1 : Int32) := by unfold t7_0; rw [if_pos hc44, if_neg hc45, if_neg hc46, if_neg hc47, if_neg hc48]
            show Q7 Z p0 h0 n0 _ T28.heap _
            rw [e28]
            exact ⟨(by rw [hv53]), N28, rfl⟩
  · refine OGl.go (fun t k => XS.ifNo X28.here hx rfl (hb hby d7_6) rfl ((if0 _ _).trans (flt hc44).1) (XS.bipush X28.here hx rfl (hb hby d7_9) (XS.iloadN X28.here hx rfl (hb hby d7_11) rfl (XS.iadd X28.here hx rfl (hb hby d7_12) rfl k)))) ?_
    show OGl _ _ _ _ T28 (mkF m 13 #[iv p0, iv (t8_0 p0)] [.int ((7 : Int32) + (t8_0 p0))])
    obtain ⟨fs, hr, hrun, hended, hW, hsame⟩ := X28.leave (v := some (.int ((7 : Int32) + (t8_0 p0)))) (fun h => by rw [Bd.returns] at h; cases h)
    refine ⟨_, _, retI X28 hx Bd.returns (hb hby d7_13) hr, hrun, hended, _, _, rfl, ?_, ⟨_, rfl⟩, hW, hsame.mono (by decide) (by decide)⟩
    have hv54 : (t7_0 p0) = ((7 : Int32) + (t8_0 p0)) := by unfold t7_0; rw [if_neg hc44]
    show Q7 Z p0 h0 n0 _ T28.heap _
    rw [e28]
    exact ⟨(by rw [hv54]), N28, rfl⟩
theorem d1_0 : decode jdk_42_method_56_code 0 = .ok (.aload_n 0, 1) := by decide +kernel
theorem d1_1 : decode jdk_42_method_56_code 1 = .ok (.invokevirtual 492, 3) := by decide +kernel
theorem d2_0 : decode jdk_42_method_154_code 0 = .ok (.getstatic 38, 3) := by decide +kernel
theorem d2_3 : decode jdk_42_method_154_code 3 = .ok (.ifCond .eq 14, 3) := by decide +kernel
theorem d2_6 : decode jdk_42_method_154_code 6 = .ok (.aload_n 0, 1) := by decide +kernel
theorem d2_7 : decode jdk_42_method_154_code 7 = .ok (.getfield 15, 3) := by decide +kernel
theorem d2_10 : decode jdk_42_method_154_code 10 = .ok (.ifCond .ne 7, 3) := by decide +kernel
theorem d2_13 : decode jdk_42_method_154_code 13 = .ok (.iconst 1, 1) := by decide +kernel
theorem d2_14 : decode jdk_42_method_154_code 14 = .ok (.goto 4, 3) := by decide +kernel
theorem d2_18 : decode jdk_42_method_154_code 18 = .ok (.ireturn, 1) := by decide +kernel
theorem ef_2 (m : MethodId) (x0 : Addr) : entryFrame m #[.ref x0] 1 = mkF m 0 #[rv x0] [] := by first | (simp [entryFrame, mkF, argsToLocals, Value.category]; done) | rfl
theorem pn_2 : plainName "java/lang/String" = true := by first | (simp [plainName, overriddenIn]; done) | decide +kernel
def Q2 (Z : State) (o0 : Addr) (p1 : Int32) (h0 : Heap) (n0 : Nat) (v : Option Value) (h : Heap) (L : List Loc) : Prop := v = some (.int 1) ∧ Fr n0 L ∧ h = h0
set_option maxRecDepth 65536 in
set_option maxHeartbeats 40000000 in
theorem rm2 (l : Launch) (Z : State) (a0 : Array Value) (hw : ∀ d ∈ tables_1, d.before a0 Z = true) (ws : List Jvm.Cond) (o0 : Addr) (p1 : Int32) (h0 : Heap) (n0 : Nat) (Z0 : n0 ≤ h0.size) (S0 : Sta Z h0 "java/lang/String" "COMPACT_STRINGS" "Z" (.int p1)) (hp1_2 : ¬ (p1 = (0 : Int32))) (F2_o0 : Fld Z h0 o0 "java/lang/String" "coder" "B" (.int 0)) :
    MetFree l (⟨"java/lang/String", "isLatin1", "()Z"⟩ : MethodName) (head1 (Jvm.Cond.code (⟨"java/lang/String", "isLatin1", "()Z"⟩ : MethodName) jdk_42_method_154_code 1 (some .boolean) :: ws) ({ frames := 0, cells := 0, slots := 0, locals := 0 } : Room)) (fun a U => a = #[.ref o0] ∧ Z.Warmed39 U.vm ∧ U.heap = h0) (fun _ _ _ _ _ => True) (fun _ U o U' => ∃ v L, o = .returned v ∧ Q2 Z o0 p1 h0 n0 v U'.heap L ∧ FrameEnd U o U' L ({ frames := 0, cells := 0, slots := 0, locals := 0 } : Room).cells ({ frames := 0, cells := 0, slots := 0, locals := 0 } : Room).slots) := by
  refine MetFree.of_bodySF (plainFor_of_name pn_2) hisR ?_
  intro p e s m args below meth c s₁ Bd hml0 hP hK
  obtain ⟨rfl, hZ, hh⟩ := hP
  have hx := Bd.exec
  have hby := Bd.bytes
  have hml : c.maxLocals = 1 := hml0
  have hown : s.vm.findClass "java/lang/String" = some m.cls := findClass_of_methodNamed Bd.named
  have hnm := (name_of_methodNamed Bd.named Bd.method).1
  have X0 : Stand p l e ({ frames := 0, cells := 0, slots := 0, locals := 0 } : Room) s m #[.ref o0] below meth c s₁ [] 0 0 := Stand.of_body Bd
  have e0 : s₁.heap = h0 := by rw [← hh, Bd.state]; rfl
  have N0 := Fr.nil n0
  refine OGl.start (ef_2 m o0) ?_
  show OGl _ _ _ _ s₁ (mkF m 0 #[rv o0] [])
  obtain ⟨T59, X59, e59, st59⟩ := getS2 X0 hx hZ hown (host := "") (Or.inl (hw _ (List.mem_of_getElem? (i := 19) rfl))) Via.refl e0 S0 (g := (mkF m 0 #[rv o0] [])) rfl (hb hby d2_0)
  refine OGl.go st59 ?_
  show OGl _ _ _ _ T59 (mkF m 3 #[rv o0] [.int p1])
  refine OGl.go (fun t k => XS.ifNo X59.here hx rfl (hb hby d2_3) rfl ((if0 _ _).trans (feq hp1_2).1) (XS.aloadN X59.here hx rfl (hb hby d2_6) rfl rfl k)) (own_getG X59 hx hZ hown (hw _ (List.mem_of_getElem? (i := 20) rfl)) e59 F2_o0 rfl rfl (hb hby d2_7) fun T60 X60 e60 => OGl.go (fun t k => XS.ifNo X60.here hx rfl (hb hby d2_10) rfl ((if0 _ _).trans (teq (by decide : (0 : Int32) = (0 : Int32))).2) (XS.iconst X60.here hx rfl (hb hby d2_13) (XS.goto X60.here hx rfl (pc0 := 14) (pc' := 18) rfl (hb hby d2_14) (by decide) (by decide) k))) ?_)
  show OGl _ _ _ _ T60 (mkF m 18 #[rv o0] [.int 1])
  obtain ⟨fs, hr, hrun, hended, hW, hsame⟩ := X60.leave (v := some (.int 1)) (fun h => by rw [Bd.returns] at h; cases h)
  refine ⟨_, _, retN X60 hx (t := .boolean) Bd.returns (by simp) (hb hby d2_18) hr, hrun, hended, _, _, rfl, ?_, ⟨_, rfl⟩, hW, hsame.mono (by decide) (by decide)⟩
  show Q2 Z o0 p1 h0 n0 _ T60.heap _
  rw [e60]
  exact ⟨rfl, N0, rfl⟩
theorem pd_1 : parseMethodDescriptor "()Z" = some ⟨[], some .boolean⟩ := by decide +kernel
theorem d1_4 : decode jdk_42_method_56_code 4 = .ok (.ifCond .eq 12, 3) := by decide +kernel
theorem d1_7 : decode jdk_42_method_56_code 7 = .ok (.aload_n 0, 1) := by decide +kernel
theorem d1_8 : decode jdk_42_method_56_code 8 = .ok (.getfield 9, 3) := by decide +kernel
theorem d1_11 : decode jdk_42_method_56_code 11 = .ok (.iload_n 1, 1) := by decide +kernel
theorem d1_12 : decode jdk_42_method_56_code 12 = .ok (.invokestatic 495, 3) := by decide +kernel
theorem d3_0 : decode jdk_43_method_2_code 0 = .ok (.iload_n 1, 1) := by decide +kernel
theorem d3_1 : decode jdk_43_method_2_code 1 = .ok (.aload_n 0, 1) := by decide +kernel
theorem d3_2 : decode jdk_43_method_2_code 2 = .ok (.arraylength, 1) := by decide +kernel
theorem d3_3 : decode jdk_43_method_2_code 3 = .ok (.invokestatic 9, 3) := by decide +kernel
theorem d4_0 : decode jdk_42_method_155_code 0 = .ok (.iload_n 0, 1) := by decide +kernel
theorem d4_1 : decode jdk_42_method_155_code 1 = .ok (.iload_n 1, 1) := by decide +kernel
theorem d4_2 : decode jdk_42_method_155_code 2 = .ok (.getstatic 1053, 3) := by decide +kernel
theorem d4_5 : decode jdk_42_method_155_code 5 = .ok (.invokestatic 1059, 3) := by decide +kernel
theorem d5_0 : decode jdk_41_method_11_code 0 = .ok (.iload_n 0, 1) := by decide +kernel
theorem d5_1 : decode jdk_41_method_11_code 1 = .ok (.ifCond .lt 8, 3) := by decide +kernel
theorem d5_4 : decode jdk_41_method_11_code 4 = .ok (.iload_n 0, 1) := by decide +kernel
theorem d5_5 : decode jdk_41_method_11_code 5 = .ok (.iload_n 1, 1) := by decide +kernel
theorem d5_6 : decode jdk_41_method_11_code 6 = .ok (.if_icmp .lt 10, 3) := by decide +kernel
theorem d5_16 : decode jdk_41_method_11_code 16 = .ok (.iload_n 0, 1) := by decide +kernel
theorem d5_17 : decode jdk_41_method_11_code 17 = .ok (.ireturn, 1) := by decide +kernel
theorem ef_5 (m : MethodId) (x0 : Int32) (x1 : Int32) : entryFrame m #[.int x0, .int x1, .null] 3 = mkF m 0 #[iv x0, iv x1, .val (.null)] [] := by first | (simp [entryFrame, mkF, argsToLocals, Value.category]; done) | rfl
theorem pn_3 : plainName "jdk/internal/util/Preconditions" = true := by first | (simp [plainName, overriddenIn]; done) | decide +kernel
def Q5 (Z : State) (p0 : Int32) (h0 : Heap) (n0 : Nat) (v : Option Value) (h : Heap) (L : List Loc) : Prop := v = some (.int p0) ∧ Fr n0 L ∧ h = h0
set_option maxRecDepth 65536 in
set_option maxHeartbeats 40000000 in
theorem rm5 (l : Launch) (Z : State) (a0 : Array Value) (hw : ∀ d ∈ tables_1, d.before a0 Z = true) (ws : List Jvm.Cond) (p0 : Int32) (h0 : Heap) (n0 : Nat) (Z0 : n0 ≤ h0.size) (hp0_5 : ¬ (p0 < (0 : Int32))) (hp1_5 : p0 < (11 : Int32)) :
    MetFree l (⟨"jdk/internal/util/Preconditions", "checkIndex", "(IILjava/util/function/BiFunction;)I"⟩ : MethodName) (head1 (Jvm.Cond.code (⟨"jdk/internal/util/Preconditions", "checkIndex", "(IILjava/util/function/BiFunction;)I"⟩ : MethodName) jdk_41_method_11_code 3 (some .int) :: ws) ({ frames := 0, cells := 0, slots := 0, locals := 0 } : Room)) (fun a U => a = #[.int p0, .int 11, .null] ∧ Z.Warmed39 U.vm ∧ U.heap = h0) (fun _ _ _ _ _ => True) (fun _ U o U' => ∃ v L, o = .returned v ∧ Q5 Z p0 h0 n0 v U'.heap L ∧ FrameEnd U o U' L ({ frames := 0, cells := 0, slots := 0, locals := 0 } : Room).cells ({ frames := 0, cells := 0, slots := 0, locals := 0 } : Room).slots) := by
  refine MetFree.of_bodySF (plainFor_of_name pn_3) hisR ?_
  intro p e s m args below meth c s₁ Bd hml0 hP hK
  obtain ⟨rfl, hZ, hh⟩ := hP
  have hx := Bd.exec
  have hby := Bd.bytes
  have hml : c.maxLocals = 3 := hml0
  have hown : s.vm.findClass "jdk/internal/util/Preconditions" = some m.cls := findClass_of_methodNamed Bd.named
  have hnm := (name_of_methodNamed Bd.named Bd.method).1
  have X0 : Stand p l e ({ frames := 0, cells := 0, slots := 0, locals := 0 } : Room) s m #[.int p0, .int 11, .null] below meth c s₁ [] 0 0 := Stand.of_body Bd
  have e0 : s₁.heap = h0 := by rw [← hh, Bd.state]; rfl
  have N0 := Fr.nil n0
  refine OGl.start (ef_5 m p0 (11 : Int32)) ?_
  show OGl _ _ _ _ s₁ (mkF m 0 #[iv p0, iv 11, .val (.null)] [])
  refine OGl.go (fun t k => XS.iloadN X0.here hx rfl (hb hby d5_0) rfl (XS.ifNo X0.here hx rfl (hb hby d5_1) rfl ((if0 _ _).trans (flt hp0_5).1) (XS.iloadN X0.here hx rfl (hb hby d5_4) rfl (XS.iloadN X0.here hx rfl (hb hby d5_5) rfl (XS.icmpYes X0.here hx rfl (pc0 := 6) (pc' := 16) rfl (hb hby d5_6) rfl (tlt hp1_5).1 (by decide) (by decide) (XS.iloadN X0.here hx rfl (hb hby d5_16) rfl k)))))) ?_
  show OGl _ _ _ _ s₁ (mkF m 17 #[iv p0, iv 11, .val (.null)] [.int p0])
  obtain ⟨fs, hr, hrun, hended, hW, hsame⟩ := X0.leave (v := some (.int p0)) (fun h => by rw [Bd.returns] at h; cases h)
  refine ⟨_, _, retI X0 hx Bd.returns (hb hby d5_17) hr, hrun, hended, _, _, rfl, ?_, ⟨_, rfl⟩, hW, hsame.mono (by decide) (by decide)⟩
  show Q5 Z p0 h0 n0 _ s₁.heap _
  rw [e0]
  exact ⟨rfl, N0, rfl⟩
theorem pd_2 : parseMethodDescriptor "(IILjava/util/function/BiFunction;)I" = some ⟨[.int, .int, (.object "java/util/function/BiFunction")], some .int⟩ := by decide +kernel
theorem d4_8 : decode jdk_42_method_155_code 8 = .ok (.pop, 1) := by decide +kernel
theorem d4_9 : decode jdk_42_method_155_code 9 = .ok (.return_, 1) := by decide +kernel
theorem ef_5_5 (m : MethodId) (x0 : Int32) (x1 : Int32) (x2 : Addr) : entryFrame m #[.int x0, .int x1, .ref x2] 3 = mkF m 0 #[iv x0, iv x1, rv x2] [] := by first | (simp [entryFrame, mkF, argsToLocals, Value.category]; done) | rfl
def Q5a (Z : State) (p0 : Int32) (o1 : Addr) (h0 : Heap) (n0 : Nat) (v : Option Value) (h : Heap) (L : List Loc) : Prop := v = some (.int p0) ∧ Fr n0 L ∧ h = h0
set_option maxRecDepth 65536 in
set_option maxHeartbeats 40000000 in
theorem rm5a (l : Launch) (Z : State) (a0 : Array Value) (hw : ∀ d ∈ tables_1, d.before a0 Z = true) (ws : List Jvm.Cond) (p0 : Int32) (o1 : Addr) (h0 : Heap) (n0 : Nat) (Z0 : n0 ≤ h0.size) (hp0_5a : ¬ (p0 < (0 : Int32))) (hp1_5a : p0 < (11 : Int32)) :
    MetFree l (⟨"jdk/internal/util/Preconditions", "checkIndex", "(IILjava/util/function/BiFunction;)I"⟩ : MethodName) (head1 (Jvm.Cond.code (⟨"jdk/internal/util/Preconditions", "checkIndex", "(IILjava/util/function/BiFunction;)I"⟩ : MethodName) jdk_41_method_11_code 3 (some .int) :: ws) ({ frames := 0, cells := 0, slots := 0, locals := 0 } : Room)) (fun a U => a = #[.int p0, .int 11, .ref o1] ∧ Z.Warmed39 U.vm ∧ U.heap = h0) (fun _ _ _ _ _ => True) (fun _ U o U' => ∃ v L, o = .returned v ∧ Q5a Z p0 o1 h0 n0 v U'.heap L ∧ FrameEnd U o U' L ({ frames := 0, cells := 0, slots := 0, locals := 0 } : Room).cells ({ frames := 0, cells := 0, slots := 0, locals := 0 } : Room).slots) := by
  refine MetFree.of_bodySF (plainFor_of_name pn_3) hisR ?_
  intro p e s m args below meth c s₁ Bd hml0 hP hK
  obtain ⟨rfl, hZ, hh⟩ := hP
  have hx := Bd.exec
  have hby := Bd.bytes
  have hml : c.maxLocals = 3 := hml0
  have hown : s.vm.findClass "jdk/internal/util/Preconditions" = some m.cls := findClass_of_methodNamed Bd.named
  have hnm := (name_of_methodNamed Bd.named Bd.method).1
  have X0 : Stand p l e ({ frames := 0, cells := 0, slots := 0, locals := 0 } : Room) s m #[.int p0, .int 11, .ref o1] below meth c s₁ [] 0 0 := Stand.of_body Bd
  have e0 : s₁.heap = h0 := by rw [← hh, Bd.state]; rfl
  have N0 := Fr.nil n0
  refine OGl.start (ef_5_5 m p0 (11 : Int32) o1) ?_
  show OGl _ _ _ _ s₁ (mkF m 0 #[iv p0, iv 11, rv o1] [])
  refine OGl.go (fun t k => XS.iloadN X0.here hx rfl (hb hby d5_0) rfl (XS.ifNo X0.here hx rfl (hb hby d5_1) rfl ((if0 _ _).trans (flt hp0_5a).1) (XS.iloadN X0.here hx rfl (hb hby d5_4) rfl (XS.iloadN X0.here hx rfl (hb hby d5_5) rfl (XS.icmpYes X0.here hx rfl (pc0 := 6) (pc' := 16) rfl (hb hby d5_6) rfl (tlt hp1_5a).1 (by decide) (by decide) (XS.iloadN X0.here hx rfl (hb hby d5_16) rfl k)))))) ?_
  show OGl _ _ _ _ s₁ (mkF m 17 #[iv p0, iv 11, rv o1] [.int p0])
  obtain ⟨fs, hr, hrun, hended, hW, hsame⟩ := X0.leave (v := some (.int p0)) (fun h => by rw [Bd.returns] at h; cases h)
  refine ⟨_, _, retI X0 hx Bd.returns (hb hby d5_17) hr, hrun, hended, _, _, rfl, ?_, ⟨_, rfl⟩, hW, hsame.mono (by decide) (by decide)⟩
  show Q5a Z p0 o1 h0 n0 _ s₁.heap _
  rw [e0]
  exact ⟨rfl, N0, rfl⟩
theorem ef_4 (m : MethodId) (x0 : Int32) (x1 : Int32) : entryFrame m #[.int x0, .int x1] 2 = mkF m 0 #[iv x0, iv x1] [] := by first | (simp [entryFrame, mkF, argsToLocals, Value.category]; done) | rfl
def Q4 (Z : State) (p0 : Int32) (w1 : Value) (h0 : Heap) (n0 : Nat) (v : Option Value) (h : Heap) (L : List Loc) : Prop := v = none ∧ Fr n0 L ∧ h = h0
set_option maxRecDepth 65536 in
set_option maxHeartbeats 40000000 in
theorem rm4 (l : Launch) (Z : State) (a0 : Array Value) (hw : ∀ d ∈ tables_1, d.before a0 Z = true) (ws : List Jvm.Cond) (p0 : Int32) (w1 : Value) (h0 : Heap) (n0 : Nat) (Z0 : n0 ≤ h0.size) (S0 : Sta Z h0 "jdk/internal/util/Preconditions" "SIOOBE_FORMATTER" "Ljava/util/function/BiFunction;" (w1)) (r_w1 : w1.isRef = true) (hp2_4 : ¬ (p0 < (0 : Int32))) (hp3_4 : p0 < (11 : Int32)) :
    MetFree l (⟨"java/lang/String", "checkIndex", "(II)V"⟩ : MethodName) (head1 (Jvm.Cond.code (⟨"java/lang/String", "checkIndex", "(II)V"⟩ : MethodName) jdk_42_method_155_code 2 none :: ws) ({ frames := 1, cells := 0, slots := 0, locals := 14 } : Room)) (fun a U => a = #[.int p0, .int 11] ∧ Z.Warmed39 U.vm ∧ U.heap = h0) (fun _ _ _ _ _ => True) (fun _ U o U' => ∃ v L, o = .returned v ∧ Q4 Z p0 w1 h0 n0 v U'.heap L ∧ FrameEnd U o U' L ({ frames := 1, cells := 0, slots := 0, locals := 14 } : Room).cells ({ frames := 1, cells := 0, slots := 0, locals := 14 } : Room).slots) := by
  refine MetFree.of_bodySF (plainFor_of_name pn_2) hisR ?_
  intro p e s m args below meth c s₁ Bd hml0 hP hK
  obtain ⟨rfl, hZ, hh⟩ := hP
  have hx := Bd.exec
  have hby := Bd.bytes
  have hml : c.maxLocals = 2 := hml0
  have hown : s.vm.findClass "java/lang/String" = some m.cls := findClass_of_methodNamed Bd.named
  have hnm := (name_of_methodNamed Bd.named Bd.method).1
  have X0 : Stand p l e ({ frames := 1, cells := 0, slots := 0, locals := 14 } : Room) s m #[.int p0, .int 11] below meth c s₁ [] 0 0 := Stand.of_body Bd
  have e0 : s₁.heap = h0 := by rw [← hh, Bd.state]; rfl
  have N0 := Fr.nil n0
  refine OGl.start (ef_4 m p0 (11 : Int32)) ?_
  show OGl _ _ _ _ s₁ (mkF m 0 #[iv p0, iv 11] [])
  refine OGl.go (fun t k => XS.iloadN X0.here hx rfl (hb hby d4_0) rfl (XS.iloadN X0.here hx rfl (hb hby d4_1) rfl k)) ?_
  show OGl _ _ _ _ s₁ (mkF m 2 #[iv p0, iv 11] [.int 11, .int p0])
  rcases ref_cases r_w1 with hr64 | ⟨fa64, hr64⟩
  · have Sx64 : Sta Z h0 "jdk/internal/util/Preconditions" "SIOOBE_FORMATTER" "Ljava/util/function/BiFunction;" (.null) := hr64 ▸ S0
    obtain ⟨T65, X65, e65, st65⟩ := getS2 X0 hx hZ hown (host := "") (Or.inl (hw _ (List.mem_of_getElem? (i := 29) rfl))) Via.refl e0 Sx64 (g := (mkF m 2 #[iv p0, iv 11] [.int 11, .int p0])) rfl (hb hby d4_2)
    refine OGl.go st65 ?_
    show OGl _ _ _ _ T65 (mkF m 5 #[iv p0, iv 11] [.null, .int 11, .int p0])
    obtain ⟨_, _, ⟨T66, L66, kk66, n66⟩, -, X66, ⟨Lc66, hQ66, l66, y66, z66⟩, st66⟩ := Jvm.LawKit.callS X65 hx (y := (⟨"jdk/internal/util/Preconditions", "checkIndex", "(IILjava/util/function/BiFunction;)I"⟩ : MethodName)) hown (mvT hZ (hw _ (List.mem_of_getElem? (i := 31) rfl))) (mvT hZ (hw _ (List.mem_of_getElem? (i := 32) rfl))) (mvT hZ (hw _ (List.mem_of_getElem? (i := 30) rfl))) (mvT hZ (hw _ (List.mem_of_getElem? (i := 33) rfl))) (by decide) (backOf (W := 0) (rm5 l Z a0 hw [] p0 h0 n0 Z0 hp2_4 hp3_4) hZ (hw _ (List.mem_of_getElem? (i := 33) rfl)) (hw _ (List.mem_of_getElem? (i := 30) rfl)) (by decide) (by decide)) (g := (mkF m 5 #[iv p0, iv 11] [.null, .int 11, .int p0])) rfl (by rw [hml]; rfl) (argsL := [.int p0, .int 11, .null]) (rest := []) (lenOf pd_2 rfl) rfl (by show 2 * 0 + _ ≤ _; exact Nat.le_of_eq rfl) (hb hby d4_5) (fun _ _ => ⟨rfl, e65, (by decide : 0 + 0 ≤ _), (by decide : 0 + 0 ≤ _)⟩)
    dsimp only [Pt.U, Pt.locs, Pt.cells, Pt.slots] at X66 l66 y66 z66 st66 hQ66
    subst l66 y66 z66
    obtain ⟨rfl, Nq66, e66⟩ := hQ66
    have N66 := Fr.app N0 Nq66
    refine OGl.go st66 ?_
    show OGl _ _ _ _ T66 (mkF m 8 #[iv p0, iv 11] [.int p0])
    refine OGl.go (fun t k => XS.pop X66.here hx rfl (hb hby d4_8) rfl rfl k) ?_
    show OGl _ _ _ _ T66 (mkF m 9 #[iv p0, iv 11] [])
    obtain ⟨fs, hr, hrun, hended, hW, hsame⟩ := X66.leave (v := none) (fun _ => rfl)
    refine ⟨_, _, X66.returnOut hx Bd.returns (hb hby d4_9) hr, hrun, hended, _, _, rfl, ?_, ⟨_, rfl⟩, hW, hsame.mono (by decide) (by decide)⟩
    show Q4 Z p0 w1 h0 n0 _ T66.heap _
    rw [e66]
    exact ⟨rfl, N66, rfl⟩
  · have Sx64 : Sta Z h0 "jdk/internal/util/Preconditions" "SIOOBE_FORMATTER" "Ljava/util/function/BiFunction;" (.ref fa64) := hr64 ▸ S0
    obtain ⟨T67, X67, e67, st67⟩ := getS2 X0 hx hZ hown (host := "") (Or.inl (hw _ (List.mem_of_getElem? (i := 29) rfl))) Via.refl e0 Sx64 (g := (mkF m 2 #[iv p0, iv 11] [.int 11, .int p0])) rfl (hb hby d4_2)
    refine OGl.go st67 ?_
    show OGl _ _ _ _ T67 (mkF m 5 #[iv p0, iv 11] [.ref fa64, .int 11, .int p0])
    obtain ⟨_, _, ⟨T68, L68, kk68, n68⟩, -, X68, ⟨Lc68, hQ68, l68, y68, z68⟩, st68⟩ := Jvm.LawKit.callS X67 hx (y := (⟨"jdk/internal/util/Preconditions", "checkIndex", "(IILjava/util/function/BiFunction;)I"⟩ : MethodName)) hown (mvT hZ (hw _ (List.mem_of_getElem? (i := 31) rfl))) (mvT hZ (hw _ (List.mem_of_getElem? (i := 32) rfl))) (mvT hZ (hw _ (List.mem_of_getElem? (i := 30) rfl))) (mvT hZ (hw _ (List.mem_of_getElem? (i := 33) rfl))) (by decide) (backOf (W := 0) (rm5a l Z a0 hw [] p0 fa64 h0 n0 Z0 hp2_4 hp3_4) hZ (hw _ (List.mem_of_getElem? (i := 33) rfl)) (hw _ (List.mem_of_getElem? (i := 30) rfl)) (by decide) (by decide)) (g := (mkF m 5 #[iv p0, iv 11] [.ref fa64, .int 11, .int p0])) rfl (by rw [hml]; rfl) (argsL := [.int p0, .int 11, .ref fa64]) (rest := []) (lenOf pd_2 rfl) rfl (by show 2 * 0 + _ ≤ _; exact Nat.le_of_eq rfl) (hb hby d4_5) (fun _ _ => ⟨rfl, e67, (by decide : 0 + 0 ≤ _), (by decide : 0 + 0 ≤ _)⟩)
    dsimp only [Pt.U, Pt.locs, Pt.cells, Pt.slots] at X68 l68 y68 z68 st68 hQ68
    subst l68 y68 z68
    obtain ⟨rfl, Nq68, e68⟩ := hQ68
    have N68 := Fr.app N0 Nq68
    refine OGl.go st68 ?_
    show OGl _ _ _ _ T68 (mkF m 8 #[iv p0, iv 11] [.int p0])
    refine OGl.go (fun t k => XS.pop X68.here hx rfl (hb hby d4_8) rfl rfl k) ?_
    show OGl _ _ _ _ T68 (mkF m 9 #[iv p0, iv 11] [])
    obtain ⟨fs, hr, hrun, hended, hW, hsame⟩ := X68.leave (v := none) (fun _ => rfl)
    refine ⟨_, _, X68.returnOut hx Bd.returns (hb hby d4_9) hr, hrun, hended, _, _, rfl, ?_, ⟨_, rfl⟩, hW, hsame.mono (by decide) (by decide)⟩
    show Q4 Z p0 w1 h0 n0 _ T68.heap _
    rw [e68]
    exact ⟨rfl, N68, rfl⟩
theorem pd_3 : parseMethodDescriptor "(II)V" = some ⟨[.int, .int], none⟩ := by decide +kernel
theorem d3_6 : decode jdk_43_method_2_code 6 = .ok (.aload_n 0, 1) := by decide +kernel
theorem d3_7 : decode jdk_43_method_2_code 7 = .ok (.iload_n 1, 1) := by decide +kernel
theorem d3_8 : decode jdk_43_method_2_code 8 = .ok (.baload, 1) := by decide +kernel
theorem d3_9 : decode jdk_43_method_2_code 9 = .ok (.sipush 255, 3) := by decide +kernel
theorem d3_12 : decode jdk_43_method_2_code 12 = .ok (.iand, 1) := by decide +kernel
theorem d3_13 : decode jdk_43_method_2_code 13 = .ok (.i2c, 1) := by decide +kernel
theorem d3_14 : decode jdk_43_method_2_code 14 = .ok (.ireturn, 1) := by decide +kernel
theorem ef_3 (m : MethodId) (x0 : Addr) (x1 : Int32) : entryFrame m #[.ref x0, .int x1] 2 = mkF m 0 #[rv x0, iv x1] [] := by first | (simp [entryFrame, mkF, argsToLocals, Value.category]; done) | rfl
theorem pn_4 : plainName "java/lang/StringLatin1" = true := by first | (simp [plainName, overriddenIn]; done) | decide +kernel
def t3_0 (p1 : Int32) : Int32 := (if p1 = (0 : Int32) then (97 : Int32) else (if p1 = (1 : Int32) then (98 : Int32) else (if p1 = (2 : Int32) then (116 : Int32) else (if p1 = (3 : Int32) then (110 : Int32) else (if p1 = (4 : Int32) then (118 : Int32) else (if p1 = (5 : Int32) then (102 : Int32) else (if p1 = (6 : Int32) then (114 : Int32) else (if p1 = (7 : Int32) then (92 : Int32) else (if p1 = (8 : Int32) then (39 : Int32) else (if p1 = (9 : Int32) then (34 : Int32) else (63 : Int32)))))))))))
def Q3 (Z : State) (o0 : Addr) (p1 : Int32) (k2 : ClassId) (w3 : Value) (h0 : Heap) (n0 : Nat) (v : Option Value) (h : Heap) (L : List Loc) : Prop := v = some (.int (t3_0 p1)) ∧ Fr n0 L ∧ h = h0
set_option maxRecDepth 65536 in
set_option maxHeartbeats 40000000 in
theorem rm3 (l : Launch) (Z : State) (a0 : Array Value) (hw : ∀ d ∈ tables_1, d.before a0 Z = true) (ws : List Jvm.Cond) (o0 : Addr) (p1 : Int32) (k2 : ClassId) (w3 : Value) (h0 : Heap) (n0 : Nat) (Z0 : n0 ≤ h0.size) (V_o0 : Arv Z h0 o0 k2 .byte 11 [.int 97, .int 98, .int 116, .int 110, .int 118, .int 102, .int 114, .int 92, .int 39, .int 34, .int 63] (.int 0)) (S1 : Sta Z h0 "jdk/internal/util/Preconditions" "SIOOBE_FORMATTER" "Ljava/util/function/BiFunction;" (w3)) (r_w3 : w3.isRef = true) (hp3_3 : ¬ (p1 < (0 : Int32))) (hp4_3 : p1 < (11 : Int32)) (hp5_3 : p1 = (0 : Int32) ∨ p1 = (1 : Int32) ∨ p1 = (2 : Int32) ∨ p1 = (3 : Int32) ∨ p1 = (4 : Int32) ∨ p1 = (5 : Int32) ∨ p1 = (6 : Int32) ∨ p1 = (7 : Int32) ∨ p1 = (8 : Int32) ∨ p1 = (9 : Int32) ∨ p1 = (10 : Int32)) :
    MetFree l (⟨"java/lang/StringLatin1", "charAt", "([BI)C"⟩ : MethodName) (head1 (Jvm.Cond.code (⟨"java/lang/StringLatin1", "charAt", "([BI)C"⟩ : MethodName) jdk_43_method_2_code 2 (some .char) :: ws) ({ frames := 2, cells := 0, slots := 0, locals := 27 } : Room)) (fun a U => a = #[.ref o0, .int p1] ∧ Z.Warmed39 U.vm ∧ U.heap = h0) (fun _ _ _ _ _ => True) (fun _ U o U' => ∃ v L, o = .returned v ∧ Q3 Z o0 p1 k2 w3 h0 n0 v U'.heap L ∧ FrameEnd U o U' L ({ frames := 2, cells := 0, slots := 0, locals := 27 } : Room).cells ({ frames := 2, cells := 0, slots := 0, locals := 27 } : Room).slots) := by
  refine MetFree.of_bodySF (plainFor_of_name pn_4) hisR ?_
  intro p e s m args below meth c s₁ Bd hml0 hP hK
  obtain ⟨rfl, hZ, hh⟩ := hP
  have hx := Bd.exec
  have hby := Bd.bytes
  have hml : c.maxLocals = 2 := hml0
  have hown : s.vm.findClass "java/lang/StringLatin1" = some m.cls := findClass_of_methodNamed Bd.named
  have hnm := (name_of_methodNamed Bd.named Bd.method).1
  have X0 : Stand p l e ({ frames := 2, cells := 0, slots := 0, locals := 27 } : Room) s m #[.ref o0, .int p1] below meth c s₁ [] 0 0 := Stand.of_body Bd
  have e0 : s₁.heap = h0 := by rw [← hh, Bd.state]; rfl
  have N0 := Fr.nil n0
  refine OGl.start (ef_3 m o0 p1) ?_
  show OGl _ _ _ _ s₁ (mkF m 0 #[rv o0, iv p1] [])
  refine OGl.go (fun t k => XS.iloadN X0.here hx rfl (hb hby d3_0) rfl (XS.aloadN X0.here hx rfl (hb hby d3_1) rfl rfl (own_lenV X0 hx hZ e0 V_o0 rfl rfl (hb hby d3_2) k))) ?_
  show OGl _ _ _ _ s₁ (mkF m 3 #[rv o0, iv p1] [.int 11, .int p1])
  obtain ⟨_, _, ⟨T63, L63, kk63, n63⟩, -, X63, ⟨Lc63, hQ63, l63, y63, z63⟩, st63⟩ := Jvm.LawKit.callS X0 hx (y := (⟨"java/lang/String", "checkIndex", "(II)V"⟩ : MethodName)) hown (mvT hZ (hw _ (List.mem_of_getElem? (i := 26) rfl))) (mvT hZ (hw _ (List.mem_of_getElem? (i := 27) rfl))) (mvT hZ (hw _ (List.mem_of_getElem? (i := 1) rfl))) (mvT hZ (hw _ (List.mem_of_getElem? (i := 28) rfl))) (by decide) (backOf (W := 0) (rm4 l Z a0 hw [] p1 w3 h0 n0 Z0 S1 r_w3 hp3_3 hp4_3) hZ (hw _ (List.mem_of_getElem? (i := 28) rfl)) (hw _ (List.mem_of_getElem? (i := 1) rfl)) (by decide) (by decide)) (g := (mkF m 3 #[rv o0, iv p1] [.int 11, .int p1])) rfl (by rw [hml]; rfl) (argsL := [.int p1, .int 11]) (rest := []) (lenOf pd_3 rfl) rfl (by show 2 * 0 + _ ≤ _; exact Nat.le_of_eq rfl) (hb hby d3_3) (fun _ _ => ⟨rfl, e0, (by decide : 0 + 0 ≤ _), (by decide : 0 + 0 ≤ _)⟩)
  dsimp only [Pt.U, Pt.locs, Pt.cells, Pt.slots] at X63 l63 y63 z63 st63 hQ63
  subst l63 y63 z63
  obtain ⟨rfl, Nq63, e63⟩ := hQ63
  have N63 := Fr.app N0 Nq63
  refine OGl.go st63 ?_
  show OGl _ _ _ _ T63 (mkF m 6 #[rv o0, iv p1] [])
  rcases hp5_3 with hq69 | hq69 | hq69 | hq69 | hq69 | hq69 | hq69 | hq69 | hq69 | hq69 | hq69
  · refine OGl.go (T' := T63) (g' := (mkF m 6 #[rv o0, iv 0] [])) (fun t k => by rw [hq69]; exact k) ?_
    show OGl _ _ _ _ T63 (mkF m 6 #[rv o0, iv 0] [])
    refine OGl.go (fun t k => XS.aloadN X63.here hx rfl (hb hby d3_6) rfl rfl (XS.iloadN X63.here hx rfl (hb hby d3_7) rfl (own_baloadV X63 hx hZ e63 V_o0 (j := 0) (v := .int 97) (by decide) (by decide) rfl rfl rfl (hb hby d3_8) (XS.sipush X63.here hx rfl (hb hby d3_9) (XS.iand X63.here hx rfl (hb hby d3_12) rfl (XS.i2c X63.here hx rfl (hb hby d3_13) rfl k)))))) ?_
    show OGl _ _ _ _ T63 (mkF m 14 #[rv o0, iv 0] [.int 97])
    obtain ⟨fs, hr, hrun, hended, hW, hsame⟩ := X63.leave (v := some (.int 97)) (fun h => by rw [Bd.returns] at h; cases h)
    refine ⟨_, _, retN X63 hx (t := .char) Bd.returns (by simp) (hb hby d3_14) hr, hrun, hended, _, _, rfl, ?_, ⟨_, rfl⟩, hW, hsame.mono (by decide) (by decide)⟩
    have hv70 : (t3_0 p1) = (97 : Int32) := by unfold t3_0; rw [if_pos hq69]
    show Q3 Z o0 p1 k2 w3 h0 n0 _ T63.heap _
    rw [e63]
    exact ⟨(by rw [hv70]), N63, rfl⟩
  · refine OGl.go (T' := T63) (g' := (mkF m 6 #[rv o0, iv 1] [])) (fun t k => by rw [hq69]; exact k) ?_
    show OGl _ _ _ _ T63 (mkF m 6 #[rv o0, iv 1] [])
    refine OGl.go (fun t k => XS.aloadN X63.here hx rfl (hb hby d3_6) rfl rfl (XS.iloadN X63.here hx rfl (hb hby d3_7) rfl (own_baloadV X63 hx hZ e63 V_o0 (j := 1) (v := .int 98) (by decide) (by decide) rfl rfl rfl (hb hby d3_8) (XS.sipush X63.here hx rfl (hb hby d3_9) (XS.iand X63.here hx rfl (hb hby d3_12) rfl (XS.i2c X63.here hx rfl (hb hby d3_13) rfl k)))))) ?_
    show OGl _ _ _ _ T63 (mkF m 14 #[rv o0, iv 1] [.int 98])
    obtain ⟨fs, hr, hrun, hended, hW, hsame⟩ := X63.leave (v := some (.int 98)) (fun h => by rw [Bd.returns] at h; cases h)
    refine ⟨_, _, retN X63 hx (t := .char) Bd.returns (by simp) (hb hby d3_14) hr, hrun, hended, _, _, rfl, ?_, ⟨_, rfl⟩, hW, hsame.mono (by decide) (by decide)⟩
    have hv71 : (t3_0 p1) = (98 : Int32) := by unfold t3_0; rw [if_neg (show ¬ (p1 = (0 : Int32)) from by rw [hq69]; decide), if_pos hq69]
    show Q3 Z o0 p1 k2 w3 h0 n0 _ T63.heap _
    rw [e63]
    exact ⟨(by rw [hv71]), N63, rfl⟩
  · refine OGl.go (T' := T63) (g' := (mkF m 6 #[rv o0, iv 2] [])) (fun t k => by rw [hq69]; exact k) ?_
    show OGl _ _ _ _ T63 (mkF m 6 #[rv o0, iv 2] [])
    refine OGl.go (fun t k => XS.aloadN X63.here hx rfl (hb hby d3_6) rfl rfl (XS.iloadN X63.here hx rfl (hb hby d3_7) rfl (own_baloadV X63 hx hZ e63 V_o0 (j := 2) (v := .int 116) (by decide) (by decide) rfl rfl rfl (hb hby d3_8) (XS.sipush X63.here hx rfl (hb hby d3_9) (XS.iand X63.here hx rfl (hb hby d3_12) rfl (XS.i2c X63.here hx rfl (hb hby d3_13) rfl k)))))) ?_
    show OGl _ _ _ _ T63 (mkF m 14 #[rv o0, iv 2] [.int 116])
    obtain ⟨fs, hr, hrun, hended, hW, hsame⟩ := X63.leave (v := some (.int 116)) (fun h => by rw [Bd.returns] at h; cases h)
    refine ⟨_, _, retN X63 hx (t := .char) Bd.returns (by simp) (hb hby d3_14) hr, hrun, hended, _, _, rfl, ?_, ⟨_, rfl⟩, hW, hsame.mono (by decide) (by decide)⟩
    have hv72 : (t3_0 p1) = (116 : Int32) := by unfold t3_0; rw [if_neg (show ¬ (p1 = (0 : Int32)) from by rw [hq69]; decide), if_neg (show ¬ (p1 = (1 : Int32)) from by rw [hq69]; decide), if_pos hq69]
    show Q3 Z o0 p1 k2 w3 h0 n0 _ T63.heap _
    rw [e63]
    exact ⟨(by rw [hv72]), N63, rfl⟩
  · refine OGl.go (T' := T63) (g' := (mkF m 6 #[rv o0, iv 3] [])) (fun t k => by rw [hq69]; exact k) ?_
    show OGl _ _ _ _ T63 (mkF m 6 #[rv o0, iv 3] [])
    refine OGl.go (fun t k => XS.aloadN X63.here hx rfl (hb hby d3_6) rfl rfl (XS.iloadN X63.here hx rfl (hb hby d3_7) rfl (own_baloadV X63 hx hZ e63 V_o0 (j := 3) (v := .int 110) (by decide) (by decide) rfl rfl rfl (hb hby d3_8) (XS.sipush X63.here hx rfl (hb hby d3_9) (XS.iand X63.here hx rfl (hb hby d3_12) rfl (XS.i2c X63.here hx rfl (hb hby d3_13) rfl k)))))) ?_
    show OGl _ _ _ _ T63 (mkF m 14 #[rv o0, iv 3] [.int 110])
    obtain ⟨fs, hr, hrun, hended, hW, hsame⟩ := X63.leave (v := some (.int 110)) (fun h => by rw [Bd.returns] at h; cases h)
    refine ⟨_, _, retN X63 hx (t := .char) Bd.returns (by simp) (hb hby d3_14) hr, hrun, hended, _, _, rfl, ?_, ⟨_, rfl⟩, hW, hsame.mono (by decide) (by decide)⟩
    have hv73 : (t3_0 p1) = (110 : Int32) := by unfold t3_0; rw [if_neg (show ¬ (p1 = (0 : Int32)) from by rw [hq69]; decide), if_neg (show ¬ (p1 = (1 : Int32)) from by rw [hq69]; decide), if_neg (show ¬ (p1 = (2 : Int32)) from by rw [hq69]; decide), if_pos hq69]
    show Q3 Z o0 p1 k2 w3 h0 n0 _ T63.heap _
    rw [e63]
    exact ⟨(by rw [hv73]), N63, rfl⟩
  · refine OGl.go (T' := T63) (g' := (mkF m 6 #[rv o0, iv 4] [])) (fun t k => by rw [hq69]; exact k) ?_
    show OGl _ _ _ _ T63 (mkF m 6 #[rv o0, iv 4] [])
    refine OGl.go (fun t k => XS.aloadN X63.here hx rfl (hb hby d3_6) rfl rfl (XS.iloadN X63.here hx rfl (hb hby d3_7) rfl (own_baloadV X63 hx hZ e63 V_o0 (j := 4) (v := .int 118) (by decide) (by decide) rfl rfl rfl (hb hby d3_8) (XS.sipush X63.here hx rfl (hb hby d3_9) (XS.iand X63.here hx rfl (hb hby d3_12) rfl (XS.i2c X63.here hx rfl (hb hby d3_13) rfl k)))))) ?_
    show OGl _ _ _ _ T63 (mkF m 14 #[rv o0, iv 4] [.int 118])
    obtain ⟨fs, hr, hrun, hended, hW, hsame⟩ := X63.leave (v := some (.int 118)) (fun h => by rw [Bd.returns] at h; cases h)
    refine ⟨_, _, retN X63 hx (t := .char) Bd.returns (by simp) (hb hby d3_14) hr, hrun, hended, _, _, rfl, ?_, ⟨_, rfl⟩, hW, hsame.mono (by decide) (by decide)⟩
    have hv74 : (t3_0 p1) = (118 : Int32) := by unfold t3_0; rw [if_neg (show ¬ (p1 = (0 : Int32)) from by rw [hq69]; decide), if_neg (show ¬ (p1 = (1 : Int32)) from by rw [hq69]; decide), if_neg (show ¬ (p1 = (2 : Int32)) from by rw [hq69]; decide), if_neg (show ¬ (p1 = (3 : Int32)) from by rw [hq69]; decide), if_pos hq69]
    show Q3 Z o0 p1 k2 w3 h0 n0 _ T63.heap _
    rw [e63]
    exact ⟨(by rw [hv74]), N63, rfl⟩
  · refine OGl.go (T' := T63) (g' := (mkF m 6 #[rv o0, iv 5] [])) (fun t k => by rw [hq69]; exact k) ?_
    show OGl _ _ _ _ T63 (mkF m 6 #[rv o0, iv 5] [])
    refine OGl.go (fun t k => XS.aloadN X63.here hx rfl (hb hby d3_6) rfl rfl (XS.iloadN X63.here hx rfl (hb hby d3_7) rfl (own_baloadV X63 hx hZ e63 V_o0 (j := 5) (v := .int 102) (by decide) (by decide) rfl rfl rfl (hb hby d3_8) (XS.sipush X63.here hx rfl (hb hby d3_9) (XS.iand X63.here hx rfl (hb hby d3_12) rfl (XS.i2c X63.here hx rfl (hb hby d3_13) rfl k)))))) ?_
    show OGl _ _ _ _ T63 (mkF m 14 #[rv o0, iv 5] [.int 102])
    obtain ⟨fs, hr, hrun, hended, hW, hsame⟩ := X63.leave (v := some (.int 102)) (fun h => by rw [Bd.returns] at h; cases h)
    refine ⟨_, _, retN X63 hx (t := .char) Bd.returns (by simp) (hb hby d3_14) hr, hrun, hended, _, _, rfl, ?_, ⟨_, rfl⟩, hW, hsame.mono (by decide) (by decide)⟩
    have hv75 : (t3_0 p1) = (102 : Int32) := by unfold t3_0; rw [if_neg (show ¬ (p1 = (0 : Int32)) from by rw [hq69]; decide), if_neg (show ¬ (p1 = (1 : Int32)) from by rw [hq69]; decide), if_neg (show ¬ (p1 = (2 : Int32)) from by rw [hq69]; decide), if_neg (show ¬ (p1 = (3 : Int32)) from by rw [hq69]; decide), if_neg (show ¬ (p1 = (4 : Int32)) from by rw [hq69]; decide), if_pos hq69]
    show Q3 Z o0 p1 k2 w3 h0 n0 _ T63.heap _
    rw [e63]
    exact ⟨(by rw [hv75]), N63, rfl⟩
  · refine OGl.go (T' := T63) (g' := (mkF m 6 #[rv o0, iv 6] [])) (fun t k => by rw [hq69]; exact k) ?_
    show OGl _ _ _ _ T63 (mkF m 6 #[rv o0, iv 6] [])
    refine OGl.go (fun t k => XS.aloadN X63.here hx rfl (hb hby d3_6) rfl rfl (XS.iloadN X63.here hx rfl (hb hby d3_7) rfl (own_baloadV X63 hx hZ e63 V_o0 (j := 6) (v := .int 114) (by decide) (by decide) rfl rfl rfl (hb hby d3_8) (XS.sipush X63.here hx rfl (hb hby d3_9) (XS.iand X63.here hx rfl (hb hby d3_12) rfl (XS.i2c X63.here hx rfl (hb hby d3_13) rfl k)))))) ?_
    show OGl _ _ _ _ T63 (mkF m 14 #[rv o0, iv 6] [.int 114])
    obtain ⟨fs, hr, hrun, hended, hW, hsame⟩ := X63.leave (v := some (.int 114)) (fun h => by rw [Bd.returns] at h; cases h)
    refine ⟨_, _, retN X63 hx (t := .char) Bd.returns (by simp) (hb hby d3_14) hr, hrun, hended, _, _, rfl, ?_, ⟨_, rfl⟩, hW, hsame.mono (by decide) (by decide)⟩
    have hv76 : (t3_0 p1) = (114 : Int32) := by unfold t3_0; rw [if_neg (show ¬ (p1 = (0 : Int32)) from by rw [hq69]; decide), if_neg (show ¬ (p1 = (1 : Int32)) from by rw [hq69]; decide), if_neg (show ¬ (p1 = (2 : Int32)) from by rw [hq69]; decide), if_neg (show ¬ (p1 = (3 : Int32)) from by rw [hq69]; decide), if_neg (show ¬ (p1 = (4 : Int32)) from by rw [hq69]; decide), if_neg (show ¬ (p1 = (5 : Int32)) from by rw [hq69]; decide), if_pos hq69]
    show Q3 Z o0 p1 k2 w3 h0 n0 _ T63.heap _
    rw [e63]
    exact ⟨(by rw [hv76]), N63, rfl⟩
  · refine OGl.go (T' := T63) (g' := (mkF m 6 #[rv o0, iv 7] [])) (fun t k => by rw [hq69]; exact k) ?_
    show OGl _ _ _ _ T63 (mkF m 6 #[rv o0, iv 7] [])
    refine OGl.go (fun t k => XS.aloadN X63.here hx rfl (hb hby d3_6) rfl rfl (XS.iloadN X63.here hx rfl (hb hby d3_7) rfl (own_baloadV X63 hx hZ e63 V_o0 (j := 7) (v := .int 92) (by decide) (by decide) rfl rfl rfl (hb hby d3_8) (XS.sipush X63.here hx rfl (hb hby d3_9) (XS.iand X63.here hx rfl (hb hby d3_12) rfl (XS.i2c X63.here hx rfl (hb hby d3_13) rfl k)))))) ?_
    show OGl _ _ _ _ T63 (mkF m 14 #[rv o0, iv 7] [.int 92])
    obtain ⟨fs, hr, hrun, hended, hW, hsame⟩ := X63.leave (v := some (.int 92)) (fun h => by rw [Bd.returns] at h; cases h)
    refine ⟨_, _, retN X63 hx (t := .char) Bd.returns (by simp) (hb hby d3_14) hr, hrun, hended, _, _, rfl, ?_, ⟨_, rfl⟩, hW, hsame.mono (by decide) (by decide)⟩
    have hv77 : (t3_0 p1) = (92 : Int32) := by unfold t3_0; rw [if_neg (show ¬ (p1 = (0 : Int32)) from by rw [hq69]; decide), if_neg (show ¬ (p1 = (1 : Int32)) from by rw [hq69]; decide), if_neg (show ¬ (p1 = (2 : Int32)) from by rw [hq69]; decide), if_neg (show ¬ (p1 = (3 : Int32)) from by rw [hq69]; decide), if_neg (show ¬ (p1 = (4 : Int32)) from by rw [hq69]; decide), if_neg (show ¬ (p1 = (5 : Int32)) from by rw [hq69]; decide), if_neg (show ¬ (p1 = (6 : Int32)) from by rw [hq69]; decide), if_pos hq69]
    show Q3 Z o0 p1 k2 w3 h0 n0 _ T63.heap _
    rw [e63]
    exact ⟨(by rw [hv77]), N63, rfl⟩
  · refine OGl.go (T' := T63) (g' := (mkF m 6 #[rv o0, iv 8] [])) (fun t k => by rw [hq69]; exact k) ?_
    show OGl _ _ _ _ T63 (mkF m 6 #[rv o0, iv 8] [])
    refine OGl.go (fun t k => XS.aloadN X63.here hx rfl (hb hby d3_6) rfl rfl (XS.iloadN X63.here hx rfl (hb hby d3_7) rfl (own_baloadV X63 hx hZ e63 V_o0 (j := 8) (v := .int 39) (by decide) (by decide) rfl rfl rfl (hb hby d3_8) (XS.sipush X63.here hx rfl (hb hby d3_9) (XS.iand X63.here hx rfl (hb hby d3_12) rfl (XS.i2c X63.here hx rfl (hb hby d3_13) rfl k)))))) ?_
    show OGl _ _ _ _ T63 (mkF m 14 #[rv o0, iv 8] [.int 39])
    obtain ⟨fs, hr, hrun, hended, hW, hsame⟩ := X63.leave (v := some (.int 39)) (fun h => by rw [Bd.returns] at h; cases h)
    refine ⟨_, _, retN X63 hx (t := .char) Bd.returns (by simp) (hb hby d3_14) hr, hrun, hended, _, _, rfl, ?_, ⟨_, rfl⟩, hW, hsame.mono (by decide) (by decide)⟩
    have hv78 : (t3_0 p1) = (39 : Int32) := by unfold t3_0; rw [if_neg (show ¬ (p1 = (0 : Int32)) from by rw [hq69]; decide), if_neg (show ¬ (p1 = (1 : Int32)) from by rw [hq69]; decide), if_neg (show ¬ (p1 = (2 : Int32)) from by rw [hq69]; decide), if_neg (show ¬ (p1 = (3 : Int32)) from by rw [hq69]; decide), if_neg (show ¬ (p1 = (4 : Int32)) from by rw [hq69]; decide), if_neg (show ¬ (p1 = (5 : Int32)) from by rw [hq69]; decide), if_neg (show ¬ (p1 = (6 : Int32)) from by rw [hq69]; decide), if_neg (show ¬ (p1 = (7 : Int32)) from by rw [hq69]; decide), if_pos hq69]
    show Q3 Z o0 p1 k2 w3 h0 n0 _ T63.heap _
    rw [e63]
    exact ⟨(by rw [hv78]), N63, rfl⟩
  · refine OGl.go (T' := T63) (g' := (mkF m 6 #[rv o0, iv 9] [])) (fun t k => by rw [hq69]; exact k) ?_
    show OGl _ _ _ _ T63 (mkF m 6 #[rv o0, iv 9] [])
    refine OGl.go (fun t k => XS.aloadN X63.here hx rfl (hb hby d3_6) rfl rfl (XS.iloadN X63.here hx rfl (hb hby d3_7) rfl (own_baloadV X63 hx hZ e63 V_o0 (j := 9) (v := .int 34) (by decide) (by decide) rfl rfl rfl (hb hby d3_8) (XS.sipush X63.here hx rfl (hb hby d3_9) (XS.iand X63.here hx rfl (hb hby d3_12) rfl (XS.i2c X63.here hx rfl (hb hby d3_13) rfl k)))))) ?_
    show OGl _ _ _ _ T63 (mkF m 14 #[rv o0, iv 9] [.int 34])
    obtain ⟨fs, hr, hrun, hended, hW, hsame⟩ := X63.leave (v := some (.int 34)) (fun h => by rw [Bd.returns] at h; cases h)
    refine ⟨_, _, retN X63 hx (t := .char) Bd.returns (by simp) (hb hby d3_14) hr, hrun, hended, _, _, rfl, ?_, ⟨_, rfl⟩, hW, hsame.mono (by decide) (by decide)⟩
    have hv79 : (t3_0 p1) = (34 : Int32) := by unfold t3_0; rw [if_neg (show ¬ (p1 = (0 : Int32)) from by rw [hq69]; decide), if_neg (show ¬ (p1 = (1 : Int32)) from by rw [hq69]; decide), if_neg (show ¬ (p1 = (2 : Int32)) from by rw [hq69]; decide), if_neg (show ¬ (p1 = (3 : Int32)) from by rw [hq69]; decide), if_neg (show ¬ (p1 = (4 : Int32)) from by rw [hq69]; decide), if_neg (show ¬ (p1 = (5 : Int32)) from by rw [hq69]; decide), if_neg (show ¬ (p1 = (6 : Int32)) from by rw [hq69]; decide), if_neg (show ¬ (p1 = (7 : Int32)) from by rw [hq69]; decide), if_neg (show ¬ (p1 = (8 : Int32)) from by rw [hq69]; decide), if_pos hq69]
    show Q3 Z o0 p1 k2 w3 h0 n0 _ T63.heap _
    rw [e63]
    exact ⟨(by rw [hv79]), N63, rfl⟩
  · refine OGl.go (T' := T63) (g' := (mkF m 6 #[rv o0, iv 10] [])) (fun t k => by rw [hq69]; exact k) ?_
    show OGl _ _ _ _ T63 (mkF m 6 #[rv o0, iv 10] [])
    refine OGl.go (fun t k => XS.aloadN X63.here hx rfl (hb hby d3_6) rfl rfl (XS.iloadN X63.here hx rfl (hb hby d3_7) rfl (own_baloadV X63 hx hZ e63 V_o0 (j := 10) (v := .int 63) (by decide) (by decide) rfl rfl rfl (hb hby d3_8) (XS.sipush X63.here hx rfl (hb hby d3_9) (XS.iand X63.here hx rfl (hb hby d3_12) rfl (XS.i2c X63.here hx rfl (hb hby d3_13) rfl k)))))) ?_
    show OGl _ _ _ _ T63 (mkF m 14 #[rv o0, iv 10] [.int 63])
    obtain ⟨fs, hr, hrun, hended, hW, hsame⟩ := X63.leave (v := some (.int 63)) (fun h => by rw [Bd.returns] at h; cases h)
    refine ⟨_, _, retN X63 hx (t := .char) Bd.returns (by simp) (hb hby d3_14) hr, hrun, hended, _, _, rfl, ?_, ⟨_, rfl⟩, hW, hsame.mono (by decide) (by decide)⟩
    have hv80 : (t3_0 p1) = (63 : Int32) := by unfold t3_0; rw [if_neg (show ¬ (p1 = (0 : Int32)) from by rw [hq69]; decide), if_neg (show ¬ (p1 = (1 : Int32)) from by rw [hq69]; decide), if_neg (show ¬ (p1 = (2 : Int32)) from by rw [hq69]; decide), if_neg (show ¬ (p1 = (3 : Int32)) from by rw [hq69]; decide), if_neg (show ¬ (p1 = (4 : Int32)) from by rw [hq69]; decide), if_neg (show ¬ (p1 = (5 : Int32)) from by rw [hq69]; decide), if_neg (show ¬ (p1 = (6 : Int32)) from by rw [hq69]; decide), if_neg (show ¬ (p1 = (7 : Int32)) from by rw [hq69]; decide), if_neg (show ¬ (p1 = (8 : Int32)) from by rw [hq69]; decide), if_neg (show ¬ (p1 = (9 : Int32)) from by rw [hq69]; decide)]
    show Q3 Z o0 p1 k2 w3 h0 n0 _ T63.heap _
    rw [e63]
    exact ⟨(by rw [hv80]), N63, rfl⟩
theorem pd_4 : parseMethodDescriptor "([BI)C" = some ⟨[(.array .byte), .int], some .char⟩ := by decide +kernel
theorem d1_15 : decode jdk_42_method_56_code 15 = .ok (.ireturn, 1) := by decide +kernel
theorem ef_1 (m : MethodId) (x0 : Addr) (x1 : Int32) : entryFrame m #[.ref x0, .int x1] 2 = mkF m 0 #[rv x0, iv x1] [] := by first | (simp [entryFrame, mkF, argsToLocals, Value.category]; done) | rfl
def Q1 (Z : State) (o0 : Addr) (p1 : Int32) (p2 : Int32) (o3 : Addr) (k4 : ClassId) (w5 : Value) (h0 : Heap) (n0 : Nat) (v : Option Value) (h : Heap) (L : List Loc) : Prop := v = some (.int (nar .char (t3_0 p1))) ∧ Fr n0 L ∧ h = h0
set_option maxRecDepth 65536 in
set_option maxHeartbeats 40000000 in
theorem rm1 (l : Launch) (Z : State) (a0 : Array Value) (hw : ∀ d ∈ tables_1, d.before a0 Z = true) (ws : List Jvm.Cond) (o0 : Addr) (p1 : Int32) (p2 : Int32) (o3 : Addr) (k4 : ClassId) (w5 : Value) (h0 : Heap) (n0 : Nat) (Z0 : n0 ≤ h0.size) (E_o0 : Exa Z h0 o0 "java/lang/String") (S1 : Sta Z h0 "java/lang/String" "COMPACT_STRINGS" "Z" (.int p2)) (F2_o0 : Fld Z h0 o0 "java/lang/String" "coder" "B" (.int 0)) (hp3_1 : ¬ (p2 = (0 : Int32))) (F4_o0 : Fld Z h0 o0 "java/lang/String" "value" "[B" (.ref o3)) (V_o3 : Arv Z h0 o3 k4 .byte 11 [.int 97, .int 98, .int 116, .int 110, .int 118, .int 102, .int 114, .int 92, .int 39, .int 34, .int 63] (.int 0)) (S6 : Sta Z h0 "jdk/internal/util/Preconditions" "SIOOBE_FORMATTER" "Ljava/util/function/BiFunction;" (w5)) (r_w5 : w5.isRef = true) (hp8_1 : ¬ (p1 < (0 : Int32))) (hp9_1 : p1 < (11 : Int32)) (hp10_1 : p1 = (0 : Int32) ∨ p1 = (1 : Int32) ∨ p1 = (2 : Int32) ∨ p1 = (3 : Int32) ∨ p1 = (4 : Int32) ∨ p1 = (5 : Int32) ∨ p1 = (6 : Int32) ∨ p1 = (7 : Int32) ∨ p1 = (8 : Int32) ∨ p1 = (9 : Int32) ∨ p1 = (10 : Int32)) :
    MetFree l (⟨"java/lang/String", "charAt", "(I)C"⟩ : MethodName) (head1 (Jvm.Cond.code (⟨"java/lang/String", "charAt", "(I)C"⟩ : MethodName) jdk_42_method_56_code 2 (some .char) :: ws) ({ frames := 3, cells := 0, slots := 0, locals := 40 } : Room)) (fun a U => a = #[.ref o0, .int p1] ∧ Z.Warmed39 U.vm ∧ U.heap = h0) (fun _ _ _ _ _ => True) (fun _ U o U' => ∃ v L, o = .returned v ∧ Q1 Z o0 p1 p2 o3 k4 w5 h0 n0 v U'.heap L ∧ FrameEnd U o U' L ({ frames := 3, cells := 0, slots := 0, locals := 40 } : Room).cells ({ frames := 3, cells := 0, slots := 0, locals := 40 } : Room).slots) := by
  refine MetFree.of_bodySF (plainFor_of_name pn_2) hisR ?_
  intro p e s m args below meth c s₁ Bd hml0 hP hK
  obtain ⟨rfl, hZ, hh⟩ := hP
  have hx := Bd.exec
  have hby := Bd.bytes
  have hml : c.maxLocals = 2 := hml0
  have hown : s.vm.findClass "java/lang/String" = some m.cls := findClass_of_methodNamed Bd.named
  have hnm := (name_of_methodNamed Bd.named Bd.method).1
  have X0 : Stand p l e ({ frames := 3, cells := 0, slots := 0, locals := 40 } : Room) s m #[.ref o0, .int p1] below meth c s₁ [] 0 0 := Stand.of_body Bd
  have e0 : s₁.heap = h0 := by rw [← hh, Bd.state]; rfl
  have N0 := Fr.nil n0
  refine OGl.start (ef_1 m o0 p1) ?_
  show OGl _ _ _ _ s₁ (mkF m 0 #[rv o0, iv p1] [])
  refine OGl.go (fun t k => XS.aloadN X0.here hx rfl (hb hby d1_0) rfl rfl k) ?_
  show OGl _ _ _ _ s₁ (mkF m 1 #[rv o0, iv p1] [.ref o0])
  obtain ⟨cq58, kq58, q58a, q58b, q58c⟩ := isOf hZ e0 E_o0
  obtain ⟨_, _, ⟨T58, L58, kk58, n58⟩, -, X58, ⟨Lc58, hQ58, l58, y58, z58⟩, st58⟩ := X0.virtualBack hx (y := (⟨"java/lang/String", "isLatin1", "()Z"⟩ : MethodName)) (z := (⟨"java/lang/String", "isLatin1", "()Z"⟩ : MethodName)) hown (mvT hZ (hw _ (List.mem_of_getElem? (i := 14) rfl))) (mvT hZ (hw _ (List.mem_of_getElem? (i := 15) rfl))) (notFace_of_selects (args := #[]) (mvT hZ (hw _ (List.mem_of_getElem? (i := 17) rfl)))) (mvT hZ (hw _ (List.mem_of_getElem? (i := 17) rfl))) (mvT hZ (hw _ (List.mem_of_getElem? (i := 16) rfl))) (by decide) (backOf (W := 0) (rm2 l Z a0 hw [] o0 p2 h0 n0 Z0 S1 hp3_1 F2_o0) hZ (hw _ (List.mem_of_getElem? (i := 18) rfl)) (hw _ (List.mem_of_getElem? (i := 1) rfl)) (by decide) (by decide)) q58a q58c (g := (mkF m 1 #[rv o0, iv p1] [.ref o0])) rfl (by rw [hml]; rfl) (Steps.refl _) (argsL := []) (rest := []) (lenOf pd_1 rfl) rfl (by show 2 * 0 + _ ≤ _; exact Nat.le_of_eq rfl) (hb hby d1_1) (fun _ _ => ⟨rfl, e0, (by decide : 0 + 0 ≤ _), (by decide : 0 + 0 ≤ _)⟩)
  dsimp only [Pt.U, Pt.locs, Pt.cells, Pt.slots] at X58 l58 y58 z58 st58 hQ58
  subst l58 y58 z58
  obtain ⟨rfl, Nq58, e58⟩ := hQ58
  have N58 := Fr.app N0 Nq58
  refine OGl.go (fun t k => st58.trans k) ?_
  show OGl _ _ _ _ T58 (mkF m 4 #[rv o0, iv p1] [.int 1])
  refine OGl.go (fun t k => XS.ifNo X58.here hx rfl (hb hby d1_4) rfl ((if0 _ _).trans (feq (by decide : ¬ ((1 : Int32) = (0 : Int32)))).1) (XS.aloadN X58.here hx rfl (hb hby d1_7) rfl rfl k)) (own_getG X58 hx hZ hown (hw _ (List.mem_of_getElem? (i := 21) rfl)) e58 F4_o0 rfl rfl (hb hby d1_8) fun T61 X61 e61 => OGl.go (fun t k => XS.iloadN X61.here hx rfl (hb hby d1_11) rfl k) ?_)
  show OGl _ _ _ _ T61 (mkF m 12 #[rv o0, iv p1] [.int p1, .ref o3])
  obtain ⟨_, _, ⟨T62, L62, kk62, n62⟩, -, X62, ⟨Lc62, hQ62, l62, y62, z62⟩, st62⟩ := Jvm.LawKit.callS X61 hx (y := (⟨"java/lang/StringLatin1", "charAt", "([BI)C"⟩ : MethodName)) hown (mvT hZ (hw _ (List.mem_of_getElem? (i := 22) rfl))) (mvT hZ (hw _ (List.mem_of_getElem? (i := 23) rfl))) (mvT hZ (hw _ (List.mem_of_getElem? (i := 24) rfl))) (mvT hZ (hw _ (List.mem_of_getElem? (i := 25) rfl))) (by decide) (backOf (W := 0) (rm3 l Z a0 hw [] o3 p1 k4 w5 h0 n0 Z0 V_o3 S6 r_w5 hp8_1 hp9_1 hp10_1) hZ (hw _ (List.mem_of_getElem? (i := 25) rfl)) (hw _ (List.mem_of_getElem? (i := 24) rfl)) (by decide) (by decide)) (g := (mkF m 12 #[rv o0, iv p1] [.int p1, .ref o3])) rfl (by rw [hml]; rfl) (argsL := [.ref o3, .int p1]) (rest := []) (lenOf pd_4 rfl) rfl (by show 2 * 0 + _ ≤ _; exact Nat.le_of_eq rfl) (hb hby d1_12) (fun _ _ => ⟨rfl, e61, (by decide : 0 + 0 ≤ _), (by decide : 0 + 0 ≤ _)⟩)
  dsimp only [Pt.U, Pt.locs, Pt.cells, Pt.slots] at X62 l62 y62 z62 st62 hQ62
  subst l62 y62 z62
  obtain ⟨rfl, Nq62, e62⟩ := hQ62
  have N62 := Fr.app N58 Nq62
  refine OGl.go st62 ?_
  show OGl _ _ _ _ T62 (mkF m 15 #[rv o0, iv p1] [.int (t3_0 p1)])
  obtain ⟨fs, hr, hrun, hended, hW, hsame⟩ := X62.leave (v := some (.int (nar .char (t3_0 p1)))) (fun h => by rw [Bd.returns] at h; cases h)
  refine ⟨_, _, retN X62 hx (t := .char) Bd.returns (by simp) (hb hby d1_15) hr, hrun, hended, _, _, rfl, ?_, ⟨_, rfl⟩, hW, hsame.mono (by decide) (by decide)⟩
  show Q1 Z o0 p1 p2 o3 k4 w5 h0 n0 _ T62.heap _
  rw [e62]
  exact ⟨rfl, N62, rfl⟩
theorem pd_5 : parseMethodDescriptor "(I)C" = some ⟨[.int], some .char⟩ := by decide +kernel
theorem ef_0 (m : MethodId) (x0 : Int32) (x1 : Int32) : entryFrame m #[.int x0, .int x1] maxLocals = mkF m 0 #[iv x0, iv x1, un, un] [] := by first | (simp [entryFrame, mkF, argsToLocals, Value.category, maxLocals]; done) | rfl
def t0_0 (p0 : Int32) (p1 : Int32) (w2 : Int32) : Int32 := (if (p1 &&& (1 : Int32)) = (0 : Int32) then (if (t6_0 (((p0 &&& (65535 : Int32))).toUInt32.toUInt16.toUInt32.toInt32)) = (t7_0 (((p0 &&& (65535 : Int32))).toUInt32.toUInt16.toUInt32.toInt32)) then (1 : Int32) else (0 : Int32)) else (if (t6_0 (nar .char (t3_0 ((((p1.toUInt32 >>> ((1 : Int32) &&& 31).toUInt32).toInt32) &&& (2147483647 : Int32)) % (11 : Int32))))) = (t7_0 (nar .char (t3_0 ((((p1.toUInt32 >>> ((1 : Int32) &&& 31).toUInt32).toInt32) &&& (2147483647 : Int32)) % (11 : Int32))))) then (1 : Int32) else (0 : Int32)))
def Q0 (Z : State) (p0 : Int32) (p1 : Int32) (w2 : Int32) (w3 : Value) (h0 : Heap) (n0 : Nat) (v : Option Value) (h : Heap) (L : List Loc) : Prop := v = some (.int (t0_0 p0 p1 w2)) ∧ Fr n0 L
set_option maxRecDepth 65536 in
set_option maxHeartbeats 40000000 in
theorem rm0 (l : Launch) (Z : State) (a0 : Array Value) (hw : ∀ d ∈ tables_1, d.before a0 Z = true) (ws : List Jvm.Cond) (p0 : Int32) (p1 : Int32) (w2 : Int32) (w3 : Value) (h0 : Heap) (n0 : Nat) (Z0 : n0 ≤ h0.size) (S0 : Sta Z h0 "java/lang/String" "COMPACT_STRINGS" "Z" (.int w2)) (S1 : Sta Z h0 "jdk/internal/util/Preconditions" "SIOOBE_FORMATTER" "Ljava/util/function/BiFunction;" (w3)) (r_w3 : w3.isRef = true) (hw2 : ¬ (w2 = (0 : Int32))) (hheld : Jvm.Lit.constHeld Z "com/example/wyrmsmith/wyrmsmith/SourceTextSimpleEscapePinLaw" 7) (hcw : Jvm.Lit.compactW.before a0 Z = true) (wS : ∀ a ∈ Bundle.stringAtoms, a.before a0 Z = true) :
    MetFree l x (head1 (Jvm.Cond.code x code maxLocals ret :: ws) room_1) (fun a U => a = #[.int p0, .int p1] ∧ U = Z ∧ U.heap = h0) (fun _ _ _ _ _ => True) (fun _ U o U' => ∃ v L, o = .returned v ∧ Q0 Z p0 p1 w2 w3 h0 n0 v U'.heap L ∧ ReturnedEndW U o U' L 2 48) := by
  refine MetFree.of_bodySF (plainFor_of_name pn_1) hisR ?_
  intro p e s m args below meth c s₁ Bd hml0 hP hK
  obtain ⟨rfl, hsZ, hh0⟩ := hP
  have hh := hh0
  have hZ : Z.Warmed39 s.vm := hsZ ▸ State.Warmed39.refl s
  have hIB : IB Z s.vm [] := hsZ ▸ IB.start
  have hkeep : ∀ (b : Addr) (cl : Cell), Z.heap[b]? = some cl → s.heap[b]? = some cl := fun b cl q => by rw [hsZ]; exact q
  have hS0 : s.Since s.vm 0 := (State.WarmedH.refl s).since 0
  have hx := Bd.exec
  have hby := Bd.bytes
  have hml : c.maxLocals = 4 := hml0
  have hown : s.vm.findClass "com/example/wyrmsmith/wyrmsmith/SourceTextSimpleEscapePinLaw" = some m.cls := findClass_of_methodNamed Bd.named
  have hnm := (name_of_methodNamed Bd.named Bd.method).1
  have X0 : Stand p l e room_1 s m #[.int p0, .int p1] below meth c s₁ [] 0 0 := Stand.of_body Bd
  have e0 : s₁.heap = h0 := by rw [← hh, Bd.state]; rfl
  have N0 := Fr.nil n0
  refine OGl.start (ef_0 m p0 p1) ?_
  show OGl _ _ _ _ s₁ (mkF m 0 #[iv p0, iv p1, un, un] [])
  refine OGl.go (fun t k => XS.iloadN X0.here hx rfl (hb hby at_0) rfl (XS.iconst X0.here hx rfl (hb hby at_1) (XS.iand X0.here hx rfl (hb hby at_2) rfl k))) ?_
  show OGl _ _ _ _ s₁ (mkF m 3 #[iv p0, iv p1, un, un] [.int (p1 &&& (1 : Int32))])
  by_cases hc2 : (p1 &&& (1 : Int32)) = (0 : Int32)
  · refine OGl.go (fun t k => XS.ifYes X0.here hx rfl (pc0 := 3) (pc' := 26) rfl (hb hby at_3) rfl ((if0 _ _).trans (teq hc2).1) (by decide) (by decide) (XS.iloadN X0.here hx rfl (hb hby at_26) rfl (own_ldc X0 hx hown (mvT hZ (hw _ (List.mem_of_getElem? (i := 45) rfl))) rfl (hb hby at_27) (XS.iand X0.here hx rfl (hb hby at_29) rfl (XS.i2c X0.here hx rfl (hb hby at_30) rfl (XS.istoreN X0.here hx rfl (hb hby at_31) rfl (l' := #[iv p0, iv p1, iv (((p0 &&& (65535 : Int32))).toUInt32.toUInt16.toUInt32.toInt32), un]) rfl (XS.iloadN X0.here hx rfl (hb hby at_32) rfl k))))))) ?_
    show OGl _ _ _ _ s₁ (mkF m 33 #[iv p0, iv p1, iv (((p0 &&& (65535 : Int32))).toUInt32.toUInt16.toUInt32.toInt32), un] [.int (((p0 &&& (65535 : Int32))).toUInt32.toUInt16.toUInt32.toInt32)])
    obtain ⟨_, _, ⟨T3, L3, kk3, n3⟩, -, X3, ⟨Lc3, hQ3, l3, y3, z3⟩, st3⟩ := Jvm.LawKit.callS X0 hx (y := (⟨"com/example/wyrmsmith/wyrmsmith/SourceText", "simpleEscape", "(C)I"⟩ : MethodName)) hown (mvT hZ (hw _ (List.mem_of_getElem? (i := 34) rfl))) (mvT hZ (hw _ (List.mem_of_getElem? (i := 35) rfl))) (mvT hZ (hw _ (List.mem_of_getElem? (i := 36) rfl))) (mvT hZ (hw _ (List.mem_of_getElem? (i := 37) rfl))) (by decide) (backOf (W := 0) (rm6 l Z a0 hw [] (((p0 &&& (65535 : Int32))).toUInt32.toUInt16.toUInt32.toInt32) h0 n0 Z0 ) hZ (hw _ (List.mem_of_getElem? (i := 37) rfl)) (hw _ (List.mem_of_getElem? (i := 36) rfl)) (by decide) (by decide)) (g := (mkF m 33 #[iv p0, iv p1, iv (((p0 &&& (65535 : Int32))).toUInt32.toUInt16.toUInt32.toInt32), un] [.int (((p0 &&& (65535 : Int32))).toUInt32.toUInt16.toUInt32.toInt32)])) rfl (by rw [hml]; rfl) (argsL := [.int (((p0 &&& (65535 : Int32))).toUInt32.toUInt16.toUInt32.toInt32)]) (rest := []) (lenOf pd_0 rfl) rfl (by show 2 * 0 + _ ≤ _; exact Nat.le_of_eq rfl) (hb hby at_33) (fun _ _ => ⟨rfl, e0, (by decide : 0 + 0 ≤ _), (by decide : 0 + 0 ≤ _)⟩)
    dsimp only [Pt.U, Pt.locs, Pt.cells, Pt.slots] at X3 l3 y3 z3 st3 hQ3
    subst l3 y3 z3
    obtain ⟨rfl, Nq3, e3⟩ := hQ3
    have N3 := Fr.app N0 Nq3
    refine OGl.go st3 ?_
    show OGl _ _ _ _ T3 (mkF m 36 #[iv p0, iv p1, iv (((p0 &&& (65535 : Int32))).toUInt32.toUInt16.toUInt32.toInt32), un] [.int (t6_0 (((p0 &&& (65535 : Int32))).toUInt32.toUInt16.toUInt32.toInt32))])
    refine OGl.go (fun t k => XS.iloadN X3.here hx rfl (hb hby at_36) rfl k) ?_
    show OGl _ _ _ _ T3 (mkF m 37 #[iv p0, iv p1, iv (((p0 &&& (65535 : Int32))).toUInt32.toUInt16.toUInt32.toInt32), un] [.int (((p0 &&& (65535 : Int32))).toUInt32.toUInt16.toUInt32.toInt32), .int (t6_0 (((p0 &&& (65535 : Int32))).toUInt32.toUInt16.toUInt32.toInt32))])
    obtain ⟨_, _, ⟨T27, L27, kk27, n27⟩, -, X27, ⟨Lc27, hQ27, l27, y27, z27⟩, st27⟩ := Jvm.LawKit.callS X3 hx (y := (⟨"com/example/wyrmsmith/wyrmsmith/SourceTextSimpleEscapePinLaw", "expected", "(C)I"⟩ : MethodName)) hown (mvT hZ (hw _ (List.mem_of_getElem? (i := 38) rfl))) (mvT hZ (hw _ (List.mem_of_getElem? (i := 39) rfl))) (mvT hZ (hw _ (List.mem_of_getElem? (i := 40) rfl))) (mvT hZ (hw _ (List.mem_of_getElem? (i := 41) rfl))) (by decide) (backOf (W := 1) (rm7 l Z a0 hw [] (((p0 &&& (65535 : Int32))).toUInt32.toUInt16.toUInt32.toInt32) h0 n0 Z0 ) hZ (hw _ (List.mem_of_getElem? (i := 41) rfl)) (hw _ (List.mem_of_getElem? (i := 40) rfl)) (by decide) (by decide)) (g := (mkF m 37 #[iv p0, iv p1, iv (((p0 &&& (65535 : Int32))).toUInt32.toUInt16.toUInt32.toInt32), un] [.int (((p0 &&& (65535 : Int32))).toUInt32.toUInt16.toUInt32.toInt32), .int (t6_0 (((p0 &&& (65535 : Int32))).toUInt32.toUInt16.toUInt32.toInt32))])) rfl (by rw [hml]; rfl) (argsL := [.int (((p0 &&& (65535 : Int32))).toUInt32.toUInt16.toUInt32.toInt32)]) (rest := [.int (t6_0 (((p0 &&& (65535 : Int32))).toUInt32.toUInt16.toUInt32.toInt32))]) (lenOf pd_0 rfl) rfl (by show 2 * 0 + _ ≤ _; exact Nat.le_of_eq rfl) (hb hby at_37) (fun _ _ => ⟨rfl, e3, (by decide : 0 + 0 ≤ _), (by decide : 0 + 0 ≤ _)⟩)
    dsimp only [Pt.U, Pt.locs, Pt.cells, Pt.slots] at X27 l27 y27 z27 st27 hQ27
    subst l27 y27 z27
    obtain ⟨rfl, Nq27, e27⟩ := hQ27
    have N27 := Fr.app N3 Nq27
    refine OGl.go st27 ?_
    show OGl _ _ _ _ T27 (mkF m 40 #[iv p0, iv p1, iv (((p0 &&& (65535 : Int32))).toUInt32.toUInt16.toUInt32.toInt32), un] [.int (t7_0 (((p0 &&& (65535 : Int32))).toUInt32.toUInt16.toUInt32.toInt32)), .int (t6_0 (((p0 &&& (65535 : Int32))).toUInt32.toUInt16.toUInt32.toInt32))])
    by_cases hc55 : (t6_0 (((p0 &&& (65535 : Int32))).toUInt32.toUInt16.toUInt32.toInt32)) = (t7_0 (((p0 &&& (65535 : Int32))).toUInt32.toUInt16.toUInt32.toInt32))
    · refine OGl.go (fun t k => XS.icmpNo X27.here hx rfl (hb hby at_40) rfl (teq hc55).2 (XS.iconst X27.here hx rfl (hb hby at_43) (XS.goto X27.here hx rfl (pc0 := 44) (pc' := 48) rfl (hb hby at_44) (by decide) (by decide) k))) ?_
      show OGl _ _ _ _ T27 (mkF m 48 #[iv p0, iv p1, iv (((p0 &&& (65535 : Int32))).toUInt32.toUInt16.toUInt32.toInt32), un] [.int 1])
      obtain ⟨fs, hr, hrun, hended, hW, hsame⟩ := X27.leave (v := some (.int 1)) (fun h => by rw [Bd.returns] at h; cases h)
      refine ⟨_, _, retN X27 hx (t := .boolean) Bd.returns (by simp) (hb hby at_48) hr, hrun, hended, _, _, rfl, ?_, ReturnedEndW.of_narrow ⟨_, rfl⟩ hW (hsame.mono (by decide) (by decide))⟩
      have hv86 : (t0_0 p0 p1 w2) = (1 : Int32) := by unfold t0_0; rw [if_pos hc2, if_pos hc55]
      show Q0 Z p0 p1 w2 w3 h0 n0 _ T27.heap _
      rw [e27]
      exact ⟨(by rw [hv86]), N27⟩
    · refine OGl.go (fun t k => XS.icmpYes X27.here hx rfl (pc0 := 40) (pc' := 47) rfl (hb hby at_40) rfl (feq hc55).2 (by decide) (by decide) (XS.iconst X27.here hx rfl (hb hby at_47) k)) ?_
      show OGl _ _ _ _ T27 (mkF m 48 #[iv p0, iv p1, iv (((p0 &&& (65535 : Int32))).toUInt32.toUInt16.toUInt32.toInt32), un] [.int 0])
      obtain ⟨fs, hr, hrun, hended, hW, hsame⟩ := X27.leave (v := some (.int 0)) (fun h => by rw [Bd.returns] at h; cases h)
      refine ⟨_, _, retN X27 hx (t := .boolean) Bd.returns (by simp) (hb hby at_48) hr, hrun, hended, _, _, rfl, ?_, ReturnedEndW.of_narrow ⟨_, rfl⟩ hW (hsame.mono (by decide) (by decide))⟩
      have hv87 : (t0_0 p0 p1 w2) = (0 : Int32) := by unfold t0_0; rw [if_pos hc2, if_neg hc55]
      show Q0 Z p0 p1 w2 w3 h0 n0 _ T27.heap _
      rw [e27]
      exact ⟨(by rw [hv87]), N27⟩
  · refine OGl.go (fun t k => XS.ifNo X0.here hx rfl (hb hby at_3) rfl ((if0 _ _).trans (feq hc2).1) k) ?_
    show OGl _ _ _ _ s₁ (mkF m 6 #[iv p0, iv p1, un, un] [])
    obtain ⟨a56, T56, h56, k56, b56, kb56, X56, e56, E56, Si56, hk56, hZ, hown, A56, C56, V56, Vb56, -, -, -, -, -, st56⟩ := ldcSVd (s := s) (vm0 := s.vm) (Ts := []) X0 hx hZ hown (hw _ (List.mem_of_getElem? (i := 0) rfl)) wS e0 hS0 (Nat.zero_le _) (Fr.nil _) hkeep hIB (by simp) hheld hcw (vs := [.int 97, .int 98, .int 116, .int 110, .int 118, .int 102, .int 114, .int 92, .int 39, .int 34, .int 63]) (z := 11) ⟨by decide, by decide⟩ (by decide) (by decide) (g := (mkF m 6 #[iv p0, iv p1, un, un] [])) rfl (hb hby at_6) (n := 44) (by decide) (by decide) (by decide) (by decide)
    have KK56 := (Keep.refl h0 []).ext E56
    refine OGl.go st56 ?_
    show OGl _ _ _ _ T56 (mkF m 8 #[iv p0, iv p1, un, un] [.ref a56])
    refine OGl.go (fun t k => XS.astoreN X56.here hx rfl (hb hby at_8) rfl rfl (l' := #[iv p0, iv p1, un, rv a56]) rfl (XS.aloadN X56.here hx rfl (hb hby at_9) rfl rfl (XS.iloadN X56.here hx rfl (hb hby at_10) rfl (XS.iconst X56.here hx rfl (hb hby at_11) (XS.iushr X56.here hx rfl (hb hby at_12) rfl (own_ldc X56 hx hown (mvT hZ (hw _ (List.mem_of_getElem? (i := 8) rfl))) rfl (hb hby at_13) (XS.iand X56.here hx rfl (hb hby at_15) rfl (XS.bipush X56.here hx rfl (hb hby at_16) (iremM X56 hx rfl (hb hby at_18) rfl (by decide) k))))))))) ?_
    show OGl _ _ _ _ T56 (mkF m 19 #[iv p0, iv p1, un, rv a56] [.int ((((p1.toUInt32 >>> ((1 : Int32) &&& 31).toUInt32).toInt32) &&& (2147483647 : Int32)) % (11 : Int32)), .ref a56])
    have F81 := (S0.ext E56)
    have F82 := (S1.ext E56)
    obtain ⟨cq57, kq57, q57a, q57b, q57c⟩ := isOf hZ e56 A56
    obtain ⟨_, _, ⟨T57, L57, kk57, n57⟩, -, X57, ⟨Lc57, hQ57, l57, y57, z57⟩, st57⟩ := X56.virtualBack hx (y := (⟨"java/lang/String", "charAt", "(I)C"⟩ : MethodName)) (z := (⟨"java/lang/String", "charAt", "(I)C"⟩ : MethodName)) hown (mvT hZ (hw _ (List.mem_of_getElem? (i := 9) rfl))) (mvT hZ (hw _ (List.mem_of_getElem? (i := 10) rfl))) (notFace_of_selects (args := #[]) (mvT hZ (hw _ (List.mem_of_getElem? (i := 12) rfl)))) (mvT hZ (hw _ (List.mem_of_getElem? (i := 12) rfl))) (mvT hZ (hw _ (List.mem_of_getElem? (i := 11) rfl))) (by decide) (backOf (W := 0) (rm1 l Z a0 hw [] a56 ((((p1.toUInt32 >>> ((1 : Int32) &&& 31).toUInt32).toInt32) &&& (2147483647 : Int32)) % (11 : Int32)) w2 b56 kb56 w3 h56 n0 (Nat.le_trans Z0 KK56.1) A56 F81 C56 hw2 V56 Vb56 F82 r_w3 (own_j p1).1 (own_j p1).2.1 (own_j p1).2.2) hZ (hw _ (List.mem_of_getElem? (i := 13) rfl)) (hw _ (List.mem_of_getElem? (i := 1) rfl)) (by decide) (by decide)) q57a q57c (g := (mkF m 19 #[iv p0, iv p1, un, rv a56] [.int ((((p1.toUInt32 >>> ((1 : Int32) &&& 31).toUInt32).toInt32) &&& (2147483647 : Int32)) % (11 : Int32)), .ref a56])) rfl (by rw [hml]; rfl) (Steps.refl _) (argsL := [.int ((((p1.toUInt32 >>> ((1 : Int32) &&& 31).toUInt32).toInt32) &&& (2147483647 : Int32)) % (11 : Int32))]) (rest := []) (lenOf pd_5 rfl) rfl (by show 2 * 0 + _ ≤ _; exact Nat.le_of_eq rfl) (hb hby at_19) (fun _ _ => ⟨rfl, e56, (by decide : 2 + 0 ≤ _), (by decide : 48 + 0 ≤ _)⟩)
    dsimp only [Pt.U, Pt.locs, Pt.cells, Pt.slots] at X57 l57 y57 z57 st57 hQ57
    subst l57 y57 z57
    obtain ⟨rfl, Nq57, e57⟩ := hQ57
    have N57 := Fr.app N0 Nq57
    refine OGl.go (fun t k => st57.trans k) ?_
    show OGl _ _ _ _ T57 (mkF m 22 #[iv p0, iv p1, un, rv a56] [.int (nar .char (t3_0 ((((p1.toUInt32 >>> ((1 : Int32) &&& 31).toUInt32).toInt32) &&& (2147483647 : Int32)) % (11 : Int32))))])
    refine OGl.go (fun t k => XS.istoreN X57.here hx rfl (hb hby at_22) rfl (l' := #[iv p0, iv p1, iv (nar .char (t3_0 ((((p1.toUInt32 >>> ((1 : Int32) &&& 31).toUInt32).toInt32) &&& (2147483647 : Int32)) % (11 : Int32)))), rv a56]) rfl (XS.goto X57.here hx rfl (pc0 := 23) (pc' := 32) rfl (hb hby at_23) (by decide) (by decide) (XS.iloadN X57.here hx rfl (hb hby at_32) rfl k))) ?_
    show OGl _ _ _ _ T57 (mkF m 33 #[iv p0, iv p1, iv (nar .char (t3_0 ((((p1.toUInt32 >>> ((1 : Int32) &&& 31).toUInt32).toInt32) &&& (2147483647 : Int32)) % (11 : Int32)))), rv a56] [.int (nar .char (t3_0 ((((p1.toUInt32 >>> ((1 : Int32) &&& 31).toUInt32).toInt32) &&& (2147483647 : Int32)) % (11 : Int32))))])
    obtain ⟨_, _, ⟨T83, L83, kk83, n83⟩, -, X83, ⟨Lc83, hQ83, l83, y83, z83⟩, st83⟩ := Jvm.LawKit.callS X57 hx (y := (⟨"com/example/wyrmsmith/wyrmsmith/SourceText", "simpleEscape", "(C)I"⟩ : MethodName)) hown (mvT hZ (hw _ (List.mem_of_getElem? (i := 34) rfl))) (mvT hZ (hw _ (List.mem_of_getElem? (i := 35) rfl))) (mvT hZ (hw _ (List.mem_of_getElem? (i := 36) rfl))) (mvT hZ (hw _ (List.mem_of_getElem? (i := 37) rfl))) (by decide) (backOf (W := 0) (rm6 l Z a0 hw [] (nar .char (t3_0 ((((p1.toUInt32 >>> ((1 : Int32) &&& 31).toUInt32).toInt32) &&& (2147483647 : Int32)) % (11 : Int32)))) h56 n0 (Nat.le_trans Z0 KK56.1) ) hZ (hw _ (List.mem_of_getElem? (i := 37) rfl)) (hw _ (List.mem_of_getElem? (i := 36) rfl)) (by decide) (by decide)) (g := (mkF m 33 #[iv p0, iv p1, iv (nar .char (t3_0 ((((p1.toUInt32 >>> ((1 : Int32) &&& 31).toUInt32).toInt32) &&& (2147483647 : Int32)) % (11 : Int32)))), rv a56] [.int (nar .char (t3_0 ((((p1.toUInt32 >>> ((1 : Int32) &&& 31).toUInt32).toInt32) &&& (2147483647 : Int32)) % (11 : Int32))))])) rfl (by rw [hml]; rfl) (argsL := [.int (nar .char (t3_0 ((((p1.toUInt32 >>> ((1 : Int32) &&& 31).toUInt32).toInt32) &&& (2147483647 : Int32)) % (11 : Int32))))]) (rest := []) (lenOf pd_0 rfl) rfl (by show 2 * 0 + _ ≤ _; exact Nat.le_of_eq rfl) (hb hby at_33) (fun _ _ => ⟨rfl, e57, (by decide : 2 + 0 ≤ _), (by decide : 48 + 0 ≤ _)⟩)
    dsimp only [Pt.U, Pt.locs, Pt.cells, Pt.slots] at X83 l83 y83 z83 st83 hQ83
    subst l83 y83 z83
    obtain ⟨rfl, Nq83, e83⟩ := hQ83
    have N83 := Fr.app N57 Nq83
    refine OGl.go st83 ?_
    show OGl _ _ _ _ T83 (mkF m 36 #[iv p0, iv p1, iv (nar .char (t3_0 ((((p1.toUInt32 >>> ((1 : Int32) &&& 31).toUInt32).toInt32) &&& (2147483647 : Int32)) % (11 : Int32)))), rv a56] [.int (t6_0 (nar .char (t3_0 ((((p1.toUInt32 >>> ((1 : Int32) &&& 31).toUInt32).toInt32) &&& (2147483647 : Int32)) % (11 : Int32)))))])
    refine OGl.go (fun t k => XS.iloadN X83.here hx rfl (hb hby at_36) rfl k) ?_
    show OGl _ _ _ _ T83 (mkF m 37 #[iv p0, iv p1, iv (nar .char (t3_0 ((((p1.toUInt32 >>> ((1 : Int32) &&& 31).toUInt32).toInt32) &&& (2147483647 : Int32)) % (11 : Int32)))), rv a56] [.int (nar .char (t3_0 ((((p1.toUInt32 >>> ((1 : Int32) &&& 31).toUInt32).toInt32) &&& (2147483647 : Int32)) % (11 : Int32)))), .int (t6_0 (nar .char (t3_0 ((((p1.toUInt32 >>> ((1 : Int32) &&& 31).toUInt32).toInt32) &&& (2147483647 : Int32)) % (11 : Int32)))))])
    obtain ⟨_, _, ⟨T84, L84, kk84, n84⟩, -, X84, ⟨Lc84, hQ84, l84, y84, z84⟩, st84⟩ := Jvm.LawKit.callS X83 hx (y := (⟨"com/example/wyrmsmith/wyrmsmith/SourceTextSimpleEscapePinLaw", "expected", "(C)I"⟩ : MethodName)) hown (mvT hZ (hw _ (List.mem_of_getElem? (i := 38) rfl))) (mvT hZ (hw _ (List.mem_of_getElem? (i := 39) rfl))) (mvT hZ (hw _ (List.mem_of_getElem? (i := 40) rfl))) (mvT hZ (hw _ (List.mem_of_getElem? (i := 41) rfl))) (by decide) (backOf (W := 1) (rm7 l Z a0 hw [] (nar .char (t3_0 ((((p1.toUInt32 >>> ((1 : Int32) &&& 31).toUInt32).toInt32) &&& (2147483647 : Int32)) % (11 : Int32)))) h56 n0 (Nat.le_trans Z0 KK56.1) ) hZ (hw _ (List.mem_of_getElem? (i := 41) rfl)) (hw _ (List.mem_of_getElem? (i := 40) rfl)) (by decide) (by decide)) (g := (mkF m 37 #[iv p0, iv p1, iv (nar .char (t3_0 ((((p1.toUInt32 >>> ((1 : Int32) &&& 31).toUInt32).toInt32) &&& (2147483647 : Int32)) % (11 : Int32)))), rv a56] [.int (nar .char (t3_0 ((((p1.toUInt32 >>> ((1 : Int32) &&& 31).toUInt32).toInt32) &&& (2147483647 : Int32)) % (11 : Int32)))), .int (t6_0 (nar .char (t3_0 ((((p1.toUInt32 >>> ((1 : Int32) &&& 31).toUInt32).toInt32) &&& (2147483647 : Int32)) % (11 : Int32)))))])) rfl (by rw [hml]; rfl) (argsL := [.int (nar .char (t3_0 ((((p1.toUInt32 >>> ((1 : Int32) &&& 31).toUInt32).toInt32) &&& (2147483647 : Int32)) % (11 : Int32))))]) (rest := [.int (t6_0 (nar .char (t3_0 ((((p1.toUInt32 >>> ((1 : Int32) &&& 31).toUInt32).toInt32) &&& (2147483647 : Int32)) % (11 : Int32)))))]) (lenOf pd_0 rfl) rfl (by show 2 * 0 + _ ≤ _; exact Nat.le_of_eq rfl) (hb hby at_37) (fun _ _ => ⟨rfl, e83, (by decide : 2 + 0 ≤ _), (by decide : 48 + 0 ≤ _)⟩)
    dsimp only [Pt.U, Pt.locs, Pt.cells, Pt.slots] at X84 l84 y84 z84 st84 hQ84
    subst l84 y84 z84
    obtain ⟨rfl, Nq84, e84⟩ := hQ84
    have N84 := Fr.app N83 Nq84
    refine OGl.go st84 ?_
    show OGl _ _ _ _ T84 (mkF m 40 #[iv p0, iv p1, iv (nar .char (t3_0 ((((p1.toUInt32 >>> ((1 : Int32) &&& 31).toUInt32).toInt32) &&& (2147483647 : Int32)) % (11 : Int32)))), rv a56] [.int (t7_0 (nar .char (t3_0 ((((p1.toUInt32 >>> ((1 : Int32) &&& 31).toUInt32).toInt32) &&& (2147483647 : Int32)) % (11 : Int32))))), .int (t6_0 (nar .char (t3_0 ((((p1.toUInt32 >>> ((1 : Int32) &&& 31).toUInt32).toInt32) &&& (2147483647 : Int32)) % (11 : Int32)))))])
    by_cases hc85 : (t6_0 (nar .char (t3_0 ((((p1.toUInt32 >>> ((1 : Int32) &&& 31).toUInt32).toInt32) &&& (2147483647 : Int32)) % (11 : Int32))))) = (t7_0 (nar .char (t3_0 ((((p1.toUInt32 >>> ((1 : Int32) &&& 31).toUInt32).toInt32) &&& (2147483647 : Int32)) % (11 : Int32)))))
    · refine OGl.go (fun t k => XS.icmpNo X84.here hx rfl (hb hby at_40) rfl (teq hc85).2 (XS.iconst X84.here hx rfl (hb hby at_43) (XS.goto X84.here hx rfl (pc0 := 44) (pc' := 48) rfl (hb hby at_44) (by decide) (by decide) k))) ?_
      show OGl _ _ _ _ T84 (mkF m 48 #[iv p0, iv p1, iv (nar .char (t3_0 ((((p1.toUInt32 >>> ((1 : Int32) &&& 31).toUInt32).toInt32) &&& (2147483647 : Int32)) % (11 : Int32)))), rv a56] [.int 1])
      obtain ⟨fs, hr, hrun, hended, hEW⟩ := X84.leaveW Si56 (by rw [e84]; exact hk56) (v := some (.int 1)) (fun h => by rw [Bd.returns] at h; cases h)
      refine ⟨_, _, retN X84 hx (t := .boolean) Bd.returns (by simp) (hb hby at_48) hr, hrun, hended, _, _, rfl, ?_, ⟨hEW.1, hEW.2.1, hEW.2.2.1, hEW.2.2.2.mono (by decide) (by decide)⟩⟩
      have hv88 : (t0_0 p0 p1 w2) = (1 : Int32) := by unfold t0_0; rw [if_neg hc2, if_pos hc85]
      show Q0 Z p0 p1 w2 w3 h0 n0 _ T84.heap _
      rw [e84]
      exact ⟨(by rw [hv88]), N84⟩
    · refine OGl.go (fun t k => XS.icmpYes X84.here hx rfl (pc0 := 40) (pc' := 47) rfl (hb hby at_40) rfl (feq hc85).2 (by decide) (by decide) (XS.iconst X84.here hx rfl (hb hby at_47) k)) ?_
      show OGl _ _ _ _ T84 (mkF m 48 #[iv p0, iv p1, iv (nar .char (t3_0 ((((p1.toUInt32 >>> ((1 : Int32) &&& 31).toUInt32).toInt32) &&& (2147483647 : Int32)) % (11 : Int32)))), rv a56] [.int 0])
      obtain ⟨fs, hr, hrun, hended, hEW⟩ := X84.leaveW Si56 (by rw [e84]; exact hk56) (v := some (.int 0)) (fun h => by rw [Bd.returns] at h; cases h)
      refine ⟨_, _, retN X84 hx (t := .boolean) Bd.returns (by simp) (hb hby at_48) hr, hrun, hended, _, _, rfl, ?_, ⟨hEW.1, hEW.2.1, hEW.2.2.1, hEW.2.2.2.mono (by decide) (by decide)⟩⟩
      have hv89 : (t0_0 p0 p1 w2) = (0 : Int32) := by unfold t0_0; rw [if_neg hc2, if_neg hc85]
      show Q0 Z p0 p1 w2 w3 h0 n0 _ T84.heap _
      rw [e84]
      exact ⟨(by rw [hv89]), N84⟩
theorem own_same (c : Int32) : t6_0 c = t7_0 c := by
  by_cases h1 : c = 34
  · subst h1; decide
  by_cases h2 : c = 39
  · subst h2; decide
  by_cases h3 : c = 63
  · subst h3; decide
  by_cases h4 : c = 92
  · subst h4; decide
  by_cases h5 : c = 97
  · subst h5; decide
  by_cases h6 : c = 98
  · subst h6; decide
  by_cases h7 : c = 102
  · subst h7; decide
  by_cases h8 : c = 110
  · subst h8; decide
  by_cases h9 : c = 114
  · subst h9; decide
  by_cases h10 : c = 116
  · subst h10; decide
  by_cases h11 : c = 118
  · subst h11; decide
  have e : t8_0 c = -1 := by
    unfold t8_0
    rw [if_neg h5, if_neg h6, if_neg h10, if_neg h8, if_neg h11, if_neg h7, if_neg h9]
  unfold t6_0 t7_0
  rw [e, if_pos (show (-1 : Int32) < 0 by decide)]
  simp only [h1, h2, h3, h4, h5, h6, h7, h8, h9, h10, h11, if_false]
theorem own_law (a b w : Int32) : t0_0 a b w = 1 := by
  unfold t0_0
  rw [if_pos (own_same _), if_pos (own_same _), ite_self]
set_option maxRecDepth 65536 in
set_option maxHeartbeats 40000000 in
theorem comes_1 {Post : Tables → Env → Array Value → State → Outcome → State → Prop} (hpost : ∀ tb e args s v u, (limb_1_1.after args s (.returned v) u = true ∧ limb_1_2.after args s (.returned v) u = true ∧ True) → ReturnedEndW s (.returned v) u (Jvm.fieldLocs frame_1_writes args s ++ Jvm.arrayLocs frame_1_arrays args s ++ Jvm.staticLocs frame_1_statics s) 8 1088 → Post tb e args s (.returned v) u) :
    ArmFor flags0 classFile x code maxLocals ret World_1 tables_1 room_1 Calls_1 rest_1 Pre_1 Post := by
  intro l hfl _ _ p e ha hc hk s m args below hf hA hF happ hP
  obtain ⟨hcalls, hrest, hpre⟩ := hP
  obtain ⟨-, -, -, hnamed, -, -, -, hat⟩ := (Spec.applies_iff hf).mp happ
  obtain ⟨hg, hn⟩ := and_e (Cond.before_iff.mp (show (Jvm.Cond.and given_1 narrow_1).before args s = true from hpre))
  obtain ⟨hz, hy0⟩ := and_e hg
  obtain ⟨ha0, hy1⟩ := and_e hy0
  obtain ⟨w0, w1, rfl⟩ : ∃ w0 w1 : Value, args = #[w0, w1] := by
    have hs : args.size = 2 := by simpa [Cond.value, given_1] using hz
    obtain ⟨L⟩ := args
    match L, hs with
    | [w0, w1], _ => exact ⟨w0, w1, rfl⟩
  have hw := fun d (hd : d ∈ tables_1) => atoms_spec (ws := Jvm.Cond.code x code maxLocals ret :: tables_1) hat d (List.mem_cons_of_mem _ hd)
  obtain ⟨hsets, hown0⟩ := atoms_of _ (rest_1_c_eq ▸ (show rest_1_c.before _ s = true from hrest))
  have n5 := not_v (Cond.before_iff.mp (hsets _ (List.mem_of_getElem? (i := 2) rfl)))
  obtain ⟨i11, e10⟩ := is_v (Cond.before_iff.mp (hsets _ (List.mem_of_getElem? (i := 1) rfl)))
  have S12 : Sta s s.heap "java/lang/String" "COMPACT_STRINGS" "Z" (.int i11) := Sta.start e10 (Or.inl (hsets _ (List.mem_of_getElem? (i := 0) rfl)))
  obtain ⟨v13, e14, r15⟩ := isR_v (Cond.before_iff.mp (hsets _ (List.mem_of_getElem? (i := 8) rfl)))
  have S16 : Sta s s.heap "jdk/internal/util/Preconditions" "SIOOBE_FORMATTER" "Ljava/util/function/BiFunction;" v13 := Sta.start e14 (Or.inl (hsets _ (List.mem_of_getElem? (i := 7) rfl)))
  have c17 : ¬ (i11 = (0 : Int32)) := gotF (Cond.eq_ints e10 (Term.int_eval (0))) n5
  have hheld : Jvm.Lit.constHeld s "com/example/wyrmsmith/wyrmsmith/SourceTextSimpleEscapePinLaw" 7 := hcalls.1 ("com/example/wyrmsmith/wyrmsmith/SourceTextSimpleEscapePinLaw", 7) (by simp [consts_1])
  have wS : ∀ a ∈ Bundle.stringAtoms, a.before _ s = true := fun d hd => by
    simp only [Bundle.stringAtoms, Bundle.sN, List.mem_cons, List.not_mem_nil, or_false] at hd
    rcases hd with rfl | rfl | rfl | rfl | rfl | rfl | rfl
    · exact hw _ (List.mem_of_getElem? (i := 1) rfl)
    · exact hw _ (List.mem_of_getElem? (i := 2) rfl)
    · exact hw _ (List.mem_of_getElem? (i := 3) rfl)
    · exact hw _ (List.mem_of_getElem? (i := 4) rfl)
    · exact hw _ (List.mem_of_getElem? (i := 5) rfl)
    · exact hw _ (List.mem_of_getElem? (i := 6) rfl)
    · exact hw _ (List.mem_of_getElem? (i := 7) rfl)
  obtain ⟨i0, ev0⟩ := is_v ha0
  obtain rfl : w0 = (.int i0) := Option.some.inj ev0
  obtain ⟨i1, ev1⟩ := is_v hy1
  obtain rfl : w1 = (.int i1) := Option.some.inj ev1
  obtain ⟨n, o, h1, h2, h3, _, L, rfl, ⟨hv, N⟩, hq⟩ := rm0 l s _ hw tables_1 i0 i1 i11 v13 s.heap s.heap.size (Nat.le_refl _) S12 S16 r15 c17 hheld (hsets _ (List.mem_of_getElem? (i := 2) rfl)) wS p e ha hc hk s m _ below hf ((Spec.applies_iff_loose hf).mp happ).1 ⟨rfl, rfl, rfl⟩ trivial
  rw [own_law] at hv
  subst hv
  refine ⟨n, _, h1, h2, h3, hpost _ _ _ _ _ _ ⟨Cond.after_iff.mpr rfl, Cond.after_iff.mpr (eq_i res_at (Term.int_eval (1)) rfl), trivial⟩ ⟨hq.1, hq.2.1, hq.2.2.1, (hq.2.2.2.sift fun y hy => Or.inr (N y hy)).mono (by decide) (by decide)⟩⟩
theorem main_1_1 : Claimed_1_1 := comes_1 fun _ _ _ _ _ _ h hF => ⟨h.1, hF⟩
theorem main_1_2 : Claimed_1_2 := comes_1 fun _ _ _ _ _ _ h hF => ⟨h.2.1, hF⟩
end Jvm.Pilot.@@N@@
namespace Jvm.Pilot.@@N@@
open Jvm Jvm.ClassFile Sem Op Lib Jvm.Free Jvm.Stand Jvm.Pilot.@@N@@.Jvm.D
/-! MADE BY PROGRAM (witnessworld.py) out of the Statement's table words and the real class files: 17 classes; the members and pool entries that the words name. The judged class is class 1, her method 1. -/
namespace start1
open Jvm.ClassFile
def u (s : String) : CpInfo := .utf8 (stringToUtf16 s)
/-- a pool by its gaps: so many unusable entries, then the entry; so many at the end -/
def gap : Nat → List CpInfo → List CpInfo
  | 0, r => r
  | n + 1, r => .unusable :: gap n r
def poolList (es : List (Nat × CpInfo)) (last : Nat) : List CpInfo := es.foldr (fun e r => gap e.1 (e.2 :: r)) (gap last [])
def pool (es : List (Nat × CpInfo)) (last : Nat) : Array CpInfo := ⟨poolList es last⟩
def fileOf (pool : Array CpInfo) (this : Nat) (attrs : Array Attribute := #[]) (ms : Array MethodInfo := #[]) (fl : Nat := 33) (sup : Nat := 0) (ifs : Array Nat := #[]) (fds : Array FieldInfo := #[]) : ClassFile where
  minorVersion := 0
  majorVersion := 65
  constantPool := pool
  accessFlags := fl
  thisClass := this
  superClass := sup
  interfaces := ifs
  fields := fds
  methods := ms
  attributes := attrs
def plain (name : String) (sup : Option ClassId) : Class where
  name := name
  kind := .ordinary
  loader := none
  accessFlags := 33
  super := sup
  interfaces := #[]
  cf := none
  fields := #[]
  methods := #[]
  instanceTypes := #[]
  staticTypes := #[]
  resolved := #[]
  callSites := []
  init := .initialized
  statics := none
  mirror := none

def pool0 : Array CpInfo := pool [(5, u "<init>"), (0, u "()V"), (1, .class_ 10), (1, u "java/lang/Object")] 113

def k0m0 : Method := { name := "<init>", desc := "()V", sig := { parameters := [], returnType := none }, accessFlags := 1, code := none }
/-- java/lang/Object -/
def k0 : Class := { plain "java/lang/Object" none with
  accessFlags := 33
  interfaces := #[]
  cf := some (fileOf pool0 8 #[] #[{ accessFlags := 1, nameIndex := 5, descriptorIndex := 6, attributes := #[] }] 33 0 #[] #[])
  fields := #[]
  methods := #[k0m0]
  instanceTypes := #[]
  staticTypes := #[]
  resolved := Array.replicate 124 none
  statics := none }

def pool1 : Array CpInfo := pool [(2, .class_ 4), (1, u "java/lang/Object"), (0, u "<init>"), (0, u "()V"), (0, .string 8), (0, u "abtnvfr\\'\"?"), (0, .integer 2147483647), (0, .methodref 11 12), (0, .class_ 13), (0, .nameAndType 14 15), (0, u "java/lang/String"), (0, u "charAt"), (0, u "(I)C"), (0, .integer 65535), (0, .methodref 18 19), (0, .class_ 20), (0, .nameAndType 21 22), (0, u "com/example/wyrmsmith/wyrmsmith/SourceText"), (0, u "simpleEscape"), (0, u "(C)I"), (0, .methodref 24 25), (0, .class_ 26), (0, .nameAndType 27 22), (0, u "com/example/wyrmsmith/wyrmsmith/SourceTextSimpleEscapePinLaw"), (0, u "expected"), (0, .methodref 24 29), (0, .nameAndType 30 22), (0, u "controlPosition"), (2, u "law"), (0, u "(II)Z")] 3

def k1m0 : Method := { name := "<init>", desc := "()V", sig := { parameters := [], returnType := none }, accessFlags := 2, code := none }
def k1c1 : Code := { maxStack := 3, maxLocals := 4, code := code, exceptionTable := #[], attributes := #[] }
def k1m1 : Method := { name := "law", desc := "(II)Z", sig := { parameters := [.int, .int], returnType := some .boolean }, accessFlags := 9, code := some k1c1 }
def k1c2 : Code := { maxStack := 2, maxLocals := 1, code := method_3_code, exceptionTable := #[], attributes := #[] }
def k1m2 : Method := { name := "controlPosition", desc := "(C)I", sig := { parameters := [.char], returnType := some .int }, accessFlags := 10, code := some k1c2 }
def k1c3 : Code := { maxStack := 2, maxLocals := 2, code := method_4_code, exceptionTable := #[], attributes := #[] }
def k1m3 : Method := { name := "expected", desc := "(C)I", sig := { parameters := [.char], returnType := some .int }, accessFlags := 10, code := some k1c3 }
/-- com/example/wyrmsmith/wyrmsmith/SourceTextSimpleEscapePinLaw -/
def k1 : Class := { plain "com/example/wyrmsmith/wyrmsmith/SourceTextSimpleEscapePinLaw" (some 0) with
  accessFlags := 49
  interfaces := #[]
  cf := some (fileOf pool1 24 #[] #[{ accessFlags := 2, nameIndex := 5, descriptorIndex := 6, attributes := #[] }, { accessFlags := 9, nameIndex := 33, descriptorIndex := 34, attributes := #[] }, { accessFlags := 10, nameIndex := 30, descriptorIndex := 22, attributes := #[] }, { accessFlags := 10, nameIndex := 27, descriptorIndex := 22, attributes := #[] }] 49 2 #[] #[])
  fields := #[]
  methods := #[k1m0, k1m1, k1m2, k1m3]
  instanceTypes := #[]
  staticTypes := #[]
  resolved := Array.replicate 38 none
  statics := none }

def pool2 : Array CpInfo := pool [(1, .class_ 2), (0, u "java/io/Serializable"), (0, .class_ 4), (0, u "java/lang/Object")] 2

/-- java/io/Serializable -/
def k2 : Class := { plain "java/io/Serializable" (some 0) with
  accessFlags := 1537
  interfaces := #[]
  cf := some (fileOf pool2 1 #[] #[] 1537 3 #[] #[])
  fields := #[]
  methods := #[]
  instanceTypes := #[]
  staticTypes := #[]
  resolved := Array.replicate 7 none
  statics := none }

def pool3 : Array CpInfo := pool [(1, .class_ 2), (0, u "java/lang/Comparable"), (0, .class_ 4), (0, u "java/lang/Object")] 7

/-- java/lang/Comparable -/
def k3 : Class := { plain "java/lang/Comparable" (some 0) with
  accessFlags := 1537
  interfaces := #[]
  cf := some (fileOf pool3 1 #[] #[] 1537 3 #[] #[])
  fields := #[]
  methods := #[]
  instanceTypes := #[]
  staticTypes := #[]
  resolved := Array.replicate 12 none
  statics := none }

def pool4 : Array CpInfo := pool [(2, .class_ 4), (1, u "java/lang/CharSequence"), (42, .class_ 48), (0, u "java/lang/CharSequence$1CodePointIterator"), (10, .class_ 60), (0, u "java/lang/CharSequence$1CharIterator"), (5, .class_ 67), (0, u "java/lang/Object")] 63

/-- java/lang/CharSequence -/
def k4 : Class := { plain "java/lang/CharSequence" (some 0) with
  accessFlags := 1537
  interfaces := #[]
  cf := some (fileOf pool4 2 #[.nestMembers #[47, 59]] #[] 1537 66 #[] #[])
  fields := #[]
  methods := #[]
  instanceTypes := #[]
  staticTypes := #[]
  resolved := Array.replicate 131 none
  statics := none }

def pool5 : Array CpInfo := pool [(1, .class_ 2), (0, u "java/lang/constant/Constable"), (0, .class_ 4), (0, u "java/lang/Object")] 6

/-- java/lang/constant/Constable -/
def k5 : Class := { plain "java/lang/constant/Constable" (some 0) with
  accessFlags := 1537
  interfaces := #[]
  cf := some (fileOf pool5 1 #[] #[] 1537 3 #[] #[])
  fields := #[]
  methods := #[]
  instanceTypes := #[]
  staticTypes := #[]
  resolved := Array.replicate 11 none
  statics := none }

def pool6 : Array CpInfo := pool [(1, .class_ 2), (0, u "java/lang/constant/ConstantDesc"), (0, .class_ 4), (0, u "java/lang/Object")] 32

/-- java/lang/constant/ConstantDesc -/
def k6 : Class := { plain "java/lang/constant/ConstantDesc" (some 0) with
  accessFlags := 1537
  interfaces := #[]
  cf := some (fileOf pool6 1 #[] #[] 1537 3 #[] #[])
  fields := #[]
  methods := #[]
  instanceTypes := #[]
  staticTypes := #[]
  resolved := Array.replicate 37 none
  statics := none }

def pool7 : Array CpInfo := pool [(2, .class_ 4), (1, u "java/lang/Object"), (0, u "<init>"), (0, u "()V"), (2, .fieldref 10 11), (0, .class_ 12), (0, .nameAndType 13 14), (0, u "java/lang/String"), (0, u "value"), (0, u "[B"), (0, .fieldref 10 16), (0, .nameAndType 17 18), (0, u "coder"), (0, u "B"), (2, u "hash"), (0, u "I"), (2, u "hashIsZero"), (0, u "Z"), (11, .fieldref 10 39), (0, .nameAndType 40 26), (0, u "COMPACT_STRINGS"), (66, .class_ 109), (1, u "java/lang/StringLatin1"), (32, u "()Z"), (220, u "([BI)C"), (27, u "(II)V"), (35, u "(I)C"), (64, .methodref 10 493), (0, .nameAndType 494 142), (0, u "isLatin1"), (0, .methodref 107 496), (0, .nameAndType 497 363), (0, u "charAt"), (3, u "checkIndex"), (73, .class_ 576), (0, u "java/lang/CharSequence"), (22, u "CASE_INSENSITIVE_ORDER"), (0, u "Ljava/util/Comparator;"), (452, .fieldref 1054 1055), (0, .class_ 1056), (0, .nameAndType 1057 1058), (0, u "jdk/internal/util/Preconditions"), (0, u "SIOOBE_FORMATTER"), (0, u "Ljava/util/function/BiFunction;"), (0, .methodref 1054 1060), (0, .nameAndType 501 1061), (0, u "(IILjava/util/function/BiFunction;)I"), (39, u "serialPersistentFields"), (0, u "[Ljava/io/ObjectStreamField;"), (0, .class_ 1104), (0, u "java/lang/String$CaseInsensitiveComparator"), (1, .class_ 1107), (0, u "java/io/Serializable"), (0, .class_ 1109), (0, u "java/lang/Comparable"), (0, .class_ 1111), (0, u "java/lang/constant/Constable"), (0, .class_ 1113), (0, u "java/lang/constant/ConstantDesc"), (2, u "serialVersionUID"), (0, u "J"), (3, u "REPL"), (0, u "C"), (2, u "LATIN1"), (1, u "UTF16")] 323

def k7m0 : Method := { name := "<init>", desc := "()V", sig := { parameters := [], returnType := none }, accessFlags := 1, code := none }
def k7c1 : Code := { maxStack := 2, maxLocals := 2, code := jdk_42_method_56_code, exceptionTable := #[], attributes := #[] }
def k7m1 : Method := { name := "charAt", desc := "(I)C", sig := { parameters := [.int], returnType := some .char }, accessFlags := 1, code := some k7c1 }
def k7c2 : Code := { maxStack := 1, maxLocals := 1, code := jdk_42_method_154_code, exceptionTable := #[], attributes := #[] }
def k7m2 : Method := { name := "isLatin1", desc := "()Z", sig := { parameters := [], returnType := some .boolean }, accessFlags := 0, code := some k7c2 }
def k7c3 : Code := { maxStack := 3, maxLocals := 2, code := jdk_42_method_155_code, exceptionTable := #[], attributes := #[] }
def k7m3 : Method := { name := "checkIndex", desc := "(II)V", sig := { parameters := [.int, .int], returnType := none }, accessFlags := 8, code := some k7c3 }
/-- java/lang/String -/
def k7 : Class := { plain "java/lang/String" (some 0) with
  accessFlags := 49
  interfaces := #[2, 3, 4, 5, 6]
  cf := some (fileOf pool7 10 #[.nestMembers #[1103]] #[{ accessFlags := 1, nameIndex := 5, descriptorIndex := 6, attributes := #[] }, { accessFlags := 1, nameIndex := 497, descriptorIndex := 427, attributes := #[] }, { accessFlags := 0, nameIndex := 494, descriptorIndex := 142, attributes := #[] }, { accessFlags := 8, nameIndex := 501, descriptorIndex := 391, attributes := #[] }] 49 2 #[1106, 1108, 575, 1110, 1112] #[{ accessFlags := 18, nameIndex := 13, descriptorIndex := 14, attributes := #[] }, { accessFlags := 18, nameIndex := 17, descriptorIndex := 18, attributes := #[] }, { accessFlags := 2, nameIndex := 21, descriptorIndex := 22, attributes := #[] }, { accessFlags := 2, nameIndex := 25, descriptorIndex := 26, attributes := #[] }, { accessFlags := 26, nameIndex := 1116, descriptorIndex := 1117, attributes := #[] }, { accessFlags := 24, nameIndex := 40, descriptorIndex := 26, attributes := #[] }, { accessFlags := 26, nameIndex := 1101, descriptorIndex := 1102, attributes := #[] }, { accessFlags := 26, nameIndex := 1121, descriptorIndex := 1122, attributes := #[] }, { accessFlags := 25, nameIndex := 599, descriptorIndex := 600, attributes := #[] }, { accessFlags := 24, nameIndex := 1125, descriptorIndex := 18, attributes := #[] }, { accessFlags := 24, nameIndex := 1127, descriptorIndex := 18, attributes := #[] }])
  fields := #[{ name := "value", type := (.array .byte), accessFlags := 18, slot := 0, constantValue := 0 }, { name := "coder", type := .byte, accessFlags := 18, slot := 1, constantValue := 0 }, { name := "hash", type := .int, accessFlags := 2, slot := 2, constantValue := 0 }, { name := "hashIsZero", type := .boolean, accessFlags := 2, slot := 3, constantValue := 0 }, { name := "serialVersionUID", type := .long, accessFlags := 26, slot := 0, constantValue := 0 }, { name := "COMPACT_STRINGS", type := .boolean, accessFlags := 24, slot := 1, constantValue := 0 }, { name := "serialPersistentFields", type := (.array (.object "java/io/ObjectStreamField")), accessFlags := 26, slot := 2, constantValue := 0 }, { name := "REPL", type := .char, accessFlags := 26, slot := 3, constantValue := 0 }, { name := "CASE_INSENSITIVE_ORDER", type := (.object "java/util/Comparator"), accessFlags := 25, slot := 4, constantValue := 0 }, { name := "LATIN1", type := .byte, accessFlags := 24, slot := 5, constantValue := 0 }, { name := "UTF16", type := .byte, accessFlags := 24, slot := 6, constantValue := 0 }]
  methods := #[k7m0, k7m1, k7m2, k7m3]
  instanceTypes := #[(.array .byte), .byte, .int, .boolean]
  staticTypes := #[.long, .boolean, (.array (.object "java/io/ObjectStreamField")), .char, (.object "java/util/Comparator"), .byte, .byte]
  resolved := Array.replicate 1451 none
  statics := some 0 }

def pool8 : Array CpInfo := pool [(1, .class_ 2), (0, u "java/lang/String"), (1, .class_ 6), (1, u "java/lang/Object"), (0, u "<init>"), (0, u "()V"), (0, .methodref 1 10), (0, .nameAndType 11 12), (0, u "checkIndex"), (0, u "(II)V"), (1, .class_ 16), (1, u "java/lang/StringLatin1"), (36, u "([BI)C"), (67, u "$assertionsDisabled"), (0, u "Z"), (98, .class_ 223), (1, u "java/lang/StringLatin1$LinesSpliterator"), (28, u "charAt"), (137, .class_ 391), (0, u "java/lang/StringLatin1$CharsSpliterator")] 3

def k8m0 : Method := { name := "<init>", desc := "()V", sig := { parameters := [], returnType := none }, accessFlags := 0, code := none }
def k8c1 : Code := { maxStack := 2, maxLocals := 2, code := jdk_43_method_2_code, exceptionTable := #[], attributes := #[] }
def k8m1 : Method := { name := "charAt", desc := "([BI)C", sig := { parameters := [(.array .byte), .int], returnType := some .char }, accessFlags := 9, code := some k8c1 }
/-- java/lang/StringLatin1 -/
def k8 : Class := { plain "java/lang/StringLatin1" (some 0) with
  accessFlags := 48
  interfaces := #[]
  cf := some (fileOf pool8 14 #[.nestMembers #[390, 221]] #[{ accessFlags := 0, nameIndex := 7, descriptorIndex := 8, attributes := #[] }, { accessFlags := 9, nameIndex := 252, descriptorIndex := 53, attributes := #[] }] 48 4 #[] #[{ accessFlags := 4120, nameIndex := 121, descriptorIndex := 122, attributes := #[] }])
  fields := #[{ name := "$assertionsDisabled", type := .boolean, accessFlags := 4120, slot := 0, constantValue := 0 }]
  methods := #[k8m0, k8m1]
  instanceTypes := #[]
  staticTypes := #[.boolean]
  resolved := Array.replicate 395 none
  statics := none }

def pool9 : Array CpInfo := pool [(2, .class_ 4), (1, u "java/lang/Object"), (0, u "<init>"), (0, u "()V"), (17, .class_ 26), (1, u "jdk/internal/util/Preconditions"), (6, u "checkIndex"), (21, .class_ 56), (0, u "jdk/internal/util/Preconditions$4"), (57, .class_ 115), (0, u "jdk/internal/util/Preconditions$1"), (7, u "SIOOBE_FORMATTER"), (0, u "Ljava/util/function/BiFunction;"), (0, .class_ 126), (0, u "jdk/internal/util/Preconditions$2"), (3, u "AIOOBE_FORMATTER"), (0, .class_ 132), (0, u "jdk/internal/util/Preconditions$3"), (3, u "IOOBE_FORMATTER"), (41, u "(IILjava/util/function/BiFunction;)I")] 15

def k9m0 : Method := { name := "<init>", desc := "()V", sig := { parameters := [], returnType := none }, accessFlags := 1, code := none }
def k9c1 : Code := { maxStack := 3, maxLocals := 3, code := jdk_41_method_11_code, exceptionTable := #[], attributes := #[] }
def k9m1 : Method := { name := "checkIndex", desc := "(IILjava/util/function/BiFunction;)I", sig := { parameters := [.int, .int, (.object "java/util/function/BiFunction")], returnType := some .int }, accessFlags := 9, code := some k9c1 }
/-- jdk/internal/util/Preconditions -/
def k9 : Class := { plain "jdk/internal/util/Preconditions" (some 0) with
  accessFlags := 33
  interfaces := #[]
  cf := some (fileOf pool9 24 #[.nestMembers #[55, 131, 125, 114]] #[{ accessFlags := 1, nameIndex := 5, descriptorIndex := 6, attributes := #[] }, { accessFlags := 9, nameIndex := 33, descriptorIndex := 178, attributes := #[] }] 33 2 #[] #[{ accessFlags := 25, nameIndex := 123, descriptorIndex := 124, attributes := #[] }, { accessFlags := 25, nameIndex := 130, descriptorIndex := 124, attributes := #[] }, { accessFlags := 25, nameIndex := 136, descriptorIndex := 124, attributes := #[] }])
  fields := #[{ name := "SIOOBE_FORMATTER", type := (.object "java/util/function/BiFunction"), accessFlags := 25, slot := 0, constantValue := 0 }, { name := "AIOOBE_FORMATTER", type := (.object "java/util/function/BiFunction"), accessFlags := 25, slot := 1, constantValue := 0 }, { name := "IOOBE_FORMATTER", type := (.object "java/util/function/BiFunction"), accessFlags := 25, slot := 2, constantValue := 0 }]
  methods := #[k9m0, k9m1]
  instanceTypes := #[]
  staticTypes := #[(.object "java/util/function/BiFunction"), (.object "java/util/function/BiFunction"), (.object "java/util/function/BiFunction")]
  resolved := Array.replicate 194 none
  statics := some 1 }

def pool10 : Array CpInfo := pool [(2, .class_ 4), (1, u "java/lang/Object"), (3, .class_ 10), (1, u "com/example/wyrmsmith/wyrmsmith/SourceText"), (0, u "line"), (0, u "I"), (2, u "text"), (0, u "Ljava/lang/String;"), (2, u "pos"), (159, u "simpleEscape"), (0, u "(C)I"), (9, .class_ 191), (0, u "com/example/wyrmsmith/wyrmsmith/SourceText$CharLiteral"), (1, u "LITERAL_NOT_CLOSED")] 52

def k10c0 : Code := { maxStack := 1, maxLocals := 1, code := prog_60_method_27_code, exceptionTable := #[], attributes := #[] }
def k10m0 : Method := { name := "simpleEscape", desc := "(C)I", sig := { parameters := [.char], returnType := some .int }, accessFlags := 8, code := some k10c0 }
/-- com/example/wyrmsmith/wyrmsmith/SourceText -/
def k10 : Class := { plain "com/example/wyrmsmith/wyrmsmith/SourceText" (some 0) with
  accessFlags := 48
  interfaces := #[]
  cf := some (fileOf pool10 8 #[.nestMembers #[190]] #[{ accessFlags := 8, nameIndex := 179, descriptorIndex := 180, attributes := #[] }] 48 2 #[] #[{ accessFlags := 26, nameIndex := 193, descriptorIndex := 16, attributes := #[] }, { accessFlags := 18, nameIndex := 15, descriptorIndex := 16, attributes := #[] }, { accessFlags := 2, nameIndex := 19, descriptorIndex := 12, attributes := #[] }, { accessFlags := 2, nameIndex := 11, descriptorIndex := 12, attributes := #[] }])
  fields := #[{ name := "LITERAL_NOT_CLOSED", type := (.object "java/lang/String"), accessFlags := 26, slot := 0, constantValue := 0 }, { name := "text", type := (.object "java/lang/String"), accessFlags := 18, slot := 0, constantValue := 0 }, { name := "pos", type := .int, accessFlags := 2, slot := 1, constantValue := 0 }, { name := "line", type := .int, accessFlags := 2, slot := 2, constantValue := 0 }]
  methods := #[k10m0]
  instanceTypes := #[(.object "java/lang/String"), .int, .int]
  staticTypes := #[(.object "java/lang/String")]
  resolved := Array.replicate 246 none
  statics := none }

def pool11 : Array CpInfo := pool [(9, u "<init>"), (6, .class_ 18), (1, u "java/lang/Object"), (0, u "()V"), (1, .class_ 23), (1, u "jdk/internal/util/ArraysSupport"), (0, u "LOG2_ARRAY_LONG_INDEX_SCALE"), (0, u "I"), (2, u "U"), (0, u "Ljdk/internal/misc/Unsafe;"), (8, u "BIG_ENDIAN"), (0, u "Z"), (8, u "LOG2_BYTE_BIT_SIZE"), (4, u "LOG2_ARRAY_INT_INDEX_SCALE"), (54, u "JLA"), (0, u "Ljdk/internal/access/JavaLangAccess;"), (11, u "LOG2_ARRAY_BOOLEAN_INDEX_SCALE"), (9, u "LOG2_ARRAY_BYTE_INDEX_SCALE"), (5, u "LOG2_ARRAY_CHAR_INDEX_SCALE"), (5, u "LOG2_ARRAY_SHORT_INDEX_SCALE"), (18, u "LOG2_ARRAY_FLOAT_INDEX_SCALE"), (24, u "LOG2_ARRAY_DOUBLE_INDEX_SCALE"), (89, u "T_BOOLEAN"), (2, u "T_CHAR"), (1, u "T_FLOAT"), (1, u "T_DOUBLE"), (1, u "T_BYTE"), (1, u "T_SHORT"), (1, u "T_INT"), (1, u "T_LONG"), (1, u "SOFT_MAX_ARRAY_LENGTH")] 83

def k11m0 : Method := { name := "<init>", desc := "()V", sig := { parameters := [], returnType := none }, accessFlags := 2, code := none }
/-- jdk/internal/util/ArraysSupport -/
def k11 : Class := { plain "jdk/internal/util/ArraysSupport" (some 0) with
  accessFlags := 33
  interfaces := #[]
  cf := some (fileOf pool11 21 #[] #[{ accessFlags := 2, nameIndex := 9, descriptorIndex := 19, attributes := #[] }] 33 16 #[] #[{ accessFlags := 24, nameIndex := 28, descriptorIndex := 29, attributes := #[] }, { accessFlags := 26, nameIndex := 38, descriptorIndex := 39, attributes := #[] }, { accessFlags := 25, nameIndex := 121, descriptorIndex := 25, attributes := #[] }, { accessFlags := 25, nameIndex := 131, descriptorIndex := 25, attributes := #[] }, { accessFlags := 25, nameIndex := 137, descriptorIndex := 25, attributes := #[] }, { accessFlags := 25, nameIndex := 143, descriptorIndex := 25, attributes := #[] }, { accessFlags := 25, nameIndex := 53, descriptorIndex := 25, attributes := #[] }, { accessFlags := 25, nameIndex := 24, descriptorIndex := 25, attributes := #[] }, { accessFlags := 25, nameIndex := 162, descriptorIndex := 25, attributes := #[] }, { accessFlags := 25, nameIndex := 187, descriptorIndex := 25, attributes := #[] }, { accessFlags := 26, nameIndex := 48, descriptorIndex := 25, attributes := #[] }, { accessFlags := 25, nameIndex := 277, descriptorIndex := 25, attributes := #[] }, { accessFlags := 25, nameIndex := 280, descriptorIndex := 25, attributes := #[] }, { accessFlags := 25, nameIndex := 282, descriptorIndex := 25, attributes := #[] }, { accessFlags := 25, nameIndex := 284, descriptorIndex := 25, attributes := #[] }, { accessFlags := 25, nameIndex := 286, descriptorIndex := 25, attributes := #[] }, { accessFlags := 25, nameIndex := 288, descriptorIndex := 25, attributes := #[] }, { accessFlags := 25, nameIndex := 290, descriptorIndex := 25, attributes := #[] }, { accessFlags := 25, nameIndex := 292, descriptorIndex := 25, attributes := #[] }, { accessFlags := 26, nameIndex := 108, descriptorIndex := 109, attributes := #[] }, { accessFlags := 25, nameIndex := 294, descriptorIndex := 25, attributes := #[] }])
  fields := #[{ name := "U", type := (.object "jdk/internal/misc/Unsafe"), accessFlags := 24, slot := 0, constantValue := 0 }, { name := "BIG_ENDIAN", type := .boolean, accessFlags := 26, slot := 1, constantValue := 0 }, { name := "LOG2_ARRAY_BOOLEAN_INDEX_SCALE", type := .int, accessFlags := 25, slot := 2, constantValue := 0 }, { name := "LOG2_ARRAY_BYTE_INDEX_SCALE", type := .int, accessFlags := 25, slot := 3, constantValue := 0 }, { name := "LOG2_ARRAY_CHAR_INDEX_SCALE", type := .int, accessFlags := 25, slot := 4, constantValue := 0 }, { name := "LOG2_ARRAY_SHORT_INDEX_SCALE", type := .int, accessFlags := 25, slot := 5, constantValue := 0 }, { name := "LOG2_ARRAY_INT_INDEX_SCALE", type := .int, accessFlags := 25, slot := 6, constantValue := 0 }, { name := "LOG2_ARRAY_LONG_INDEX_SCALE", type := .int, accessFlags := 25, slot := 7, constantValue := 0 }, { name := "LOG2_ARRAY_FLOAT_INDEX_SCALE", type := .int, accessFlags := 25, slot := 8, constantValue := 0 }, { name := "LOG2_ARRAY_DOUBLE_INDEX_SCALE", type := .int, accessFlags := 25, slot := 9, constantValue := 0 }, { name := "LOG2_BYTE_BIT_SIZE", type := .int, accessFlags := 26, slot := 10, constantValue := 0 }, { name := "T_BOOLEAN", type := .int, accessFlags := 25, slot := 11, constantValue := 0 }, { name := "T_CHAR", type := .int, accessFlags := 25, slot := 12, constantValue := 0 }, { name := "T_FLOAT", type := .int, accessFlags := 25, slot := 13, constantValue := 0 }, { name := "T_DOUBLE", type := .int, accessFlags := 25, slot := 14, constantValue := 0 }, { name := "T_BYTE", type := .int, accessFlags := 25, slot := 15, constantValue := 0 }, { name := "T_SHORT", type := .int, accessFlags := 25, slot := 16, constantValue := 0 }, { name := "T_INT", type := .int, accessFlags := 25, slot := 17, constantValue := 0 }, { name := "T_LONG", type := .int, accessFlags := 25, slot := 18, constantValue := 0 }, { name := "JLA", type := (.object "jdk/internal/access/JavaLangAccess"), accessFlags := 26, slot := 19, constantValue := 0 }, { name := "SOFT_MAX_ARRAY_LENGTH", type := .int, accessFlags := 25, slot := 20, constantValue := 0 }]
  methods := #[k11m0]
  instanceTypes := #[]
  staticTypes := #[(.object "jdk/internal/misc/Unsafe"), .boolean, .int, .int, .int, .int, .int, .int, .int, .int, .int, .int, .int, .int, .int, .int, .int, .int, .int, (.object "jdk/internal/access/JavaLangAccess"), .int]
  resolved := Array.replicate 378 none
  statics := none }

def pool12 : Array CpInfo := pool [(1, u "java/lang/Cloneable"), (0, .class_ 1), (0, u "java/lang/Object"), (0, .class_ 3)] 3

/-- java/lang/Cloneable -/
def k12 : Class := { plain "java/lang/Cloneable" (some 0) with
  accessFlags := 1537
  interfaces := #[]
  cf := some (fileOf pool12 2 #[] #[] 1537 4 #[] #[])
  fields := #[]
  methods := #[]
  instanceTypes := #[]
  staticTypes := #[]
  resolved := Array.replicate 8 none
  statics := none }

/-- the primitive byte -/
def k13 : Class := { plain "byte" none with kind := .primitive 'B', accessFlags := 0x411 }
/-- [B -/
def k14 : Class := { plain "[B" (some 0) with kind := .array 13 .byte, interfaces := #[12, 2], accessFlags := 1041 }

/-- the primitive int -/
def k15 : Class := { plain "int" none with kind := .primitive 'I', accessFlags := 0x411 }
/-- [I -/
def k16 : Class := { plain "[I" (some 0) with kind := .array 15 .int, interfaces := #[12, 2], accessFlags := 1041 }

def heap : Heap := #[{ cls := 7, slots := #[.long 0, .int 1, .null, .int 0, .null, .int 0, .int 0], vm := .statics 7 },
  { cls := 9, slots := #[.null, .null, .null], vm := .statics 9 }]
def classes : Array Class := #[k0, k1, k2, k3, k4, k5, k6, k7, k8, k9, k10, k11, k12, k13, k14, k15, k16]
def interned : List (Array UInt16 × Addr) := []
def slotsUsed : Nat := 10
def theMethod : MethodId := ⟨1, 1⟩
def args0 : Array Value := #[.int 5, .int 7]
def aboutOver (below : List Frame) : State where
  vm := { classes := classes, interned := interned.toArray }
  heap := heap
  slotsUsed := slotsUsed
  threads := #[{ frames := .invoking theMethod args0 :: below }]
def below0 : List Frame := [.native { method := ⟨0, 0⟩, args := #[] }]
def about1 : State := aboutOver below0
def p0 : Program := .bare "" "" ""
def e0 : Env := launch0.env 0 0 0
theorem w_frames : about1.frames = Frame.invoking theMethod args0 :: below0 := rfl
set_option maxRecDepth 65536 in
theorem w_args : argsFit about1.vm theMethod args0 = true := by decide +kernel
set_option maxRecDepth 65536 in
theorem w_heap : heapFits about1 = true := by decide +kernel
set_option maxRecDepth 65536 in
theorem w_runnable : about1.curStatus? = some .runnable := by decide +kernel
set_option maxRecDepth 65536 in
theorem w_alone : about1.alone = true := by decide +kernel
set_option maxRecDepth 65536 in
theorem w_named : about1.methodNamed? x = some theMethod := by decide +kernel
set_option maxRecDepth 65536 in
theorem w_hears : about1.hears theMethod below0 = true := by decide +kernel
set_option maxRecDepth 65536 in
theorem w_ripe : about1.ripe theMethod args0 below0 = true := by decide +kernel
theorem w_running : about1.status = .running := rfl
set_option maxRecDepth 65536 in
theorem w_room : about1.hasRoom e0.platform room_1 = true :=
  launch0.hasRoom_least _ room_1 (by decide +kernel) (by decide +kernel) (by decide +kernel) (by decide +kernel) (by decide +kernel) (by decide +kernel)
theorem allAtoms_all (ts : List Jvm.Cond) (a : Array Jvm.Value) (st : Jvm.State) : (allAtoms ts).before a st = ts.all (fun c => c.before a st) := by
  induction ts with
  | nil => rfl
  | cons c t ih =>
    show (Jvm.Cond.and c (allAtoms t)).before a st = _
    rw [Jvm.Cond.before_and, ih, List.all_cons]
def words1 : List Jvm.Cond := Jvm.Cond.code x code maxLocals ret :: tables_1
/-- a 'code' word, met by the world's own term for the bytes: nothing is compared byte by byte -/
theorem code_word {y : MethodName} {bytes : ByteArray} {mx : Nat} {rt : Option FieldType} {a : Array Value} {s : State} {m : MethodId} {meth : Method} {c : Code} (h1 : s.methodNamed? y = some m) (h2 : s.vm.method? m = some meth) (h3 : meth.code = some c) (h4 : c.code = bytes)
    (h5 : (c.maxLocals == mx && c.exceptionTable.isEmpty && decide (c.maxStack ≤ mostOperands) && decide (meth.sig.returnType = rt) && !meth.locks && decide (parseMethodDescriptor y.desc = some meth.sig)) = true) : (Jvm.Cond.code y bytes mx rt).before a s = true := by
  simp only [Bool.and_eq_true, beq_iff_eq, Bool.not_eq_true', decide_eq_true_eq] at h5
  obtain ⟨⟨⟨⟨⟨g1, g2⟩, g3⟩, g4⟩, g5⟩, g6⟩ := h5
  simp [Cond.before, Cond.holds, Cond.value, h1, h2, h3, h4, g1, g2, g3, g4, g5, g6]
def isCode : Jvm.Cond → Bool
  | .code _ _ _ _ => true
  | _ => false
theorem all_split {L : List Jvm.Cond} {P : Jvm.Cond → Bool} (h1 : L.all (fun c => isCode c || P c) = true) (h2 : ∀ c ∈ L.filter isCode, P c = true) : L.all P = true := by
  refine List.all_eq_true.mpr fun c hc => ?_
  have h := List.all_eq_true.mp h1 c hc
  rcases Bool.eq_false_or_eq_true (isCode c) with hi | hi
  · exact h2 c (List.mem_filter.mpr ⟨hc, hi⟩)
  · simpa [hi] using h
set_option maxRecDepth 65536 in
theorem w_c0 : (Jvm.Cond.code x code maxLocals ret).before args0 about1 = true := code_word (m := ⟨1, 1⟩) (meth := k1m1) (c := k1c1) (by decide +kernel) rfl rfl rfl (by decide +kernel)
set_option maxRecDepth 65536 in
theorem w_c1 : (Jvm.Cond.code ({ cls := "java/lang/String", name := "charAt", desc := "(I)C" } : Jvm.MethodName) jdk_42_method_56_code (2 : Nat) (Option.some Jvm.ClassFile.FieldType.char)).before args0 about1 = true := code_word (m := ⟨7, 1⟩) (meth := k7m1) (c := k7c1) (by decide +kernel) rfl rfl rfl (by decide +kernel)
set_option maxRecDepth 65536 in
theorem w_c2 : (Jvm.Cond.code ({ cls := "java/lang/String", name := "isLatin1", desc := "()Z" } : Jvm.MethodName) jdk_42_method_154_code (1 : Nat) (Option.some Jvm.ClassFile.FieldType.boolean)).before args0 about1 = true := code_word (m := ⟨7, 2⟩) (meth := k7m2) (c := k7c2) (by decide +kernel) rfl rfl rfl (by decide +kernel)
set_option maxRecDepth 65536 in
theorem w_c3 : (Jvm.Cond.code ({ cls := "java/lang/StringLatin1", name := "charAt", desc := "([BI)C" } : Jvm.MethodName) jdk_43_method_2_code (2 : Nat) (Option.some Jvm.ClassFile.FieldType.char)).before args0 about1 = true := code_word (m := ⟨8, 1⟩) (meth := k8m1) (c := k8c1) (by decide +kernel) rfl rfl rfl (by decide +kernel)
set_option maxRecDepth 65536 in
theorem w_c4 : (Jvm.Cond.code ({ cls := "java/lang/String", name := "checkIndex", desc := "(II)V" } : Jvm.MethodName) jdk_42_method_155_code (2 : Nat) (Option.none : Option Jvm.ClassFile.FieldType)).before args0 about1 = true := code_word (m := ⟨7, 3⟩) (meth := k7m3) (c := k7c3) (by decide +kernel) rfl rfl rfl (by decide +kernel)
set_option maxRecDepth 65536 in
theorem w_c5 : (Jvm.Cond.code ({ cls := "jdk/internal/util/Preconditions", name := "checkIndex", desc := "(IILjava/util/function/BiFunction;)I" } : Jvm.MethodName) jdk_41_method_11_code (3 : Nat) (Option.some Jvm.ClassFile.FieldType.int)).before args0 about1 = true := code_word (m := ⟨9, 1⟩) (meth := k9m1) (c := k9c1) (by decide +kernel) rfl rfl rfl (by decide +kernel)
set_option maxRecDepth 65536 in
theorem w_c6 : (Jvm.Cond.code ({ cls := "com/example/wyrmsmith/wyrmsmith/SourceText", name := "simpleEscape", desc := "(C)I" } : Jvm.MethodName) prog_60_method_27_code (1 : Nat) (Option.some Jvm.ClassFile.FieldType.int)).before args0 about1 = true := code_word (m := ⟨10, 0⟩) (meth := k10m0) (c := k10c0) (by decide +kernel) rfl rfl rfl (by decide +kernel)
set_option maxRecDepth 65536 in
theorem w_c7 : (Jvm.Cond.code ({ cls := "com/example/wyrmsmith/wyrmsmith/SourceTextSimpleEscapePinLaw", name := "expected", desc := "(C)I" } : Jvm.MethodName) method_4_code (2 : Nat) (Option.some Jvm.ClassFile.FieldType.int)).before args0 about1 = true := code_word (m := ⟨1, 3⟩) (meth := k1m3) (c := k1c3) (by decide +kernel) rfl rfl rfl (by decide +kernel)
set_option maxRecDepth 65536 in
theorem w_c8 : (Jvm.Cond.code ({ cls := "com/example/wyrmsmith/wyrmsmith/SourceTextSimpleEscapePinLaw", name := "controlPosition", desc := "(C)I" } : Jvm.MethodName) method_3_code (1 : Nat) (Option.some Jvm.ClassFile.FieldType.int)).before args0 about1 = true := code_word (m := ⟨1, 2⟩) (meth := k1m2) (c := k1c2) (by decide +kernel) rfl rfl rfl (by decide +kernel)
def codes1 : List Jvm.Cond := [Jvm.Cond.code x code maxLocals ret, Jvm.Cond.code ({ cls := "java/lang/String", name := "charAt", desc := "(I)C" } : Jvm.MethodName) jdk_42_method_56_code (2 : Nat) (Option.some Jvm.ClassFile.FieldType.char), Jvm.Cond.code ({ cls := "java/lang/String", name := "isLatin1", desc := "()Z" } : Jvm.MethodName) jdk_42_method_154_code (1 : Nat) (Option.some Jvm.ClassFile.FieldType.boolean), Jvm.Cond.code ({ cls := "java/lang/StringLatin1", name := "charAt", desc := "([BI)C" } : Jvm.MethodName) jdk_43_method_2_code (2 : Nat) (Option.some Jvm.ClassFile.FieldType.char), Jvm.Cond.code ({ cls := "java/lang/String", name := "checkIndex", desc := "(II)V" } : Jvm.MethodName) jdk_42_method_155_code (2 : Nat) (Option.none : Option Jvm.ClassFile.FieldType), Jvm.Cond.code ({ cls := "jdk/internal/util/Preconditions", name := "checkIndex", desc := "(IILjava/util/function/BiFunction;)I" } : Jvm.MethodName) jdk_41_method_11_code (3 : Nat) (Option.some Jvm.ClassFile.FieldType.int), Jvm.Cond.code ({ cls := "com/example/wyrmsmith/wyrmsmith/SourceText", name := "simpleEscape", desc := "(C)I" } : Jvm.MethodName) prog_60_method_27_code (1 : Nat) (Option.some Jvm.ClassFile.FieldType.int), Jvm.Cond.code ({ cls := "com/example/wyrmsmith/wyrmsmith/SourceTextSimpleEscapePinLaw", name := "expected", desc := "(C)I" } : Jvm.MethodName) method_4_code (2 : Nat) (Option.some Jvm.ClassFile.FieldType.int), Jvm.Cond.code ({ cls := "com/example/wyrmsmith/wyrmsmith/SourceTextSimpleEscapePinLaw", name := "controlPosition", desc := "(C)I" } : Jvm.MethodName) method_3_code (1 : Nat) (Option.some Jvm.ClassFile.FieldType.int)]
set_option maxRecDepth 65536 in
theorem codes_eq : words1.filter isCode = codes1 := rfl
theorem w_codes : ∀ c ∈ words1.filter isCode, c.before args0 about1 = true := by
  rw [codes_eq]
  intro c hc
  simp only [codes1, List.mem_cons, List.not_mem_nil, or_false] at hc
  rcases hc with rfl | rfl | rfl | rfl | rfl | rfl | rfl | rfl | rfl
  · exact w_c0
  · exact w_c1
  · exact w_c2
  · exact w_c3
  · exact w_c4
  · exact w_c5
  · exact w_c6
  · exact w_c7
  · exact w_c8
set_option maxRecDepth 65536 in
theorem w_t1 : (words1.take 24).all (fun c => isCode c || c.before args0 about1) = true := by decide +kernel
set_option maxRecDepth 65536 in
theorem w_t2 : (words1.drop 24).all (fun c => isCode c || c.before args0 about1) = true := by decide +kernel
theorem w_tables : (allAtoms (Jvm.Cond.code x code maxLocals ret :: tables_1)).before args0 about1 = true := by
  rw [allAtoms_all]
  show words1.all (fun c => c.before args0 about1) = true
  refine all_split ?_ w_codes
  rw [← List.take_append_drop 24 words1, List.all_append, w_t1, w_t2]
  rfl
set_option maxRecDepth 65536 in
theorem w_rest : rest_1_c.before args0 about1 = true := by decide +kernel
set_option maxRecDepth 65536 in
theorem w_case : (Jvm.Cond.and given_1 narrow_1).before args0 about1 = true := by decide +kernel
set_option maxRecDepth 65536 in
theorem w_consts : constsHeld consts_1 about1 := Jvm.Lit.constsHeldB_iff.mp (by decide +kernel)
theorem w_applies : (headSpec (Jvm.Cond.code x code maxLocals ret :: tables_1) room_1).applies x e0.platform about1 = true :=
  (Spec.applies_iff w_frames).mpr ⟨w_running, w_runnable, w_alone, w_named, w_hears, w_ripe, w_room, w_tables⟩
theorem atStart : AtStart classFile x code maxLocals ret World_1 tables_1 room_1 Calls_1 rest_1 Pre_1 launch0 p0 e0 about1 theMethod args0 below0 :=
  ⟨lists_1, trivial, launch0.admits_env _ _ _, launch0.least_env, fairChoices_fair.cas, fairChoices_fair.clock, w_frames, w_args, w_heap, w_applies, ⟨w_consts, trivial⟩, w_rest, w_case⟩
end start1
theorem witness_1 : WitnessClaimed_1 := ⟨start1.p0, start1.e0, start1.about1, start1.theMethod, start1.args0, start1.below0, start1.atStart⟩
end Jvm.Pilot.@@N@@
