import JvmDerived
import JvmDerived.Pilot.@@N@@Statement
import JvmDerived.Pilot.@@N@@Code
set_option linter.unusedVariables false
set_option linter.unusedSimpArgs false
namespace Jvm.RoadKit
open Sem ClassFile Op Lib Jvm.Stand Jvm.Free Jvm.LawKit
section New
variable {p : Program} {l : Launch} {e : Env} {R : Room} {s : State} {m : MethodId} {args : Array Value} {below : List Frame} {meth : Method} {c : Code} {T : State} {locs : List Loc} {cells slots : Nat}
theorem retI (X : Stand p l e R s m args below meth c T locs cells slots) (hx : p.tables.exec = Jvm.exec) {pc : Nat} {Ls : Array Slot} {z : Int32} {rest : List Value} (hret : meth.sig.returnType = some .int) (hd : decode c.code pc = .ok (.ireturn, 1)) {fs : List Frame}
    (hl : ∀ (f : JFrame) (acts : List Action), f.method = m → f.locked = none → f.entered = [] → (doReturn e (T.setTop f) acts (some (.int z))).1 = T.setFrames fs) : Steps p.tables e below (T.setTop (mkF m pc Ls (.int z :: rest))) (T.setFrames fs) := by
  have hm' : T.vm.method? m = some meth := X.method'
  have hn : narrow .int (.int z) = .int z := rfl
  show Steps p.tables e below (T.setTop { method := m, pc := pc, locals := Ls, stack := _ :: rest, locked := none }) _
  jvm_step X.here [X.here.top, hx, hd, hm', hret, hn]
  first | (intro acts; rw [hl _ acts rfl rfl rfl]) | rw [hl _ _ rfl rfl rfl]
  exact Steps.refl _
theorem own_ldc {g : JFrame} {target : State} (X : Stand p l e R s m args below meth c T locs cells slots) (hx : p.tables.exec = Jvm.exec) {own : String} {index : Nat} {v : Int32} (hown : s.vm.findClass own = some m.cls) (w : (Cond.constant own index v).before args s = true) (hg : g.method = m) (hd : decode c.code g.pc = .ok (.ldc index, 2))
    (hr : Steps p.tables e below (T.setTop { g with pc := g.pc + 2, stack := .int v :: g.stack }) target) : Steps p.tables e below (T.setTop g) target := X.ldcInt hx hown w hg hd target hr
theorem own_ldc2 {g : JFrame} {target : State} (X : Stand p l e R s m args below meth c T locs cells slots) (hx : p.tables.exec = Jvm.exec) {own : String} {index : Nat} {v : Int64} (hown : s.vm.findClass own = some m.cls) (w : (Cond.constantLong own index v).before args s = true) (hg : g.method = m) (hd : decode c.code g.pc = .ok (.ldc2_w index, 3))
    (hr : Steps p.tables e below (T.setTop { g with pc := g.pc + 3, stack := .long v :: g.stack }) target) : Steps p.tables e below (T.setTop g) target := X.ldc2Long hx hown w hg hd target hr
theorem own_len {g : JFrame} {target : State} (X : Stand p l e R s m args below meth c T locs cells slots) (hx : p.tables.exec = Jvm.exec) {a : Addr} {cell : Cell} {ty : FieldType} {z : Int32} (hcell : T.heap[a]? = some cell) (harr : s.isArrayOf cell ty) (hz : cell.slots.size = z.toNatClampNeg) (hn : ¬ z < 0) (hg : g.method = m) {rest : List Value} (hs : g.stack = .ref a :: rest) (hd : decode c.code g.pc = .ok (.arraylength, 1))
    (hr : Steps p.tables e below (T.setTop { g with pc := g.pc + 1, stack := .int z :: rest }) target) : Steps p.tables e below (T.setTop g) target := X.arraylength hx hcell harr hg hs hd target (by rw [len_of hz hn]; exact hr)
theorem own_iaload {g : JFrame} {target : State} (X : Stand p l e R s m args below meth c T locs cells slots) (hx : p.tables.exec = Jvm.exec) {a : Addr} {cell : Cell} {j : Int32} {v : Value} (hcell : T.heap[a]? = some cell) (harr : s.isArrayOf cell .int) (hk : cell.vm ≠ .unknown) (hin : ¬ (j < 0 ∨ cell.slots.size ≤ j.toNatClampNeg)) (hv : cell.slots[j.toNatClampNeg]? = some v) (hg : g.method = m) {rest : List Value} (hs : g.stack = .int j :: .ref a :: rest) (hd : decode c.code g.pc = .ok (.iaload, 1))
    (hr : Steps p.tables e below (T.setTop { g with pc := g.pc + 1, stack := v :: rest }) target) : Steps p.tables e below (T.setTop g) target := X.iaload hx hcell harr hk hin hv hg hs hd target hr
theorem own_laload {g : JFrame} {target : State} (X : Stand p l e R s m args below meth c T locs cells slots) (hx : p.tables.exec = Jvm.exec) {a : Addr} {cell : Cell} {j : Int32} {v : Value} (hcell : T.heap[a]? = some cell) (harr : s.isArrayOf cell .long) (hk : cell.vm ≠ .unknown) (hin : ¬ (j < 0 ∨ cell.slots.size ≤ j.toNatClampNeg)) (hv : cell.slots[j.toNatClampNeg]? = some v) (hg : g.method = m) {rest : List Value} (hs : g.stack = .int j :: .ref a :: rest) (hd : decode c.code g.pc = .ok (.laload, 1))
    (hr : Steps p.tables e below (T.setTop { g with pc := g.pc + 1, stack := v :: rest }) target) : Steps p.tables e below (T.setTop g) target := X.laload hx hcell harr hk hin hv hg hs hd target hr
theorem own_baload {g : JFrame} {target : State} (X : Stand p l e R s m args below meth c T locs cells slots) (hx : p.tables.exec = Jvm.exec) {a : Addr} {cell : Cell} {j : Int32} {v : Value} (hcell : T.heap[a]? = some cell) (harr : s.isArrayOf cell .byte) (hk : cell.vm ≠ .unknown) (hin : ¬ (j < 0 ∨ cell.slots.size ≤ j.toNatClampNeg)) (hv : cell.slots[j.toNatClampNeg]? = some v) (hg : g.method = m) {rest : List Value} (hs : g.stack = .int j :: .ref a :: rest) (hd : decode c.code g.pc = .ok (.baload, 1))
    (hr : Steps p.tables e below (T.setTop { g with pc := g.pc + 1, stack := v :: rest }) target) : Steps p.tables e below (T.setTop g) target := X.baloadBytes hx hcell harr hk hin hv hg hs hd target hr
theorem own_lrem {g : JFrame} {target : State} (X : Stand p l e R s m args below meth c T locs cells slots) (hx : p.tables.exec = Jvm.exec) (hg : g.method = m) {x y : Int64} {rest : List Value} (hd : decode c.code g.pc = .ok (.lrem, 1)) (hs : g.stack = .long y :: .long x :: rest) (hy : y ≠ 0)
    (hr : Steps p.tables e below (T.setTop { g with pc := g.pc + 1, stack := .long (x % y) :: rest }) target) : Steps p.tables e below (T.setTop g) target :=
  XS.lrem X.here hx hg hd hs hy (by rw [lrem_mod]; exact hr)
theorem own_tltL {x y : Int64} (h : x < y) : ifCond.holds .lt (lcmpW x y) = true ∧ ifCond.holds .ge (lcmpW x y) = false ∧ ifCond.holds .gt (lcmpW y x) = true ∧ ifCond.holds .le (lcmpW y x) = false := by
  have h1 : lcmpW x y < 0 := by rw [lcW]; exact (lc_lt x y).mpr h
  have h2 : 0 < lcmpW y x := by rw [lcW]; exact (lc_gt y x).mpr h
  exact ⟨(if0 _ _).trans (tlt h1).1, (if0 _ _).trans (tlt h1).2.1, (if0 _ _).trans (tlt h2).2.2.1, (if0 _ _).trans (tlt h2).2.2.2⟩
theorem own_fltL {x y : Int64} (h : ¬ x < y) : ifCond.holds .lt (lcmpW x y) = false ∧ ifCond.holds .ge (lcmpW x y) = true ∧ ifCond.holds .gt (lcmpW y x) = false ∧ ifCond.holds .le (lcmpW y x) = true := by
  have h1 : ¬ lcmpW x y < 0 := by rw [lcW, lc_lt]; exact h
  have h2 : ¬ 0 < lcmpW y x := by rw [lcW, lc_gt]; exact h
  exact ⟨(if0 _ _).trans (flt h1).1, (if0 _ _).trans (flt h1).2.1, (if0 _ _).trans (flt h2).2.2.1, (if0 _ _).trans (flt h2).2.2.2⟩
theorem own_teqL {x y : Int64} (h : x = y) : ifCond.holds .eq (lcmpW x y) = true ∧ ifCond.holds .ne (lcmpW x y) = false := by
  have h1 : lcmpW x y = 0 := by rw [lcW, lc_eq]; exact h
  exact ⟨(if0 _ _).trans (teq h1).1, (if0 _ _).trans (teq h1).2⟩
theorem own_feqL {x y : Int64} (h : ¬ x = y) : ifCond.holds .eq (lcmpW x y) = false ∧ ifCond.holds .ne (lcmpW x y) = true := by
  have h1 : ¬ lcmpW x y = 0 := by rw [lcW, lc_eq]; exact h
  exact ⟨(if0 _ _).trans (feq h1).1, (if0 _ _).trans (feq h1).2⟩
end New
end Jvm.RoadKit
namespace Jvm.Pilot.@@N@@
open Jvm Jvm.ClassFile Sem Op Lib Jvm.Free Jvm.Stand Jvm.LawKit Jvm.RoadKit Bundle Jvm.Pilot.@@N@@.Jvm.D
abbrev jv (x : Int64) : Slot := .val (.long x)
abbrev un : Slot := .unset
abbrev sc : Slot := .second
abbrev ta (l : List Slot) : Array Slot := List.toArray l
abbrev un2 : List Slot := [.unset, .unset]
abbrev un3 : List Slot := [.unset, .unset, .unset]
abbrev un4 : List Slot := [.unset, .unset, .unset, .unset]
abbrev un6 : List Slot := [.unset, .unset, .unset, .unset, .unset, .unset]
abbrev un8 : List Slot := [.unset, .unset, .unset, .unset, .unset, .unset, .unset, .unset]
abbrev un9 : List Slot := [.unset, .unset, .unset, .unset, .unset, .unset, .unset, .unset, .unset]
abbrev un10 : List Slot := [.unset, .unset, .unset, .unset, .unset, .unset, .unset, .unset, .unset, .unset]
abbrev un11 : List Slot := [.unset, .unset, .unset, .unset, .unset, .unset, .unset, .unset, .unset, .unset, .unset]
abbrev un12 : List Slot := [.unset, .unset, .unset, .unset, .unset, .unset, .unset, .unset, .unset, .unset, .unset, .unset]
abbrev un13 : List Slot := [.unset, .unset, .unset, .unset, .unset, .unset, .unset, .unset, .unset, .unset, .unset, .unset, .unset]
abbrev un14 : List Slot := [.unset, .unset, .unset, .unset, .unset, .unset, .unset, .unset, .unset, .unset, .unset, .unset, .unset, .unset]
abbrev un16 : List Slot := [.unset, .unset, .unset, .unset, .unset, .unset, .unset, .unset, .unset, .unset, .unset, .unset, .unset, .unset, .unset, .unset]
abbrev un18 : List Slot := [.unset, .unset, .unset, .unset, .unset, .unset, .unset, .unset, .unset, .unset, .unset, .unset, .unset, .unset, .unset, .unset, .unset, .unset]
abbrev un20 : List Slot := [.unset, .unset, .unset, .unset, .unset, .unset, .unset, .unset, .unset, .unset, .unset, .unset, .unset, .unset, .unset, .unset, .unset, .unset, .unset, .unset]
abbrev un22 : List Slot := [.unset, .unset, .unset, .unset, .unset, .unset, .unset, .unset, .unset, .unset, .unset, .unset, .unset, .unset, .unset, .unset, .unset, .unset, .unset, .unset, .unset, .unset]
/-- what is left to show from a place of the walk on -/
abbrev OGl (p : Program) (e : Env) (below : List Frame) (Q : Outcome → State → Prop) (T : State) (g : JFrame) : Prop :=
  ∃ s₂ o, Steps p.tables e below (T.setTop g) s₂ ∧ s₂.status = .running ∧ Ended s₂ below o ∧ Q o s₂
theorem OGl.go {p : Program} {e : Env} {below : List Frame} {Q : Outcome → State → Prop} {T T' : State} {g g' : JFrame} (h : ∀ t, Steps p.tables e below (T'.setTop g') t → Steps p.tables e below (T.setTop g) t) (k : OGl p e below Q T' g') : OGl p e below Q T g := by
  obtain ⟨s2, o, h1, h2⟩ := k
  exact ⟨s2, o, h _ h1, h2⟩
theorem OGl.start {p : Program} {e : Env} {below : List Frame} {Q : Outcome → State → Prop} {T : State} {g g' : JFrame} (q : g = g') (k : OGl p e below Q T g') : OGl p e below Q T g := q ▸ k
theorem own_selPriv {s : State} {args : Array Value} {y y' x' : MethodName} {C' : String} (hp : s.PrivateAt y) (hi : (Cond.instanceMethod y).before args s = true) (hs : (Cond.selects C' x' y').before args s = true) (hc : y'.cls = y.cls) (hy : y.cls ≠ "java/lang/invoke/MethodHandle" ∧ y.cls ≠ "java/lang/invoke/VarHandle" := by decide) : (Cond.selects y.cls y y).before args s = true := by
  obtain ⟨mk, meth, hn, hm, -, -⟩ := Cond.instanceMethod_spec hi
  obtain ⟨c2, r2, m2, -, -, q3, -, kP, hkP, hkPi⟩ := Cond.selects_spec hs
  have h1 := findClass_of_methodNamed hn
  have h2 := findClass_of_methodNamed q3
  rw [hc, h1] at h2
  have h3 : mk.cls = m2.cls := Option.some.inj h2
  have hf := State.methodFound?_of_named hn hy
  have hsel : selectMethod {} s.vm mk.cls mk = .method mk := selectMethod_private hm (hp mk meth hn hm)
  rw [← h3] at hkP
  simp [Cond.before, Cond.holds, Cond.value, h1, hf, hn, hsel, hkP, hkPi]
theorem own_weak {Z : State} {h : Heap} {a : Addr} {k : ClassId} {ty : FieldType} {z : Int32} {vs vs' : List Value} {d : Value} (F : Arv Z h a k ty z vs d) (q : ∀ i, i < z.toNatClampNeg → vs'.getD i d = vs.getD i d) : Arv Z h a k ty z vs' d := by
  obtain ⟨c, A, r1, r2, r3, H, G⟩ := F
  exact ⟨c, A, r1, r2, r3, fun i hi => by rw [q i (r2 ▸ hi)]; exact H i hi, fun i hi => by rw [q i (r2 ▸ hi)]; exact G i hi⟩
theorem own_cl {z j : Int32} {k i : Nat} (h : ¬ j < z) (hk : j.toInt = k) (hi : i < z.toNatClampNeg) : i < k := by
  rw [Int32.lt_iff_toInt_lt] at h
  have : z.toNatClampNeg = z.toInt.toNat := rfl
  omega
section OwnKit
variable {p : Program} {l : Launch} {e : Env} {R : Room} {s : State} {m : MethodId} {args : Array Value} {below : List Frame} {meth : Method} {c : Code} {T : State} {locs : List Loc} {cells slots : Nat} {Z : State} {a0 : Array Value} {h : Heap} {a : Addr} {k : ClassId} {z : Int32} {vs : List Value} {d : Value} {g : JFrame} {target : State} {rest : List Value} {Q : Outcome → State → Prop}
theorem own_lenV {ty : FieldType} (X : Stand p l e R s m args below meth c T locs cells slots) (hx : p.tables.exec = Jvm.exec) (hZ : Z.Warmed39 s.vm) (eT : T.heap = h) (F : Arv Z h a k ty z vs d) (hg : g.method = m) (hs : g.stack = .ref a :: rest) (hd : decode c.code g.pc = .ok (.arraylength, 1))
    (hr : Steps p.tables e below (T.setTop { g with pc := g.pc + 1, stack := .int z :: rest }) target) : Steps p.tables e below (T.setTop g) target := by
  obtain ⟨cl, A, -, S, N, -, -⟩ := F
  exact own_len X hx (by rw [eT]; exact A.1) (State.isArrayOf_alike hZ.alike A.2.1) S N hg hs hd hr
theorem own_ialoadV (X : Stand p l e R s m args below meth c T locs cells slots) (hx : p.tables.exec = Jvm.exec) (hZ : Z.Warmed39 s.vm) (eT : T.heap = h) (F : Arv Z h a k .int z vs d) {j : Int32} {v : Value} (h0 : ¬ j < 0) (h1 : j < z) (hv : vs.getD j.toNatClampNeg d = v) (hg : g.method = m) (hs : g.stack = .int j :: .ref a :: rest) (hd : decode c.code g.pc = .ok (.iaload, 1))
    (hr : Steps p.tables e below (T.setTop { g with pc := g.pc + 1, stack := v :: rest }) target) : Steps p.tables e below (T.setTop g) target := by
  obtain ⟨cl, A, -, S, N, H, -⟩ := F
  have hin := inb_of S ⟨h0, h1⟩
  exact own_iaload X hx (by rw [eT]; exact A.1) (State.isArrayOf_alike hZ.alike A.2.1) A.2.2 hin (Has.at H hin hv) hg hs hd hr
theorem own_laloadV (X : Stand p l e R s m args below meth c T locs cells slots) (hx : p.tables.exec = Jvm.exec) (hZ : Z.Warmed39 s.vm) (eT : T.heap = h) (F : Arv Z h a k .long z vs d) {j : Int32} {v : Value} (h0 : ¬ j < 0) (h1 : j < z) (hv : vs.getD j.toNatClampNeg d = v) (hg : g.method = m) (hs : g.stack = .int j :: .ref a :: rest) (hd : decode c.code g.pc = .ok (.laload, 1))
    (hr : Steps p.tables e below (T.setTop { g with pc := g.pc + 1, stack := v :: rest }) target) : Steps p.tables e below (T.setTop g) target := by
  obtain ⟨cl, A, -, S, N, H, -⟩ := F
  have hin := inb_of S ⟨h0, h1⟩
  exact own_laload X hx (by rw [eT]; exact A.1) (State.isArrayOf_alike hZ.alike A.2.1) A.2.2 hin (Has.at H hin hv) hg hs hd hr
theorem own_baloadV (X : Stand p l e R s m args below meth c T locs cells slots) (hx : p.tables.exec = Jvm.exec) (hZ : Z.Warmed39 s.vm) (eT : T.heap = h) (F : Arv Z h a k .byte z vs d) {j : Int32} {v : Value} (h0 : ¬ j < 0) (h1 : j < z) (hv : vs.getD j.toNatClampNeg d = v) (hg : g.method = m) (hs : g.stack = .int j :: .ref a :: rest) (hd : decode c.code g.pc = .ok (.baload, 1))
    (hr : Steps p.tables e below (T.setTop { g with pc := g.pc + 1, stack := v :: rest }) target) : Steps p.tables e below (T.setTop g) target := by
  obtain ⟨cl, A, -, S, N, H, -⟩ := F
  have hin := inb_of S ⟨h0, h1⟩
  exact own_baload X hx (by rw [eT]; exact A.1) (State.isArrayOf_alike hZ.alike A.2.1) A.2.2 hin (Has.at H hin hv) hg hs hd hr
theorem own_zaloadV (X : Stand p l e R s m args below meth c T locs cells slots) (hx : p.tables.exec = Jvm.exec) (hZ : Z.Warmed39 s.vm) (eT : T.heap = h) (F : Arv Z h a k .boolean z vs d) {j : Int32} {v : Value} (h0 : ¬ j < 0) (h1 : j < z) (hv : vs.getD j.toNatClampNeg d = v) (hg : g.method = m) (hs : g.stack = .int j :: .ref a :: rest) (hd : decode c.code g.pc = .ok (.baload, 1))
    (hr : Steps p.tables e below (T.setTop { g with pc := g.pc + 1, stack := v :: rest }) target) : Steps p.tables e below (T.setTop g) target := by
  obtain ⟨cl, A, -, S, N, H, -⟩ := F
  have hin := inb_of S ⟨h0, h1⟩
  exact X.baloadBooleans hx (by rw [eT]; exact A.1) (State.isArrayOf_alike hZ.alike A.2.1) A.2.2 hin (Has.at H hin hv) hg hs hd target hr
theorem own_getF (X : Stand p l e R s m args below meth c T locs cells slots) (hx : p.tables.exec = Jvm.exec) (hZ : Z.Warmed39 s.vm) {own R0 O n d host : String} {index : Nat} (hown : s.vm.findClass own = some m.cls) (w : (Cond.fieldLink own index R0 n d).before a0 Z = true ∨ (Cond.fieldLinkNest own index R0 n d host).before a0 Z = true) (via : Via Z R0 O n d)
    (eT : T.heap = h) {v : Value} (F : Fld Z h a O n d v) (hg : g.method = m) (hs : g.stack = .ref a :: rest) (hd : decode c.code g.pc = .ok (.getfield index, 3)) (kk : ∀ T', Stand p l e R s m args below meth c T' locs cells slots → T'.heap = h → OGl p e below Q T' { g with pc := g.pc + 3, stack := v :: rest }) : OGl p e below Q T g := by
  obtain ⟨T', X', e', st⟩ := getF X hx hZ hown w via eT F hg hs hd
  exact OGl.go st (kk T' X' e')
theorem own_stIV (X : Stand p l e R s m args below meth c T locs cells slots) (hx : p.tables.exec = Jvm.exec) (hZ : Z.Warmed39 s.vm) (eT : T.heap = h) (F : Arv Z h a k .int z vs d) {j : Int32} {x : Int32} (h0 : ¬ j < 0) (h1 : j < z) (i : Nat) (hi : j.toNatClampNeg = i) (hl : i < vs.length) (hg : g.method = m) (hs : g.stack = .int x :: .int j :: .ref a :: rest) (hd : decode c.code g.pc = .ok (.iastore, 1))
    (kk : ∀ T' h', Stand p l e R s m args below meth c T' (locs ++ [⟨a, j.toNatClampNeg⟩]) cells slots → T'.heap = h' → Wr h h' a j.toNatClampNeg (.int x) → Arv Z h' a k .int z (vs.set i (.int x)) d → OGl p e below Q T' { g with pc := g.pc + 1, stack := rest }) : OGl p e below Q T g := by
  obtain ⟨cl, A, q, S, N, H, G⟩ := F
  have hin := inb_of S ⟨h0, h1⟩
  obtain ⟨T', h', X', e', W, st⟩ := stI X hx hZ eT A hin hg hs hd
  exact OGl.go st (kk T' h' X' e' W (Arv.set A q S N H G rfl W i hi hl))
theorem own_stJV (X : Stand p l e R s m args below meth c T locs cells slots) (hx : p.tables.exec = Jvm.exec) (hZ : Z.Warmed39 s.vm) (eT : T.heap = h) (F : Arv Z h a k .long z vs d) {j : Int32} {x : Int64} (h0 : ¬ j < 0) (h1 : j < z) (i : Nat) (hi : j.toNatClampNeg = i) (hl : i < vs.length) (hg : g.method = m) (hs : g.stack = .long x :: .int j :: .ref a :: rest) (hd : decode c.code g.pc = .ok (.lastore, 1))
    (kk : ∀ T' h', Stand p l e R s m args below meth c T' (locs ++ [⟨a, j.toNatClampNeg⟩]) cells slots → T'.heap = h' → Wr h h' a j.toNatClampNeg (.long x) → Arv Z h' a k .long z (vs.set i (.long x)) d → OGl p e below Q T' { g with pc := g.pc + 1, stack := rest }) : OGl p e below Q T g := by
  obtain ⟨cl, A, q, S, N, H, G⟩ := F
  have hin := inb_of S ⟨h0, h1⟩
  obtain ⟨T', h', X', e', W, st⟩ := stJ X hx hZ eT A hin hg hs hd
  exact OGl.go st (kk T' h' X' e' W (Arv.set A q S N H G rfl W i hi hl))
theorem own_stBV (X : Stand p l e R s m args below meth c T locs cells slots) (hx : p.tables.exec = Jvm.exec) (hZ : Z.Warmed39 s.vm) (eT : T.heap = h) (F : Arv Z h a k .byte z vs d) {j : Int32} {x : Int32} (h0 : ¬ j < 0) (h1 : j < z) (i : Nat) (hi : j.toNatClampNeg = i) (hl : i < vs.length) (hg : g.method = m) (hs : g.stack = .int x :: .int j :: .ref a :: rest) (hd : decode c.code g.pc = .ok (.bastore, 1))
    (kk : ∀ T' h', Stand p l e R s m args below meth c T' (locs ++ [⟨a, j.toNatClampNeg⟩]) cells slots → T'.heap = h' → Wr h h' a j.toNatClampNeg (.int (nar .byte x)) → Arv Z h' a k .byte z (vs.set i (.int (nar .byte x))) d → OGl p e below Q T' { g with pc := g.pc + 1, stack := rest }) : OGl p e below Q T g := by
  obtain ⟨cl, A, q, S, N, H, G⟩ := F
  have hin := inb_of S ⟨h0, h1⟩
  obtain ⟨T', h', X', e', W, st⟩ := stB X hx hZ eT A hin hg hs hd
  exact OGl.go st (kk T' h' X' e' W (Arv.set A q S N H G (fits_nar_byte _) W i hi hl))
theorem own_stZV (X : Stand p l e R s m args below meth c T locs cells slots) (hx : p.tables.exec = Jvm.exec) (hZ : Z.Warmed39 s.vm) (eT : T.heap = h) (F : Arv Z h a k .boolean z vs d) {j : Int32} {x : Int32} (h0 : ¬ j < 0) (h1 : j < z) (i : Nat) (hi : j.toNatClampNeg = i) (hl : i < vs.length) (hg : g.method = m) (hs : g.stack = .int x :: .int j :: .ref a :: rest) (hd : decode c.code g.pc = .ok (.bastore, 1))
    (kk : ∀ T' h', Stand p l e R s m args below meth c T' (locs ++ [⟨a, j.toNatClampNeg⟩]) cells slots → T'.heap = h' → Wr h h' a j.toNatClampNeg (.int (nar .boolean x)) → Arv Z h' a k .boolean z (vs.set i (.int (nar .boolean x))) d → OGl p e below Q T' { g with pc := g.pc + 1, stack := rest }) : OGl p e below Q T g := by
  obtain ⟨cl, A, q, S, N, H, G⟩ := F
  have hin := inb_of S ⟨h0, h1⟩
  obtain ⟨T', h', X', e', W, st⟩ := stZ X hx hZ eT A hin hg hs hd
  exact OGl.go st (kk T' h' X' e' W (Arv.set A q S N H G (fits_nar_bool _) W i hi hl))
theorem own_getG (X : Stand p l e R s m args below meth c T locs cells slots) (hx : p.tables.exec = Jvm.exec) (hZ : Z.Warmed39 s.vm) {own O n d : String} {index : Nat} (hown : s.vm.findClass own = some m.cls) (w : (Cond.fieldLink own index O n d).before a0 Z = true)
    (eT : T.heap = h) {v : Value} (F : Fld Z h a O n d v) (hg : g.method = m) (hs : g.stack = .ref a :: rest) (hd : decode c.code g.pc = .ok (.getfield index, 3)) (kk : ∀ T', Stand p l e R s m args below meth c T' locs cells slots → T'.heap = h → OGl p e below Q T' { g with pc := g.pc + 3, stack := v :: rest }) : OGl p e below Q T g :=
  own_getF X hx hZ hown (host := "") (Or.inl w) Via.refl eT F hg hs hd kk
end OwnKit
section OwnShort
variable {p : Program} {l : Launch} {e : Env} {R : Room} {s : State} {m : MethodId} {args : Array Value} {below : List Frame} {meth : Method} {c : Code} {T : State} {locs : List Loc} {cells slots : Nat} {Z : State} {a0 : Array Value} {h : Heap} {target : State} {bytes : ByteArray} {pc : Nat} {L : Array Slot} {S : List Value} {Q : Outcome → State → Prop}
theorem kaN (X : Stand p l e R s m args below meth c T locs cells slots) (hx : p.tables.exec = Jvm.exec) (hby : c.code = bytes) {k : Fin 4} {v : Value} (hd : decode bytes pc = .ok (.aload_n k, 1)) (hl : L[k.val]? = some (.val v)) (hv : v.isRef = true) (hr : Steps p.tables e below (T.setTop (mkF m (pc + 1) L (v :: S))) target) : Steps p.tables e below (T.setTop (mkF m pc L S)) target := XS.aloadN X.here hx rfl (hb hby hd) hl hv hr
theorem ka (X : Stand p l e R s m args below meth c T locs cells slots) (hx : p.tables.exec = Jvm.exec) (hby : c.code = bytes) {k : Nat} {v : Value} (hd : decode bytes pc = .ok (.aload k, 2)) (hl : L[k]? = some (.val v)) (hv : v.isRef = true) (hr : Steps p.tables e below (T.setTop (mkF m (pc + 2) L (v :: S))) target) : Steps p.tables e below (T.setTop (mkF m pc L S)) target := XS.aload X.here hx rfl (hb hby hd) hl hv hr
theorem kiN (X : Stand p l e R s m args below meth c T locs cells slots) (hx : p.tables.exec = Jvm.exec) (hby : c.code = bytes) {k : Fin 4} {v : Int32} (hd : decode bytes pc = .ok (.iload_n k, 1)) (hl : L[k.val]? = some (.val (.int v))) (hr : Steps p.tables e below (T.setTop (mkF m (pc + 1) L (.int v :: S))) target) : Steps p.tables e below (T.setTop (mkF m pc L S)) target := XS.iloadN X.here hx rfl (hb hby hd) hl hr
theorem ki (X : Stand p l e R s m args below meth c T locs cells slots) (hx : p.tables.exec = Jvm.exec) (hby : c.code = bytes) {k : Nat} {v : Int32} (hd : decode bytes pc = .ok (.iload k, 2)) (hl : L[k]? = some (.val (.int v))) (hr : Steps p.tables e below (T.setTop (mkF m (pc + 2) L (.int v :: S))) target) : Steps p.tables e below (T.setTop (mkF m pc L S)) target := XS.iload X.here hx rfl (hb hby hd) hl hr
theorem klN (X : Stand p l e R s m args below meth c T locs cells slots) (hx : p.tables.exec = Jvm.exec) (hby : c.code = bytes) {k : Fin 4} {v : Int64} (hd : decode bytes pc = .ok (.lload_n k, 1)) (hl : L[k.val]? = some (.val (.long v))) (hr : Steps p.tables e below (T.setTop (mkF m (pc + 1) L (.long v :: S))) target) : Steps p.tables e below (T.setTop (mkF m pc L S)) target := XS.lloadN X.here hx rfl (hb hby hd) hl hr
theorem kl (X : Stand p l e R s m args below meth c T locs cells slots) (hx : p.tables.exec = Jvm.exec) (hby : c.code = bytes) {k : Nat} {v : Int64} (hd : decode bytes pc = .ok (.lload k, 2)) (hl : L[k]? = some (.val (.long v))) (hr : Steps p.tables e below (T.setTop (mkF m (pc + 2) L (.long v :: S))) target) : Steps p.tables e below (T.setTop (mkF m pc L S)) target := XS.lload X.here hx rfl (hb hby hd) hl hr
theorem siN (X : Stand p l e R s m args below meth c T locs cells slots) (hx : p.tables.exec = Jvm.exec) (hby : c.code = bytes) {k : Fin 4} {x : Int32} (L' : Array Slot) (hd : decode bytes pc = .ok (.istore_n k, 1)) (hl : storeLocals L k.val (.int x) = some L') (hr : Steps p.tables e below (T.setTop (mkF m (pc + 1) L' S)) target) : Steps p.tables e below (T.setTop (mkF m pc L (.int x :: S))) target := XS.istoreN X.here hx rfl (hb hby hd) rfl hl hr
theorem si (X : Stand p l e R s m args below meth c T locs cells slots) (hx : p.tables.exec = Jvm.exec) (hby : c.code = bytes) {k : Nat} {x : Int32} (L' : Array Slot) (hd : decode bytes pc = .ok (.istore k, 2)) (hl : storeLocals L k (.int x) = some L') (hr : Steps p.tables e below (T.setTop (mkF m (pc + 2) L' S)) target) : Steps p.tables e below (T.setTop (mkF m pc L (.int x :: S))) target := XS.istore X.here hx rfl (hb hby hd) rfl hl hr
theorem slN (X : Stand p l e R s m args below meth c T locs cells slots) (hx : p.tables.exec = Jvm.exec) (hby : c.code = bytes) {k : Fin 4} {x : Int64} (L' : Array Slot) (hd : decode bytes pc = .ok (.lstore_n k, 1)) (hl : storeLocals L k.val (.long x) = some L') (hr : Steps p.tables e below (T.setTop (mkF m (pc + 1) L' S)) target) : Steps p.tables e below (T.setTop (mkF m pc L (.long x :: S))) target := XS.lstoreN X.here hx rfl (hb hby hd) rfl hl hr
theorem sl (X : Stand p l e R s m args below meth c T locs cells slots) (hx : p.tables.exec = Jvm.exec) (hby : c.code = bytes) {k : Nat} {x : Int64} (L' : Array Slot) (hd : decode bytes pc = .ok (.lstore k, 2)) (hl : storeLocals L k (.long x) = some L') (hr : Steps p.tables e below (T.setTop (mkF m (pc + 2) L' S)) target) : Steps p.tables e below (T.setTop (mkF m pc L (.long x :: S))) target := XS.lstore X.here hx rfl (hb hby hd) rfl hl hr
theorem saN (X : Stand p l e R s m args below meth c T locs cells slots) (hx : p.tables.exec = Jvm.exec) (hby : c.code = bytes) {k : Fin 4} {x : Value} (L' : Array Slot) (hd : decode bytes pc = .ok (.astore_n k, 1)) (hv : x.isRef = true) (hl : storeLocals L k.val x = some L') (hr : Steps p.tables e below (T.setTop (mkF m (pc + 1) L' S)) target) : Steps p.tables e below (T.setTop (mkF m pc L (x :: S))) target := XS.astoreN X.here hx rfl (hb hby hd) rfl hv hl hr
theorem sa (X : Stand p l e R s m args below meth c T locs cells slots) (hx : p.tables.exec = Jvm.exec) (hby : c.code = bytes) {k : Nat} {x : Value} (L' : Array Slot) (hd : decode bytes pc = .ok (.astore k, 2)) (hv : x.isRef = true) (hl : storeLocals L k x = some L') (hr : Steps p.tables e below (T.setTop (mkF m (pc + 2) L' S)) target) : Steps p.tables e below (T.setTop (mkF m pc L (x :: S))) target := XS.astore X.here hx rfl (hb hby hd) rfl hv hl hr
theorem kc (X : Stand p l e R s m args below meth c T locs cells slots) (hx : p.tables.exec = Jvm.exec) (hby : c.code = bytes) {i : Int} (hd : decode bytes pc = .ok (.iconst i, 1))  (hr : Steps p.tables e below (T.setTop (mkF m (pc + 1) L (.int (Int32.ofInt i) :: S))) target) : Steps p.tables e below (T.setTop (mkF m pc L S)) target := XS.iconst X.here hx rfl (hb hby hd) hr
theorem kb (X : Stand p l e R s m args below meth c T locs cells slots) (hx : p.tables.exec = Jvm.exec) (hby : c.code = bytes) {i : Int} (hd : decode bytes pc = .ok (.bipush i, 2))  (hr : Steps p.tables e below (T.setTop (mkF m (pc + 2) L (.int (Int8.ofInt i).toInt32 :: S))) target) : Steps p.tables e below (T.setTop (mkF m pc L S)) target := XS.bipush X.here hx rfl (hb hby hd) hr
theorem kcl (X : Stand p l e R s m args below meth c T locs cells slots) (hx : p.tables.exec = Jvm.exec) (hby : c.code = bytes) {k : Fin 2} (hd : decode bytes pc = .ok (.lconst k, 1))  (hr : Steps p.tables e below (T.setTop (mkF m (pc + 1) L (.long (Int64.ofNat k) :: S))) target) : Steps p.tables e below (T.setTop (mkF m pc L S)) target := XS.lconst X.here hx rfl (hb hby hd) hr
theorem o_iadd (X : Stand p l e R s m args below meth c T locs cells slots) (hx : p.tables.exec = Jvm.exec) (hby : c.code = bytes) {x y : Int32} (hd : decode bytes pc = .ok (.iadd, 1))  (hr : Steps p.tables e below (T.setTop (mkF m (pc + 1) L (.int (x + y) :: S))) target) : Steps p.tables e below (T.setTop (mkF m pc L (.int y :: .int x :: S))) target := XS.iadd X.here hx rfl (hb hby hd) rfl hr
theorem o_isub (X : Stand p l e R s m args below meth c T locs cells slots) (hx : p.tables.exec = Jvm.exec) (hby : c.code = bytes) {x y : Int32} (hd : decode bytes pc = .ok (.isub, 1))  (hr : Steps p.tables e below (T.setTop (mkF m (pc + 1) L (.int (x - y) :: S))) target) : Steps p.tables e below (T.setTop (mkF m pc L (.int y :: .int x :: S))) target := XS.isub X.here hx rfl (hb hby hd) rfl hr
theorem o_imul (X : Stand p l e R s m args below meth c T locs cells slots) (hx : p.tables.exec = Jvm.exec) (hby : c.code = bytes) {x y : Int32} (hd : decode bytes pc = .ok (.imul, 1))  (hr : Steps p.tables e below (T.setTop (mkF m (pc + 1) L (.int (x * y) :: S))) target) : Steps p.tables e below (T.setTop (mkF m pc L (.int y :: .int x :: S))) target := XS.imul X.here hx rfl (hb hby hd) rfl hr
theorem o_ixor (X : Stand p l e R s m args below meth c T locs cells slots) (hx : p.tables.exec = Jvm.exec) (hby : c.code = bytes) {x y : Int32} (hd : decode bytes pc = .ok (.ixor, 1))  (hr : Steps p.tables e below (T.setTop (mkF m (pc + 1) L (.int (x ^^^ y) :: S))) target) : Steps p.tables e below (T.setTop (mkF m pc L (.int y :: .int x :: S))) target := XS.ixor X.here hx rfl (hb hby hd) rfl hr
theorem o_iand (X : Stand p l e R s m args below meth c T locs cells slots) (hx : p.tables.exec = Jvm.exec) (hby : c.code = bytes) {x y : Int32} (hd : decode bytes pc = .ok (.iand, 1))  (hr : Steps p.tables e below (T.setTop (mkF m (pc + 1) L (.int (x &&& y) :: S))) target) : Steps p.tables e below (T.setTop (mkF m pc L (.int y :: .int x :: S))) target := XS.iand X.here hx rfl (hb hby hd) rfl hr
theorem o_ladd (X : Stand p l e R s m args below meth c T locs cells slots) (hx : p.tables.exec = Jvm.exec) (hby : c.code = bytes) {x y : Int64} (hd : decode bytes pc = .ok (.ladd, 1))  (hr : Steps p.tables e below (T.setTop (mkF m (pc + 1) L (.long (x + y) :: S))) target) : Steps p.tables e below (T.setTop (mkF m pc L (.long y :: .long x :: S))) target := XS.ladd X.here hx rfl (hb hby hd) rfl hr
theorem o_lsub (X : Stand p l e R s m args below meth c T locs cells slots) (hx : p.tables.exec = Jvm.exec) (hby : c.code = bytes) {x y : Int64} (hd : decode bytes pc = .ok (.lsub, 1))  (hr : Steps p.tables e below (T.setTop (mkF m (pc + 1) L (.long (x - y) :: S))) target) : Steps p.tables e below (T.setTop (mkF m pc L (.long y :: .long x :: S))) target := XS.lsub X.here hx rfl (hb hby hd) rfl hr
theorem o_lmul (X : Stand p l e R s m args below meth c T locs cells slots) (hx : p.tables.exec = Jvm.exec) (hby : c.code = bytes) {x y : Int64} (hd : decode bytes pc = .ok (.lmul, 1))  (hr : Steps p.tables e below (T.setTop (mkF m (pc + 1) L (.long (x * y) :: S))) target) : Steps p.tables e below (T.setTop (mkF m pc L (.long y :: .long x :: S))) target := XS.lmul X.here hx rfl (hb hby hd) rfl hr
theorem o_land (X : Stand p l e R s m args below meth c T locs cells slots) (hx : p.tables.exec = Jvm.exec) (hby : c.code = bytes) {x y : Int64} (hd : decode bytes pc = .ok (.land, 1))  (hr : Steps p.tables e below (T.setTop (mkF m (pc + 1) L (.long (x &&& y) :: S))) target) : Steps p.tables e below (T.setTop (mkF m pc L (.long y :: .long x :: S))) target := XS.land X.here hx rfl (hb hby hd) rfl hr
theorem o_lxor (X : Stand p l e R s m args below meth c T locs cells slots) (hx : p.tables.exec = Jvm.exec) (hby : c.code = bytes) {x y : Int64} (hd : decode bytes pc = .ok (.lxor, 1))  (hr : Steps p.tables e below (T.setTop (mkF m (pc + 1) L (.long (x ^^^ y) :: S))) target) : Steps p.tables e below (T.setTop (mkF m pc L (.long y :: .long x :: S))) target := XS.lxor X.here hx rfl (hb hby hd) rfl hr
theorem o_dup (X : Stand p l e R s m args below meth c T locs cells slots) (hx : p.tables.exec = Jvm.exec) (hby : c.code = bytes) {x : Value} (hd : decode bytes pc = .ok (.dup, 1)) (hc : x.category = 1) (hr : Steps p.tables e below (T.setTop (mkF m (pc + 1) L (x :: x :: S))) target) : Steps p.tables e below (T.setTop (mkF m pc L (x :: S))) target := XS.dup X.here hx rfl (hb hby hd) rfl hc hr
theorem o_dupX1 (X : Stand p l e R s m args below meth c T locs cells slots) (hx : p.tables.exec = Jvm.exec) (hby : c.code = bytes) {x y : Value} (hd : decode bytes pc = .ok (.dup_x1, 1)) (hc : x.category = 1) (hc' : y.category = 1) (hr : Steps p.tables e below (T.setTop (mkF m (pc + 1) L (x :: y :: x :: S))) target) : Steps p.tables e below (T.setTop (mkF m pc L (x :: y :: S))) target := XS.dupX1 X.here hx rfl (hb hby hd) rfl hc hc' hr
theorem o_lcmp (X : Stand p l e R s m args below meth c T locs cells slots) (hx : p.tables.exec = Jvm.exec) (hby : c.code = bytes) {x y : Int64} (hd : decode bytes pc = .ok (.lcmp, 1))  (hr : Steps p.tables e below (T.setTop (mkF m (pc + 1) L (.int (lcmpW x y) :: S))) target) : Steps p.tables e below (T.setTop (mkF m pc L (.long y :: .long x :: S))) target := XS.lcmp X.here hx rfl (hb hby hd) rfl hr
theorem o_iinc (X : Stand p l e R s m args below meth c T locs cells slots) (hx : p.tables.exec = Jvm.exec) (hby : c.code = bytes) {k : Nat} {i : Int} {x : Int32} (L' : Array Slot) (hd : decode bytes pc = .ok (.iinc k i, 3)) (hl : L[k]? = some (.val (.int x))) (hl' : storeLocals L k (.int (x + Int32.ofInt i)) = some L') (hr : Steps p.tables e below (T.setTop (mkF m (pc + 3) L' S)) target) : Steps p.tables e below (T.setTop (mkF m pc L S)) target := XS.iinc X.here hx rfl (hb hby hd) hl hl' hr
theorem o_goto (X : Stand p l e R s m args below meth c T locs cells slots) (hx : p.tables.exec = Jvm.exec) (hby : c.code = bytes) {o : Int} (pc' : Nat) (hd : decode bytes pc = .ok (.goto o, 3)) (hq : (decide (0 ≤ (pc : Int) + o) && decide (((pc : Int) + o).toNat = pc')) = true) (hr : Steps p.tables e below (T.setTop (mkF m pc' L S)) target) : Steps p.tables e below (T.setTop (mkF m pc L S)) target := XS.goto X.here hx rfl (pc0 := pc) rfl (hb hby hd) (of_decide_eq_true (Bool.and_eq_true_iff.mp hq).1) (of_decide_eq_true (Bool.and_eq_true_iff.mp hq).2) hr
theorem cN (X : Stand p l e R s m args below meth c T locs cells slots) (hx : p.tables.exec = Jvm.exec) (hby : c.code = bytes) {cd : ClassFile.Cond} {o : Int} {x y : Int32} (hd : decode bytes pc = .ok (.if_icmp cd o, 3)) (hc : if_icmp.holds cd x y = false) (hr : Steps p.tables e below (T.setTop (mkF m (pc + 3) L S)) target) : Steps p.tables e below (T.setTop (mkF m pc L (.int y :: .int x :: S))) target := XS.icmpNo X.here hx rfl (hb hby hd) rfl hc hr
theorem cY (X : Stand p l e R s m args below meth c T locs cells slots) (hx : p.tables.exec = Jvm.exec) (hby : c.code = bytes) {cd : ClassFile.Cond} {o : Int} {x y : Int32} (pc' : Nat) (hd : decode bytes pc = .ok (.if_icmp cd o, 3)) (hc : if_icmp.holds cd x y = true) (hq : (decide (0 ≤ (pc : Int) + o) && decide (((pc : Int) + o).toNat = pc')) = true) (hr : Steps p.tables e below (T.setTop (mkF m pc' L S)) target) : Steps p.tables e below (T.setTop (mkF m pc L (.int y :: .int x :: S))) target := XS.icmpYes X.here hx rfl (pc0 := pc) rfl (hb hby hd) rfl hc (of_decide_eq_true (Bool.and_eq_true_iff.mp hq).1) (of_decide_eq_true (Bool.and_eq_true_iff.mp hq).2) hr
theorem iN (X : Stand p l e R s m args below meth c T locs cells slots) (hx : p.tables.exec = Jvm.exec) (hby : c.code = bytes) {cd : ClassFile.Cond} {o : Int} {x : Int32} (hd : decode bytes pc = .ok (.ifCond cd o, 3)) (hc : ifCond.holds cd x = false) (hr : Steps p.tables e below (T.setTop (mkF m (pc + 3) L S)) target) : Steps p.tables e below (T.setTop (mkF m pc L (.int x :: S))) target := XS.ifNo X.here hx rfl (hb hby hd) rfl hc hr
theorem iY (X : Stand p l e R s m args below meth c T locs cells slots) (hx : p.tables.exec = Jvm.exec) (hby : c.code = bytes) {cd : ClassFile.Cond} {o : Int} {x : Int32} (pc' : Nat) (hd : decode bytes pc = .ok (.ifCond cd o, 3)) (hc : ifCond.holds cd x = true) (hq : (decide (0 ≤ (pc : Int) + o) && decide (((pc : Int) + o).toNat = pc')) = true) (hr : Steps p.tables e below (T.setTop (mkF m pc' L S)) target) : Steps p.tables e below (T.setTop (mkF m pc L (.int x :: S))) target := XS.ifYes X.here hx rfl (pc0 := pc) rfl (hb hby hd) rfl hc (of_decide_eq_true (Bool.and_eq_true_iff.mp hq).1) (of_decide_eq_true (Bool.and_eq_true_iff.mp hq).2) hr
theorem rI (X : Stand p l e R s m args below meth c T locs cells slots) (hx : p.tables.exec = Jvm.exec) (hby : c.code = bytes) (hZ : Z.Warmed39 s.vm) (eT : T.heap = h) {a : Addr} {k : ClassId} {z : Int32} {vs : List Value} {d : Value} (F : Arv Z h a k .int z vs d) {j : Int32} (v : Value) (hq : (decide (¬ j < 0) && decide (j < z)) = true) (hv : vs.getD j.toNatClampNeg d = v) (hd : decode bytes pc = .ok (.iaload, 1)) (hr : Steps p.tables e below (T.setTop (mkF m (pc + 1) L (v :: S))) target) : Steps p.tables e below (T.setTop (mkF m pc L (.int j :: .ref a :: S))) target := own_ialoadV X hx hZ eT F (of_decide_eq_true (Bool.and_eq_true_iff.mp hq).1) (of_decide_eq_true (Bool.and_eq_true_iff.mp hq).2) hv rfl rfl (hb hby hd) hr
theorem rJ (X : Stand p l e R s m args below meth c T locs cells slots) (hx : p.tables.exec = Jvm.exec) (hby : c.code = bytes) (hZ : Z.Warmed39 s.vm) (eT : T.heap = h) {a : Addr} {k : ClassId} {z : Int32} {vs : List Value} {d : Value} (F : Arv Z h a k .long z vs d) {j : Int32} (v : Value) (hq : (decide (¬ j < 0) && decide (j < z)) = true) (hv : vs.getD j.toNatClampNeg d = v) (hd : decode bytes pc = .ok (.laload, 1)) (hr : Steps p.tables e below (T.setTop (mkF m (pc + 1) L (v :: S))) target) : Steps p.tables e below (T.setTop (mkF m pc L (.int j :: .ref a :: S))) target := own_laloadV X hx hZ eT F (of_decide_eq_true (Bool.and_eq_true_iff.mp hq).1) (of_decide_eq_true (Bool.and_eq_true_iff.mp hq).2) hv rfl rfl (hb hby hd) hr
theorem rB (X : Stand p l e R s m args below meth c T locs cells slots) (hx : p.tables.exec = Jvm.exec) (hby : c.code = bytes) (hZ : Z.Warmed39 s.vm) (eT : T.heap = h) {a : Addr} {k : ClassId} {z : Int32} {vs : List Value} {d : Value} (F : Arv Z h a k .byte z vs d) {j : Int32} (v : Value) (hq : (decide (¬ j < 0) && decide (j < z)) = true) (hv : vs.getD j.toNatClampNeg d = v) (hd : decode bytes pc = .ok (.baload, 1)) (hr : Steps p.tables e below (T.setTop (mkF m (pc + 1) L (v :: S))) target) : Steps p.tables e below (T.setTop (mkF m pc L (.int j :: .ref a :: S))) target := own_baloadV X hx hZ eT F (of_decide_eq_true (Bool.and_eq_true_iff.mp hq).1) (of_decide_eq_true (Bool.and_eq_true_iff.mp hq).2) hv rfl rfl (hb hby hd) hr
theorem rZ (X : Stand p l e R s m args below meth c T locs cells slots) (hx : p.tables.exec = Jvm.exec) (hby : c.code = bytes) (hZ : Z.Warmed39 s.vm) (eT : T.heap = h) {a : Addr} {k : ClassId} {z : Int32} {vs : List Value} {d : Value} (F : Arv Z h a k .boolean z vs d) {j : Int32} (v : Value) (hq : (decide (¬ j < 0) && decide (j < z)) = true) (hv : vs.getD j.toNatClampNeg d = v) (hd : decode bytes pc = .ok (.baload, 1)) (hr : Steps p.tables e below (T.setTop (mkF m (pc + 1) L (v :: S))) target) : Steps p.tables e below (T.setTop (mkF m pc L (.int j :: .ref a :: S))) target := own_zaloadV X hx hZ eT F (of_decide_eq_true (Bool.and_eq_true_iff.mp hq).1) (of_decide_eq_true (Bool.and_eq_true_iff.mp hq).2) hv rfl rfl (hb hby hd) hr
theorem rL (X : Stand p l e R s m args below meth c T locs cells slots) (hx : p.tables.exec = Jvm.exec) (hby : c.code = bytes) (hZ : Z.Warmed39 s.vm) (eT : T.heap = h) {a : Addr} {k : ClassId} {ty : FieldType} {z : Int32} {vs : List Value} {d : Value} (F : Arv Z h a k ty z vs d) (hd : decode bytes pc = .ok (.arraylength, 1)) (hr : Steps p.tables e below (T.setTop (mkF m (pc + 1) L (.int z :: S))) target) : Steps p.tables e below (T.setTop (mkF m pc L (.ref a :: S))) target := own_lenV X hx hZ eT F rfl rfl (hb hby hd) hr
theorem gG (X : Stand p l e R s m args below meth c T locs cells slots) (hx : p.tables.exec = Jvm.exec) (hby : c.code = bytes) (hZ : Z.Warmed39 s.vm) {own O n d : String} {index : Nat} (hown : s.vm.findClass own = some m.cls) (w : (Cond.fieldLink own index O n d).before a0 Z = true)
    (eT : T.heap = h) {a : Addr} {v : Value} (F : Fld Z h a O n d v) (hd : decode bytes pc = .ok (.getfield index, 3)) (kk : ∀ T', Stand p l e R s m args below meth c T' locs cells slots → T'.heap = h → OGl p e below Q T' (mkF m (pc + 3) L (v :: S))) : OGl p e below Q T (mkF m pc L (.ref a :: S)) :=
  own_getG X hx hZ hown w eT F rfl rfl (hb hby hd) kk
theorem wI (X : Stand p l e R s m args below meth c T locs cells slots) (hx : p.tables.exec = Jvm.exec) (hby : c.code = bytes) (hZ : Z.Warmed39 s.vm) (eT : T.heap = h) {a : Addr} {k : ClassId} {z : Int32} {vs : List Value} {d : Value} (F : Arv Z h a k .int z vs d) {j : Int32} {x : Int32} (i : Nat) (hq : (decide (¬ j < 0) && decide (j < z) && decide (j.toNatClampNeg = i)) = true) (hl : i < vs.length) (hd : decode bytes pc = .ok (.iastore, 1))
    (kk : ∀ T' h', Stand p l e R s m args below meth c T' (locs ++ [⟨a, j.toNatClampNeg⟩]) cells slots → T'.heap = h' → Wr h h' a j.toNatClampNeg (.int x) → Arv Z h' a k .int z (vs.set i (.int x)) d → OGl p e below Q T' (mkF m (pc + 1) L S)) : OGl p e below Q T (mkF m pc L (.int x :: .int j :: .ref a :: S)) := by
  have h1 := Bool.and_eq_true_iff.mp hq
  have h2 := Bool.and_eq_true_iff.mp h1.1
  exact own_stIV X hx hZ eT F (of_decide_eq_true h2.1) (of_decide_eq_true h2.2) i (of_decide_eq_true h1.2) hl rfl rfl (hb hby hd) kk
theorem wJ (X : Stand p l e R s m args below meth c T locs cells slots) (hx : p.tables.exec = Jvm.exec) (hby : c.code = bytes) (hZ : Z.Warmed39 s.vm) (eT : T.heap = h) {a : Addr} {k : ClassId} {z : Int32} {vs : List Value} {d : Value} (F : Arv Z h a k .long z vs d) {j : Int32} {x : Int64} (i : Nat) (hq : (decide (¬ j < 0) && decide (j < z) && decide (j.toNatClampNeg = i)) = true) (hl : i < vs.length) (hd : decode bytes pc = .ok (.lastore, 1))
    (kk : ∀ T' h', Stand p l e R s m args below meth c T' (locs ++ [⟨a, j.toNatClampNeg⟩]) cells slots → T'.heap = h' → Wr h h' a j.toNatClampNeg (.long x) → Arv Z h' a k .long z (vs.set i (.long x)) d → OGl p e below Q T' (mkF m (pc + 1) L S)) : OGl p e below Q T (mkF m pc L (.long x :: .int j :: .ref a :: S)) := by
  have h1 := Bool.and_eq_true_iff.mp hq
  have h2 := Bool.and_eq_true_iff.mp h1.1
  exact own_stJV X hx hZ eT F (of_decide_eq_true h2.1) (of_decide_eq_true h2.2) i (of_decide_eq_true h1.2) hl rfl rfl (hb hby hd) kk
theorem wB (X : Stand p l e R s m args below meth c T locs cells slots) (hx : p.tables.exec = Jvm.exec) (hby : c.code = bytes) (hZ : Z.Warmed39 s.vm) (eT : T.heap = h) {a : Addr} {k : ClassId} {z : Int32} {vs : List Value} {d : Value} (F : Arv Z h a k .byte z vs d) {j : Int32} {x : Int32} (i : Nat) (hq : (decide (¬ j < 0) && decide (j < z) && decide (j.toNatClampNeg = i)) = true) (hl : i < vs.length) (hd : decode bytes pc = .ok (.bastore, 1))
    (kk : ∀ T' h', Stand p l e R s m args below meth c T' (locs ++ [⟨a, j.toNatClampNeg⟩]) cells slots → T'.heap = h' → Wr h h' a j.toNatClampNeg (.int (nar .byte x)) → Arv Z h' a k .byte z (vs.set i (.int (nar .byte x))) d → OGl p e below Q T' (mkF m (pc + 1) L S)) : OGl p e below Q T (mkF m pc L (.int x :: .int j :: .ref a :: S)) := by
  have h1 := Bool.and_eq_true_iff.mp hq
  have h2 := Bool.and_eq_true_iff.mp h1.1
  exact own_stBV X hx hZ eT F (of_decide_eq_true h2.1) (of_decide_eq_true h2.2) i (of_decide_eq_true h1.2) hl rfl rfl (hb hby hd) kk
theorem wZ (X : Stand p l e R s m args below meth c T locs cells slots) (hx : p.tables.exec = Jvm.exec) (hby : c.code = bytes) (hZ : Z.Warmed39 s.vm) (eT : T.heap = h) {a : Addr} {k : ClassId} {z : Int32} {vs : List Value} {d : Value} (F : Arv Z h a k .boolean z vs d) {j : Int32} {x : Int32} (i : Nat) (hq : (decide (¬ j < 0) && decide (j < z) && decide (j.toNatClampNeg = i)) = true) (hl : i < vs.length) (hd : decode bytes pc = .ok (.bastore, 1))
    (kk : ∀ T' h', Stand p l e R s m args below meth c T' (locs ++ [⟨a, j.toNatClampNeg⟩]) cells slots → T'.heap = h' → Wr h h' a j.toNatClampNeg (.int (nar .boolean x)) → Arv Z h' a k .boolean z (vs.set i (.int (nar .boolean x))) d → OGl p e below Q T' (mkF m (pc + 1) L S)) : OGl p e below Q T (mkF m pc L (.int x :: .int j :: .ref a :: S)) := by
  have h1 := Bool.and_eq_true_iff.mp hq
  have h2 := Bool.and_eq_true_iff.mp h1.1
  exact own_stZV X hx hZ eT F (of_decide_eq_true h2.1) (of_decide_eq_true h2.2) i (of_decide_eq_true h1.2) hl rfl rfl (hb hby hd) kk
end OwnShort
theorem gO {p : Program} {e : Env} {below : List Frame} {Q : Outcome → State → Prop} {T T' : State} {g g' : JFrame} (h : ∀ t, Steps p.tables e below (T'.setTop g') t → Steps p.tables e below (T.setTop g) t) (k : OGl p e below Q T' g') : OGl p e below Q T g := OGl.go h k
theorem own_irr {α : Type} [LT α] [Std.Irrefl (α := α) (· < ·)] (x : α) : ¬ x < x := Std.Irrefl.irrefl x
theorem w0 {Z : State} {a0 : Array Value} (hw : ∀ d ∈ tables_1, d.before a0 Z = true) : (Jvm.Cond.constantLong "com/example/nanjing/nanjing/plan/MinCutInCutPinLaw" (7 : Nat) (281474976710655 : Int64)).before a0 Z = true := hw _ (List.mem_of_getElem? (i := 0) rfl)
theorem w1 {Z : State} {a0 : Array Value} (hw : ∀ d ∈ tables_1, d.before a0 Z = true) : (Jvm.Cond.classLink "com/example/nanjing/nanjing/plan/MinCutInCutPinLaw" (9 : Nat) "com/example/nanjing/nanjing/plan/MinCut").before a0 Z = true := hw _ (List.mem_of_getElem? (i := 1) rfl)
theorem w2 {Z : State} {a0 : Array Value} (hw : ∀ d ∈ tables_1, d.before a0 Z = true) : (Jvm.Cond.instantiable "com/example/nanjing/nanjing/plan/MinCut" (7 : Nat)).before a0 Z = true := hw _ (List.mem_of_getElem? (i := 2) rfl)
theorem w3 {Z : State} {a0 : Array Value} (hw : ∀ d ∈ tables_1, d.before a0 Z = true) : (Jvm.Cond.initialized "com/example/nanjing/nanjing/plan/MinCut").before a0 Z = true := hw _ (List.mem_of_getElem? (i := 3) rfl)
theorem w4 {Z : State} {a0 : Array Value} (hw : ∀ d ∈ tables_1, d.before a0 Z = true) : (Jvm.Cond.methodLink "com/example/nanjing/nanjing/plan/MinCutInCutPinLaw" (11 : Nat) ({ cls := "com/example/nanjing/nanjing/plan/MinCut", name := "<init>", desc := "()V" } : Jvm.MethodName)).before a0 Z = true := hw _ (List.mem_of_getElem? (i := 4) rfl)
theorem w5 {Z : State} {a0 : Array Value} (hw : ∀ d ∈ tables_1, d.before a0 Z = true) : (Jvm.Cond.instanceMethod ({ cls := "com/example/nanjing/nanjing/plan/MinCut", name := "<init>", desc := "()V" } : Jvm.MethodName)).before a0 Z = true := hw _ (List.mem_of_getElem? (i := 5) rfl)
theorem w6 {Z : State} {a0 : Array Value} (hw : ∀ d ∈ tables_1, d.before a0 Z = true) : (Jvm.Cond.code ({ cls := "com/example/nanjing/nanjing/plan/MinCut", name := "<init>", desc := "()V" } : Jvm.MethodName) prog_49_method_1_code (1 : Nat) (Option.none : Option Jvm.ClassFile.FieldType)).before a0 Z = true := hw _ (List.mem_of_getElem? (i := 6) rfl)
theorem w7 {Z : State} {a0 : Array Value} (hw : ∀ d ∈ tables_1, d.before a0 Z = true) : (Jvm.Cond.methodLink "com/example/nanjing/nanjing/plan/MinCut" (3 : Nat) ({ cls := "java/lang/Object", name := "<init>", desc := "()V" } : Jvm.MethodName)).before a0 Z = true := hw _ (List.mem_of_getElem? (i := 7) rfl)
theorem w8 {Z : State} {a0 : Array Value} (hw : ∀ d ∈ tables_1, d.before a0 Z = true) : (Jvm.Cond.instanceMethod ({ cls := "java/lang/Object", name := "<init>", desc := "()V" } : Jvm.MethodName)).before a0 Z = true := hw _ (List.mem_of_getElem? (i := 8) rfl)
theorem w9 {Z : State} {a0 : Array Value} (hw : ∀ d ∈ tables_1, d.before a0 Z = true) : (Jvm.Cond.code ({ cls := "java/lang/Object", name := "<init>", desc := "()V" } : Jvm.MethodName) object_method_1_code (1 : Nat) (Option.none : Option Jvm.ClassFile.FieldType)).before a0 Z = true := hw _ (List.mem_of_getElem? (i := 9) rfl)
theorem w10 {Z : State} {a0 : Array Value} (hw : ∀ d ∈ tables_1, d.before a0 Z = true) : (Jvm.Cond.arrayClass Jvm.ClassFile.FieldType.int).before a0 Z = true := hw _ (List.mem_of_getElem? (i := 10) rfl)
theorem w11 {Z : State} {a0 : Array Value} (hw : ∀ d ∈ tables_1, d.before a0 Z = true) : (Jvm.Cond.fieldLink "com/example/nanjing/nanjing/plan/MinCut" (9 : Nat) "com/example/nanjing/nanjing/plan/MinCut" "heads" "[I").before a0 Z = true := hw _ (List.mem_of_getElem? (i := 11) rfl)
theorem w12 {Z : State} {a0 : Array Value} (hw : ∀ d ∈ tables_1, d.before a0 Z = true) : (Jvm.Cond.lays "com/example/nanjing/nanjing/plan/MinCut" "com/example/nanjing/nanjing/plan/MinCut" "heads" "[I").before a0 Z = true := hw _ (List.mem_of_getElem? (i := 12) rfl)
theorem w13 {Z : State} {a0 : Array Value} (hw : ∀ d ∈ tables_1, d.before a0 Z = true) : (Jvm.Cond.fieldLink "com/example/nanjing/nanjing/plan/MinCut" (15 : Nat) "com/example/nanjing/nanjing/plan/MinCut" "targets" "[I").before a0 Z = true := hw _ (List.mem_of_getElem? (i := 13) rfl)
theorem w14 {Z : State} {a0 : Array Value} (hw : ∀ d ∈ tables_1, d.before a0 Z = true) : (Jvm.Cond.lays "com/example/nanjing/nanjing/plan/MinCut" "com/example/nanjing/nanjing/plan/MinCut" "targets" "[I").before a0 Z = true := hw _ (List.mem_of_getElem? (i := 14) rfl)
theorem w15 {Z : State} {a0 : Array Value} (hw : ∀ d ∈ tables_1, d.before a0 Z = true) : (Jvm.Cond.fieldLink "com/example/nanjing/nanjing/plan/MinCut" (18 : Nat) "com/example/nanjing/nanjing/plan/MinCut" "nexts" "[I").before a0 Z = true := hw _ (List.mem_of_getElem? (i := 15) rfl)
theorem w16 {Z : State} {a0 : Array Value} (hw : ∀ d ∈ tables_1, d.before a0 Z = true) : (Jvm.Cond.lays "com/example/nanjing/nanjing/plan/MinCut" "com/example/nanjing/nanjing/plan/MinCut" "nexts" "[I").before a0 Z = true := hw _ (List.mem_of_getElem? (i := 16) rfl)
theorem w17 {Z : State} {a0 : Array Value} (hw : ∀ d ∈ tables_1, d.before a0 Z = true) : (Jvm.Cond.arrayClass Jvm.ClassFile.FieldType.long).before a0 Z = true := hw _ (List.mem_of_getElem? (i := 17) rfl)
theorem w18 {Z : State} {a0 : Array Value} (hw : ∀ d ∈ tables_1, d.before a0 Z = true) : (Jvm.Cond.fieldLink "com/example/nanjing/nanjing/plan/MinCut" (21 : Nat) "com/example/nanjing/nanjing/plan/MinCut" "residues" "[J").before a0 Z = true := hw _ (List.mem_of_getElem? (i := 18) rfl)
theorem w19 {Z : State} {a0 : Array Value} (hw : ∀ d ∈ tables_1, d.before a0 Z = true) : (Jvm.Cond.lays "com/example/nanjing/nanjing/plan/MinCut" "com/example/nanjing/nanjing/plan/MinCut" "residues" "[J").before a0 Z = true := hw _ (List.mem_of_getElem? (i := 19) rfl)
theorem w20 {Z : State} {a0 : Array Value} (hw : ∀ d ∈ tables_1, d.before a0 Z = true) : (Jvm.Cond.methodLink "com/example/nanjing/nanjing/plan/MinCutInCutPinLaw" (12 : Nat) ({ cls := "com/example/nanjing/nanjing/plan/MinCut", name := "node", desc := "(J)I" } : Jvm.MethodName)).before a0 Z = true := hw _ (List.mem_of_getElem? (i := 20) rfl)
theorem w21 {Z : State} {a0 : Array Value} (hw : ∀ d ∈ tables_1, d.before a0 Z = true) : (Jvm.Cond.declares ({ cls := "com/example/nanjing/nanjing/plan/MinCut", name := "node", desc := "(J)I" } : Jvm.MethodName)).before a0 Z = true := hw _ (List.mem_of_getElem? (i := 21) rfl)
theorem w22 {Z : State} {a0 : Array Value} (hw : ∀ d ∈ tables_1, d.before a0 Z = true) : (Jvm.Cond.instanceMethod ({ cls := "com/example/nanjing/nanjing/plan/MinCut", name := "node", desc := "(J)I" } : Jvm.MethodName)).before a0 Z = true := hw _ (List.mem_of_getElem? (i := 22) rfl)
theorem w23 {Z : State} {a0 : Array Value} (hw : ∀ d ∈ tables_1, d.before a0 Z = true) : (Jvm.Cond.selects "com/example/nanjing/nanjing/plan/MinCut" ({ cls := "com/example/nanjing/nanjing/plan/MinCut", name := "node", desc := "(J)I" } : Jvm.MethodName) ({ cls := "com/example/nanjing/nanjing/plan/MinCut", name := "node", desc := "(J)I" } : Jvm.MethodName)).before a0 Z = true := hw _ (List.mem_of_getElem? (i := 23) rfl)
theorem w24 {Z : State} {a0 : Array Value} (hw : ∀ d ∈ tables_1, d.before a0 Z = true) : (Jvm.Cond.code ({ cls := "com/example/nanjing/nanjing/plan/MinCut", name := "node", desc := "(J)I" } : Jvm.MethodName) prog_49_method_2_code (4 : Nat) (Option.some Jvm.ClassFile.FieldType.int)).before a0 Z = true := hw _ (List.mem_of_getElem? (i := 24) rfl)
theorem w25 {Z : State} {a0 : Array Value} (hw : ∀ d ∈ tables_1, d.before a0 Z = true) : (Jvm.Cond.fieldLink "com/example/nanjing/nanjing/plan/MinCut" (25 : Nat) "com/example/nanjing/nanjing/plan/MinCut" "halves" "I").before a0 Z = true := hw _ (List.mem_of_getElem? (i := 25) rfl)
theorem w26 {Z : State} {a0 : Array Value} (hw : ∀ d ∈ tables_1, d.before a0 Z = true) : (Jvm.Cond.lays "com/example/nanjing/nanjing/plan/MinCut" "com/example/nanjing/nanjing/plan/MinCut" "halves" "I").before a0 Z = true := hw _ (List.mem_of_getElem? (i := 26) rfl)
theorem w27 {Z : State} {a0 : Array Value} (hw : ∀ d ∈ tables_1, d.before a0 Z = true) : (Jvm.Cond.methodLink "com/example/nanjing/nanjing/plan/MinCut" (35 : Nat) ({ cls := "com/example/nanjing/nanjing/plan/MinCut", name := "edge", desc := "(IIJ)V" } : Jvm.MethodName)).before a0 Z = true := hw _ (List.mem_of_getElem? (i := 27) rfl)
theorem w28 {Z : State} {a0 : Array Value} (hw : ∀ d ∈ tables_1, d.before a0 Z = true) : (Jvm.Cond.instanceMethod ({ cls := "com/example/nanjing/nanjing/plan/MinCut", name := "edge", desc := "(IIJ)V" } : Jvm.MethodName)).before a0 Z = true := hw _ (List.mem_of_getElem? (i := 28) rfl)
theorem w29 {Z : State} {a0 : Array Value} (hw : ∀ d ∈ tables_1, d.before a0 Z = true) : (Jvm.Cond.privateMethod ({ cls := "com/example/nanjing/nanjing/plan/MinCut", name := "edge", desc := "(IIJ)V" } : Jvm.MethodName)).before a0 Z = true := hw _ (List.mem_of_getElem? (i := 29) rfl)
theorem w30 {Z : State} {a0 : Array Value} (hw : ∀ d ∈ tables_1, d.before a0 Z = true) : (Jvm.Cond.code ({ cls := "com/example/nanjing/nanjing/plan/MinCut", name := "edge", desc := "(IIJ)V" } : Jvm.MethodName) prog_49_method_6_code (5 : Nat) (Option.none : Option Jvm.ClassFile.FieldType)).before a0 Z = true := hw _ (List.mem_of_getElem? (i := 30) rfl)
theorem w31 {Z : State} {a0 : Array Value} (hw : ∀ d ∈ tables_1, d.before a0 Z = true) : (Jvm.Cond.fieldLink "com/example/nanjing/nanjing/plan/MinCut" (45 : Nat) "com/example/nanjing/nanjing/plan/MinCut" "edges" "I").before a0 Z = true := hw _ (List.mem_of_getElem? (i := 31) rfl)
theorem w32 {Z : State} {a0 : Array Value} (hw : ∀ d ∈ tables_1, d.before a0 Z = true) : (Jvm.Cond.lays "com/example/nanjing/nanjing/plan/MinCut" "com/example/nanjing/nanjing/plan/MinCut" "edges" "I").before a0 Z = true := hw _ (List.mem_of_getElem? (i := 32) rfl)
theorem w33 {Z : State} {a0 : Array Value} (hw : ∀ d ∈ tables_1, d.before a0 Z = true) : (Jvm.Cond.methodLink "com/example/nanjing/nanjing/plan/MinCut" (61 : Nat) ({ cls := "com/example/nanjing/nanjing/plan/MinCut", name := "add", desc := "(IIJ)V" } : Jvm.MethodName)).before a0 Z = true := hw _ (List.mem_of_getElem? (i := 33) rfl)
theorem w34 {Z : State} {a0 : Array Value} (hw : ∀ d ∈ tables_1, d.before a0 Z = true) : (Jvm.Cond.instanceMethod ({ cls := "com/example/nanjing/nanjing/plan/MinCut", name := "add", desc := "(IIJ)V" } : Jvm.MethodName)).before a0 Z = true := hw _ (List.mem_of_getElem? (i := 34) rfl)
theorem w35 {Z : State} {a0 : Array Value} (hw : ∀ d ∈ tables_1, d.before a0 Z = true) : (Jvm.Cond.privateMethod ({ cls := "com/example/nanjing/nanjing/plan/MinCut", name := "add", desc := "(IIJ)V" } : Jvm.MethodName)).before a0 Z = true := hw _ (List.mem_of_getElem? (i := 35) rfl)
theorem w36 {Z : State} {a0 : Array Value} (hw : ∀ d ∈ tables_1, d.before a0 Z = true) : (Jvm.Cond.code ({ cls := "com/example/nanjing/nanjing/plan/MinCut", name := "add", desc := "(IIJ)V" } : Jvm.MethodName) prog_49_method_7_code (5 : Nat) (Option.none : Option Jvm.ClassFile.FieldType)).before a0 Z = true := hw _ (List.mem_of_getElem? (i := 36) rfl)
theorem w37 {Z : State} {a0 : Array Value} (hw : ∀ d ∈ tables_1, d.before a0 Z = true) : (Jvm.Cond.methodLink "com/example/nanjing/nanjing/plan/MinCutInCutPinLaw" (16 : Nat) ({ cls := "com/example/nanjing/nanjing/plan/MinCut", name := "arc", desc := "(II)V" } : Jvm.MethodName)).before a0 Z = true := hw _ (List.mem_of_getElem? (i := 37) rfl)
theorem w38 {Z : State} {a0 : Array Value} (hw : ∀ d ∈ tables_1, d.before a0 Z = true) : (Jvm.Cond.declares ({ cls := "com/example/nanjing/nanjing/plan/MinCut", name := "arc", desc := "(II)V" } : Jvm.MethodName)).before a0 Z = true := hw _ (List.mem_of_getElem? (i := 38) rfl)
theorem w39 {Z : State} {a0 : Array Value} (hw : ∀ d ∈ tables_1, d.before a0 Z = true) : (Jvm.Cond.instanceMethod ({ cls := "com/example/nanjing/nanjing/plan/MinCut", name := "arc", desc := "(II)V" } : Jvm.MethodName)).before a0 Z = true := hw _ (List.mem_of_getElem? (i := 39) rfl)
theorem w40 {Z : State} {a0 : Array Value} (hw : ∀ d ∈ tables_1, d.before a0 Z = true) : (Jvm.Cond.selects "com/example/nanjing/nanjing/plan/MinCut" ({ cls := "com/example/nanjing/nanjing/plan/MinCut", name := "arc", desc := "(II)V" } : Jvm.MethodName) ({ cls := "com/example/nanjing/nanjing/plan/MinCut", name := "arc", desc := "(II)V" } : Jvm.MethodName)).before a0 Z = true := hw _ (List.mem_of_getElem? (i := 40) rfl)
theorem w41 {Z : State} {a0 : Array Value} (hw : ∀ d ∈ tables_1, d.before a0 Z = true) : (Jvm.Cond.code ({ cls := "com/example/nanjing/nanjing/plan/MinCut", name := "arc", desc := "(II)V" } : Jvm.MethodName) prog_49_method_3_code (3 : Nat) (Option.none : Option Jvm.ClassFile.FieldType)).before a0 Z = true := hw _ (List.mem_of_getElem? (i := 41) rfl)
theorem w42 {Z : State} {a0 : Array Value} (hw : ∀ d ∈ tables_1, d.before a0 Z = true) : (Jvm.Cond.constantLong "com/example/nanjing/nanjing/plan/MinCut" (39 : Nat) (2305843009213693951 : Int64)).before a0 Z = true := hw _ (List.mem_of_getElem? (i := 42) rfl)
theorem w43 {Z : State} {a0 : Array Value} (hw : ∀ d ∈ tables_1, d.before a0 Z = true) : (Jvm.Cond.constantLong "com/example/nanjing/nanjing/plan/MinCutInCutPinLaw" (20 : Nat) (2305843009213693950 : Int64)).before a0 Z = true := hw _ (List.mem_of_getElem? (i := 43) rfl)
theorem w44 {Z : State} {a0 : Array Value} (hw : ∀ d ∈ tables_1, d.before a0 Z = true) : (Jvm.Cond.methodLink "com/example/nanjing/nanjing/plan/MinCutInCutPinLaw" (22 : Nat) ({ cls := "com/example/nanjing/nanjing/plan/MinCut", name := "cut", desc := "(IIJ)J" } : Jvm.MethodName)).before a0 Z = true := hw _ (List.mem_of_getElem? (i := 44) rfl)
theorem w45 {Z : State} {a0 : Array Value} (hw : ∀ d ∈ tables_1, d.before a0 Z = true) : (Jvm.Cond.declares ({ cls := "com/example/nanjing/nanjing/plan/MinCut", name := "cut", desc := "(IIJ)J" } : Jvm.MethodName)).before a0 Z = true := hw _ (List.mem_of_getElem? (i := 45) rfl)
theorem w46 {Z : State} {a0 : Array Value} (hw : ∀ d ∈ tables_1, d.before a0 Z = true) : (Jvm.Cond.instanceMethod ({ cls := "com/example/nanjing/nanjing/plan/MinCut", name := "cut", desc := "(IIJ)J" } : Jvm.MethodName)).before a0 Z = true := hw _ (List.mem_of_getElem? (i := 46) rfl)
theorem w47 {Z : State} {a0 : Array Value} (hw : ∀ d ∈ tables_1, d.before a0 Z = true) : (Jvm.Cond.selects "com/example/nanjing/nanjing/plan/MinCut" ({ cls := "com/example/nanjing/nanjing/plan/MinCut", name := "cut", desc := "(IIJ)J" } : Jvm.MethodName) ({ cls := "com/example/nanjing/nanjing/plan/MinCut", name := "cut", desc := "(IIJ)J" } : Jvm.MethodName)).before a0 Z = true := hw _ (List.mem_of_getElem? (i := 47) rfl)
theorem w48 {Z : State} {a0 : Array Value} (hw : ∀ d ∈ tables_1, d.before a0 Z = true) : (Jvm.Cond.code ({ cls := "com/example/nanjing/nanjing/plan/MinCut", name := "cut", desc := "(IIJ)J" } : Jvm.MethodName) prog_49_method_4_code (15 : Nat) (Option.some Jvm.ClassFile.FieldType.long)).before a0 Z = true := hw _ (List.mem_of_getElem? (i := 48) rfl)
theorem w49 {Z : State} {a0 : Array Value} (hw : ∀ d ∈ tables_1, d.before a0 Z = true) : (Jvm.Cond.methodLink "com/example/nanjing/nanjing/plan/MinCut" (41 : Nat) ({ cls := "java/util/Arrays", name := "fill", desc := "([II)V" } : Jvm.MethodName)).before a0 Z = true := hw _ (List.mem_of_getElem? (i := 49) rfl)
theorem w50 {Z : State} {a0 : Array Value} (hw : ∀ d ∈ tables_1, d.before a0 Z = true) : (Jvm.Cond.static ({ cls := "java/util/Arrays", name := "fill", desc := "([II)V" } : Jvm.MethodName)).before a0 Z = true := hw _ (List.mem_of_getElem? (i := 50) rfl)
theorem w51 {Z : State} {a0 : Array Value} (hw : ∀ d ∈ tables_1, d.before a0 Z = true) : (Jvm.Cond.initialized "java/util/Arrays").before a0 Z = true := hw _ (List.mem_of_getElem? (i := 51) rfl)
theorem w52 {Z : State} {a0 : Array Value} (hw : ∀ d ∈ tables_1, d.before a0 Z = true) : (Jvm.Cond.code ({ cls := "java/util/Arrays", name := "fill", desc := "([II)V" } : Jvm.MethodName) jdk_65_method_103_code (4 : Nat) (Option.none : Option Jvm.ClassFile.FieldType)).before a0 Z = true := hw _ (List.mem_of_getElem? (i := 52) rfl)
theorem w53 {Z : State} {a0 : Array Value} (hw : ∀ d ∈ tables_1, d.before a0 Z = true) : (Jvm.Cond.methodLink "com/example/nanjing/nanjing/plan/MinCut" (52 : Nat) ({ cls := "java/lang/Math", name := "min", desc := "(JJ)J" } : Jvm.MethodName)).before a0 Z = true := hw _ (List.mem_of_getElem? (i := 53) rfl)
theorem w54 {Z : State} {a0 : Array Value} (hw : ∀ d ∈ tables_1, d.before a0 Z = true) : (Jvm.Cond.static ({ cls := "java/lang/Math", name := "min", desc := "(JJ)J" } : Jvm.MethodName)).before a0 Z = true := hw _ (List.mem_of_getElem? (i := 54) rfl)
theorem w55 {Z : State} {a0 : Array Value} (hw : ∀ d ∈ tables_1, d.before a0 Z = true) : (Jvm.Cond.initialized "java/lang/Math").before a0 Z = true := hw _ (List.mem_of_getElem? (i := 55) rfl)
theorem w56 {Z : State} {a0 : Array Value} (hw : ∀ d ∈ tables_1, d.before a0 Z = true) : (Jvm.Cond.code ({ cls := "java/lang/Math", name := "min", desc := "(JJ)J" } : Jvm.MethodName) jdk_29_method_70_code (4 : Nat) (Option.some Jvm.ClassFile.FieldType.long)).before a0 Z = true := hw _ (List.mem_of_getElem? (i := 56) rfl)
theorem w57 {Z : State} {a0 : Array Value} (hw : ∀ d ∈ tables_1, d.before a0 Z = true) : (Jvm.Cond.arrayClass Jvm.ClassFile.FieldType.boolean).before a0 Z = true := hw _ (List.mem_of_getElem? (i := 57) rfl)
theorem w58 {Z : State} {a0 : Array Value} (hw : ∀ d ∈ tables_1, d.before a0 Z = true) : (Jvm.Cond.fieldLink "com/example/nanjing/nanjing/plan/MinCut" (48 : Nat) "com/example/nanjing/nanjing/plan/MinCut" "sourceSide" "[Z").before a0 Z = true := hw _ (List.mem_of_getElem? (i := 58) rfl)
theorem w59 {Z : State} {a0 : Array Value} (hw : ∀ d ∈ tables_1, d.before a0 Z = true) : (Jvm.Cond.lays "com/example/nanjing/nanjing/plan/MinCut" "com/example/nanjing/nanjing/plan/MinCut" "sourceSide" "[Z").before a0 Z = true := hw _ (List.mem_of_getElem? (i := 59) rfl)
theorem w60 {Z : State} {a0 : Array Value} (hw : ∀ d ∈ tables_1, d.before a0 Z = true) : (Jvm.Cond.methodLink "com/example/nanjing/nanjing/plan/MinCutInCutPinLaw" (32 : Nat) ({ cls := "com/example/nanjing/nanjing/plan/MinCut", name := "inCut", desc := "(I)Z" } : Jvm.MethodName)).before a0 Z = true := hw _ (List.mem_of_getElem? (i := 60) rfl)
theorem w61 {Z : State} {a0 : Array Value} (hw : ∀ d ∈ tables_1, d.before a0 Z = true) : (Jvm.Cond.declares ({ cls := "com/example/nanjing/nanjing/plan/MinCut", name := "inCut", desc := "(I)Z" } : Jvm.MethodName)).before a0 Z = true := hw _ (List.mem_of_getElem? (i := 61) rfl)
theorem w62 {Z : State} {a0 : Array Value} (hw : ∀ d ∈ tables_1, d.before a0 Z = true) : (Jvm.Cond.instanceMethod ({ cls := "com/example/nanjing/nanjing/plan/MinCut", name := "inCut", desc := "(I)Z" } : Jvm.MethodName)).before a0 Z = true := hw _ (List.mem_of_getElem? (i := 62) rfl)
theorem w63 {Z : State} {a0 : Array Value} (hw : ∀ d ∈ tables_1, d.before a0 Z = true) : (Jvm.Cond.selects "com/example/nanjing/nanjing/plan/MinCut" ({ cls := "com/example/nanjing/nanjing/plan/MinCut", name := "inCut", desc := "(I)Z" } : Jvm.MethodName) ({ cls := "com/example/nanjing/nanjing/plan/MinCut", name := "inCut", desc := "(I)Z" } : Jvm.MethodName)).before a0 Z = true := hw _ (List.mem_of_getElem? (i := 63) rfl)
theorem w64 {Z : State} {a0 : Array Value} (hw : ∀ d ∈ tables_1, d.before a0 Z = true) : (Jvm.Cond.code ({ cls := "com/example/nanjing/nanjing/plan/MinCut", name := "inCut", desc := "(I)Z" } : Jvm.MethodName) prog_49_method_5_code (2 : Nat) (Option.some Jvm.ClassFile.FieldType.boolean)).before a0 Z = true := hw _ (List.mem_of_getElem? (i := 64) rfl)
theorem w65 {Z : State} {a0 : Array Value} (hw : ∀ d ∈ tables_1, d.before a0 Z = true) : (Jvm.Cond.methodLink "com/example/nanjing/nanjing/plan/MinCutInCutPinLaw" (26 : Nat) ({ cls := "java/lang/Math", name := "min", desc := "(JJ)J" } : Jvm.MethodName)).before a0 Z = true := hw _ (List.mem_of_getElem? (i := 65) rfl)
theorem sn14_12 {Z : State} {a0 : Array Value} (hw : ∀ d ∈ tables_1, d.before a0 Z = true) : Jvm.RoadKit.slotOf Z "com/example/nanjing/nanjing/plan/MinCut" "targets" "[I" ≠ Jvm.RoadKit.slotOf Z "com/example/nanjing/nanjing/plan/MinCut" "heads" "[I" := slot_ne (Or.inl (w14 hw)) (Or.inl (w12 hw)) (by decide) (t := (.array .int)) (t' := (.array .int)) (by decide) (by decide)
theorem sn16_12 {Z : State} {a0 : Array Value} (hw : ∀ d ∈ tables_1, d.before a0 Z = true) : Jvm.RoadKit.slotOf Z "com/example/nanjing/nanjing/plan/MinCut" "nexts" "[I" ≠ Jvm.RoadKit.slotOf Z "com/example/nanjing/nanjing/plan/MinCut" "heads" "[I" := slot_ne (Or.inl (w16 hw)) (Or.inl (w12 hw)) (by decide) (t := (.array .int)) (t' := (.array .int)) (by decide) (by decide)
theorem sn16_14 {Z : State} {a0 : Array Value} (hw : ∀ d ∈ tables_1, d.before a0 Z = true) : Jvm.RoadKit.slotOf Z "com/example/nanjing/nanjing/plan/MinCut" "nexts" "[I" ≠ Jvm.RoadKit.slotOf Z "com/example/nanjing/nanjing/plan/MinCut" "targets" "[I" := slot_ne (Or.inl (w16 hw)) (Or.inl (w14 hw)) (by decide) (t := (.array .int)) (t' := (.array .int)) (by decide) (by decide)
theorem sn19_12 {Z : State} {a0 : Array Value} (hw : ∀ d ∈ tables_1, d.before a0 Z = true) : Jvm.RoadKit.slotOf Z "com/example/nanjing/nanjing/plan/MinCut" "residues" "[J" ≠ Jvm.RoadKit.slotOf Z "com/example/nanjing/nanjing/plan/MinCut" "heads" "[I" := slot_ne (Or.inl (w19 hw)) (Or.inl (w12 hw)) (by decide) (t := (.array .long)) (t' := (.array .int)) (by decide) (by decide)
theorem sn19_14 {Z : State} {a0 : Array Value} (hw : ∀ d ∈ tables_1, d.before a0 Z = true) : Jvm.RoadKit.slotOf Z "com/example/nanjing/nanjing/plan/MinCut" "residues" "[J" ≠ Jvm.RoadKit.slotOf Z "com/example/nanjing/nanjing/plan/MinCut" "targets" "[I" := slot_ne (Or.inl (w19 hw)) (Or.inl (w14 hw)) (by decide) (t := (.array .long)) (t' := (.array .int)) (by decide) (by decide)
theorem sn19_16 {Z : State} {a0 : Array Value} (hw : ∀ d ∈ tables_1, d.before a0 Z = true) : Jvm.RoadKit.slotOf Z "com/example/nanjing/nanjing/plan/MinCut" "residues" "[J" ≠ Jvm.RoadKit.slotOf Z "com/example/nanjing/nanjing/plan/MinCut" "nexts" "[I" := slot_ne (Or.inl (w19 hw)) (Or.inl (w16 hw)) (by decide) (t := (.array .long)) (t' := (.array .int)) (by decide) (by decide)
theorem sn32_12 {Z : State} {a0 : Array Value} (hw : ∀ d ∈ tables_1, d.before a0 Z = true) : Jvm.RoadKit.slotOf Z "com/example/nanjing/nanjing/plan/MinCut" "edges" "I" ≠ Jvm.RoadKit.slotOf Z "com/example/nanjing/nanjing/plan/MinCut" "heads" "[I" := slot_ne (Or.inl (w32 hw)) (Or.inl (w12 hw)) (by decide) (t := .int) (t' := (.array .int)) (by decide) (by decide)
theorem sn32_14 {Z : State} {a0 : Array Value} (hw : ∀ d ∈ tables_1, d.before a0 Z = true) : Jvm.RoadKit.slotOf Z "com/example/nanjing/nanjing/plan/MinCut" "edges" "I" ≠ Jvm.RoadKit.slotOf Z "com/example/nanjing/nanjing/plan/MinCut" "targets" "[I" := slot_ne (Or.inl (w32 hw)) (Or.inl (w14 hw)) (by decide) (t := .int) (t' := (.array .int)) (by decide) (by decide)
theorem sn32_16 {Z : State} {a0 : Array Value} (hw : ∀ d ∈ tables_1, d.before a0 Z = true) : Jvm.RoadKit.slotOf Z "com/example/nanjing/nanjing/plan/MinCut" "edges" "I" ≠ Jvm.RoadKit.slotOf Z "com/example/nanjing/nanjing/plan/MinCut" "nexts" "[I" := slot_ne (Or.inl (w32 hw)) (Or.inl (w16 hw)) (by decide) (t := .int) (t' := (.array .int)) (by decide) (by decide)
theorem sn32_19 {Z : State} {a0 : Array Value} (hw : ∀ d ∈ tables_1, d.before a0 Z = true) : Jvm.RoadKit.slotOf Z "com/example/nanjing/nanjing/plan/MinCut" "edges" "I" ≠ Jvm.RoadKit.slotOf Z "com/example/nanjing/nanjing/plan/MinCut" "residues" "[J" := slot_ne (Or.inl (w32 hw)) (Or.inl (w19 hw)) (by decide) (t := .int) (t' := (.array .long)) (by decide) (by decide)
theorem sn26_12 {Z : State} {a0 : Array Value} (hw : ∀ d ∈ tables_1, d.before a0 Z = true) : Jvm.RoadKit.slotOf Z "com/example/nanjing/nanjing/plan/MinCut" "halves" "I" ≠ Jvm.RoadKit.slotOf Z "com/example/nanjing/nanjing/plan/MinCut" "heads" "[I" := slot_ne (Or.inl (w26 hw)) (Or.inl (w12 hw)) (by decide) (t := .int) (t' := (.array .int)) (by decide) (by decide)
theorem sn26_14 {Z : State} {a0 : Array Value} (hw : ∀ d ∈ tables_1, d.before a0 Z = true) : Jvm.RoadKit.slotOf Z "com/example/nanjing/nanjing/plan/MinCut" "halves" "I" ≠ Jvm.RoadKit.slotOf Z "com/example/nanjing/nanjing/plan/MinCut" "targets" "[I" := slot_ne (Or.inl (w26 hw)) (Or.inl (w14 hw)) (by decide) (t := .int) (t' := (.array .int)) (by decide) (by decide)
theorem sn26_16 {Z : State} {a0 : Array Value} (hw : ∀ d ∈ tables_1, d.before a0 Z = true) : Jvm.RoadKit.slotOf Z "com/example/nanjing/nanjing/plan/MinCut" "halves" "I" ≠ Jvm.RoadKit.slotOf Z "com/example/nanjing/nanjing/plan/MinCut" "nexts" "[I" := slot_ne (Or.inl (w26 hw)) (Or.inl (w16 hw)) (by decide) (t := .int) (t' := (.array .int)) (by decide) (by decide)
theorem sn26_19 {Z : State} {a0 : Array Value} (hw : ∀ d ∈ tables_1, d.before a0 Z = true) : Jvm.RoadKit.slotOf Z "com/example/nanjing/nanjing/plan/MinCut" "halves" "I" ≠ Jvm.RoadKit.slotOf Z "com/example/nanjing/nanjing/plan/MinCut" "residues" "[J" := slot_ne (Or.inl (w26 hw)) (Or.inl (w19 hw)) (by decide) (t := .int) (t' := (.array .long)) (by decide) (by decide)
theorem sn12_14 {Z : State} {a0 : Array Value} (hw : ∀ d ∈ tables_1, d.before a0 Z = true) : Jvm.RoadKit.slotOf Z "com/example/nanjing/nanjing/plan/MinCut" "heads" "[I" ≠ Jvm.RoadKit.slotOf Z "com/example/nanjing/nanjing/plan/MinCut" "targets" "[I" := slot_ne (Or.inl (w12 hw)) (Or.inl (w14 hw)) (by decide) (t := (.array .int)) (t' := (.array .int)) (by decide) (by decide)
theorem sn12_16 {Z : State} {a0 : Array Value} (hw : ∀ d ∈ tables_1, d.before a0 Z = true) : Jvm.RoadKit.slotOf Z "com/example/nanjing/nanjing/plan/MinCut" "heads" "[I" ≠ Jvm.RoadKit.slotOf Z "com/example/nanjing/nanjing/plan/MinCut" "nexts" "[I" := slot_ne (Or.inl (w12 hw)) (Or.inl (w16 hw)) (by decide) (t := (.array .int)) (t' := (.array .int)) (by decide) (by decide)
theorem sn12_19 {Z : State} {a0 : Array Value} (hw : ∀ d ∈ tables_1, d.before a0 Z = true) : Jvm.RoadKit.slotOf Z "com/example/nanjing/nanjing/plan/MinCut" "heads" "[I" ≠ Jvm.RoadKit.slotOf Z "com/example/nanjing/nanjing/plan/MinCut" "residues" "[J" := slot_ne (Or.inl (w12 hw)) (Or.inl (w19 hw)) (by decide) (t := (.array .int)) (t' := (.array .long)) (by decide) (by decide)
theorem sn16_19 {Z : State} {a0 : Array Value} (hw : ∀ d ∈ tables_1, d.before a0 Z = true) : Jvm.RoadKit.slotOf Z "com/example/nanjing/nanjing/plan/MinCut" "nexts" "[I" ≠ Jvm.RoadKit.slotOf Z "com/example/nanjing/nanjing/plan/MinCut" "residues" "[J" := slot_ne (Or.inl (w16 hw)) (Or.inl (w19 hw)) (by decide) (t := (.array .int)) (t' := (.array .long)) (by decide) (by decide)
theorem sn59_12 {Z : State} {a0 : Array Value} (hw : ∀ d ∈ tables_1, d.before a0 Z = true) : Jvm.RoadKit.slotOf Z "com/example/nanjing/nanjing/plan/MinCut" "sourceSide" "[Z" ≠ Jvm.RoadKit.slotOf Z "com/example/nanjing/nanjing/plan/MinCut" "heads" "[I" := slot_ne (Or.inl (w59 hw)) (Or.inl (w12 hw)) (by decide) (t := (.array .boolean)) (t' := (.array .int)) (by decide) (by decide)
theorem sn59_14 {Z : State} {a0 : Array Value} (hw : ∀ d ∈ tables_1, d.before a0 Z = true) : Jvm.RoadKit.slotOf Z "com/example/nanjing/nanjing/plan/MinCut" "sourceSide" "[Z" ≠ Jvm.RoadKit.slotOf Z "com/example/nanjing/nanjing/plan/MinCut" "targets" "[I" := slot_ne (Or.inl (w59 hw)) (Or.inl (w14 hw)) (by decide) (t := (.array .boolean)) (t' := (.array .int)) (by decide) (by decide)
theorem sn59_16 {Z : State} {a0 : Array Value} (hw : ∀ d ∈ tables_1, d.before a0 Z = true) : Jvm.RoadKit.slotOf Z "com/example/nanjing/nanjing/plan/MinCut" "sourceSide" "[Z" ≠ Jvm.RoadKit.slotOf Z "com/example/nanjing/nanjing/plan/MinCut" "nexts" "[I" := slot_ne (Or.inl (w59 hw)) (Or.inl (w16 hw)) (by decide) (t := (.array .boolean)) (t' := (.array .int)) (by decide) (by decide)
theorem sn59_19 {Z : State} {a0 : Array Value} (hw : ∀ d ∈ tables_1, d.before a0 Z = true) : Jvm.RoadKit.slotOf Z "com/example/nanjing/nanjing/plan/MinCut" "sourceSide" "[Z" ≠ Jvm.RoadKit.slotOf Z "com/example/nanjing/nanjing/plan/MinCut" "residues" "[J" := slot_ne (Or.inl (w59 hw)) (Or.inl (w19 hw)) (by decide) (t := (.array .boolean)) (t' := (.array .long)) (by decide) (by decide)
theorem sn14_16 {Z : State} {a0 : Array Value} (hw : ∀ d ∈ tables_1, d.before a0 Z = true) : Jvm.RoadKit.slotOf Z "com/example/nanjing/nanjing/plan/MinCut" "targets" "[I" ≠ Jvm.RoadKit.slotOf Z "com/example/nanjing/nanjing/plan/MinCut" "nexts" "[I" := slot_ne (Or.inl (w14 hw)) (Or.inl (w16 hw)) (by decide) (t := (.array .int)) (t' := (.array .int)) (by decide) (by decide)
theorem sn14_19 {Z : State} {a0 : Array Value} (hw : ∀ d ∈ tables_1, d.before a0 Z = true) : Jvm.RoadKit.slotOf Z "com/example/nanjing/nanjing/plan/MinCut" "targets" "[I" ≠ Jvm.RoadKit.slotOf Z "com/example/nanjing/nanjing/plan/MinCut" "residues" "[J" := slot_ne (Or.inl (w14 hw)) (Or.inl (w19 hw)) (by decide) (t := (.array .int)) (t' := (.array .long)) (by decide) (by decide)
theorem sn26_32 {Z : State} {a0 : Array Value} (hw : ∀ d ∈ tables_1, d.before a0 Z = true) : Jvm.RoadKit.slotOf Z "com/example/nanjing/nanjing/plan/MinCut" "halves" "I" ≠ Jvm.RoadKit.slotOf Z "com/example/nanjing/nanjing/plan/MinCut" "edges" "I" := slot_ne (Or.inl (w26 hw)) (Or.inl (w32 hw)) (by decide) (t := .int) (t' := .int) (by decide) (by decide)
theorem sn12_32 {Z : State} {a0 : Array Value} (hw : ∀ d ∈ tables_1, d.before a0 Z = true) : Jvm.RoadKit.slotOf Z "com/example/nanjing/nanjing/plan/MinCut" "heads" "[I" ≠ Jvm.RoadKit.slotOf Z "com/example/nanjing/nanjing/plan/MinCut" "edges" "I" := slot_ne (Or.inl (w12 hw)) (Or.inl (w32 hw)) (by decide) (t := (.array .int)) (t' := .int) (by decide) (by decide)
theorem sn16_32 {Z : State} {a0 : Array Value} (hw : ∀ d ∈ tables_1, d.before a0 Z = true) : Jvm.RoadKit.slotOf Z "com/example/nanjing/nanjing/plan/MinCut" "nexts" "[I" ≠ Jvm.RoadKit.slotOf Z "com/example/nanjing/nanjing/plan/MinCut" "edges" "I" := slot_ne (Or.inl (w16 hw)) (Or.inl (w32 hw)) (by decide) (t := (.array .int)) (t' := .int) (by decide) (by decide)
theorem sn19_32 {Z : State} {a0 : Array Value} (hw : ∀ d ∈ tables_1, d.before a0 Z = true) : Jvm.RoadKit.slotOf Z "com/example/nanjing/nanjing/plan/MinCut" "residues" "[J" ≠ Jvm.RoadKit.slotOf Z "com/example/nanjing/nanjing/plan/MinCut" "edges" "I" := slot_ne (Or.inl (w19 hw)) (Or.inl (w32 hw)) (by decide) (t := (.array .long)) (t' := .int) (by decide) (by decide)
theorem sn59_32 {Z : State} {a0 : Array Value} (hw : ∀ d ∈ tables_1, d.before a0 Z = true) : Jvm.RoadKit.slotOf Z "com/example/nanjing/nanjing/plan/MinCut" "sourceSide" "[Z" ≠ Jvm.RoadKit.slotOf Z "com/example/nanjing/nanjing/plan/MinCut" "edges" "I" := slot_ne (Or.inl (w59 hw)) (Or.inl (w32 hw)) (by decide) (t := (.array .boolean)) (t' := .int) (by decide) (by decide)
theorem sn14_32 {Z : State} {a0 : Array Value} (hw : ∀ d ∈ tables_1, d.before a0 Z = true) : Jvm.RoadKit.slotOf Z "com/example/nanjing/nanjing/plan/MinCut" "targets" "[I" ≠ Jvm.RoadKit.slotOf Z "com/example/nanjing/nanjing/plan/MinCut" "edges" "I" := slot_ne (Or.inl (w14 hw)) (Or.inl (w32 hw)) (by decide) (t := (.array .int)) (t' := .int) (by decide) (by decide)
theorem sn12_26 {Z : State} {a0 : Array Value} (hw : ∀ d ∈ tables_1, d.before a0 Z = true) : Jvm.RoadKit.slotOf Z "com/example/nanjing/nanjing/plan/MinCut" "heads" "[I" ≠ Jvm.RoadKit.slotOf Z "com/example/nanjing/nanjing/plan/MinCut" "halves" "I" := slot_ne (Or.inl (w12 hw)) (Or.inl (w26 hw)) (by decide) (t := (.array .int)) (t' := .int) (by decide) (by decide)
theorem sn32_26 {Z : State} {a0 : Array Value} (hw : ∀ d ∈ tables_1, d.before a0 Z = true) : Jvm.RoadKit.slotOf Z "com/example/nanjing/nanjing/plan/MinCut" "edges" "I" ≠ Jvm.RoadKit.slotOf Z "com/example/nanjing/nanjing/plan/MinCut" "halves" "I" := slot_ne (Or.inl (w32 hw)) (Or.inl (w26 hw)) (by decide) (t := .int) (t' := .int) (by decide) (by decide)
theorem sn14_26 {Z : State} {a0 : Array Value} (hw : ∀ d ∈ tables_1, d.before a0 Z = true) : Jvm.RoadKit.slotOf Z "com/example/nanjing/nanjing/plan/MinCut" "targets" "[I" ≠ Jvm.RoadKit.slotOf Z "com/example/nanjing/nanjing/plan/MinCut" "halves" "I" := slot_ne (Or.inl (w14 hw)) (Or.inl (w26 hw)) (by decide) (t := (.array .int)) (t' := .int) (by decide) (by decide)
theorem sn19_26 {Z : State} {a0 : Array Value} (hw : ∀ d ∈ tables_1, d.before a0 Z = true) : Jvm.RoadKit.slotOf Z "com/example/nanjing/nanjing/plan/MinCut" "residues" "[J" ≠ Jvm.RoadKit.slotOf Z "com/example/nanjing/nanjing/plan/MinCut" "halves" "I" := slot_ne (Or.inl (w19 hw)) (Or.inl (w26 hw)) (by decide) (t := (.array .long)) (t' := .int) (by decide) (by decide)
theorem sn16_26 {Z : State} {a0 : Array Value} (hw : ∀ d ∈ tables_1, d.before a0 Z = true) : Jvm.RoadKit.slotOf Z "com/example/nanjing/nanjing/plan/MinCut" "nexts" "[I" ≠ Jvm.RoadKit.slotOf Z "com/example/nanjing/nanjing/plan/MinCut" "halves" "I" := slot_ne (Or.inl (w16 hw)) (Or.inl (w26 hw)) (by decide) (t := (.array .int)) (t' := .int) (by decide) (by decide)
theorem sn59_26 {Z : State} {a0 : Array Value} (hw : ∀ d ∈ tables_1, d.before a0 Z = true) : Jvm.RoadKit.slotOf Z "com/example/nanjing/nanjing/plan/MinCut" "sourceSide" "[Z" ≠ Jvm.RoadKit.slotOf Z "com/example/nanjing/nanjing/plan/MinCut" "halves" "I" := slot_ne (Or.inl (w59 hw)) (Or.inl (w26 hw)) (by decide) (t := (.array .boolean)) (t' := .int) (by decide) (by decide)
theorem sn32_59 {Z : State} {a0 : Array Value} (hw : ∀ d ∈ tables_1, d.before a0 Z = true) : Jvm.RoadKit.slotOf Z "com/example/nanjing/nanjing/plan/MinCut" "edges" "I" ≠ Jvm.RoadKit.slotOf Z "com/example/nanjing/nanjing/plan/MinCut" "sourceSide" "[Z" := slot_ne (Or.inl (w32 hw)) (Or.inl (w59 hw)) (by decide) (t := .int) (t' := (.array .boolean)) (by decide) (by decide)
theorem sn26_59 {Z : State} {a0 : Array Value} (hw : ∀ d ∈ tables_1, d.before a0 Z = true) : Jvm.RoadKit.slotOf Z "com/example/nanjing/nanjing/plan/MinCut" "halves" "I" ≠ Jvm.RoadKit.slotOf Z "com/example/nanjing/nanjing/plan/MinCut" "sourceSide" "[Z" := slot_ne (Or.inl (w26 hw)) (Or.inl (w59 hw)) (by decide) (t := .int) (t' := (.array .boolean)) (by decide) (by decide)
theorem sn12_59 {Z : State} {a0 : Array Value} (hw : ∀ d ∈ tables_1, d.before a0 Z = true) : Jvm.RoadKit.slotOf Z "com/example/nanjing/nanjing/plan/MinCut" "heads" "[I" ≠ Jvm.RoadKit.slotOf Z "com/example/nanjing/nanjing/plan/MinCut" "sourceSide" "[Z" := slot_ne (Or.inl (w12 hw)) (Or.inl (w59 hw)) (by decide) (t := (.array .int)) (t' := (.array .boolean)) (by decide) (by decide)
theorem sn16_59 {Z : State} {a0 : Array Value} (hw : ∀ d ∈ tables_1, d.before a0 Z = true) : Jvm.RoadKit.slotOf Z "com/example/nanjing/nanjing/plan/MinCut" "nexts" "[I" ≠ Jvm.RoadKit.slotOf Z "com/example/nanjing/nanjing/plan/MinCut" "sourceSide" "[Z" := slot_ne (Or.inl (w16 hw)) (Or.inl (w59 hw)) (by decide) (t := (.array .int)) (t' := (.array .boolean)) (by decide) (by decide)
theorem sn19_59 {Z : State} {a0 : Array Value} (hw : ∀ d ∈ tables_1, d.before a0 Z = true) : Jvm.RoadKit.slotOf Z "com/example/nanjing/nanjing/plan/MinCut" "residues" "[J" ≠ Jvm.RoadKit.slotOf Z "com/example/nanjing/nanjing/plan/MinCut" "sourceSide" "[Z" := slot_ne (Or.inl (w19 hw)) (Or.inl (w59 hw)) (by decide) (t := (.array .long)) (t' := (.array .boolean)) (by decide) (by decide)
theorem sn14_59 {Z : State} {a0 : Array Value} (hw : ∀ d ∈ tables_1, d.before a0 Z = true) : Jvm.RoadKit.slotOf Z "com/example/nanjing/nanjing/plan/MinCut" "targets" "[I" ≠ Jvm.RoadKit.slotOf Z "com/example/nanjing/nanjing/plan/MinCut" "sourceSide" "[Z" := slot_ne (Or.inl (w14 hw)) (Or.inl (w59 hw)) (by decide) (t := (.array .int)) (t' := (.array .boolean)) (by decide) (by decide)
abbrev yy0 : MethodName := ⟨"com/example/nanjing/nanjing/plan/MinCut", "<init>", "()V"⟩
abbrev yy1 : MethodName := ⟨"com/example/nanjing/nanjing/plan/MinCut", "add", "(IIJ)V"⟩
abbrev yy2 : MethodName := ⟨"com/example/nanjing/nanjing/plan/MinCut", "edge", "(IIJ)V"⟩
abbrev yy3 : MethodName := ⟨"com/example/nanjing/nanjing/plan/MinCut", "node", "(J)I"⟩
abbrev yy4 : MethodName := ⟨"com/example/nanjing/nanjing/plan/MinCut", "arc", "(II)V"⟩
abbrev yy5 : MethodName := ⟨"java/util/Arrays", "fill", "([II)V"⟩
abbrev yy6 : MethodName := ⟨"java/lang/Math", "min", "(JJ)J"⟩
abbrev yy7 : MethodName := ⟨"com/example/nanjing/nanjing/plan/MinCut", "cut", "(IIJ)J"⟩
abbrev yy8 : MethodName := ⟨"com/example/nanjing/nanjing/plan/MinCut", "inCut", "(I)Z"⟩
abbrev rr0 : Room := { frames := 1, cells := 4, slots := 64, locals := 12 }
abbrev rr1 : Room := { frames := 0, cells := 0, slots := 0, locals := 0 }
abbrev rr2 : Room := { frames := 1, cells := 0, slots := 0, locals := 16 }
abbrev rr3 : Room := { frames := 2, cells := 0, slots := 0, locals := 32 }
abbrev rr4 : Room := { frames := 1, cells := 4, slots := 32, locals := 15 }
abbrev bc0 : ByteArray := prog_49_method_1_code
abbrev bc1 : ByteArray := prog_49_method_2_code
abbrev bc2 : ByteArray := prog_49_method_6_code
abbrev bc3 : ByteArray := prog_49_method_7_code
abbrev bc4 : ByteArray := prog_49_method_3_code
abbrev bc5 : ByteArray := prog_49_method_4_code
abbrev bc6 : ByteArray := jdk_65_method_103_code
abbrev bc7 : ByteArray := jdk_29_method_70_code
abbrev bc8 : ByteArray := prog_49_method_5_code
abbrev cc0 : String := "com/example/nanjing/nanjing/plan/MinCut"
theorem d1_0 : decode bc0 0 = .ok (.aload_n 0, 1) := by decide +kernel
theorem d1_1 : decode bc0 1 = .ok (.invokespecial 3, 3) := by decide +kernel
theorem d1_4 : decode bc0 4 = .ok (.aload_n 0, 1) := by decide +kernel
theorem d1_5 : decode bc0 5 = .ok (.bipush 16, 2) := by decide +kernel
theorem d1_7 : decode bc0 7 = .ok (.newarray .int, 2) := by decide +kernel
theorem d1_9 : decode bc0 9 = .ok (.putfield 9, 3) := by decide +kernel
theorem d1_12 : decode bc0 12 = .ok (.aload_n 0, 1) := by decide +kernel
theorem d1_13 : decode bc0 13 = .ok (.bipush 16, 2) := by decide +kernel
theorem d1_15 : decode bc0 15 = .ok (.newarray .int, 2) := by decide +kernel
theorem d1_17 : decode bc0 17 = .ok (.putfield 15, 3) := by decide +kernel
theorem d1_20 : decode bc0 20 = .ok (.aload_n 0, 1) := by decide +kernel
theorem d1_21 : decode bc0 21 = .ok (.bipush 16, 2) := by decide +kernel
theorem d1_23 : decode bc0 23 = .ok (.newarray .int, 2) := by decide +kernel
theorem d1_25 : decode bc0 25 = .ok (.putfield 18, 3) := by decide +kernel
theorem d1_28 : decode bc0 28 = .ok (.aload_n 0, 1) := by decide +kernel
theorem d1_29 : decode bc0 29 = .ok (.bipush 16, 2) := by decide +kernel
theorem d1_31 : decode bc0 31 = .ok (.newarray .long, 2) := by decide +kernel
theorem d1_33 : decode bc0 33 = .ok (.putfield 21, 3) := by decide +kernel
theorem d1_36 : decode bc0 36 = .ok (.return_, 1) := by decide +kernel
abbrev zi16 : List Value := [.int 0, .int 0, .int 0, .int 0, .int 0, .int 0, .int 0, .int 0, .int 0, .int 0, .int 0, .int 0, .int 0, .int 0, .int 0, .int 0]
abbrev zj16 : List Value := [.long 0, .long 0, .long 0, .long 0, .long 0, .long 0, .long 0, .long 0, .long 0, .long 0, .long 0, .long 0, .long 0, .long 0, .long 0, .long 0]
theorem ef_1 (m : MethodId) (x0 : Addr) : entryFrame m #[.ref x0] 1 = mkF m 0 #[rv x0] [] := by first | (simp [entryFrame, mkF, argsToLocals, Value.category]; done) | rfl
theorem pn_0 : plainName cc0 = true := by first | (simp [plainName, overriddenIn]; done) | decide +kernel
def Q1 (Z : State) (o0 : Addr) (h0 : Heap) (n0 : Nat) (v : Option Value) (h : Heap) (L : List Loc) : Prop := ∃ (nb0 : Addr), ∃ (nb1 : Addr), ∃ (nb2 : Addr), ∃ (nb3 : Addr), ∃ (nk0 : ClassId), ∃ (nk1 : ClassId), ∃ (nk2 : ClassId), ∃ (nk3 : ClassId), v = none ∧ Fr n0 L ∧ Keep h0 h [o0] ∧ h0.size ≤ nb0 ∧ h0.size ≤ nb1 ∧ h0.size ≤ nb2 ∧ h0.size ≤ nb3 ∧ nb0 ≠ nb1 ∧ nb0 ≠ nb2 ∧ nb0 ≠ nb3 ∧ nb1 ≠ nb2 ∧ nb1 ≠ nb3 ∧ nb2 ≠ nb3 ∧ Fld Z h o0 cc0 "edges" "I" (.int 0) ∧ Fld Z h o0 cc0 "halves" "I" (.int 0) ∧ Fld Z h o0 cc0 "heads" "[I" (.ref nb0) ∧ Fld Z h o0 cc0 "nexts" "[I" (.ref nb1) ∧ Fld Z h o0 cc0 "residues" "[J" (.ref nb2) ∧ Fld Z h o0 cc0 "sourceSide" "[Z" (.null) ∧ Fld Z h o0 cc0 "targets" "[I" (.ref nb3) ∧ Arv Z h nb0 nk0 .int 16 (zi16) (.int 0) ∧ Arv Z h nb1 nk1 .int 16 (zi16) (.int 0) ∧ Arv Z h nb2 nk2 .long 16 (zj16) (.long 0) ∧ Arv Z h nb3 nk3 .int 16 (zi16) (.int 0)
set_option maxRecDepth 65536 in
set_option maxHeartbeats 40000000 in
theorem rm1 (l : Launch) (Z : State) (a0 : Array Value) (hw : ∀ d ∈ tables_1, d.before a0 Z = true) (ws : List Jvm.Cond) (o0 : Addr) (h0 : Heap) (n0 : Nat) (Z0 : n0 ≤ h0.size) (E_o0 : Exa Z h0 o0 cc0) (F1_o0 : Fld Z h0 o0 cc0 "heads" "[I" (.null)) (F2_o0 : Fld Z h0 o0 cc0 "targets" "[I" (.null)) (F3_o0 : Fld Z h0 o0 cc0 "nexts" "[I" (.null)) (F4_o0 : Fld Z h0 o0 cc0 "residues" "[J" (.null)) (F5_o0 : Fld Z h0 o0 cc0 "halves" "I" (.int 0)) (F6_o0 : Fld Z h0 o0 cc0 "edges" "I" (.int 0)) (F7_o0 : Fld Z h0 o0 cc0 "sourceSide" "[Z" (.null)) (g_o0 : n0 ≤ o0) :
    MetFree l yy0 (head1 (Jvm.Cond.code yy0 bc0 1 none :: ws) rr0) (fun a U => a = #[.ref o0] ∧ Z.Warmed39 U.vm ∧ U.heap = h0) (fun _ _ _ _ _ => True) (fun _ U o U' => ∃ v L, o = .returned v ∧ Q1 Z o0 h0 n0 v U'.heap L ∧ FrameEnd U o U' L rr0.cells rr0.slots) := by
  refine MetFree.of_bodySF (plainFor_of_name pn_0) hisR ?_
  intro p e s m args below meth c s₁ Bd hml0 hP hK
  obtain ⟨rfl, hZ, hh⟩ := hP
  have hx := Bd.exec
  have hby := Bd.bytes
  have hml : c.maxLocals = 1 := hml0
  have hown : s.vm.findClass cc0 = some m.cls := findClass_of_methodNamed Bd.named
  have hnm := (name_of_methodNamed Bd.named Bd.method).1
  have X0 : Stand p l e rr0 s m #[.ref o0] below meth c s₁ [] 0 0 := Stand.of_body Bd
  have e0 : s₁.heap = h0 := by rw [← hh, Bd.state]; rfl
  have N0 := Fr.nil n0
  refine OGl.start (ef_1 m o0) ?_
  show OGl _ _ _ _ s₁ (mkF m 0 #[rv o0] [])
  refine gO (fun t k => kaN X0 hx hby d1_0 rfl rfl k) ?_
  show OGl _ _ _ _ s₁ (mkF m 1 #[rv o0] [.ref o0])
  obtain ⟨T11, X11, e11, st11⟩ := initO X0 hx hZ hown (w7 hw) (w8 hw) (w9 hw) e0 (g := (mkF m 1 #[rv o0] [.ref o0])) rfl (by rw [hml]; rfl) rfl (hb hby d1_1) (by decide) (W := 0) (by show 2 * 0 + _ ≤ _; exact Nat.le_of_eq rfl) (by decide)
  refine gO st11 ?_
  show OGl _ _ _ _ T11 (mkF m 4 #[rv o0] [])
  refine gO (fun t k => kaN X11 hx hby d1_4 rfl rfl (kb X11 hx hby d1_5 k)) ?_
  show OGl _ _ _ _ T11 (mkF m 7 #[rv o0] [.int 16, .ref o0])
  obtain ⟨T12, h12, k12, X12, e12, E12, A12, st12⟩ := newP (aty := .int) X11 hx hZ (w10 hw) e11 (g := (mkF m 7 #[rv o0] [.int 16, .ref o0])) rfl (hb hby d1_7) rfl (by decide) (cap := 16) (by decide) (by decide) (by decide) (by decide)
  obtain ⟨b12, gb12⟩ : ∃ z, z = h0.size := ⟨_, rfl⟩
  rw [← gb12] at A12 st12
  have sz_b12 : h0.size ≤ b12 := Nat.le_trans (Keep.refl h0 [o0]).1 (Nat.le_of_eq gb12.symm)
  have g_b12 : n0 ≤ b12 := Nat.le_trans Z0 sz_b12
  have V12 : Arv Z h12 b12 k12 .int (16 : Int32) [.int 0, .int 0, .int 0, .int 0, .int 0, .int 0, .int 0, .int 0, .int 0, .int 0, .int 0, .int 0, .int 0, .int 0, .int 0, .int 0] (.int 0) := (Arv.new A12 (by decide)).pad (pad_rep [] (.int 0) 16)
  have KK12 : Keep h0 h12 [o0] := (Keep.refl h0 [o0]).ext E12
  refine gO st12 ?_
  show OGl _ _ _ _ T12 (mkF m 9 #[rv o0] [.ref b12, .ref o0])
  have F13 := (F1_o0.ext E12)
  have F14 := (E_o0.ext E12)
  obtain ⟨T15, h15, X15, e15, W15, st15⟩ := putF X12 hx hZ hown (host := "") (Or.inl (w11 hw)) Via.refl e12 F13 F14 (Or.inl (w12 hw)) (w2 hw) (ty := (.array .int)) (by decide) rfl rfl (g := (mkF m 9 #[rv o0] [.ref b12, .ref o0])) rfl rfl (hb hby d1_9)
  refine gO st15 ?_
  have N15 := Fr.snoc X15 N0 g_o0
  have Fw15 := F13.same W15
  have KK15 := KK12.wr W15 (Or.inl (List.mem_of_getElem? (i := 0) rfl))
  show OGl _ _ _ _ T15 (mkF m 12 #[rv o0] [])
  refine gO (fun t k => kaN X15 hx hby d1_12 rfl rfl (kb X15 hx hby d1_13 k)) ?_
  show OGl _ _ _ _ T15 (mkF m 15 #[rv o0] [.int 16, .ref o0])
  obtain ⟨T16, h16, k16, X16, e16, E16, A16, st16⟩ := newP (aty := .int) X15 hx hZ (w10 hw) e15 (g := (mkF m 15 #[rv o0] [.int 16, .ref o0])) rfl (hb hby d1_15) rfl (by decide) (cap := 16) (by decide) (by decide) (by decide) (by decide)
  obtain ⟨b16, gb16⟩ : ∃ z, z = h15.size := ⟨_, rfl⟩
  rw [← gb16] at A16 st16
  have ne_o0_b12 := Nat.ne_of_lt (Nat.lt_of_lt_of_le E_o0.lt sz_b12)
  have F17 := (V12.other W15 (Ne.symm ne_o0_b12))
  have ne_b12_b16 : b12 ≠ b16 := Nat.ne_of_lt (Nat.lt_of_lt_of_eq F17.lt gb16.symm)
  have ne_o0_b16 : o0 ≠ b16 := Nat.ne_of_lt (Nat.lt_of_lt_of_eq Fw15.lt gb16.symm)
  have sz_b16 : h0.size ≤ b16 := Nat.le_trans KK15.1 (Nat.le_of_eq gb16.symm)
  have g_b16 : n0 ≤ b16 := Nat.le_trans Z0 sz_b16
  have V16 : Arv Z h16 b16 k16 .int (16 : Int32) [.int 0, .int 0, .int 0, .int 0, .int 0, .int 0, .int 0, .int 0, .int 0, .int 0, .int 0, .int 0, .int 0, .int 0, .int 0, .int 0] (.int 0) := (Arv.new A16 (by decide)).pad (pad_rep [] (.int 0) 16)
  have KK16 : Keep h0 h16 [o0] := KK15.ext E16
  refine gO st16 ?_
  show OGl _ _ _ _ T16 (mkF m 17 #[rv o0] [.ref b16, .ref o0])
  have F18 := (((F2_o0.ext E12).other W15 (Or.inr (sn14_12 hw))).ext E16)
  have F19 := ((F14.wr W15).ext E16)
  obtain ⟨T20, h20, X20, e20, W20, st20⟩ := putF X16 hx hZ hown (host := "") (Or.inl (w13 hw)) Via.refl e16 F18 F19 (Or.inl (w14 hw)) (w2 hw) (ty := (.array .int)) (by decide) rfl rfl (g := (mkF m 17 #[rv o0] [.ref b16, .ref o0])) rfl rfl (hb hby d1_17)
  refine gO st20 ?_
  have N20 := Fr.snoc X20 N15 g_o0
  have Fw20 := F18.same W20
  have KK20 := KK16.wr W20 (Or.inl (List.mem_of_getElem? (i := 0) rfl))
  show OGl _ _ _ _ T20 (mkF m 20 #[rv o0] [])
  refine gO (fun t k => kaN X20 hx hby d1_20 rfl rfl (kb X20 hx hby d1_21 k)) ?_
  show OGl _ _ _ _ T20 (mkF m 23 #[rv o0] [.int 16, .ref o0])
  obtain ⟨T21, h21, k21, X21, e21, E21, A21, st21⟩ := newP (aty := .int) X20 hx hZ (w10 hw) e20 (g := (mkF m 23 #[rv o0] [.int 16, .ref o0])) rfl (hb hby d1_23) rfl (by decide) (cap := 16) (by decide) (by decide) (by decide) (by decide)
  obtain ⟨b21, gb21⟩ : ∃ z, z = h20.size := ⟨_, rfl⟩
  rw [← gb21] at A21 st21
  have F22 := ((F17.ext E16).other W20 (Ne.symm ne_o0_b12))
  have ne_b12_b21 : b12 ≠ b21 := Nat.ne_of_lt (Nat.lt_of_lt_of_eq F22.lt gb21.symm)
  have F23 := (V16.other W20 (Ne.symm ne_o0_b16))
  have ne_b16_b21 : b16 ≠ b21 := Nat.ne_of_lt (Nat.lt_of_lt_of_eq F23.lt gb21.symm)
  have ne_o0_b21 : o0 ≠ b21 := Nat.ne_of_lt (Nat.lt_of_lt_of_eq Fw20.lt gb21.symm)
  have sz_b21 : h0.size ≤ b21 := Nat.le_trans KK20.1 (Nat.le_of_eq gb21.symm)
  have g_b21 : n0 ≤ b21 := Nat.le_trans Z0 sz_b21
  have V21 : Arv Z h21 b21 k21 .int (16 : Int32) [.int 0, .int 0, .int 0, .int 0, .int 0, .int 0, .int 0, .int 0, .int 0, .int 0, .int 0, .int 0, .int 0, .int 0, .int 0, .int 0] (.int 0) := (Arv.new A21 (by decide)).pad (pad_rep [] (.int 0) 16)
  have KK21 : Keep h0 h21 [o0] := KK20.ext E21
  refine gO st21 ?_
  show OGl _ _ _ _ T21 (mkF m 25 #[rv o0] [.ref b21, .ref o0])
  have F24 := (((((F3_o0.ext E12).other W15 (Or.inr (sn16_12 hw))).ext E16).other W20 (Or.inr (sn16_14 hw))).ext E21)
  have F25 := ((F19.wr W20).ext E21)
  obtain ⟨T26, h26, X26, e26, W26, st26⟩ := putF X21 hx hZ hown (host := "") (Or.inl (w15 hw)) Via.refl e21 F24 F25 (Or.inl (w16 hw)) (w2 hw) (ty := (.array .int)) (by decide) rfl rfl (g := (mkF m 25 #[rv o0] [.ref b21, .ref o0])) rfl rfl (hb hby d1_25)
  refine gO st26 ?_
  have N26 := Fr.snoc X26 N20 g_o0
  have Fw26 := F24.same W26
  have KK26 := KK21.wr W26 (Or.inl (List.mem_of_getElem? (i := 0) rfl))
  show OGl _ _ _ _ T26 (mkF m 28 #[rv o0] [])
  refine gO (fun t k => kaN X26 hx hby d1_28 rfl rfl (kb X26 hx hby d1_29 k)) ?_
  show OGl _ _ _ _ T26 (mkF m 31 #[rv o0] [.int 16, .ref o0])
  obtain ⟨T27, h27, k27, X27, e27, E27, A27, st27⟩ := newP (aty := .long) X26 hx hZ (w17 hw) e26 (g := (mkF m 31 #[rv o0] [.int 16, .ref o0])) rfl (hb hby d1_31) rfl (by decide) (cap := 16) (by decide) (by decide) (by decide) (by decide)
  obtain ⟨b27, gb27⟩ : ∃ z, z = h26.size := ⟨_, rfl⟩
  rw [← gb27] at A27 st27
  have F28 := ((F22.ext E21).other W26 (Ne.symm ne_o0_b12))
  have ne_b12_b27 : b12 ≠ b27 := Nat.ne_of_lt (Nat.lt_of_lt_of_eq F28.lt gb27.symm)
  have F29 := ((F23.ext E21).other W26 (Ne.symm ne_o0_b16))
  have ne_b16_b27 : b16 ≠ b27 := Nat.ne_of_lt (Nat.lt_of_lt_of_eq F29.lt gb27.symm)
  have F30 := (V21.other W26 (Ne.symm ne_o0_b21))
  have ne_b21_b27 : b21 ≠ b27 := Nat.ne_of_lt (Nat.lt_of_lt_of_eq F30.lt gb27.symm)
  have ne_o0_b27 : o0 ≠ b27 := Nat.ne_of_lt (Nat.lt_of_lt_of_eq Fw26.lt gb27.symm)
  have sz_b27 : h0.size ≤ b27 := Nat.le_trans KK26.1 (Nat.le_of_eq gb27.symm)
  have g_b27 : n0 ≤ b27 := Nat.le_trans Z0 sz_b27
  have V27 : Arv Z h27 b27 k27 .long (16 : Int32) [.long 0, .long 0, .long 0, .long 0, .long 0, .long 0, .long 0, .long 0, .long 0, .long 0, .long 0, .long 0, .long 0, .long 0, .long 0, .long 0] (.long 0) := (Arv.new A27 (by decide)).pad (pad_rep [] (.long 0) 16)
  have KK27 : Keep h0 h27 [o0] := KK26.ext E27
  refine gO st27 ?_
  show OGl _ _ _ _ T27 (mkF m 33 #[rv o0] [.ref b27, .ref o0])
  have F31 := (((((((F4_o0.ext E12).other W15 (Or.inr (sn19_12 hw))).ext E16).other W20 (Or.inr (sn19_14 hw))).ext E21).other W26 (Or.inr (sn19_16 hw))).ext E27)
  have F32 := ((F25.wr W26).ext E27)
  obtain ⟨T33, h33, X33, e33, W33, st33⟩ := putF X27 hx hZ hown (host := "") (Or.inl (w18 hw)) Via.refl e27 F31 F32 (Or.inl (w19 hw)) (w2 hw) (ty := (.array .long)) (by decide) rfl rfl (g := (mkF m 33 #[rv o0] [.ref b27, .ref o0])) rfl rfl (hb hby d1_33)
  refine gO st33 ?_
  have N33 := Fr.snoc X33 N26 g_o0
  have Fw33 := F31.same W33
  have KK33 := KK27.wr W33 (Or.inl (List.mem_of_getElem? (i := 0) rfl))
  show OGl _ _ _ _ T33 (mkF m 36 #[rv o0] [])
  obtain ⟨fs, hr, hrun, hended, hW, hsame⟩ := X33.leave (v := none) (fun _ => rfl) (BodyLoose.notSynchronized Bd)
  refine ⟨_, _, X33.returnOut hx Bd.returns (hb hby d1_36) hr, hrun, hended, _, _, rfl, ?_, ⟨_, rfl⟩, hW, hsame.mono (by decide) (by decide)⟩
  show Q1 Z o0 h0 n0 _ T33.heap _
  rw [e33]
  have F34 := ((((((((F6_o0.ext E12).other W15 (Or.inr (sn32_12 hw))).ext E16).other W20 (Or.inr (sn32_14 hw))).ext E21).other W26 (Or.inr (sn32_16 hw))).ext E27).other W33 (Or.inr (sn32_19 hw)))
  have F35 := ((((((((F5_o0.ext E12).other W15 (Or.inr (sn26_12 hw))).ext E16).other W20 (Or.inr (sn26_14 hw))).ext E21).other W26 (Or.inr (sn26_16 hw))).ext E27).other W33 (Or.inr (sn26_19 hw)))
  have F36 := ((((((Fw15.ext E16).other W20 (Or.inr (sn12_14 hw))).ext E21).other W26 (Or.inr (sn12_16 hw))).ext E27).other W33 (Or.inr (sn12_19 hw)))
  have F37 := ((Fw26.ext E27).other W33 (Or.inr (sn16_19 hw)))
  have F38 := ((((((((F7_o0.ext E12).other W15 (Or.inr (sn59_12 hw))).ext E16).other W20 (Or.inr (sn59_14 hw))).ext E21).other W26 (Or.inr (sn59_16 hw))).ext E27).other W33 (Or.inr (sn59_19 hw)))
  have F39 := ((((Fw20.ext E21).other W26 (Or.inr (sn14_16 hw))).ext E27).other W33 (Or.inr (sn14_19 hw)))
  have F40 := ((F28.ext E27).other W33 (Ne.symm ne_o0_b12))
  have F41 := ((F30.ext E27).other W33 (Ne.symm ne_o0_b21))
  have F42 := (V27.other W33 (Ne.symm ne_o0_b27))
  have F43 := ((F29.ext E27).other W33 (Ne.symm ne_o0_b16))
  exact ⟨b12, b21, b27, b16, k12, k21, k27, k16, rfl, N33, KK33, sz_b12, sz_b21, sz_b27, sz_b16, ne_b12_b21, ne_b12_b27, ne_b12_b16, ne_b21_b27, (Ne.symm ne_b16_b21), (Ne.symm ne_b16_b27), F34, F35, F36, F37, Fw33, F38, F39, F40, F41, F42, F43⟩
theorem pd_0 : parseMethodDescriptor "()V" = some ⟨[], none⟩ := by decide +kernel
theorem d3_0 : decode bc1 0 = .ok (.aload_n 0, 1) := by decide +kernel
theorem d3_1 : decode bc1 1 = .ok (.getfield 25, 3) := by decide +kernel
theorem d3_4 : decode bc1 4 = .ok (.iconst 2, 1) := by decide +kernel
theorem d3_5 : decode bc1 5 = .ok (.idiv, 1) := by decide +kernel
theorem d3_6 : decode bc1 6 = .ok (.istore_n 3, 1) := by decide +kernel
theorem d3_7 : decode bc1 7 = .ok (.aload_n 0, 1) := by decide +kernel
theorem d3_8 : decode bc1 8 = .ok (.getfield 25, 3) := by decide +kernel
theorem d3_11 : decode bc1 11 = .ok (.iconst 2, 1) := by decide +kernel
theorem d3_12 : decode bc1 12 = .ok (.iadd, 1) := by decide +kernel
theorem d3_13 : decode bc1 13 = .ok (.aload_n 0, 1) := by decide +kernel
theorem d3_14 : decode bc1 14 = .ok (.getfield 9, 3) := by decide +kernel
theorem d3_17 : decode bc1 17 = .ok (.arraylength, 1) := by decide +kernel
theorem d3_18 : decode bc1 18 = .ok (.if_icmp .le 21, 3) := by decide +kernel
theorem d3_39 : decode bc1 39 = .ok (.aload_n 0, 1) := by decide +kernel
theorem d3_40 : decode bc1 40 = .ok (.getfield 9, 3) := by decide +kernel
theorem d3_43 : decode bc1 43 = .ok (.aload_n 0, 1) := by decide +kernel
theorem d3_44 : decode bc1 44 = .ok (.dup, 1) := by decide +kernel
theorem d3_45 : decode bc1 45 = .ok (.getfield 25, 3) := by decide +kernel
theorem d3_48 : decode bc1 48 = .ok (.dup_x1, 1) := by decide +kernel
theorem d3_49 : decode bc1 49 = .ok (.iconst 1, 1) := by decide +kernel
theorem d3_50 : decode bc1 50 = .ok (.iadd, 1) := by decide +kernel
theorem d3_51 : decode bc1 51 = .ok (.putfield 25, 3) := by decide +kernel
theorem d3_54 : decode bc1 54 = .ok (.iconst (-1), 1) := by decide +kernel
theorem d3_55 : decode bc1 55 = .ok (.iastore, 1) := by decide +kernel
theorem d3_56 : decode bc1 56 = .ok (.aload_n 0, 1) := by decide +kernel
theorem d3_57 : decode bc1 57 = .ok (.getfield 9, 3) := by decide +kernel
theorem d3_60 : decode bc1 60 = .ok (.aload_n 0, 1) := by decide +kernel
theorem d3_61 : decode bc1 61 = .ok (.dup, 1) := by decide +kernel
theorem d3_62 : decode bc1 62 = .ok (.getfield 25, 3) := by decide +kernel
theorem d3_65 : decode bc1 65 = .ok (.dup_x1, 1) := by decide +kernel
theorem d3_66 : decode bc1 66 = .ok (.iconst 1, 1) := by decide +kernel
theorem d3_67 : decode bc1 67 = .ok (.iadd, 1) := by decide +kernel
theorem d3_68 : decode bc1 68 = .ok (.putfield 25, 3) := by decide +kernel
theorem d3_71 : decode bc1 71 = .ok (.iconst (-1), 1) := by decide +kernel
theorem d3_72 : decode bc1 72 = .ok (.iastore, 1) := by decide +kernel
theorem d3_73 : decode bc1 73 = .ok (.aload_n 0, 1) := by decide +kernel
theorem d3_74 : decode bc1 74 = .ok (.iconst 2, 1) := by decide +kernel
theorem d3_75 : decode bc1 75 = .ok (.iload_n 3, 1) := by decide +kernel
theorem d3_76 : decode bc1 76 = .ok (.imul, 1) := by decide +kernel
theorem d3_77 : decode bc1 77 = .ok (.iconst 2, 1) := by decide +kernel
theorem d3_78 : decode bc1 78 = .ok (.iload_n 3, 1) := by decide +kernel
theorem d3_79 : decode bc1 79 = .ok (.imul, 1) := by decide +kernel
theorem d3_80 : decode bc1 80 = .ok (.iconst 1, 1) := by decide +kernel
theorem d3_81 : decode bc1 81 = .ok (.iadd, 1) := by decide +kernel
theorem d3_82 : decode bc1 82 = .ok (.lload_n 1, 1) := by decide +kernel
theorem d3_83 : decode bc1 83 = .ok (.invokevirtual 35, 3) := by decide +kernel
theorem d4_0 : decode bc2 0 = .ok (.aload_n 0, 1) := by decide +kernel
theorem d4_1 : decode bc2 1 = .ok (.getfield 45, 3) := by decide +kernel
theorem d4_4 : decode bc2 4 = .ok (.iconst 2, 1) := by decide +kernel
theorem d4_5 : decode bc2 5 = .ok (.iadd, 1) := by decide +kernel
theorem d4_6 : decode bc2 6 = .ok (.aload_n 0, 1) := by decide +kernel
theorem d4_7 : decode bc2 7 = .ok (.getfield 15, 3) := by decide +kernel
theorem d4_10 : decode bc2 10 = .ok (.arraylength, 1) := by decide +kernel
theorem d4_11 : decode bc2 11 = .ok (.if_icmp .le 57, 3) := by decide +kernel
theorem d4_68 : decode bc2 68 = .ok (.aload_n 0, 1) := by decide +kernel
theorem d4_69 : decode bc2 69 = .ok (.iload_n 1, 1) := by decide +kernel
theorem d4_70 : decode bc2 70 = .ok (.iload_n 2, 1) := by decide +kernel
theorem d4_71 : decode bc2 71 = .ok (.lload_n 3, 1) := by decide +kernel
theorem d4_72 : decode bc2 72 = .ok (.invokevirtual 61, 3) := by decide +kernel
theorem d5_0 : decode bc3 0 = .ok (.aload_n 0, 1) := by decide +kernel
theorem d5_1 : decode bc3 1 = .ok (.getfield 15, 3) := by decide +kernel
theorem d5_4 : decode bc3 4 = .ok (.aload_n 0, 1) := by decide +kernel
theorem d5_5 : decode bc3 5 = .ok (.getfield 45, 3) := by decide +kernel
theorem d5_8 : decode bc3 8 = .ok (.iload_n 2, 1) := by decide +kernel
theorem d5_9 : decode bc3 9 = .ok (.iastore, 1) := by decide +kernel
theorem d5_10 : decode bc3 10 = .ok (.aload_n 0, 1) := by decide +kernel
theorem d5_11 : decode bc3 11 = .ok (.getfield 21, 3) := by decide +kernel
theorem d5_14 : decode bc3 14 = .ok (.aload_n 0, 1) := by decide +kernel
theorem d5_15 : decode bc3 15 = .ok (.getfield 45, 3) := by decide +kernel
theorem d5_18 : decode bc3 18 = .ok (.lload_n 3, 1) := by decide +kernel
theorem d5_19 : decode bc3 19 = .ok (.lastore, 1) := by decide +kernel
theorem d5_20 : decode bc3 20 = .ok (.aload_n 0, 1) := by decide +kernel
theorem d5_21 : decode bc3 21 = .ok (.getfield 18, 3) := by decide +kernel
theorem d5_24 : decode bc3 24 = .ok (.aload_n 0, 1) := by decide +kernel
theorem d5_25 : decode bc3 25 = .ok (.getfield 45, 3) := by decide +kernel
theorem d5_28 : decode bc3 28 = .ok (.aload_n 0, 1) := by decide +kernel
theorem d5_29 : decode bc3 29 = .ok (.getfield 9, 3) := by decide +kernel
theorem d5_32 : decode bc3 32 = .ok (.iload_n 1, 1) := by decide +kernel
theorem d5_33 : decode bc3 33 = .ok (.iaload, 1) := by decide +kernel
abbrev zi14 : List Value := [.int 0, .int 0, .int 0, .int 0, .int 0, .int 0, .int 0, .int 0, .int 0, .int 0, .int 0, .int 0, .int 0, .int 0]
theorem d5_34 : decode bc3 34 = .ok (.iastore, 1) := by decide +kernel
theorem d5_35 : decode bc3 35 = .ok (.aload_n 0, 1) := by decide +kernel
theorem d5_36 : decode bc3 36 = .ok (.getfield 9, 3) := by decide +kernel
theorem d5_39 : decode bc3 39 = .ok (.iload_n 1, 1) := by decide +kernel
theorem d5_40 : decode bc3 40 = .ok (.aload_n 0, 1) := by decide +kernel
theorem d5_41 : decode bc3 41 = .ok (.getfield 45, 3) := by decide +kernel
theorem d5_44 : decode bc3 44 = .ok (.iastore, 1) := by decide +kernel
theorem d5_45 : decode bc3 45 = .ok (.aload_n 0, 1) := by decide +kernel
theorem d5_46 : decode bc3 46 = .ok (.dup, 1) := by decide +kernel
theorem d5_47 : decode bc3 47 = .ok (.getfield 45, 3) := by decide +kernel
theorem d5_50 : decode bc3 50 = .ok (.iconst 1, 1) := by decide +kernel
theorem d5_51 : decode bc3 51 = .ok (.iadd, 1) := by decide +kernel
theorem d5_52 : decode bc3 52 = .ok (.putfield 45, 3) := by decide +kernel
theorem d5_55 : decode bc3 55 = .ok (.return_, 1) := by decide +kernel
abbrev zi15 : List Value := [.int 0, .int 0, .int 0, .int 0, .int 0, .int 0, .int 0, .int 0, .int 0, .int 0, .int 0, .int 0, .int 0, .int 0, .int 0]
abbrev zj15 : List Value := [.long 0, .long 0, .long 0, .long 0, .long 0, .long 0, .long 0, .long 0, .long 0, .long 0, .long 0, .long 0, .long 0, .long 0, .long 0]
theorem ef_5 (m : MethodId) (x0 : Addr) (x1 : Int32) (x2 : Int32) (x3 : Int64) : entryFrame m #[.ref x0, .int x1, .int x2, .long x3] 5 = mkF m 0 #[rv x0, iv x1, iv x2, jv x3, sc] [] := by first | (simp [entryFrame, mkF, argsToLocals, Value.category]; done) | rfl
def Q5 (Z : State) (o0 : Addr) (q1 : Int64) (o2 : Addr) (k3 : ClassId) (o4 : Addr) (k5 : ClassId) (o6 : Addr) (o7 : Addr) (k8 : ClassId) (k9 : ClassId) (h0 : Heap) (n0 : Nat) (v : Option Value) (h : Heap) (L : List Loc) : Prop := v = none ∧ Fr n0 L ∧ Keep h0 h [o2, o4, o6, o7, o0] ∧ Arv Z h o2 k3 .int 16 (.int 1 :: zi15) (.int 0) ∧ Arv Z h o4 k5 .long 16 (.long q1 :: zj15) (.long 0) ∧ Arv Z h o6 k9 .int 16 (.int (-1) :: zi15) (.int 0) ∧ Arv Z h o7 k8 .int 16 (.int 0 :: .int (-1) :: zi14) (.int 0) ∧ Fld Z h o0 cc0 "edges" "I" (.int 1) ∧ Fld Z h o0 cc0 "halves" "I" (.int 2) ∧ Fld Z h o0 cc0 "heads" "[I" (.ref o7) ∧ Fld Z h o0 cc0 "nexts" "[I" (.ref o6) ∧ Fld Z h o0 cc0 "residues" "[J" (.ref o4) ∧ Fld Z h o0 cc0 "sourceSide" "[Z" (.null) ∧ Fld Z h o0 cc0 "targets" "[I" (.ref o2)
set_option maxRecDepth 65536 in
set_option maxHeartbeats 40000000 in
theorem rm5 (l : Launch) (Z : State) (a0 : Array Value) (hw : ∀ d ∈ tables_1, d.before a0 Z = true) (ws : List Jvm.Cond) (o0 : Addr) (q1 : Int64) (o2 : Addr) (k3 : ClassId) (o4 : Addr) (k5 : ClassId) (o6 : Addr) (o7 : Addr) (k8 : ClassId) (k9 : ClassId) (h0 : Heap) (n0 : Nat) (Z0 : n0 ≤ h0.size) (F0_o0 : Fld Z h0 o0 cc0 "targets" "[I" (.ref o2)) (F1_o0 : Fld Z h0 o0 cc0 "edges" "I" (.int 0)) (V_o2 : Arv Z h0 o2 k3 .int 16 (zi16) (.int 0)) (g_o2 : n0 ≤ o2) (F4_o0 : Fld Z h0 o0 cc0 "residues" "[J" (.ref o4)) (ne_o0_o2 : o0 ≠ o2) (V_o4 : Arv Z h0 o4 k5 .long 16 (zj16) (.long 0)) (ne_o4_o2 : o4 ≠ o2) (g_o4 : n0 ≤ o4) (F9_o0 : Fld Z h0 o0 cc0 "nexts" "[I" (.ref o6)) (ne_o0_o4 : o0 ≠ o4) (F11_o0 : Fld Z h0 o0 cc0 "heads" "[I" (.ref o7)) (V_o7 : Arv Z h0 o7 k8 .int 16 (.int (-1) :: .int (-1) :: zi14) (.int 0)) (ne_o7_o2 : o7 ≠ o2) (ne_o7_o4 : o7 ≠ o4) (V_o6 : Arv Z h0 o6 k9 .int 16 (zi16) (.int 0)) (ne_o6_o2 : o6 ≠ o2) (ne_o6_o4 : o6 ≠ o4) (g_o6 : n0 ≤ o6) (ne_o0_o6 : o0 ≠ o6) (ne_o7_o6 : o7 ≠ o6) (g_o7 : n0 ≤ o7) (ne_o0_o7 : o0 ≠ o7) (E_o0 : Exa Z h0 o0 cc0) (F24_o0 : Fld Z h0 o0 cc0 "halves" "I" (.int 2)) (F25_o0 : Fld Z h0 o0 cc0 "sourceSide" "[Z" (.null)) (g_o0 : n0 ≤ o0) :
    MetFree l yy1 (head1 (Jvm.Cond.code yy1 bc3 5 none :: ws) rr1) (fun a U => a = #[.ref o0, .int 0, .int 1, .long q1] ∧ Z.Warmed39 U.vm ∧ U.heap = h0) (fun _ _ _ _ _ => True) (fun _ U o U' => ∃ v L, o = .returned v ∧ Q5 Z o0 q1 o2 k3 o4 k5 o6 o7 k8 k9 h0 n0 v U'.heap L ∧ FrameEnd U o U' L rr1.cells rr1.slots) := by
  refine MetFree.of_bodySF (plainFor_of_name pn_0) hisR ?_
  intro p e s m args below meth c s₁ Bd hml0 hP hK
  obtain ⟨rfl, hZ, hh⟩ := hP
  have hx := Bd.exec
  have hby := Bd.bytes
  have hml : c.maxLocals = 5 := hml0
  have hown : s.vm.findClass cc0 = some m.cls := findClass_of_methodNamed Bd.named
  have hnm := (name_of_methodNamed Bd.named Bd.method).1
  have X0 : Stand p l e rr1 s m #[.ref o0, .int 0, .int 1, .long q1] below meth c s₁ [] 0 0 := Stand.of_body Bd
  have e0 : s₁.heap = h0 := by rw [← hh, Bd.state]; rfl
  have N0 := Fr.nil n0
  refine OGl.start (ef_5 m o0 (0 : Int32) (1 : Int32) q1) ?_
  show OGl _ _ _ _ s₁ (mkF m 0 #[rv o0, iv 0, iv 1, jv q1, sc] [])
  refine gO (fun t k => kaN X0 hx hby d5_0 rfl rfl k) (gG X0 hx hby hZ hown (w13 hw) e0 F0_o0 d5_1 fun T65 X65 e65 => gO (fun t k => kaN X65 hx hby d5_4 rfl rfl k) (gG X65 hx hby hZ hown (w31 hw) e65 F1_o0 d5_5 fun T66 X66 e66 => gO (fun t k => kiN X66 hx hby d5_8 rfl k) ?_))
  show OGl _ _ _ _ T66 (mkF m 9 #[rv o0, iv 0, iv 1, jv q1, sc] [.int 1, .int 0, .ref o2])
  refine wI X66 hx hby hZ e66 V_o2 0 rfl (Nat.le_of_ble_eq_true rfl) d5_9 fun T67 h67 X67 e67 W67 V67 => ?_
  have N67 := Fr.snoc X67 N0 g_o2
  have KK67 := (Keep.refl h0 [o2, o4, o6, o7, o0]).wr W67 (Or.inl (List.mem_of_getElem? (i := 0) rfl))
  show OGl _ _ _ _ T67 (mkF m 10 #[rv o0, iv 0, iv 1, jv q1, sc] [])
  have F68 := (F4_o0.other W67 (Or.inl ne_o0_o2))
  have F70 := (F1_o0.other W67 (Or.inl ne_o0_o2))
  refine gO (fun t k => kaN X67 hx hby d5_10 rfl rfl k) (gG X67 hx hby hZ hown (w18 hw) e67 F68 d5_11 fun T69 X69 e69 => gO (fun t k => kaN X69 hx hby d5_14 rfl rfl k) (gG X69 hx hby hZ hown (w31 hw) e69 F70 d5_15 fun T71 X71 e71 => gO (fun t k => klN X71 hx hby d5_18 rfl k) ?_))
  show OGl _ _ _ _ T71 (mkF m 19 #[rv o0, iv 0, iv 1, jv q1, sc] [.long q1, .int 0, .ref o4])
  have F72 := (V_o4.other W67 ne_o4_o2)
  refine wJ X71 hx hby hZ e71 F72 0 rfl (Nat.le_of_ble_eq_true rfl) d5_19 fun T73 h73 X73 e73 W73 V73 => ?_
  have N73 := Fr.snoc X73 N67 g_o4
  have KK73 := KK67.wr W73 (Or.inl (List.mem_of_getElem? (i := 1) rfl))
  show OGl _ _ _ _ T73 (mkF m 20 #[rv o0, iv 0, iv 1, jv q1, sc] [])
  have F74 := ((F9_o0.other W67 (Or.inl ne_o0_o2)).other W73 (Or.inl ne_o0_o4))
  have F76 := (F70.other W73 (Or.inl ne_o0_o4))
  have F78 := ((F11_o0.other W67 (Or.inl ne_o0_o2)).other W73 (Or.inl ne_o0_o4))
  have F80 := ((V_o7.other W67 ne_o7_o2).other W73 ne_o7_o4)
  refine gO (fun t k => kaN X73 hx hby d5_20 rfl rfl k) (gG X73 hx hby hZ hown (w15 hw) e73 F74 d5_21 fun T75 X75 e75 => gO (fun t k => kaN X75 hx hby d5_24 rfl rfl k) (gG X75 hx hby hZ hown (w31 hw) e75 F76 d5_25 fun T77 X77 e77 => gO (fun t k => kaN X77 hx hby d5_28 rfl rfl k) (gG X77 hx hby hZ hown (w11 hw) e77 F78 d5_29 fun T79 X79 e79 => gO (fun t k => kiN X79 hx hby d5_32 rfl (rI X79 hx hby hZ e79 F80 (.int (-1)) rfl rfl d5_33 k)) ?_)))
  show OGl _ _ _ _ T79 (mkF m 34 #[rv o0, iv 0, iv 1, jv q1, sc] [.int (-1), .int 0, .ref o6])
  have F81 := ((V_o6.other W67 ne_o6_o2).other W73 ne_o6_o4)
  refine wI X79 hx hby hZ e79 F81 0 rfl (Nat.le_of_ble_eq_true rfl) d5_34 fun T82 h82 X82 e82 W82 V82 => ?_
  have N82 := Fr.snoc X82 N73 g_o6
  have KK82 := KK73.wr W82 (Or.inl (List.mem_of_getElem? (i := 2) rfl))
  show OGl _ _ _ _ T82 (mkF m 35 #[rv o0, iv 0, iv 1, jv q1, sc] [])
  have F83 := (F78.other W82 (Or.inl ne_o0_o6))
  have F85 := (F76.other W82 (Or.inl ne_o0_o6))
  refine gO (fun t k => kaN X82 hx hby d5_35 rfl rfl k) (gG X82 hx hby hZ hown (w11 hw) e82 F83 d5_36 fun T84 X84 e84 => gO (fun t k => kiN X84 hx hby d5_39 rfl (kaN X84 hx hby d5_40 rfl rfl k)) (gG X84 hx hby hZ hown (w31 hw) e84 F85 d5_41 fun T86 X86 e86 => ?_))
  show OGl _ _ _ _ T86 (mkF m 44 #[rv o0, iv 0, iv 1, jv q1, sc] [.int 0, .int 0, .ref o7])
  have F87 := (F80.other W82 ne_o7_o6)
  refine wI X86 hx hby hZ e86 F87 0 rfl (Nat.le_of_ble_eq_true rfl) d5_44 fun T88 h88 X88 e88 W88 V88 => ?_
  have N88 := Fr.snoc X88 N82 g_o7
  have KK88 := KK82.wr W88 (Or.inl (List.mem_of_getElem? (i := 3) rfl))
  show OGl _ _ _ _ T88 (mkF m 45 #[rv o0, iv 0, iv 1, jv q1, sc] [])
  have F89 := (F85.other W88 (Or.inl ne_o0_o7))
  refine gO (fun t k => kaN X88 hx hby d5_45 rfl rfl (o_dup X88 hx hby d5_46 rfl k)) (gG X88 hx hby hZ hown (w31 hw) e88 F89 d5_47 fun T90 X90 e90 => gO (fun t k => kc X90 hx hby d5_50 (o_iadd X90 hx hby d5_51 k)) ?_)
  show OGl _ _ _ _ T90 (mkF m 52 #[rv o0, iv 0, iv 1, jv q1, sc] [.int 1, .ref o0])
  have F91 := ((((E_o0.wr W67).wr W73).wr W82).wr W88)
  obtain ⟨T92, h92, X92, e92, W92, st92⟩ := putF X90 hx hZ hown (host := "") (Or.inl (w31 hw)) Via.refl e90 F89 F91 (Or.inl (w32 hw)) (w2 hw) (ty := .int) (by decide) rfl rfl (g := (mkF m 52 #[rv o0, iv 0, iv 1, jv q1, sc] [.int 1, .ref o0])) rfl rfl (hb hby d5_52)
  refine gO st92 ?_
  have N92 := Fr.snoc X92 N88 g_o0
  have Fw92 := F89.same W92
  have KK92 := KK88.wr W92 (Or.inl (List.mem_of_getElem? (i := 4) rfl))
  show OGl _ _ _ _ T92 (mkF m 55 #[rv o0, iv 0, iv 1, jv q1, sc] [])
  obtain ⟨fs, hr, hrun, hended, hW, hsame⟩ := X92.leave (v := none) (fun _ => rfl) (BodyLoose.notSynchronized Bd)
  refine ⟨_, _, X92.returnOut hx Bd.returns (hb hby d5_55) hr, hrun, hended, _, _, rfl, ?_, ⟨_, rfl⟩, hW, hsame.mono (by decide) (by decide)⟩
  show Q5 Z o0 q1 o2 k3 o4 k5 o6 o7 k8 k9 h0 n0 _ T92.heap _
  rw [e92]
  have F93 := ((((V67.other W73 (Ne.symm ne_o4_o2)).other W82 (Ne.symm ne_o6_o2)).other W88 (Ne.symm ne_o7_o2)).other W92 (Ne.symm ne_o0_o2))
  have F94 := (((V73.other W82 (Ne.symm ne_o6_o4)).other W88 (Ne.symm ne_o7_o4)).other W92 (Ne.symm ne_o0_o4))
  have F95 := ((V82.other W88 (Ne.symm ne_o7_o6)).other W92 (Ne.symm ne_o0_o6))
  have F96 := (V88.other W92 (Ne.symm ne_o0_o7))
  have F97 := (((((F24_o0.other W67 (Or.inl ne_o0_o2)).other W73 (Or.inl ne_o0_o4)).other W82 (Or.inl ne_o0_o6)).other W88 (Or.inl ne_o0_o7)).other W92 (Or.inr (sn26_32 hw)))
  have F98 := ((F83.other W88 (Or.inl ne_o0_o7)).other W92 (Or.inr (sn12_32 hw)))
  have F99 := (((F74.other W82 (Or.inl ne_o0_o6)).other W88 (Or.inl ne_o0_o7)).other W92 (Or.inr (sn16_32 hw)))
  have F100 := ((((F68.other W73 (Or.inl ne_o0_o4)).other W82 (Or.inl ne_o0_o6)).other W88 (Or.inl ne_o0_o7)).other W92 (Or.inr (sn19_32 hw)))
  have F101 := (((((F25_o0.other W67 (Or.inl ne_o0_o2)).other W73 (Or.inl ne_o0_o4)).other W82 (Or.inl ne_o0_o6)).other W88 (Or.inl ne_o0_o7)).other W92 (Or.inr (sn59_32 hw)))
  have F102 := (((((F0_o0.other W67 (Or.inl ne_o0_o2)).other W73 (Or.inl ne_o0_o4)).other W82 (Or.inl ne_o0_o6)).other W88 (Or.inl ne_o0_o7)).other W92 (Or.inr (sn14_32 hw)))
  exact ⟨rfl, N92, KK92, F93, F94, F95, F96, Fw92, F97, F98, F99, F100, F101, F102⟩
theorem pd_1 : parseMethodDescriptor "(IIJ)V" = some ⟨[.int, .int, .long], none⟩ := by decide +kernel
theorem d4_75 : decode bc2 75 = .ok (.aload_n 0, 1) := by decide +kernel
theorem d4_76 : decode bc2 76 = .ok (.iload_n 2, 1) := by decide +kernel
theorem d4_77 : decode bc2 77 = .ok (.iload_n 1, 1) := by decide +kernel
theorem d4_78 : decode bc2 78 = .ok (.lconst 0, 1) := by decide +kernel
theorem d4_79 : decode bc2 79 = .ok (.invokevirtual 61, 3) := by decide +kernel
def Q5a (Z : State) (o0 : Addr) (o1 : Addr) (k2 : ClassId) (o3 : Addr) (k4 : ClassId) (q5 : Int64) (o6 : Addr) (o7 : Addr) (k8 : ClassId) (k9 : ClassId) (h0 : Heap) (n0 : Nat) (v : Option Value) (h : Heap) (L : List Loc) : Prop := v = none ∧ Fr n0 L ∧ Keep h0 h [o1, o3, o6, o7, o0] ∧ Arv Z h o1 k2 .int 16 (.int 1 :: zi15) (.int 0) ∧ Arv Z h o3 k4 .long 16 (.long q5 :: zj15) (.long 0) ∧ Arv Z h o6 k9 .int 16 (.int (-1) :: .int (-1) :: zi14) (.int 0) ∧ Arv Z h o7 k8 .int 16 (.int 0 :: .int 1 :: zi14) (.int 0) ∧ Fld Z h o0 cc0 "edges" "I" (.int 2) ∧ Fld Z h o0 cc0 "halves" "I" (.int 2) ∧ Fld Z h o0 cc0 "heads" "[I" (.ref o7) ∧ Fld Z h o0 cc0 "nexts" "[I" (.ref o6) ∧ Fld Z h o0 cc0 "residues" "[J" (.ref o3) ∧ Fld Z h o0 cc0 "sourceSide" "[Z" (.null) ∧ Fld Z h o0 cc0 "targets" "[I" (.ref o1)
set_option maxRecDepth 65536 in
set_option maxHeartbeats 40000000 in
theorem rm5a (l : Launch) (Z : State) (a0 : Array Value) (hw : ∀ d ∈ tables_1, d.before a0 Z = true) (ws : List Jvm.Cond) (o0 : Addr) (o1 : Addr) (k2 : ClassId) (o3 : Addr) (k4 : ClassId) (q5 : Int64) (o6 : Addr) (o7 : Addr) (k8 : ClassId) (k9 : ClassId) (h0 : Heap) (n0 : Nat) (Z0 : n0 ≤ h0.size) (F0_o0 : Fld Z h0 o0 cc0 "targets" "[I" (.ref o1)) (F1_o0 : Fld Z h0 o0 cc0 "edges" "I" (.int 1)) (V_o1 : Arv Z h0 o1 k2 .int 16 (.int 1 :: zi15) (.int 0)) (g_o1 : n0 ≤ o1) (F4_o0 : Fld Z h0 o0 cc0 "residues" "[J" (.ref o3)) (ne_o0_o1 : o0 ≠ o1) (V_o3 : Arv Z h0 o3 k4 .long 16 (.long q5 :: zj15) (.long 0)) (ne_o3_o1 : o3 ≠ o1) (g_o3 : n0 ≤ o3) (F9_o0 : Fld Z h0 o0 cc0 "nexts" "[I" (.ref o6)) (ne_o0_o3 : o0 ≠ o3) (F11_o0 : Fld Z h0 o0 cc0 "heads" "[I" (.ref o7)) (V_o7 : Arv Z h0 o7 k8 .int 16 (.int 0 :: .int (-1) :: zi14) (.int 0)) (ne_o7_o1 : o7 ≠ o1) (ne_o7_o3 : o7 ≠ o3) (V_o6 : Arv Z h0 o6 k9 .int 16 (.int (-1) :: zi15) (.int 0)) (ne_o6_o1 : o6 ≠ o1) (ne_o6_o3 : o6 ≠ o3) (g_o6 : n0 ≤ o6) (ne_o0_o6 : o0 ≠ o6) (ne_o7_o6 : o7 ≠ o6) (g_o7 : n0 ≤ o7) (ne_o0_o7 : o0 ≠ o7) (E_o0 : Exa Z h0 o0 cc0) (F24_o0 : Fld Z h0 o0 cc0 "halves" "I" (.int 2)) (F25_o0 : Fld Z h0 o0 cc0 "sourceSide" "[Z" (.null)) (g_o0 : n0 ≤ o0) :
    MetFree l yy1 (head1 (Jvm.Cond.code yy1 bc3 5 none :: ws) rr1) (fun a U => a = #[.ref o0, .int 1, .int 0, .long 0] ∧ Z.Warmed39 U.vm ∧ U.heap = h0) (fun _ _ _ _ _ => True) (fun _ U o U' => ∃ v L, o = .returned v ∧ Q5a Z o0 o1 k2 o3 k4 q5 o6 o7 k8 k9 h0 n0 v U'.heap L ∧ FrameEnd U o U' L rr1.cells rr1.slots) := by
  refine MetFree.of_bodySF (plainFor_of_name pn_0) hisR ?_
  intro p e s m args below meth c s₁ Bd hml0 hP hK
  obtain ⟨rfl, hZ, hh⟩ := hP
  have hx := Bd.exec
  have hby := Bd.bytes
  have hml : c.maxLocals = 5 := hml0
  have hown : s.vm.findClass cc0 = some m.cls := findClass_of_methodNamed Bd.named
  have hnm := (name_of_methodNamed Bd.named Bd.method).1
  have X0 : Stand p l e rr1 s m #[.ref o0, .int 1, .int 0, .long 0] below meth c s₁ [] 0 0 := Stand.of_body Bd
  have e0 : s₁.heap = h0 := by rw [← hh, Bd.state]; rfl
  have N0 := Fr.nil n0
  refine OGl.start (ef_5 m o0 (1 : Int32) (0 : Int32) (0 : Int64)) ?_
  show OGl _ _ _ _ s₁ (mkF m 0 #[rv o0, iv 1, iv 0, jv 0, sc] [])
  refine gO (fun t k => kaN X0 hx hby d5_0 rfl rfl k) (gG X0 hx hby hZ hown (w13 hw) e0 F0_o0 d5_1 fun T104 X104 e104 => gO (fun t k => kaN X104 hx hby d5_4 rfl rfl k) (gG X104 hx hby hZ hown (w31 hw) e104 F1_o0 d5_5 fun T105 X105 e105 => gO (fun t k => kiN X105 hx hby d5_8 rfl k) ?_))
  show OGl _ _ _ _ T105 (mkF m 9 #[rv o0, iv 1, iv 0, jv 0, sc] [.int 0, .int 1, .ref o1])
  refine wI X105 hx hby hZ e105 V_o1 1 rfl (Nat.le_of_ble_eq_true rfl) d5_9 fun T106 h106 X106 e106 W106 V106 => ?_
  have N106 := Fr.snoc X106 N0 g_o1
  have KK106 := (Keep.refl h0 [o1, o3, o6, o7, o0]).wr W106 (Or.inl (List.mem_of_getElem? (i := 0) rfl))
  show OGl _ _ _ _ T106 (mkF m 10 #[rv o0, iv 1, iv 0, jv 0, sc] [])
  have F107 := (F4_o0.other W106 (Or.inl ne_o0_o1))
  have F109 := (F1_o0.other W106 (Or.inl ne_o0_o1))
  refine gO (fun t k => kaN X106 hx hby d5_10 rfl rfl k) (gG X106 hx hby hZ hown (w18 hw) e106 F107 d5_11 fun T108 X108 e108 => gO (fun t k => kaN X108 hx hby d5_14 rfl rfl k) (gG X108 hx hby hZ hown (w31 hw) e108 F109 d5_15 fun T110 X110 e110 => gO (fun t k => klN X110 hx hby d5_18 rfl k) ?_))
  show OGl _ _ _ _ T110 (mkF m 19 #[rv o0, iv 1, iv 0, jv 0, sc] [.long 0, .int 1, .ref o3])
  have F111 := (V_o3.other W106 ne_o3_o1)
  refine wJ X110 hx hby hZ e110 F111 1 rfl (Nat.le_of_ble_eq_true rfl) d5_19 fun T112 h112 X112 e112 W112 V112 => ?_
  have N112 := Fr.snoc X112 N106 g_o3
  have KK112 := KK106.wr W112 (Or.inl (List.mem_of_getElem? (i := 1) rfl))
  show OGl _ _ _ _ T112 (mkF m 20 #[rv o0, iv 1, iv 0, jv 0, sc] [])
  have F113 := ((F9_o0.other W106 (Or.inl ne_o0_o1)).other W112 (Or.inl ne_o0_o3))
  have F115 := (F109.other W112 (Or.inl ne_o0_o3))
  have F117 := ((F11_o0.other W106 (Or.inl ne_o0_o1)).other W112 (Or.inl ne_o0_o3))
  have F119 := ((V_o7.other W106 ne_o7_o1).other W112 ne_o7_o3)
  refine gO (fun t k => kaN X112 hx hby d5_20 rfl rfl k) (gG X112 hx hby hZ hown (w15 hw) e112 F113 d5_21 fun T114 X114 e114 => gO (fun t k => kaN X114 hx hby d5_24 rfl rfl k) (gG X114 hx hby hZ hown (w31 hw) e114 F115 d5_25 fun T116 X116 e116 => gO (fun t k => kaN X116 hx hby d5_28 rfl rfl k) (gG X116 hx hby hZ hown (w11 hw) e116 F117 d5_29 fun T118 X118 e118 => gO (fun t k => kiN X118 hx hby d5_32 rfl (rI X118 hx hby hZ e118 F119 (.int (-1)) rfl rfl d5_33 k)) ?_)))
  show OGl _ _ _ _ T118 (mkF m 34 #[rv o0, iv 1, iv 0, jv 0, sc] [.int (-1), .int 1, .ref o6])
  have F120 := ((V_o6.other W106 ne_o6_o1).other W112 ne_o6_o3)
  refine wI X118 hx hby hZ e118 F120 1 rfl (Nat.le_of_ble_eq_true rfl) d5_34 fun T121 h121 X121 e121 W121 V121 => ?_
  have N121 := Fr.snoc X121 N112 g_o6
  have KK121 := KK112.wr W121 (Or.inl (List.mem_of_getElem? (i := 2) rfl))
  show OGl _ _ _ _ T121 (mkF m 35 #[rv o0, iv 1, iv 0, jv 0, sc] [])
  have F122 := (F117.other W121 (Or.inl ne_o0_o6))
  have F124 := (F115.other W121 (Or.inl ne_o0_o6))
  refine gO (fun t k => kaN X121 hx hby d5_35 rfl rfl k) (gG X121 hx hby hZ hown (w11 hw) e121 F122 d5_36 fun T123 X123 e123 => gO (fun t k => kiN X123 hx hby d5_39 rfl (kaN X123 hx hby d5_40 rfl rfl k)) (gG X123 hx hby hZ hown (w31 hw) e123 F124 d5_41 fun T125 X125 e125 => ?_))
  show OGl _ _ _ _ T125 (mkF m 44 #[rv o0, iv 1, iv 0, jv 0, sc] [.int 1, .int 1, .ref o7])
  have F126 := (F119.other W121 ne_o7_o6)
  refine wI X125 hx hby hZ e125 F126 1 rfl (Nat.le_of_ble_eq_true rfl) d5_44 fun T127 h127 X127 e127 W127 V127 => ?_
  have N127 := Fr.snoc X127 N121 g_o7
  have KK127 := KK121.wr W127 (Or.inl (List.mem_of_getElem? (i := 3) rfl))
  show OGl _ _ _ _ T127 (mkF m 45 #[rv o0, iv 1, iv 0, jv 0, sc] [])
  have F128 := (F124.other W127 (Or.inl ne_o0_o7))
  refine gO (fun t k => kaN X127 hx hby d5_45 rfl rfl (o_dup X127 hx hby d5_46 rfl k)) (gG X127 hx hby hZ hown (w31 hw) e127 F128 d5_47 fun T129 X129 e129 => gO (fun t k => kc X129 hx hby d5_50 (o_iadd X129 hx hby d5_51 k)) ?_)
  show OGl _ _ _ _ T129 (mkF m 52 #[rv o0, iv 1, iv 0, jv 0, sc] [.int 2, .ref o0])
  have F130 := ((((E_o0.wr W106).wr W112).wr W121).wr W127)
  obtain ⟨T131, h131, X131, e131, W131, st131⟩ := putF X129 hx hZ hown (host := "") (Or.inl (w31 hw)) Via.refl e129 F128 F130 (Or.inl (w32 hw)) (w2 hw) (ty := .int) (by decide) rfl rfl (g := (mkF m 52 #[rv o0, iv 1, iv 0, jv 0, sc] [.int 2, .ref o0])) rfl rfl (hb hby d5_52)
  refine gO st131 ?_
  have N131 := Fr.snoc X131 N127 g_o0
  have Fw131 := F128.same W131
  have KK131 := KK127.wr W131 (Or.inl (List.mem_of_getElem? (i := 4) rfl))
  show OGl _ _ _ _ T131 (mkF m 55 #[rv o0, iv 1, iv 0, jv 0, sc] [])
  obtain ⟨fs, hr, hrun, hended, hW, hsame⟩ := X131.leave (v := none) (fun _ => rfl) (BodyLoose.notSynchronized Bd)
  refine ⟨_, _, X131.returnOut hx Bd.returns (hb hby d5_55) hr, hrun, hended, _, _, rfl, ?_, ⟨_, rfl⟩, hW, hsame.mono (by decide) (by decide)⟩
  show Q5a Z o0 o1 k2 o3 k4 q5 o6 o7 k8 k9 h0 n0 _ T131.heap _
  rw [e131]
  have F132 := ((((V106.other W112 (Ne.symm ne_o3_o1)).other W121 (Ne.symm ne_o6_o1)).other W127 (Ne.symm ne_o7_o1)).other W131 (Ne.symm ne_o0_o1))
  have F133 := (((V112.other W121 (Ne.symm ne_o6_o3)).other W127 (Ne.symm ne_o7_o3)).other W131 (Ne.symm ne_o0_o3))
  have F134 := ((V121.other W127 (Ne.symm ne_o7_o6)).other W131 (Ne.symm ne_o0_o6))
  have F135 := (V127.other W131 (Ne.symm ne_o0_o7))
  have F136 := (((((F24_o0.other W106 (Or.inl ne_o0_o1)).other W112 (Or.inl ne_o0_o3)).other W121 (Or.inl ne_o0_o6)).other W127 (Or.inl ne_o0_o7)).other W131 (Or.inr (sn26_32 hw)))
  have F137 := ((F122.other W127 (Or.inl ne_o0_o7)).other W131 (Or.inr (sn12_32 hw)))
  have F138 := (((F113.other W121 (Or.inl ne_o0_o6)).other W127 (Or.inl ne_o0_o7)).other W131 (Or.inr (sn16_32 hw)))
  have F139 := ((((F107.other W112 (Or.inl ne_o0_o3)).other W121 (Or.inl ne_o0_o6)).other W127 (Or.inl ne_o0_o7)).other W131 (Or.inr (sn19_32 hw)))
  have F140 := (((((F25_o0.other W106 (Or.inl ne_o0_o1)).other W112 (Or.inl ne_o0_o3)).other W121 (Or.inl ne_o0_o6)).other W127 (Or.inl ne_o0_o7)).other W131 (Or.inr (sn59_32 hw)))
  have F141 := (((((F0_o0.other W106 (Or.inl ne_o0_o1)).other W112 (Or.inl ne_o0_o3)).other W121 (Or.inl ne_o0_o6)).other W127 (Or.inl ne_o0_o7)).other W131 (Or.inr (sn14_32 hw)))
  exact ⟨rfl, N131, KK131, F132, F133, F134, F135, Fw131, F136, F137, F138, F139, F140, F141⟩
theorem d4_82 : decode bc2 82 = .ok (.return_, 1) := by decide +kernel
theorem ef_4 (m : MethodId) (x0 : Addr) (x1 : Int32) (x2 : Int32) (x3 : Int64) : entryFrame m #[.ref x0, .int x1, .int x2, .long x3] 5 = mkF m 0 #[rv x0, iv x1, iv x2, jv x3, sc] [] := by first | (simp [entryFrame, mkF, argsToLocals, Value.category]; done) | rfl
def Q4 (Z : State) (o0 : Addr) (q1 : Int64) (o2 : Addr) (k3 : ClassId) (o4 : Addr) (k5 : ClassId) (o6 : Addr) (o7 : Addr) (k8 : ClassId) (k9 : ClassId) (h0 : Heap) (n0 : Nat) (v : Option Value) (h : Heap) (L : List Loc) : Prop := v = none ∧ Fr n0 L ∧ Keep h0 h [o0, o7, o6, o4, o2] ∧ Fld Z h o0 cc0 "edges" "I" (.int 2) ∧ Fld Z h o0 cc0 "halves" "I" (.int 2) ∧ Fld Z h o0 cc0 "heads" "[I" (.ref o7) ∧ Fld Z h o0 cc0 "nexts" "[I" (.ref o6) ∧ Fld Z h o0 cc0 "residues" "[J" (.ref o4) ∧ Fld Z h o0 cc0 "sourceSide" "[Z" (.null) ∧ Fld Z h o0 cc0 "targets" "[I" (.ref o2) ∧ Arv Z h o7 k8 .int 16 (.int 0 :: .int 1 :: zi14) (.int 0) ∧ Arv Z h o6 k9 .int 16 (.int (-1) :: .int (-1) :: zi14) (.int 0) ∧ Arv Z h o4 k5 .long 16 (.long q1 :: zj15) (.long 0) ∧ Arv Z h o2 k3 .int 16 (.int 1 :: zi15) (.int 0)
set_option maxRecDepth 65536 in
set_option maxHeartbeats 40000000 in
theorem rm4 (l : Launch) (Z : State) (a0 : Array Value) (hw : ∀ d ∈ tables_1, d.before a0 Z = true) (ws : List Jvm.Cond) (o0 : Addr) (q1 : Int64) (o2 : Addr) (k3 : ClassId) (o4 : Addr) (k5 : ClassId) (o6 : Addr) (o7 : Addr) (k8 : ClassId) (k9 : ClassId) (h0 : Heap) (n0 : Nat) (Z0 : n0 ≤ h0.size) (F0_o0 : Fld Z h0 o0 cc0 "edges" "I" (.int 0)) (F1_o0 : Fld Z h0 o0 cc0 "targets" "[I" (.ref o2)) (V_o2 : Arv Z h0 o2 k3 .int 16 (zi16) (.int 0)) (E_o0 : Exa Z h0 o0 cc0) (F4_o0 : Fld Z h0 o0 cc0 "residues" "[J" (.ref o4)) (V_o4 : Arv Z h0 o4 k5 .long 16 (zj16) (.long 0)) (F6_o0 : Fld Z h0 o0 cc0 "nexts" "[I" (.ref o6)) (F7_o0 : Fld Z h0 o0 cc0 "heads" "[I" (.ref o7)) (V_o7 : Arv Z h0 o7 k8 .int 16 (.int (-1) :: .int (-1) :: zi14) (.int 0)) (V_o6 : Arv Z h0 o6 k9 .int 16 (zi16) (.int 0)) (F10_o0 : Fld Z h0 o0 cc0 "halves" "I" (.int 2)) (F11_o0 : Fld Z h0 o0 cc0 "sourceSide" "[Z" (.null)) (g_o2 : n0 ≤ o2) (ne_o0_o2 : o0 ≠ o2) (ne_o4_o2 : o4 ≠ o2) (g_o4 : n0 ≤ o4) (ne_o0_o4 : o0 ≠ o4) (ne_o7_o2 : o7 ≠ o2) (ne_o7_o4 : o7 ≠ o4) (ne_o6_o2 : o6 ≠ o2) (ne_o6_o4 : o6 ≠ o4) (g_o6 : n0 ≤ o6) (ne_o0_o6 : o0 ≠ o6) (ne_o7_o6 : o7 ≠ o6) (g_o7 : n0 ≤ o7) (ne_o0_o7 : o0 ≠ o7) (g_o0 : n0 ≤ o0) :
    MetFree l yy2 (head1 (Jvm.Cond.code yy2 bc2 5 none :: ws) rr2) (fun a U => a = #[.ref o0, .int 0, .int 1, .long q1] ∧ Z.Warmed39 U.vm ∧ U.heap = h0) (fun _ _ _ _ _ => True) (fun _ U o U' => ∃ v L, o = .returned v ∧ Q4 Z o0 q1 o2 k3 o4 k5 o6 o7 k8 k9 h0 n0 v U'.heap L ∧ FrameEnd U o U' L rr2.cells rr2.slots) := by
  refine MetFree.of_bodySF (plainFor_of_name pn_0) hisR ?_
  intro p e s m args below meth c s₁ Bd hml0 hP hK
  obtain ⟨rfl, hZ, hh⟩ := hP
  have hx := Bd.exec
  have hby := Bd.bytes
  have hml : c.maxLocals = 5 := hml0
  have hown : s.vm.findClass cc0 = some m.cls := findClass_of_methodNamed Bd.named
  have hnm := (name_of_methodNamed Bd.named Bd.method).1
  have X0 : Stand p l e rr2 s m #[.ref o0, .int 0, .int 1, .long q1] below meth c s₁ [] 0 0 := Stand.of_body Bd
  have e0 : s₁.heap = h0 := by rw [← hh, Bd.state]; rfl
  have N0 := Fr.nil n0
  refine OGl.start (ef_4 m o0 (0 : Int32) (1 : Int32) q1) ?_
  show OGl _ _ _ _ s₁ (mkF m 0 #[rv o0, iv 0, iv 1, jv q1, sc] [])
  refine gO (fun t k => kaN X0 hx hby d4_0 rfl rfl k) (gG X0 hx hby hZ hown (w31 hw) e0 F0_o0 d4_1 fun T62 X62 e62 => gO (fun t k => kc X62 hx hby d4_4 (o_iadd X62 hx hby d4_5 (kaN X62 hx hby d4_6 rfl rfl k))) (gG X62 hx hby hZ hown (w13 hw) e62 F1_o0 d4_7 fun T63 X63 e63 => gO (fun t k => rL X63 hx hby hZ e63 V_o2 d4_10 (cY X63 hx hby 68 d4_11 (flt (by decide : ¬ ((16 : Int32) < (2 : Int32)))).2.2.2 rfl (kaN X63 hx hby d4_68 rfl rfl (kiN X63 hx hby d4_69 rfl (kiN X63 hx hby d4_70 rfl (klN X63 hx hby d4_71 rfl k)))))) ?_))
  show OGl _ _ _ _ T63 (mkF m 72 #[rv o0, iv 0, iv 1, jv q1, sc] [.long q1, .int 1, .int 0, .ref o0])
  obtain ⟨cq64, q64a, q64b⟩ := (E_o0).cell
  obtain ⟨_, _, ⟨T64, L64, kk64, n64⟩, -, X64, ⟨Lc64, hQ64, l64, y64, z64⟩, st64⟩ := X63.privateBack hx (y := yy1) hown (mvT hZ (w33 hw)) (mvT hZ (w34 hw)) (own_selPriv (y := yy1) (Cond.privateMethod_at (mvP hZ (w35 hw) (args := #[]))) (mvT hZ (w34 hw)) (mvT hZ (w23 hw)) rfl) (Cond.privateMethod_at (mvP hZ (w35 hw) (args := #[]))) (mvT hZ (w36 hw)) (by decide) (backOf (W := 0) (rm5 l Z a0 hw [] o0 q1 o2 k3 o4 k5 o6 o7 k8 k9 h0 n0 Z0 F1_o0 F0_o0 V_o2 g_o2 F4_o0 ne_o0_o2 V_o4 ne_o4_o2 g_o4 F6_o0 ne_o0_o4 F7_o0 V_o7 ne_o7_o2 ne_o7_o4 V_o6 ne_o6_o2 ne_o6_o4 g_o6 ne_o0_o6 ne_o7_o6 g_o7 ne_o0_o7 E_o0 F10_o0 F11_o0 g_o0) hZ (w36 hw) (w3 hw) (by decide) (by decide)) (g := (mkF m 72 #[rv o0, iv 0, iv 1, jv q1, sc] [.long q1, .int 1, .int 0, .ref o0])) rfl (by rw [hml]; rfl) (Steps.refl _) (a := o0) (by rw [e63]; exact q64a) q64b (argsL := [.int 0, .int 1, .long q1]) (rest := []) (lenOf pd_1 rfl) rfl (by show 2 * 0 + _ ≤ _; exact Nat.le_of_eq rfl) (hb hby d4_72) (fun _ _ => ⟨rfl, e63, (by decide : 0 + 0 ≤ _), (by decide : 0 + 0 ≤ _)⟩)
  dsimp only [Pt.U, Pt.locs, Pt.cells, Pt.slots] at X64 l64 y64 z64 st64 hQ64
  replace l64 := l64.symm
  subst l64 y64 z64
  obtain ⟨rfl, Nq64, K64, Fq64_0, Fq64_1, Fq64_2, Fq64_3, Fq64_4, Fq64_5, Fq64_6, Fq64_7, Fq64_8, Fq64_9, Fq64_10⟩ := hQ64
  have KK64 : Keep h0 T64.heap [o0, o7, o6, o4, o2] := (Keep.refl h0 [o0, o7, o6, o4, o2]).trans K64 (allS (Or.inl (List.mem_of_getElem? (i := 4) rfl)) (allS (Or.inl (List.mem_of_getElem? (i := 3) rfl)) (allS (Or.inl (List.mem_of_getElem? (i := 2) rfl)) (allS (Or.inl (List.mem_of_getElem? (i := 1) rfl)) (allS (Or.inl (List.mem_of_getElem? (i := 0) rfl)) all0)))))
  have N64 := Fr.app N0 Nq64
  refine gO (fun t k => st64.trans k) ?_
  show OGl _ _ _ _ T64 (mkF m 75 #[rv o0, iv 0, iv 1, jv q1, sc] [])
  refine gO (fun t k => kaN X64 hx hby d4_75 rfl rfl (kiN X64 hx hby d4_76 rfl (kiN X64 hx hby d4_77 rfl (kcl X64 hx hby d4_78 k)))) ?_
  show OGl _ _ _ _ T64 (mkF m 79 #[rv o0, iv 0, iv 1, jv q1, sc] [.long 0, .int 0, .int 1, .ref o0])
  have F142 := (E_o0.keep K64)
  obtain ⟨cq103, q103a, q103b⟩ := (F142).cell
  obtain ⟨_, _, ⟨T103, L103, kk103, n103⟩, -, X103, ⟨Lc103, hQ103, l103, y103, z103⟩, st103⟩ := X64.privateBack hx (y := yy1) hown (mvT hZ (w33 hw)) (mvT hZ (w34 hw)) (own_selPriv (y := yy1) (Cond.privateMethod_at (mvP hZ (w35 hw) (args := #[]))) (mvT hZ (w34 hw)) (mvT hZ (w23 hw)) rfl) (Cond.privateMethod_at (mvP hZ (w35 hw) (args := #[]))) (mvT hZ (w36 hw)) (by decide) (backOf (W := 0) (rm5a l Z a0 hw [] o0 o2 k3 o4 k5 q1 o6 o7 k8 k9 T64.heap n0 (Nat.le_trans Z0 KK64.1) Fq64_10 Fq64_4 Fq64_0 g_o2 Fq64_8 ne_o0_o2 Fq64_1 ne_o4_o2 g_o4 Fq64_7 ne_o0_o4 Fq64_6 Fq64_3 ne_o7_o2 ne_o7_o4 Fq64_2 ne_o6_o2 ne_o6_o4 g_o6 ne_o0_o6 ne_o7_o6 g_o7 ne_o0_o7 F142 Fq64_5 Fq64_9 g_o0) hZ (w36 hw) (w3 hw) (by decide) (by decide)) (g := (mkF m 79 #[rv o0, iv 0, iv 1, jv q1, sc] [.long 0, .int 0, .int 1, .ref o0])) rfl (by rw [hml]; rfl) (Steps.refl _) (a := o0) q103a q103b (argsL := [.int 1, .int 0, .long 0]) (rest := []) (lenOf pd_1 rfl) rfl (by show 2 * 0 + _ ≤ _; exact Nat.le_of_eq rfl) (hb hby d4_79) (fun _ _ => ⟨rfl, rfl, (by decide : 0 + 0 ≤ _), (by decide : 0 + 0 ≤ _)⟩)
  dsimp only [Pt.U, Pt.locs, Pt.cells, Pt.slots] at X103 l103 y103 z103 st103 hQ103
  replace l103 := l103.symm
  subst l103 y103 z103
  obtain ⟨rfl, Nq103, K103, Fq103_0, Fq103_1, Fq103_2, Fq103_3, Fq103_4, Fq103_5, Fq103_6, Fq103_7, Fq103_8, Fq103_9, Fq103_10⟩ := hQ103
  have KK103 : Keep h0 T103.heap [o0, o7, o6, o4, o2] := KK64.trans K103 (allS (Or.inl (List.mem_of_getElem? (i := 4) rfl)) (allS (Or.inl (List.mem_of_getElem? (i := 3) rfl)) (allS (Or.inl (List.mem_of_getElem? (i := 2) rfl)) (allS (Or.inl (List.mem_of_getElem? (i := 1) rfl)) (allS (Or.inl (List.mem_of_getElem? (i := 0) rfl)) all0)))))
  have N103 := Fr.app N64 Nq103
  refine gO (fun t k => st103.trans k) ?_
  show OGl _ _ _ _ T103 (mkF m 82 #[rv o0, iv 0, iv 1, jv q1, sc] [])
  obtain ⟨fs, hr, hrun, hended, hW, hsame⟩ := X103.leave (v := none) (fun _ => rfl) (BodyLoose.notSynchronized Bd)
  refine ⟨_, _, X103.returnOut hx Bd.returns (hb hby d4_82) hr, hrun, hended, _, _, rfl, ?_, ⟨_, rfl⟩, hW, hsame.mono (by decide) (by decide)⟩
  show Q4 Z o0 q1 o2 k3 o4 k5 o6 o7 k8 k9 h0 n0 _ T103.heap _
  exact ⟨rfl, N103, KK103, Fq103_4, Fq103_5, Fq103_6, Fq103_7, Fq103_8, Fq103_9, Fq103_10, Fq103_3, Fq103_2, Fq103_1, Fq103_0⟩
theorem d3_86 : decode bc1 86 = .ok (.iload_n 3, 1) := by decide +kernel
theorem d3_87 : decode bc1 87 = .ok (.ireturn, 1) := by decide +kernel
theorem ef_3 (m : MethodId) (x0 : Addr) (x1 : Int64) : entryFrame m #[.ref x0, .long x1] 4 = mkF m 0 #[rv x0, jv x1, sc, un] [] := by first | (simp [entryFrame, mkF, argsToLocals, Value.category]; done) | rfl
def Q3 (Z : State) (o0 : Addr) (q1 : Int64) (o2 : Addr) (k3 : ClassId) (o4 : Addr) (o5 : Addr) (o6 : Addr) (k7 : ClassId) (k8 : ClassId) (k9 : ClassId) (h0 : Heap) (n0 : Nat) (v : Option Value) (h : Heap) (L : List Loc) : Prop := v = some (.int 0) ∧ Fr n0 L ∧ Keep h0 h [o0, o2, o6, o5, o4] ∧ Fld Z h o0 cc0 "edges" "I" (.int 2) ∧ Fld Z h o0 cc0 "halves" "I" (.int 2) ∧ Fld Z h o0 cc0 "heads" "[I" (.ref o2) ∧ Fld Z h o0 cc0 "nexts" "[I" (.ref o4) ∧ Fld Z h o0 cc0 "residues" "[J" (.ref o5) ∧ Fld Z h o0 cc0 "sourceSide" "[Z" (.null) ∧ Fld Z h o0 cc0 "targets" "[I" (.ref o6) ∧ Arv Z h o2 k3 .int 16 (.int 0 :: .int 1 :: zi14) (.int 0) ∧ Arv Z h o6 k7 .int 16 (.int 1 :: zi15) (.int 0) ∧ Arv Z h o5 k8 .long 16 (.long q1 :: zj15) (.long 0) ∧ Arv Z h o4 k9 .int 16 (.int (-1) :: .int (-1) :: zi14) (.int 0)
set_option maxRecDepth 65536 in
set_option maxHeartbeats 40000000 in
theorem rm3 (l : Launch) (Z : State) (a0 : Array Value) (hw : ∀ d ∈ tables_1, d.before a0 Z = true) (ws : List Jvm.Cond) (o0 : Addr) (q1 : Int64) (o2 : Addr) (k3 : ClassId) (o4 : Addr) (o5 : Addr) (o6 : Addr) (k7 : ClassId) (k8 : ClassId) (k9 : ClassId) (h0 : Heap) (n0 : Nat) (Z0 : n0 ≤ h0.size) (F0_o0 : Fld Z h0 o0 cc0 "halves" "I" (.int 0)) (F1_o0 : Fld Z h0 o0 cc0 "heads" "[I" (.ref o2)) (V_o2 : Arv Z h0 o2 k3 .int 16 (zi16) (.int 0)) (E_o0 : Exa Z h0 o0 cc0) (F4_o0 : Fld Z h0 o0 cc0 "edges" "I" (.int 0)) (F5_o0 : Fld Z h0 o0 cc0 "nexts" "[I" (.ref o4)) (F6_o0 : Fld Z h0 o0 cc0 "residues" "[J" (.ref o5)) (F7_o0 : Fld Z h0 o0 cc0 "sourceSide" "[Z" (.null)) (F8_o0 : Fld Z h0 o0 cc0 "targets" "[I" (.ref o6)) (g_o0 : n0 ≤ o0) (ne_o2_o0 : o2 ≠ o0) (g_o2 : n0 ≤ o2) (V_o6 : Arv Z h0 o6 k7 .int 16 (zi16) (.int 0)) (V_o5 : Arv Z h0 o5 k8 .long 16 (zj16) (.long 0)) (V_o4 : Arv Z h0 o4 k9 .int 16 (zi16) (.int 0)) (ne_o6_o0 : o6 ≠ o0) (ne_o6_o2 : o6 ≠ o2) (ne_o5_o0 : o5 ≠ o0) (ne_o5_o2 : o5 ≠ o2) (ne_o4_o0 : o4 ≠ o0) (ne_o4_o2 : o4 ≠ o2) (g_o6 : n0 ≤ o6) (ne_o5_o6 : o5 ≠ o6) (g_o5 : n0 ≤ o5) (ne_o4_o6 : o4 ≠ o6) (ne_o4_o5 : o4 ≠ o5) (g_o4 : n0 ≤ o4) :
    MetFree l yy3 (head1 (Jvm.Cond.code yy3 bc1 4 (some .int) :: ws) rr3) (fun a U => a = #[.ref o0, .long q1] ∧ Z.Warmed39 U.vm ∧ U.heap = h0) (fun _ _ _ _ _ => True) (fun _ U o U' => ∃ v L, o = .returned v ∧ Q3 Z o0 q1 o2 k3 o4 o5 o6 k7 k8 k9 h0 n0 v U'.heap L ∧ FrameEnd U o U' L rr3.cells rr3.slots) := by
  refine MetFree.of_bodySF (plainFor_of_name pn_0) hisR ?_
  intro p e s m args below meth c s₁ Bd hml0 hP hK
  obtain ⟨rfl, hZ, hh⟩ := hP
  have hx := Bd.exec
  have hby := Bd.bytes
  have hml : c.maxLocals = 4 := hml0
  have hown : s.vm.findClass cc0 = some m.cls := findClass_of_methodNamed Bd.named
  have hnm := (name_of_methodNamed Bd.named Bd.method).1
  have X0 : Stand p l e rr3 s m #[.ref o0, .long q1] below meth c s₁ [] 0 0 := Stand.of_body Bd
  have e0 : s₁.heap = h0 := by rw [← hh, Bd.state]; rfl
  have N0 := Fr.nil n0
  refine OGl.start (ef_3 m o0 q1) ?_
  show OGl _ _ _ _ s₁ (mkF m 0 #[rv o0, jv q1, sc, un] [])
  refine gO (fun t k => kaN X0 hx hby d3_0 rfl rfl k) (gG X0 hx hby hZ hown (w25 hw) e0 F0_o0 d3_1 fun T45 X45 e45 => gO (fun t k => kc X45 hx hby d3_4 (XS.idiv X45.here hx rfl (hb hby d3_5) rfl (by decide) (siN X45 hx hby (L' := #[rv o0, jv q1, sc, iv 0]) d3_6 rfl (kaN X45 hx hby d3_7 rfl rfl k)))) (gG X45 hx hby hZ hown (w25 hw) e45 F0_o0 d3_8 fun T46 X46 e46 => gO (fun t k => kc X46 hx hby d3_11 (o_iadd X46 hx hby d3_12 (kaN X46 hx hby d3_13 rfl rfl k))) (gG X46 hx hby hZ hown (w11 hw) e46 F1_o0 d3_14 fun T47 X47 e47 => gO (fun t k => rL X47 hx hby hZ e47 V_o2 d3_17 (cY X47 hx hby 39 d3_18 (flt (by decide : ¬ ((16 : Int32) < (2 : Int32)))).2.2.2 rfl (kaN X47 hx hby d3_39 rfl rfl k))) (gG X47 hx hby hZ hown (w11 hw) e47 F1_o0 d3_40 fun T48 X48 e48 => gO (fun t k => kaN X48 hx hby d3_43 rfl rfl (o_dup X48 hx hby d3_44 rfl k)) (gG X48 hx hby hZ hown (w25 hw) e48 F0_o0 d3_45 fun T49 X49 e49 => gO (fun t k => o_dupX1 X49 hx hby d3_48 rfl rfl (kc X49 hx hby d3_49 (o_iadd X49 hx hby d3_50 k))) ?_)))))
  show OGl _ _ _ _ T49 (mkF m 51 #[rv o0, jv q1, sc, iv 0] [.int 1, .ref o0, .int 0, .ref o2])
  obtain ⟨T50, h50, X50, e50, W50, st50⟩ := putF X49 hx hZ hown (host := "") (Or.inl (w25 hw)) Via.refl e49 F0_o0 E_o0 (Or.inl (w26 hw)) (w2 hw) (ty := .int) (by decide) rfl rfl (g := (mkF m 51 #[rv o0, jv q1, sc, iv 0] [.int 1, .ref o0, .int 0, .ref o2])) rfl rfl (hb hby d3_51)
  refine gO st50 ?_
  have N50 := Fr.snoc X50 N0 g_o0
  have Fw50 := F0_o0.same W50
  have KK50 := (Keep.refl h0 [o0, o2, o6, o5, o4]).wr W50 (Or.inl (List.mem_of_getElem? (i := 0) rfl))
  show OGl _ _ _ _ T50 (mkF m 54 #[rv o0, jv q1, sc, iv 0] [.int 0, .ref o2])
  refine gO (fun t k => kc X50 hx hby d3_54 k) ?_
  show OGl _ _ _ _ T50 (mkF m 55 #[rv o0, jv q1, sc, iv 0] [.int (-1), .int 0, .ref o2])
  have F51 := (V_o2.other W50 ne_o2_o0)
  refine wI X50 hx hby hZ e50 F51 0 rfl (Nat.le_of_ble_eq_true rfl) d3_55 fun T52 h52 X52 e52 W52 V52 => ?_
  have N52 := Fr.snoc X52 N50 g_o2
  have KK52 := KK50.wr W52 (Or.inl (List.mem_of_getElem? (i := 1) rfl))
  show OGl _ _ _ _ T52 (mkF m 56 #[rv o0, jv q1, sc, iv 0] [])
  have F53 := ((F1_o0.other W50 (Or.inr (sn12_26 hw))).other W52 (Or.inl (Ne.symm ne_o2_o0)))
  have F55 := (Fw50.other W52 (Or.inl (Ne.symm ne_o2_o0)))
  refine gO (fun t k => kaN X52 hx hby d3_56 rfl rfl k) (gG X52 hx hby hZ hown (w11 hw) e52 F53 d3_57 fun T54 X54 e54 => gO (fun t k => kaN X54 hx hby d3_60 rfl rfl (o_dup X54 hx hby d3_61 rfl k)) (gG X54 hx hby hZ hown (w25 hw) e54 F55 d3_62 fun T56 X56 e56 => gO (fun t k => o_dupX1 X56 hx hby d3_65 rfl rfl (kc X56 hx hby d3_66 (o_iadd X56 hx hby d3_67 k))) ?_))
  show OGl _ _ _ _ T56 (mkF m 68 #[rv o0, jv q1, sc, iv 0] [.int 2, .ref o0, .int 1, .ref o2])
  have F57 := ((E_o0.wr W50).wr W52)
  obtain ⟨T58, h58, X58, e58, W58, st58⟩ := putF X56 hx hZ hown (host := "") (Or.inl (w25 hw)) Via.refl e56 F55 F57 (Or.inl (w26 hw)) (w2 hw) (ty := .int) (by decide) rfl rfl (g := (mkF m 68 #[rv o0, jv q1, sc, iv 0] [.int 2, .ref o0, .int 1, .ref o2])) rfl rfl (hb hby d3_68)
  refine gO st58 ?_
  have N58 := Fr.snoc X58 N52 g_o0
  have Fw58 := F55.same W58
  have KK58 := KK52.wr W58 (Or.inl (List.mem_of_getElem? (i := 0) rfl))
  show OGl _ _ _ _ T58 (mkF m 71 #[rv o0, jv q1, sc, iv 0] [.int 1, .ref o2])
  refine gO (fun t k => kc X58 hx hby d3_71 k) ?_
  show OGl _ _ _ _ T58 (mkF m 72 #[rv o0, jv q1, sc, iv 0] [.int (-1), .int 1, .ref o2])
  have F59 := (V52.other W58 ne_o2_o0)
  refine wI X58 hx hby hZ e58 F59 1 rfl (Nat.le_of_ble_eq_true rfl) d3_72 fun T60 h60 X60 e60 W60 V60 => ?_
  have N60 := Fr.snoc X60 N58 g_o2
  have KK60 := KK58.wr W60 (Or.inl (List.mem_of_getElem? (i := 1) rfl))
  show OGl _ _ _ _ T60 (mkF m 73 #[rv o0, jv q1, sc, iv 0] [])
  refine gO (fun t k => kaN X60 hx hby d3_73 rfl rfl (kc X60 hx hby d3_74 (kiN X60 hx hby d3_75 rfl (o_imul X60 hx hby d3_76 (kc X60 hx hby d3_77 (kiN X60 hx hby d3_78 rfl (o_imul X60 hx hby d3_79 (kc X60 hx hby d3_80 (o_iadd X60 hx hby d3_81 (klN X60 hx hby d3_82 rfl k)))))))))) ?_
  show OGl _ _ _ _ T60 (mkF m 83 #[rv o0, jv q1, sc, iv 0] [.long q1, .int 1, .int 0, .ref o0])
  have F143 := ((((F4_o0.other W50 (Or.inr (sn32_26 hw))).other W52 (Or.inl (Ne.symm ne_o2_o0))).other W58 (Or.inr (sn32_26 hw))).other W60 (Or.inl (Ne.symm ne_o2_o0)))
  have F144 := ((((F8_o0.other W50 (Or.inr (sn14_26 hw))).other W52 (Or.inl (Ne.symm ne_o2_o0))).other W58 (Or.inr (sn14_26 hw))).other W60 (Or.inl (Ne.symm ne_o2_o0)))
  have F145 := ((((V_o6.other W50 ne_o6_o0).other W52 ne_o6_o2).other W58 ne_o6_o0).other W60 ne_o6_o2)
  have F146 := ((F57.wr W58).wr W60)
  have F147 := ((((F6_o0.other W50 (Or.inr (sn19_26 hw))).other W52 (Or.inl (Ne.symm ne_o2_o0))).other W58 (Or.inr (sn19_26 hw))).other W60 (Or.inl (Ne.symm ne_o2_o0)))
  have F148 := ((((V_o5.other W50 ne_o5_o0).other W52 ne_o5_o2).other W58 ne_o5_o0).other W60 ne_o5_o2)
  have F149 := ((((F5_o0.other W50 (Or.inr (sn16_26 hw))).other W52 (Or.inl (Ne.symm ne_o2_o0))).other W58 (Or.inr (sn16_26 hw))).other W60 (Or.inl (Ne.symm ne_o2_o0)))
  have F150 := ((F53.other W58 (Or.inr (sn12_26 hw))).other W60 (Or.inl (Ne.symm ne_o2_o0)))
  have F151 := ((((V_o4.other W50 ne_o4_o0).other W52 ne_o4_o2).other W58 ne_o4_o0).other W60 ne_o4_o2)
  have F152 := (Fw58.other W60 (Or.inl (Ne.symm ne_o2_o0)))
  have F153 := ((((F7_o0.other W50 (Or.inr (sn59_26 hw))).other W52 (Or.inl (Ne.symm ne_o2_o0))).other W58 (Or.inr (sn59_26 hw))).other W60 (Or.inl (Ne.symm ne_o2_o0)))
  obtain ⟨cq61, q61a, q61b⟩ := (F146).cell
  obtain ⟨_, _, ⟨T61, L61, kk61, n61⟩, -, X61, ⟨Lc61, hQ61, l61, y61, z61⟩, st61⟩ := X60.privateBack hx (y := yy2) hown (mvT hZ (w27 hw)) (mvT hZ (w28 hw)) (own_selPriv (y := yy2) (Cond.privateMethod_at (mvP hZ (w29 hw) (args := #[]))) (mvT hZ (w28 hw)) (mvT hZ (w23 hw)) rfl) (Cond.privateMethod_at (mvP hZ (w29 hw) (args := #[]))) (mvT hZ (w30 hw)) (by decide) (backOf (W := 0) (rm4 l Z a0 hw [] o0 q1 o6 k7 o5 k8 o4 o2 k3 k9 h60 n0 (Nat.le_trans Z0 KK60.1) F143 F144 F145 F146 F147 F148 F149 F150 V60 F151 F152 F153 g_o6 (Ne.symm ne_o6_o0) ne_o5_o6 g_o5 (Ne.symm ne_o5_o0) (Ne.symm ne_o6_o2) (Ne.symm ne_o5_o2) ne_o4_o6 ne_o4_o5 g_o4 (Ne.symm ne_o4_o0) (Ne.symm ne_o4_o2) g_o2 (Ne.symm ne_o2_o0) g_o0) hZ (w30 hw) (w3 hw) (by decide) (by decide)) (g := (mkF m 83 #[rv o0, jv q1, sc, iv 0] [.long q1, .int 1, .int 0, .ref o0])) rfl (by rw [hml]; rfl) (Steps.refl _) (a := o0) (by rw [e60]; exact q61a) q61b (argsL := [.int 0, .int 1, .long q1]) (rest := []) (lenOf pd_1 rfl) rfl (by show 2 * 0 + _ ≤ _; exact Nat.le_of_eq rfl) (hb hby d3_83) (fun _ _ => ⟨rfl, e60, (by decide : 0 + 0 ≤ _), (by decide : 0 + 0 ≤ _)⟩)
  dsimp only [Pt.U, Pt.locs, Pt.cells, Pt.slots] at X61 l61 y61 z61 st61 hQ61
  replace l61 := l61.symm
  subst l61 y61 z61
  obtain ⟨rfl, Nq61, K61, Fq61_0, Fq61_1, Fq61_2, Fq61_3, Fq61_4, Fq61_5, Fq61_6, Fq61_7, Fq61_8, Fq61_9, Fq61_10⟩ := hQ61
  have KK61 : Keep h0 T61.heap [o0, o2, o6, o5, o4] := KK60.trans K61 (allS (Or.inl (List.mem_of_getElem? (i := 0) rfl)) (allS (Or.inl (List.mem_of_getElem? (i := 1) rfl)) (allS (Or.inl (List.mem_of_getElem? (i := 4) rfl)) (allS (Or.inl (List.mem_of_getElem? (i := 3) rfl)) (allS (Or.inl (List.mem_of_getElem? (i := 2) rfl)) all0)))))
  have N61 := Fr.app N60 Nq61
  refine gO (fun t k => st61.trans k) ?_
  show OGl _ _ _ _ T61 (mkF m 86 #[rv o0, jv q1, sc, iv 0] [])
  refine gO (fun t k => kiN X61 hx hby d3_86 rfl k) ?_
  show OGl _ _ _ _ T61 (mkF m 87 #[rv o0, jv q1, sc, iv 0] [.int 0])
  obtain ⟨fs, hr, hrun, hended, hW, hsame⟩ := X61.leave (v := some (.int 0)) (fun h => by rw [Bd.returns] at h; cases h) (BodyLoose.notSynchronized Bd)
  refine ⟨_, _, retI X61 hx Bd.returns (hb hby d3_87) hr, hrun, hended, _, _, rfl, ?_, ⟨_, rfl⟩, hW, hsame.mono (by decide) (by decide)⟩
  show Q3 Z o0 q1 o2 k3 o4 o5 o6 k7 k8 k9 h0 n0 _ T61.heap _
  exact ⟨rfl, N61, KK61, Fq61_0, Fq61_1, Fq61_2, Fq61_3, Fq61_4, Fq61_5, Fq61_6, Fq61_7, Fq61_10, Fq61_9, Fq61_8⟩
theorem pd_2 : parseMethodDescriptor "(J)I" = some ⟨[.long], some .int⟩ := by decide +kernel
abbrev zi12 : List Value := [.int 0, .int 0, .int 0, .int 0, .int 0, .int 0, .int 0, .int 0, .int 0, .int 0, .int 0, .int 0]
abbrev zi13 : List Value := [.int 0, .int 0, .int 0, .int 0, .int 0, .int 0, .int 0, .int 0, .int 0, .int 0, .int 0, .int 0, .int 0]
abbrev zj13 : List Value := [.long 0, .long 0, .long 0, .long 0, .long 0, .long 0, .long 0, .long 0, .long 0, .long 0, .long 0, .long 0, .long 0]
def Q5b (Z : State) (o0 : Addr) (q1 : Int64) (o2 : Addr) (k3 : ClassId) (o4 : Addr) (k5 : ClassId) (q6 : Int64) (o7 : Addr) (o8 : Addr) (k9 : ClassId) (k10 : ClassId) (h0 : Heap) (n0 : Nat) (v : Option Value) (h : Heap) (L : List Loc) : Prop := v = none ∧ Fr n0 L ∧ Keep h0 h [o2, o4, o7, o8, o0] ∧ Arv Z h o2 k3 .int 16 (.int 1 :: .int 0 :: .int 3 :: zi13) (.int 0) ∧ Arv Z h o4 k5 .long 16 (.long q6 :: .long 0 :: .long q1 :: zj13) (.long 0) ∧ Arv Z h o7 k10 .int 16 (.int (-1) :: .int (-1) :: .int (-1) :: zi13) (.int 0) ∧ Arv Z h o8 k9 .int 16 (.int 0 :: .int 1 :: .int 2 :: .int (-1) :: zi12) (.int 0) ∧ Fld Z h o0 cc0 "edges" "I" (.int 3) ∧ Fld Z h o0 cc0 "halves" "I" (.int 4) ∧ Fld Z h o0 cc0 "heads" "[I" (.ref o8) ∧ Fld Z h o0 cc0 "nexts" "[I" (.ref o7) ∧ Fld Z h o0 cc0 "residues" "[J" (.ref o4) ∧ Fld Z h o0 cc0 "sourceSide" "[Z" (.null) ∧ Fld Z h o0 cc0 "targets" "[I" (.ref o2)
set_option maxRecDepth 65536 in
set_option maxHeartbeats 40000000 in
theorem rm5b (l : Launch) (Z : State) (a0 : Array Value) (hw : ∀ d ∈ tables_1, d.before a0 Z = true) (ws : List Jvm.Cond) (o0 : Addr) (q1 : Int64) (o2 : Addr) (k3 : ClassId) (o4 : Addr) (k5 : ClassId) (q6 : Int64) (o7 : Addr) (o8 : Addr) (k9 : ClassId) (k10 : ClassId) (h0 : Heap) (n0 : Nat) (Z0 : n0 ≤ h0.size) (F0_o0 : Fld Z h0 o0 cc0 "targets" "[I" (.ref o2)) (F1_o0 : Fld Z h0 o0 cc0 "edges" "I" (.int 2)) (V_o2 : Arv Z h0 o2 k3 .int 16 (.int 1 :: zi15) (.int 0)) (g_o2 : n0 ≤ o2) (F4_o0 : Fld Z h0 o0 cc0 "residues" "[J" (.ref o4)) (ne_o0_o2 : o0 ≠ o2) (V_o4 : Arv Z h0 o4 k5 .long 16 (.long q6 :: zj15) (.long 0)) (ne_o4_o2 : o4 ≠ o2) (g_o4 : n0 ≤ o4) (F9_o0 : Fld Z h0 o0 cc0 "nexts" "[I" (.ref o7)) (ne_o0_o4 : o0 ≠ o4) (F11_o0 : Fld Z h0 o0 cc0 "heads" "[I" (.ref o8)) (V_o8 : Arv Z h0 o8 k9 .int 16 (.int 0 :: .int 1 :: .int (-1) :: .int (-1) :: zi12) (.int 0)) (ne_o8_o2 : o8 ≠ o2) (ne_o8_o4 : o8 ≠ o4) (V_o7 : Arv Z h0 o7 k10 .int 16 (.int (-1) :: .int (-1) :: zi14) (.int 0)) (ne_o7_o2 : o7 ≠ o2) (ne_o7_o4 : o7 ≠ o4) (g_o7 : n0 ≤ o7) (ne_o0_o7 : o0 ≠ o7) (ne_o8_o7 : o8 ≠ o7) (g_o8 : n0 ≤ o8) (ne_o0_o8 : o0 ≠ o8) (E_o0 : Exa Z h0 o0 cc0) (F24_o0 : Fld Z h0 o0 cc0 "halves" "I" (.int 4)) (F25_o0 : Fld Z h0 o0 cc0 "sourceSide" "[Z" (.null)) (g_o0 : n0 ≤ o0) :
    MetFree l yy1 (head1 (Jvm.Cond.code yy1 bc3 5 none :: ws) rr1) (fun a U => a = #[.ref o0, .int 2, .int 3, .long q1] ∧ Z.Warmed39 U.vm ∧ U.heap = h0) (fun _ _ _ _ _ => True) (fun _ U o U' => ∃ v L, o = .returned v ∧ Q5b Z o0 q1 o2 k3 o4 k5 q6 o7 o8 k9 k10 h0 n0 v U'.heap L ∧ FrameEnd U o U' L rr1.cells rr1.slots) := by
  refine MetFree.of_bodySF (plainFor_of_name pn_0) hisR ?_
  intro p e s m args below meth c s₁ Bd hml0 hP hK
  obtain ⟨rfl, hZ, hh⟩ := hP
  have hx := Bd.exec
  have hby := Bd.bytes
  have hml : c.maxLocals = 5 := hml0
  have hown : s.vm.findClass cc0 = some m.cls := findClass_of_methodNamed Bd.named
  have hnm := (name_of_methodNamed Bd.named Bd.method).1
  have X0 : Stand p l e rr1 s m #[.ref o0, .int 2, .int 3, .long q1] below meth c s₁ [] 0 0 := Stand.of_body Bd
  have e0 : s₁.heap = h0 := by rw [← hh, Bd.state]; rfl
  have N0 := Fr.nil n0
  refine OGl.start (ef_5 m o0 (2 : Int32) (3 : Int32) q1) ?_
  show OGl _ _ _ _ s₁ (mkF m 0 #[rv o0, iv 2, iv 3, jv q1, sc] [])
  refine gO (fun t k => kaN X0 hx hby d5_0 rfl rfl k) (gG X0 hx hby hZ hown (w13 hw) e0 F0_o0 d5_1 fun T176 X176 e176 => gO (fun t k => kaN X176 hx hby d5_4 rfl rfl k) (gG X176 hx hby hZ hown (w31 hw) e176 F1_o0 d5_5 fun T177 X177 e177 => gO (fun t k => kiN X177 hx hby d5_8 rfl k) ?_))
  show OGl _ _ _ _ T177 (mkF m 9 #[rv o0, iv 2, iv 3, jv q1, sc] [.int 3, .int 2, .ref o2])
  refine wI X177 hx hby hZ e177 V_o2 2 rfl (Nat.le_of_ble_eq_true rfl) d5_9 fun T178 h178 X178 e178 W178 V178 => ?_
  have N178 := Fr.snoc X178 N0 g_o2
  have KK178 := (Keep.refl h0 [o2, o4, o7, o8, o0]).wr W178 (Or.inl (List.mem_of_getElem? (i := 0) rfl))
  show OGl _ _ _ _ T178 (mkF m 10 #[rv o0, iv 2, iv 3, jv q1, sc] [])
  have F179 := (F4_o0.other W178 (Or.inl ne_o0_o2))
  have F181 := (F1_o0.other W178 (Or.inl ne_o0_o2))
  refine gO (fun t k => kaN X178 hx hby d5_10 rfl rfl k) (gG X178 hx hby hZ hown (w18 hw) e178 F179 d5_11 fun T180 X180 e180 => gO (fun t k => kaN X180 hx hby d5_14 rfl rfl k) (gG X180 hx hby hZ hown (w31 hw) e180 F181 d5_15 fun T182 X182 e182 => gO (fun t k => klN X182 hx hby d5_18 rfl k) ?_))
  show OGl _ _ _ _ T182 (mkF m 19 #[rv o0, iv 2, iv 3, jv q1, sc] [.long q1, .int 2, .ref o4])
  have F183 := (V_o4.other W178 ne_o4_o2)
  refine wJ X182 hx hby hZ e182 F183 2 rfl (Nat.le_of_ble_eq_true rfl) d5_19 fun T184 h184 X184 e184 W184 V184 => ?_
  have N184 := Fr.snoc X184 N178 g_o4
  have KK184 := KK178.wr W184 (Or.inl (List.mem_of_getElem? (i := 1) rfl))
  show OGl _ _ _ _ T184 (mkF m 20 #[rv o0, iv 2, iv 3, jv q1, sc] [])
  have F185 := ((F9_o0.other W178 (Or.inl ne_o0_o2)).other W184 (Or.inl ne_o0_o4))
  have F187 := (F181.other W184 (Or.inl ne_o0_o4))
  have F189 := ((F11_o0.other W178 (Or.inl ne_o0_o2)).other W184 (Or.inl ne_o0_o4))
  have F191 := ((V_o8.other W178 ne_o8_o2).other W184 ne_o8_o4)
  refine gO (fun t k => kaN X184 hx hby d5_20 rfl rfl k) (gG X184 hx hby hZ hown (w15 hw) e184 F185 d5_21 fun T186 X186 e186 => gO (fun t k => kaN X186 hx hby d5_24 rfl rfl k) (gG X186 hx hby hZ hown (w31 hw) e186 F187 d5_25 fun T188 X188 e188 => gO (fun t k => kaN X188 hx hby d5_28 rfl rfl k) (gG X188 hx hby hZ hown (w11 hw) e188 F189 d5_29 fun T190 X190 e190 => gO (fun t k => kiN X190 hx hby d5_32 rfl (rI X190 hx hby hZ e190 F191 (.int (-1)) rfl rfl d5_33 k)) ?_)))
  show OGl _ _ _ _ T190 (mkF m 34 #[rv o0, iv 2, iv 3, jv q1, sc] [.int (-1), .int 2, .ref o7])
  have F192 := ((V_o7.other W178 ne_o7_o2).other W184 ne_o7_o4)
  refine wI X190 hx hby hZ e190 F192 2 rfl (Nat.le_of_ble_eq_true rfl) d5_34 fun T193 h193 X193 e193 W193 V193 => ?_
  have N193 := Fr.snoc X193 N184 g_o7
  have KK193 := KK184.wr W193 (Or.inl (List.mem_of_getElem? (i := 2) rfl))
  show OGl _ _ _ _ T193 (mkF m 35 #[rv o0, iv 2, iv 3, jv q1, sc] [])
  have F194 := (F189.other W193 (Or.inl ne_o0_o7))
  have F196 := (F187.other W193 (Or.inl ne_o0_o7))
  refine gO (fun t k => kaN X193 hx hby d5_35 rfl rfl k) (gG X193 hx hby hZ hown (w11 hw) e193 F194 d5_36 fun T195 X195 e195 => gO (fun t k => kiN X195 hx hby d5_39 rfl (kaN X195 hx hby d5_40 rfl rfl k)) (gG X195 hx hby hZ hown (w31 hw) e195 F196 d5_41 fun T197 X197 e197 => ?_))
  show OGl _ _ _ _ T197 (mkF m 44 #[rv o0, iv 2, iv 3, jv q1, sc] [.int 2, .int 2, .ref o8])
  have F198 := (F191.other W193 ne_o8_o7)
  refine wI X197 hx hby hZ e197 F198 2 rfl (Nat.le_of_ble_eq_true rfl) d5_44 fun T199 h199 X199 e199 W199 V199 => ?_
  have N199 := Fr.snoc X199 N193 g_o8
  have KK199 := KK193.wr W199 (Or.inl (List.mem_of_getElem? (i := 3) rfl))
  show OGl _ _ _ _ T199 (mkF m 45 #[rv o0, iv 2, iv 3, jv q1, sc] [])
  have F200 := (F196.other W199 (Or.inl ne_o0_o8))
  refine gO (fun t k => kaN X199 hx hby d5_45 rfl rfl (o_dup X199 hx hby d5_46 rfl k)) (gG X199 hx hby hZ hown (w31 hw) e199 F200 d5_47 fun T201 X201 e201 => gO (fun t k => kc X201 hx hby d5_50 (o_iadd X201 hx hby d5_51 k)) ?_)
  show OGl _ _ _ _ T201 (mkF m 52 #[rv o0, iv 2, iv 3, jv q1, sc] [.int 3, .ref o0])
  have F202 := ((((E_o0.wr W178).wr W184).wr W193).wr W199)
  obtain ⟨T203, h203, X203, e203, W203, st203⟩ := putF X201 hx hZ hown (host := "") (Or.inl (w31 hw)) Via.refl e201 F200 F202 (Or.inl (w32 hw)) (w2 hw) (ty := .int) (by decide) rfl rfl (g := (mkF m 52 #[rv o0, iv 2, iv 3, jv q1, sc] [.int 3, .ref o0])) rfl rfl (hb hby d5_52)
  refine gO st203 ?_
  have N203 := Fr.snoc X203 N199 g_o0
  have Fw203 := F200.same W203
  have KK203 := KK199.wr W203 (Or.inl (List.mem_of_getElem? (i := 4) rfl))
  show OGl _ _ _ _ T203 (mkF m 55 #[rv o0, iv 2, iv 3, jv q1, sc] [])
  obtain ⟨fs, hr, hrun, hended, hW, hsame⟩ := X203.leave (v := none) (fun _ => rfl) (BodyLoose.notSynchronized Bd)
  refine ⟨_, _, X203.returnOut hx Bd.returns (hb hby d5_55) hr, hrun, hended, _, _, rfl, ?_, ⟨_, rfl⟩, hW, hsame.mono (by decide) (by decide)⟩
  show Q5b Z o0 q1 o2 k3 o4 k5 q6 o7 o8 k9 k10 h0 n0 _ T203.heap _
  rw [e203]
  have F204 := ((((V178.other W184 (Ne.symm ne_o4_o2)).other W193 (Ne.symm ne_o7_o2)).other W199 (Ne.symm ne_o8_o2)).other W203 (Ne.symm ne_o0_o2))
  have F205 := (((V184.other W193 (Ne.symm ne_o7_o4)).other W199 (Ne.symm ne_o8_o4)).other W203 (Ne.symm ne_o0_o4))
  have F206 := ((V193.other W199 (Ne.symm ne_o8_o7)).other W203 (Ne.symm ne_o0_o7))
  have F207 := (V199.other W203 (Ne.symm ne_o0_o8))
  have F208 := (((((F24_o0.other W178 (Or.inl ne_o0_o2)).other W184 (Or.inl ne_o0_o4)).other W193 (Or.inl ne_o0_o7)).other W199 (Or.inl ne_o0_o8)).other W203 (Or.inr (sn26_32 hw)))
  have F209 := ((F194.other W199 (Or.inl ne_o0_o8)).other W203 (Or.inr (sn12_32 hw)))
  have F210 := (((F185.other W193 (Or.inl ne_o0_o7)).other W199 (Or.inl ne_o0_o8)).other W203 (Or.inr (sn16_32 hw)))
  have F211 := ((((F179.other W184 (Or.inl ne_o0_o4)).other W193 (Or.inl ne_o0_o7)).other W199 (Or.inl ne_o0_o8)).other W203 (Or.inr (sn19_32 hw)))
  have F212 := (((((F25_o0.other W178 (Or.inl ne_o0_o2)).other W184 (Or.inl ne_o0_o4)).other W193 (Or.inl ne_o0_o7)).other W199 (Or.inl ne_o0_o8)).other W203 (Or.inr (sn59_32 hw)))
  have F213 := (((((F0_o0.other W178 (Or.inl ne_o0_o2)).other W184 (Or.inl ne_o0_o4)).other W193 (Or.inl ne_o0_o7)).other W199 (Or.inl ne_o0_o8)).other W203 (Or.inr (sn14_32 hw)))
  exact ⟨rfl, N203, KK203, F204, F205, F206, F207, Fw203, F208, F209, F210, F211, F212, F213⟩
def Q5c (Z : State) (o0 : Addr) (o1 : Addr) (k2 : ClassId) (o3 : Addr) (k4 : ClassId) (q5 : Int64) (q6 : Int64) (o7 : Addr) (o8 : Addr) (k9 : ClassId) (k10 : ClassId) (h0 : Heap) (n0 : Nat) (v : Option Value) (h : Heap) (L : List Loc) : Prop := v = none ∧ Fr n0 L ∧ Keep h0 h [o1, o3, o7, o8, o0] ∧ Arv Z h o1 k2 .int 16 (.int 1 :: .int 0 :: .int 3 :: .int 2 :: zi12) (.int 0) ∧ Arv Z h o3 k4 .long 16 (.long q5 :: .long 0 :: .long q6 :: zj13) (.long 0) ∧ Arv Z h o7 k10 .int 16 (.int (-1) :: .int (-1) :: .int (-1) :: .int (-1) :: zi12) (.int 0) ∧ Arv Z h o8 k9 .int 16 (.int 0 :: .int 1 :: .int 2 :: .int 3 :: zi12) (.int 0) ∧ Fld Z h o0 cc0 "edges" "I" (.int 4) ∧ Fld Z h o0 cc0 "halves" "I" (.int 4) ∧ Fld Z h o0 cc0 "heads" "[I" (.ref o8) ∧ Fld Z h o0 cc0 "nexts" "[I" (.ref o7) ∧ Fld Z h o0 cc0 "residues" "[J" (.ref o3) ∧ Fld Z h o0 cc0 "sourceSide" "[Z" (.null) ∧ Fld Z h o0 cc0 "targets" "[I" (.ref o1)
set_option maxRecDepth 65536 in
set_option maxHeartbeats 40000000 in
theorem rm5c (l : Launch) (Z : State) (a0 : Array Value) (hw : ∀ d ∈ tables_1, d.before a0 Z = true) (ws : List Jvm.Cond) (o0 : Addr) (o1 : Addr) (k2 : ClassId) (o3 : Addr) (k4 : ClassId) (q5 : Int64) (q6 : Int64) (o7 : Addr) (o8 : Addr) (k9 : ClassId) (k10 : ClassId) (h0 : Heap) (n0 : Nat) (Z0 : n0 ≤ h0.size) (F0_o0 : Fld Z h0 o0 cc0 "targets" "[I" (.ref o1)) (F1_o0 : Fld Z h0 o0 cc0 "edges" "I" (.int 3)) (V_o1 : Arv Z h0 o1 k2 .int 16 (.int 1 :: .int 0 :: .int 3 :: zi13) (.int 0)) (g_o1 : n0 ≤ o1) (F4_o0 : Fld Z h0 o0 cc0 "residues" "[J" (.ref o3)) (ne_o0_o1 : o0 ≠ o1) (V_o3 : Arv Z h0 o3 k4 .long 16 (.long q5 :: .long 0 :: .long q6 :: zj13) (.long 0)) (ne_o3_o1 : o3 ≠ o1) (g_o3 : n0 ≤ o3) (F9_o0 : Fld Z h0 o0 cc0 "nexts" "[I" (.ref o7)) (ne_o0_o3 : o0 ≠ o3) (F11_o0 : Fld Z h0 o0 cc0 "heads" "[I" (.ref o8)) (V_o8 : Arv Z h0 o8 k9 .int 16 (.int 0 :: .int 1 :: .int 2 :: .int (-1) :: zi12) (.int 0)) (ne_o8_o1 : o8 ≠ o1) (ne_o8_o3 : o8 ≠ o3) (V_o7 : Arv Z h0 o7 k10 .int 16 (.int (-1) :: .int (-1) :: .int (-1) :: zi13) (.int 0)) (ne_o7_o1 : o7 ≠ o1) (ne_o7_o3 : o7 ≠ o3) (g_o7 : n0 ≤ o7) (ne_o0_o7 : o0 ≠ o7) (ne_o8_o7 : o8 ≠ o7) (g_o8 : n0 ≤ o8) (ne_o0_o8 : o0 ≠ o8) (E_o0 : Exa Z h0 o0 cc0) (F24_o0 : Fld Z h0 o0 cc0 "halves" "I" (.int 4)) (F25_o0 : Fld Z h0 o0 cc0 "sourceSide" "[Z" (.null)) (g_o0 : n0 ≤ o0) :
    MetFree l yy1 (head1 (Jvm.Cond.code yy1 bc3 5 none :: ws) rr1) (fun a U => a = #[.ref o0, .int 3, .int 2, .long 0] ∧ Z.Warmed39 U.vm ∧ U.heap = h0) (fun _ _ _ _ _ => True) (fun _ U o U' => ∃ v L, o = .returned v ∧ Q5c Z o0 o1 k2 o3 k4 q5 q6 o7 o8 k9 k10 h0 n0 v U'.heap L ∧ FrameEnd U o U' L rr1.cells rr1.slots) := by
  refine MetFree.of_bodySF (plainFor_of_name pn_0) hisR ?_
  intro p e s m args below meth c s₁ Bd hml0 hP hK
  obtain ⟨rfl, hZ, hh⟩ := hP
  have hx := Bd.exec
  have hby := Bd.bytes
  have hml : c.maxLocals = 5 := hml0
  have hown : s.vm.findClass cc0 = some m.cls := findClass_of_methodNamed Bd.named
  have hnm := (name_of_methodNamed Bd.named Bd.method).1
  have X0 : Stand p l e rr1 s m #[.ref o0, .int 3, .int 2, .long 0] below meth c s₁ [] 0 0 := Stand.of_body Bd
  have e0 : s₁.heap = h0 := by rw [← hh, Bd.state]; rfl
  have N0 := Fr.nil n0
  refine OGl.start (ef_5 m o0 (3 : Int32) (2 : Int32) (0 : Int64)) ?_
  show OGl _ _ _ _ s₁ (mkF m 0 #[rv o0, iv 3, iv 2, jv 0, sc] [])
  refine gO (fun t k => kaN X0 hx hby d5_0 rfl rfl k) (gG X0 hx hby hZ hown (w13 hw) e0 F0_o0 d5_1 fun T215 X215 e215 => gO (fun t k => kaN X215 hx hby d5_4 rfl rfl k) (gG X215 hx hby hZ hown (w31 hw) e215 F1_o0 d5_5 fun T216 X216 e216 => gO (fun t k => kiN X216 hx hby d5_8 rfl k) ?_))
  show OGl _ _ _ _ T216 (mkF m 9 #[rv o0, iv 3, iv 2, jv 0, sc] [.int 2, .int 3, .ref o1])
  refine wI X216 hx hby hZ e216 V_o1 3 rfl (Nat.le_of_ble_eq_true rfl) d5_9 fun T217 h217 X217 e217 W217 V217 => ?_
  have N217 := Fr.snoc X217 N0 g_o1
  have KK217 := (Keep.refl h0 [o1, o3, o7, o8, o0]).wr W217 (Or.inl (List.mem_of_getElem? (i := 0) rfl))
  show OGl _ _ _ _ T217 (mkF m 10 #[rv o0, iv 3, iv 2, jv 0, sc] [])
  have F218 := (F4_o0.other W217 (Or.inl ne_o0_o1))
  have F220 := (F1_o0.other W217 (Or.inl ne_o0_o1))
  refine gO (fun t k => kaN X217 hx hby d5_10 rfl rfl k) (gG X217 hx hby hZ hown (w18 hw) e217 F218 d5_11 fun T219 X219 e219 => gO (fun t k => kaN X219 hx hby d5_14 rfl rfl k) (gG X219 hx hby hZ hown (w31 hw) e219 F220 d5_15 fun T221 X221 e221 => gO (fun t k => klN X221 hx hby d5_18 rfl k) ?_))
  show OGl _ _ _ _ T221 (mkF m 19 #[rv o0, iv 3, iv 2, jv 0, sc] [.long 0, .int 3, .ref o3])
  have F222 := (V_o3.other W217 ne_o3_o1)
  refine wJ X221 hx hby hZ e221 F222 3 rfl (Nat.le_of_ble_eq_true rfl) d5_19 fun T223 h223 X223 e223 W223 V223 => ?_
  have N223 := Fr.snoc X223 N217 g_o3
  have KK223 := KK217.wr W223 (Or.inl (List.mem_of_getElem? (i := 1) rfl))
  show OGl _ _ _ _ T223 (mkF m 20 #[rv o0, iv 3, iv 2, jv 0, sc] [])
  have F224 := ((F9_o0.other W217 (Or.inl ne_o0_o1)).other W223 (Or.inl ne_o0_o3))
  have F226 := (F220.other W223 (Or.inl ne_o0_o3))
  have F228 := ((F11_o0.other W217 (Or.inl ne_o0_o1)).other W223 (Or.inl ne_o0_o3))
  have F230 := ((V_o8.other W217 ne_o8_o1).other W223 ne_o8_o3)
  refine gO (fun t k => kaN X223 hx hby d5_20 rfl rfl k) (gG X223 hx hby hZ hown (w15 hw) e223 F224 d5_21 fun T225 X225 e225 => gO (fun t k => kaN X225 hx hby d5_24 rfl rfl k) (gG X225 hx hby hZ hown (w31 hw) e225 F226 d5_25 fun T227 X227 e227 => gO (fun t k => kaN X227 hx hby d5_28 rfl rfl k) (gG X227 hx hby hZ hown (w11 hw) e227 F228 d5_29 fun T229 X229 e229 => gO (fun t k => kiN X229 hx hby d5_32 rfl (rI X229 hx hby hZ e229 F230 (.int (-1)) rfl rfl d5_33 k)) ?_)))
  show OGl _ _ _ _ T229 (mkF m 34 #[rv o0, iv 3, iv 2, jv 0, sc] [.int (-1), .int 3, .ref o7])
  have F231 := ((V_o7.other W217 ne_o7_o1).other W223 ne_o7_o3)
  refine wI X229 hx hby hZ e229 F231 3 rfl (Nat.le_of_ble_eq_true rfl) d5_34 fun T232 h232 X232 e232 W232 V232 => ?_
  have N232 := Fr.snoc X232 N223 g_o7
  have KK232 := KK223.wr W232 (Or.inl (List.mem_of_getElem? (i := 2) rfl))
  show OGl _ _ _ _ T232 (mkF m 35 #[rv o0, iv 3, iv 2, jv 0, sc] [])
  have F233 := (F228.other W232 (Or.inl ne_o0_o7))
  have F235 := (F226.other W232 (Or.inl ne_o0_o7))
  refine gO (fun t k => kaN X232 hx hby d5_35 rfl rfl k) (gG X232 hx hby hZ hown (w11 hw) e232 F233 d5_36 fun T234 X234 e234 => gO (fun t k => kiN X234 hx hby d5_39 rfl (kaN X234 hx hby d5_40 rfl rfl k)) (gG X234 hx hby hZ hown (w31 hw) e234 F235 d5_41 fun T236 X236 e236 => ?_))
  show OGl _ _ _ _ T236 (mkF m 44 #[rv o0, iv 3, iv 2, jv 0, sc] [.int 3, .int 3, .ref o8])
  have F237 := (F230.other W232 ne_o8_o7)
  refine wI X236 hx hby hZ e236 F237 3 rfl (Nat.le_of_ble_eq_true rfl) d5_44 fun T238 h238 X238 e238 W238 V238 => ?_
  have N238 := Fr.snoc X238 N232 g_o8
  have KK238 := KK232.wr W238 (Or.inl (List.mem_of_getElem? (i := 3) rfl))
  show OGl _ _ _ _ T238 (mkF m 45 #[rv o0, iv 3, iv 2, jv 0, sc] [])
  have F239 := (F235.other W238 (Or.inl ne_o0_o8))
  refine gO (fun t k => kaN X238 hx hby d5_45 rfl rfl (o_dup X238 hx hby d5_46 rfl k)) (gG X238 hx hby hZ hown (w31 hw) e238 F239 d5_47 fun T240 X240 e240 => gO (fun t k => kc X240 hx hby d5_50 (o_iadd X240 hx hby d5_51 k)) ?_)
  show OGl _ _ _ _ T240 (mkF m 52 #[rv o0, iv 3, iv 2, jv 0, sc] [.int 4, .ref o0])
  have F241 := ((((E_o0.wr W217).wr W223).wr W232).wr W238)
  obtain ⟨T242, h242, X242, e242, W242, st242⟩ := putF X240 hx hZ hown (host := "") (Or.inl (w31 hw)) Via.refl e240 F239 F241 (Or.inl (w32 hw)) (w2 hw) (ty := .int) (by decide) rfl rfl (g := (mkF m 52 #[rv o0, iv 3, iv 2, jv 0, sc] [.int 4, .ref o0])) rfl rfl (hb hby d5_52)
  refine gO st242 ?_
  have N242 := Fr.snoc X242 N238 g_o0
  have Fw242 := F239.same W242
  have KK242 := KK238.wr W242 (Or.inl (List.mem_of_getElem? (i := 4) rfl))
  show OGl _ _ _ _ T242 (mkF m 55 #[rv o0, iv 3, iv 2, jv 0, sc] [])
  obtain ⟨fs, hr, hrun, hended, hW, hsame⟩ := X242.leave (v := none) (fun _ => rfl) (BodyLoose.notSynchronized Bd)
  refine ⟨_, _, X242.returnOut hx Bd.returns (hb hby d5_55) hr, hrun, hended, _, _, rfl, ?_, ⟨_, rfl⟩, hW, hsame.mono (by decide) (by decide)⟩
  show Q5c Z o0 o1 k2 o3 k4 q5 q6 o7 o8 k9 k10 h0 n0 _ T242.heap _
  rw [e242]
  have F243 := ((((V217.other W223 (Ne.symm ne_o3_o1)).other W232 (Ne.symm ne_o7_o1)).other W238 (Ne.symm ne_o8_o1)).other W242 (Ne.symm ne_o0_o1))
  have F244 := (((V223.other W232 (Ne.symm ne_o7_o3)).other W238 (Ne.symm ne_o8_o3)).other W242 (Ne.symm ne_o0_o3))
  have F245 := ((V232.other W238 (Ne.symm ne_o8_o7)).other W242 (Ne.symm ne_o0_o7))
  have F246 := (V238.other W242 (Ne.symm ne_o0_o8))
  have F247 := (((((F24_o0.other W217 (Or.inl ne_o0_o1)).other W223 (Or.inl ne_o0_o3)).other W232 (Or.inl ne_o0_o7)).other W238 (Or.inl ne_o0_o8)).other W242 (Or.inr (sn26_32 hw)))
  have F248 := ((F233.other W238 (Or.inl ne_o0_o8)).other W242 (Or.inr (sn12_32 hw)))
  have F249 := (((F224.other W232 (Or.inl ne_o0_o7)).other W238 (Or.inl ne_o0_o8)).other W242 (Or.inr (sn16_32 hw)))
  have F250 := ((((F218.other W223 (Or.inl ne_o0_o3)).other W232 (Or.inl ne_o0_o7)).other W238 (Or.inl ne_o0_o8)).other W242 (Or.inr (sn19_32 hw)))
  have F251 := (((((F25_o0.other W217 (Or.inl ne_o0_o1)).other W223 (Or.inl ne_o0_o3)).other W232 (Or.inl ne_o0_o7)).other W238 (Or.inl ne_o0_o8)).other W242 (Or.inr (sn59_32 hw)))
  have F252 := (((((F0_o0.other W217 (Or.inl ne_o0_o1)).other W223 (Or.inl ne_o0_o3)).other W232 (Or.inl ne_o0_o7)).other W238 (Or.inl ne_o0_o8)).other W242 (Or.inr (sn14_32 hw)))
  exact ⟨rfl, N242, KK242, F243, F244, F245, F246, Fw242, F247, F248, F249, F250, F251, F252⟩
def Q4a (Z : State) (o0 : Addr) (q1 : Int64) (o2 : Addr) (k3 : ClassId) (o4 : Addr) (k5 : ClassId) (q6 : Int64) (o7 : Addr) (o8 : Addr) (k9 : ClassId) (k10 : ClassId) (h0 : Heap) (n0 : Nat) (v : Option Value) (h : Heap) (L : List Loc) : Prop := v = none ∧ Fr n0 L ∧ Keep h0 h [o0, o8, o7, o4, o2] ∧ Fld Z h o0 cc0 "edges" "I" (.int 4) ∧ Fld Z h o0 cc0 "halves" "I" (.int 4) ∧ Fld Z h o0 cc0 "heads" "[I" (.ref o8) ∧ Fld Z h o0 cc0 "nexts" "[I" (.ref o7) ∧ Fld Z h o0 cc0 "residues" "[J" (.ref o4) ∧ Fld Z h o0 cc0 "sourceSide" "[Z" (.null) ∧ Fld Z h o0 cc0 "targets" "[I" (.ref o2) ∧ Arv Z h o8 k9 .int 16 (.int 0 :: .int 1 :: .int 2 :: .int 3 :: zi12) (.int 0) ∧ Arv Z h o7 k10 .int 16 (.int (-1) :: .int (-1) :: .int (-1) :: .int (-1) :: zi12) (.int 0) ∧ Arv Z h o4 k5 .long 16 (.long q6 :: .long 0 :: .long q1 :: zj13) (.long 0) ∧ Arv Z h o2 k3 .int 16 (.int 1 :: .int 0 :: .int 3 :: .int 2 :: zi12) (.int 0)
set_option maxRecDepth 65536 in
set_option maxHeartbeats 40000000 in
theorem rm4a (l : Launch) (Z : State) (a0 : Array Value) (hw : ∀ d ∈ tables_1, d.before a0 Z = true) (ws : List Jvm.Cond) (o0 : Addr) (q1 : Int64) (o2 : Addr) (k3 : ClassId) (o4 : Addr) (k5 : ClassId) (q6 : Int64) (o7 : Addr) (o8 : Addr) (k9 : ClassId) (k10 : ClassId) (h0 : Heap) (n0 : Nat) (Z0 : n0 ≤ h0.size) (F0_o0 : Fld Z h0 o0 cc0 "edges" "I" (.int 2)) (F1_o0 : Fld Z h0 o0 cc0 "targets" "[I" (.ref o2)) (V_o2 : Arv Z h0 o2 k3 .int 16 (.int 1 :: zi15) (.int 0)) (E_o0 : Exa Z h0 o0 cc0) (F4_o0 : Fld Z h0 o0 cc0 "residues" "[J" (.ref o4)) (V_o4 : Arv Z h0 o4 k5 .long 16 (.long q6 :: zj15) (.long 0)) (F6_o0 : Fld Z h0 o0 cc0 "nexts" "[I" (.ref o7)) (F7_o0 : Fld Z h0 o0 cc0 "heads" "[I" (.ref o8)) (V_o8 : Arv Z h0 o8 k9 .int 16 (.int 0 :: .int 1 :: .int (-1) :: .int (-1) :: zi12) (.int 0)) (V_o7 : Arv Z h0 o7 k10 .int 16 (.int (-1) :: .int (-1) :: zi14) (.int 0)) (F10_o0 : Fld Z h0 o0 cc0 "halves" "I" (.int 4)) (F11_o0 : Fld Z h0 o0 cc0 "sourceSide" "[Z" (.null)) (g_o2 : n0 ≤ o2) (ne_o0_o2 : o0 ≠ o2) (ne_o4_o2 : o4 ≠ o2) (g_o4 : n0 ≤ o4) (ne_o0_o4 : o0 ≠ o4) (ne_o8_o2 : o8 ≠ o2) (ne_o8_o4 : o8 ≠ o4) (ne_o7_o2 : o7 ≠ o2) (ne_o7_o4 : o7 ≠ o4) (g_o7 : n0 ≤ o7) (ne_o0_o7 : o0 ≠ o7) (ne_o8_o7 : o8 ≠ o7) (g_o8 : n0 ≤ o8) (ne_o0_o8 : o0 ≠ o8) (g_o0 : n0 ≤ o0) :
    MetFree l yy2 (head1 (Jvm.Cond.code yy2 bc2 5 none :: ws) rr2) (fun a U => a = #[.ref o0, .int 2, .int 3, .long q1] ∧ Z.Warmed39 U.vm ∧ U.heap = h0) (fun _ _ _ _ _ => True) (fun _ U o U' => ∃ v L, o = .returned v ∧ Q4a Z o0 q1 o2 k3 o4 k5 q6 o7 o8 k9 k10 h0 n0 v U'.heap L ∧ FrameEnd U o U' L rr2.cells rr2.slots) := by
  refine MetFree.of_bodySF (plainFor_of_name pn_0) hisR ?_
  intro p e s m args below meth c s₁ Bd hml0 hP hK
  obtain ⟨rfl, hZ, hh⟩ := hP
  have hx := Bd.exec
  have hby := Bd.bytes
  have hml : c.maxLocals = 5 := hml0
  have hown : s.vm.findClass cc0 = some m.cls := findClass_of_methodNamed Bd.named
  have hnm := (name_of_methodNamed Bd.named Bd.method).1
  have X0 : Stand p l e rr2 s m #[.ref o0, .int 2, .int 3, .long q1] below meth c s₁ [] 0 0 := Stand.of_body Bd
  have e0 : s₁.heap = h0 := by rw [← hh, Bd.state]; rfl
  have N0 := Fr.nil n0
  refine OGl.start (ef_4 m o0 (2 : Int32) (3 : Int32) q1) ?_
  show OGl _ _ _ _ s₁ (mkF m 0 #[rv o0, iv 2, iv 3, jv q1, sc] [])
  refine gO (fun t k => kaN X0 hx hby d4_0 rfl rfl k) (gG X0 hx hby hZ hown (w31 hw) e0 F0_o0 d4_1 fun T173 X173 e173 => gO (fun t k => kc X173 hx hby d4_4 (o_iadd X173 hx hby d4_5 (kaN X173 hx hby d4_6 rfl rfl k))) (gG X173 hx hby hZ hown (w13 hw) e173 F1_o0 d4_7 fun T174 X174 e174 => gO (fun t k => rL X174 hx hby hZ e174 V_o2 d4_10 (cY X174 hx hby 68 d4_11 (flt (by decide : ¬ ((16 : Int32) < (4 : Int32)))).2.2.2 rfl (kaN X174 hx hby d4_68 rfl rfl (kiN X174 hx hby d4_69 rfl (kiN X174 hx hby d4_70 rfl (klN X174 hx hby d4_71 rfl k)))))) ?_))
  show OGl _ _ _ _ T174 (mkF m 72 #[rv o0, iv 2, iv 3, jv q1, sc] [.long q1, .int 3, .int 2, .ref o0])
  obtain ⟨cq175, q175a, q175b⟩ := (E_o0).cell
  obtain ⟨_, _, ⟨T175, L175, kk175, n175⟩, -, X175, ⟨Lc175, hQ175, l175, y175, z175⟩, st175⟩ := X174.privateBack hx (y := yy1) hown (mvT hZ (w33 hw)) (mvT hZ (w34 hw)) (own_selPriv (y := yy1) (Cond.privateMethod_at (mvP hZ (w35 hw) (args := #[]))) (mvT hZ (w34 hw)) (mvT hZ (w23 hw)) rfl) (Cond.privateMethod_at (mvP hZ (w35 hw) (args := #[]))) (mvT hZ (w36 hw)) (by decide) (backOf (W := 0) (rm5b l Z a0 hw [] o0 q1 o2 k3 o4 k5 q6 o7 o8 k9 k10 h0 n0 Z0 F1_o0 F0_o0 V_o2 g_o2 F4_o0 ne_o0_o2 V_o4 ne_o4_o2 g_o4 F6_o0 ne_o0_o4 F7_o0 V_o8 ne_o8_o2 ne_o8_o4 V_o7 ne_o7_o2 ne_o7_o4 g_o7 ne_o0_o7 ne_o8_o7 g_o8 ne_o0_o8 E_o0 F10_o0 F11_o0 g_o0) hZ (w36 hw) (w3 hw) (by decide) (by decide)) (g := (mkF m 72 #[rv o0, iv 2, iv 3, jv q1, sc] [.long q1, .int 3, .int 2, .ref o0])) rfl (by rw [hml]; rfl) (Steps.refl _) (a := o0) (by rw [e174]; exact q175a) q175b (argsL := [.int 2, .int 3, .long q1]) (rest := []) (lenOf pd_1 rfl) rfl (by show 2 * 0 + _ ≤ _; exact Nat.le_of_eq rfl) (hb hby d4_72) (fun _ _ => ⟨rfl, e174, (by decide : 0 + 0 ≤ _), (by decide : 0 + 0 ≤ _)⟩)
  dsimp only [Pt.U, Pt.locs, Pt.cells, Pt.slots] at X175 l175 y175 z175 st175 hQ175
  replace l175 := l175.symm
  subst l175 y175 z175
  obtain ⟨rfl, Nq175, K175, Fq175_0, Fq175_1, Fq175_2, Fq175_3, Fq175_4, Fq175_5, Fq175_6, Fq175_7, Fq175_8, Fq175_9, Fq175_10⟩ := hQ175
  have KK175 : Keep h0 T175.heap [o0, o8, o7, o4, o2] := (Keep.refl h0 [o0, o8, o7, o4, o2]).trans K175 (allS (Or.inl (List.mem_of_getElem? (i := 4) rfl)) (allS (Or.inl (List.mem_of_getElem? (i := 3) rfl)) (allS (Or.inl (List.mem_of_getElem? (i := 2) rfl)) (allS (Or.inl (List.mem_of_getElem? (i := 1) rfl)) (allS (Or.inl (List.mem_of_getElem? (i := 0) rfl)) all0)))))
  have N175 := Fr.app N0 Nq175
  refine gO (fun t k => st175.trans k) ?_
  show OGl _ _ _ _ T175 (mkF m 75 #[rv o0, iv 2, iv 3, jv q1, sc] [])
  refine gO (fun t k => kaN X175 hx hby d4_75 rfl rfl (kiN X175 hx hby d4_76 rfl (kiN X175 hx hby d4_77 rfl (kcl X175 hx hby d4_78 k)))) ?_
  show OGl _ _ _ _ T175 (mkF m 79 #[rv o0, iv 2, iv 3, jv q1, sc] [.long 0, .int 2, .int 3, .ref o0])
  have F253 := (E_o0.keep K175)
  obtain ⟨cq214, q214a, q214b⟩ := (F253).cell
  obtain ⟨_, _, ⟨T214, L214, kk214, n214⟩, -, X214, ⟨Lc214, hQ214, l214, y214, z214⟩, st214⟩ := X175.privateBack hx (y := yy1) hown (mvT hZ (w33 hw)) (mvT hZ (w34 hw)) (own_selPriv (y := yy1) (Cond.privateMethod_at (mvP hZ (w35 hw) (args := #[]))) (mvT hZ (w34 hw)) (mvT hZ (w23 hw)) rfl) (Cond.privateMethod_at (mvP hZ (w35 hw) (args := #[]))) (mvT hZ (w36 hw)) (by decide) (backOf (W := 0) (rm5c l Z a0 hw [] o0 o2 k3 o4 k5 q6 q1 o7 o8 k9 k10 T175.heap n0 (Nat.le_trans Z0 KK175.1) Fq175_10 Fq175_4 Fq175_0 g_o2 Fq175_8 ne_o0_o2 Fq175_1 ne_o4_o2 g_o4 Fq175_7 ne_o0_o4 Fq175_6 Fq175_3 ne_o8_o2 ne_o8_o4 Fq175_2 ne_o7_o2 ne_o7_o4 g_o7 ne_o0_o7 ne_o8_o7 g_o8 ne_o0_o8 F253 Fq175_5 Fq175_9 g_o0) hZ (w36 hw) (w3 hw) (by decide) (by decide)) (g := (mkF m 79 #[rv o0, iv 2, iv 3, jv q1, sc] [.long 0, .int 2, .int 3, .ref o0])) rfl (by rw [hml]; rfl) (Steps.refl _) (a := o0) q214a q214b (argsL := [.int 3, .int 2, .long 0]) (rest := []) (lenOf pd_1 rfl) rfl (by show 2 * 0 + _ ≤ _; exact Nat.le_of_eq rfl) (hb hby d4_79) (fun _ _ => ⟨rfl, rfl, (by decide : 0 + 0 ≤ _), (by decide : 0 + 0 ≤ _)⟩)
  dsimp only [Pt.U, Pt.locs, Pt.cells, Pt.slots] at X214 l214 y214 z214 st214 hQ214
  replace l214 := l214.symm
  subst l214 y214 z214
  obtain ⟨rfl, Nq214, K214, Fq214_0, Fq214_1, Fq214_2, Fq214_3, Fq214_4, Fq214_5, Fq214_6, Fq214_7, Fq214_8, Fq214_9, Fq214_10⟩ := hQ214
  have KK214 : Keep h0 T214.heap [o0, o8, o7, o4, o2] := KK175.trans K214 (allS (Or.inl (List.mem_of_getElem? (i := 4) rfl)) (allS (Or.inl (List.mem_of_getElem? (i := 3) rfl)) (allS (Or.inl (List.mem_of_getElem? (i := 2) rfl)) (allS (Or.inl (List.mem_of_getElem? (i := 1) rfl)) (allS (Or.inl (List.mem_of_getElem? (i := 0) rfl)) all0)))))
  have N214 := Fr.app N175 Nq214
  refine gO (fun t k => st214.trans k) ?_
  show OGl _ _ _ _ T214 (mkF m 82 #[rv o0, iv 2, iv 3, jv q1, sc] [])
  obtain ⟨fs, hr, hrun, hended, hW, hsame⟩ := X214.leave (v := none) (fun _ => rfl) (BodyLoose.notSynchronized Bd)
  refine ⟨_, _, X214.returnOut hx Bd.returns (hb hby d4_82) hr, hrun, hended, _, _, rfl, ?_, ⟨_, rfl⟩, hW, hsame.mono (by decide) (by decide)⟩
  show Q4a Z o0 q1 o2 k3 o4 k5 q6 o7 o8 k9 k10 h0 n0 _ T214.heap _
  exact ⟨rfl, N214, KK214, Fq214_4, Fq214_5, Fq214_6, Fq214_7, Fq214_8, Fq214_9, Fq214_10, Fq214_3, Fq214_2, Fq214_1, Fq214_0⟩
def Q3a (Z : State) (o0 : Addr) (q1 : Int64) (o2 : Addr) (k3 : ClassId) (o4 : Addr) (o5 : Addr) (o6 : Addr) (k7 : ClassId) (k8 : ClassId) (q9 : Int64) (k10 : ClassId) (h0 : Heap) (n0 : Nat) (v : Option Value) (h : Heap) (L : List Loc) : Prop := v = some (.int 1) ∧ Fr n0 L ∧ Keep h0 h [o0, o2, o6, o5, o4] ∧ Fld Z h o0 cc0 "edges" "I" (.int 4) ∧ Fld Z h o0 cc0 "halves" "I" (.int 4) ∧ Fld Z h o0 cc0 "heads" "[I" (.ref o2) ∧ Fld Z h o0 cc0 "nexts" "[I" (.ref o4) ∧ Fld Z h o0 cc0 "residues" "[J" (.ref o5) ∧ Fld Z h o0 cc0 "sourceSide" "[Z" (.null) ∧ Fld Z h o0 cc0 "targets" "[I" (.ref o6) ∧ Arv Z h o2 k3 .int 16 (.int 0 :: .int 1 :: .int 2 :: .int 3 :: zi12) (.int 0) ∧ Arv Z h o6 k7 .int 16 (.int 1 :: .int 0 :: .int 3 :: .int 2 :: zi12) (.int 0) ∧ Arv Z h o5 k8 .long 16 (.long q9 :: .long 0 :: .long q1 :: zj13) (.long 0) ∧ Arv Z h o4 k10 .int 16 (.int (-1) :: .int (-1) :: .int (-1) :: .int (-1) :: zi12) (.int 0)
set_option maxRecDepth 65536 in
set_option maxHeartbeats 40000000 in
theorem rm3a (l : Launch) (Z : State) (a0 : Array Value) (hw : ∀ d ∈ tables_1, d.before a0 Z = true) (ws : List Jvm.Cond) (o0 : Addr) (q1 : Int64) (o2 : Addr) (k3 : ClassId) (o4 : Addr) (o5 : Addr) (o6 : Addr) (k7 : ClassId) (k8 : ClassId) (q9 : Int64) (k10 : ClassId) (h0 : Heap) (n0 : Nat) (Z0 : n0 ≤ h0.size) (F0_o0 : Fld Z h0 o0 cc0 "halves" "I" (.int 2)) (F1_o0 : Fld Z h0 o0 cc0 "heads" "[I" (.ref o2)) (V_o2 : Arv Z h0 o2 k3 .int 16 (.int 0 :: .int 1 :: zi14) (.int 0)) (E_o0 : Exa Z h0 o0 cc0) (F4_o0 : Fld Z h0 o0 cc0 "edges" "I" (.int 2)) (F5_o0 : Fld Z h0 o0 cc0 "nexts" "[I" (.ref o4)) (F6_o0 : Fld Z h0 o0 cc0 "residues" "[J" (.ref o5)) (F7_o0 : Fld Z h0 o0 cc0 "sourceSide" "[Z" (.null)) (F8_o0 : Fld Z h0 o0 cc0 "targets" "[I" (.ref o6)) (g_o0 : n0 ≤ o0) (ne_o2_o0 : o2 ≠ o0) (g_o2 : n0 ≤ o2) (V_o6 : Arv Z h0 o6 k7 .int 16 (.int 1 :: zi15) (.int 0)) (V_o5 : Arv Z h0 o5 k8 .long 16 (.long q9 :: zj15) (.long 0)) (V_o4 : Arv Z h0 o4 k10 .int 16 (.int (-1) :: .int (-1) :: zi14) (.int 0)) (ne_o6_o0 : o6 ≠ o0) (ne_o6_o2 : o6 ≠ o2) (ne_o5_o0 : o5 ≠ o0) (ne_o5_o2 : o5 ≠ o2) (ne_o4_o0 : o4 ≠ o0) (ne_o4_o2 : o4 ≠ o2) (g_o6 : n0 ≤ o6) (ne_o5_o6 : o5 ≠ o6) (g_o5 : n0 ≤ o5) (ne_o4_o6 : o4 ≠ o6) (ne_o4_o5 : o4 ≠ o5) (g_o4 : n0 ≤ o4) :
    MetFree l yy3 (head1 (Jvm.Cond.code yy3 bc1 4 (some .int) :: ws) rr3) (fun a U => a = #[.ref o0, .long q1] ∧ Z.Warmed39 U.vm ∧ U.heap = h0) (fun _ _ _ _ _ => True) (fun _ U o U' => ∃ v L, o = .returned v ∧ Q3a Z o0 q1 o2 k3 o4 o5 o6 k7 k8 q9 k10 h0 n0 v U'.heap L ∧ FrameEnd U o U' L rr3.cells rr3.slots) := by
  refine MetFree.of_bodySF (plainFor_of_name pn_0) hisR ?_
  intro p e s m args below meth c s₁ Bd hml0 hP hK
  obtain ⟨rfl, hZ, hh⟩ := hP
  have hx := Bd.exec
  have hby := Bd.bytes
  have hml : c.maxLocals = 4 := hml0
  have hown : s.vm.findClass cc0 = some m.cls := findClass_of_methodNamed Bd.named
  have hnm := (name_of_methodNamed Bd.named Bd.method).1
  have X0 : Stand p l e rr3 s m #[.ref o0, .long q1] below meth c s₁ [] 0 0 := Stand.of_body Bd
  have e0 : s₁.heap = h0 := by rw [← hh, Bd.state]; rfl
  have N0 := Fr.nil n0
  refine OGl.start (ef_3 m o0 q1) ?_
  show OGl _ _ _ _ s₁ (mkF m 0 #[rv o0, jv q1, sc, un] [])
  refine gO (fun t k => kaN X0 hx hby d3_0 rfl rfl k) (gG X0 hx hby hZ hown (w25 hw) e0 F0_o0 d3_1 fun T156 X156 e156 => gO (fun t k => kc X156 hx hby d3_4 (XS.idiv X156.here hx rfl (hb hby d3_5) rfl (by decide) (siN X156 hx hby (L' := #[rv o0, jv q1, sc, iv 1]) d3_6 rfl (kaN X156 hx hby d3_7 rfl rfl k)))) (gG X156 hx hby hZ hown (w25 hw) e156 F0_o0 d3_8 fun T157 X157 e157 => gO (fun t k => kc X157 hx hby d3_11 (o_iadd X157 hx hby d3_12 (kaN X157 hx hby d3_13 rfl rfl k))) (gG X157 hx hby hZ hown (w11 hw) e157 F1_o0 d3_14 fun T158 X158 e158 => gO (fun t k => rL X158 hx hby hZ e158 V_o2 d3_17 (cY X158 hx hby 39 d3_18 (flt (by decide : ¬ ((16 : Int32) < (4 : Int32)))).2.2.2 rfl (kaN X158 hx hby d3_39 rfl rfl k))) (gG X158 hx hby hZ hown (w11 hw) e158 F1_o0 d3_40 fun T159 X159 e159 => gO (fun t k => kaN X159 hx hby d3_43 rfl rfl (o_dup X159 hx hby d3_44 rfl k)) (gG X159 hx hby hZ hown (w25 hw) e159 F0_o0 d3_45 fun T160 X160 e160 => gO (fun t k => o_dupX1 X160 hx hby d3_48 rfl rfl (kc X160 hx hby d3_49 (o_iadd X160 hx hby d3_50 k))) ?_)))))
  show OGl _ _ _ _ T160 (mkF m 51 #[rv o0, jv q1, sc, iv 1] [.int 3, .ref o0, .int 2, .ref o2])
  obtain ⟨T161, h161, X161, e161, W161, st161⟩ := putF X160 hx hZ hown (host := "") (Or.inl (w25 hw)) Via.refl e160 F0_o0 E_o0 (Or.inl (w26 hw)) (w2 hw) (ty := .int) (by decide) rfl rfl (g := (mkF m 51 #[rv o0, jv q1, sc, iv 1] [.int 3, .ref o0, .int 2, .ref o2])) rfl rfl (hb hby d3_51)
  refine gO st161 ?_
  have N161 := Fr.snoc X161 N0 g_o0
  have Fw161 := F0_o0.same W161
  have KK161 := (Keep.refl h0 [o0, o2, o6, o5, o4]).wr W161 (Or.inl (List.mem_of_getElem? (i := 0) rfl))
  show OGl _ _ _ _ T161 (mkF m 54 #[rv o0, jv q1, sc, iv 1] [.int 2, .ref o2])
  refine gO (fun t k => kc X161 hx hby d3_54 k) ?_
  show OGl _ _ _ _ T161 (mkF m 55 #[rv o0, jv q1, sc, iv 1] [.int (-1), .int 2, .ref o2])
  have F162 := (V_o2.other W161 ne_o2_o0)
  refine wI X161 hx hby hZ e161 F162 2 rfl (Nat.le_of_ble_eq_true rfl) d3_55 fun T163 h163 X163 e163 W163 V163 => ?_
  have N163 := Fr.snoc X163 N161 g_o2
  have KK163 := KK161.wr W163 (Or.inl (List.mem_of_getElem? (i := 1) rfl))
  show OGl _ _ _ _ T163 (mkF m 56 #[rv o0, jv q1, sc, iv 1] [])
  have F164 := ((F1_o0.other W161 (Or.inr (sn12_26 hw))).other W163 (Or.inl (Ne.symm ne_o2_o0)))
  have F166 := (Fw161.other W163 (Or.inl (Ne.symm ne_o2_o0)))
  refine gO (fun t k => kaN X163 hx hby d3_56 rfl rfl k) (gG X163 hx hby hZ hown (w11 hw) e163 F164 d3_57 fun T165 X165 e165 => gO (fun t k => kaN X165 hx hby d3_60 rfl rfl (o_dup X165 hx hby d3_61 rfl k)) (gG X165 hx hby hZ hown (w25 hw) e165 F166 d3_62 fun T167 X167 e167 => gO (fun t k => o_dupX1 X167 hx hby d3_65 rfl rfl (kc X167 hx hby d3_66 (o_iadd X167 hx hby d3_67 k))) ?_))
  show OGl _ _ _ _ T167 (mkF m 68 #[rv o0, jv q1, sc, iv 1] [.int 4, .ref o0, .int 3, .ref o2])
  have F168 := ((E_o0.wr W161).wr W163)
  obtain ⟨T169, h169, X169, e169, W169, st169⟩ := putF X167 hx hZ hown (host := "") (Or.inl (w25 hw)) Via.refl e167 F166 F168 (Or.inl (w26 hw)) (w2 hw) (ty := .int) (by decide) rfl rfl (g := (mkF m 68 #[rv o0, jv q1, sc, iv 1] [.int 4, .ref o0, .int 3, .ref o2])) rfl rfl (hb hby d3_68)
  refine gO st169 ?_
  have N169 := Fr.snoc X169 N163 g_o0
  have Fw169 := F166.same W169
  have KK169 := KK163.wr W169 (Or.inl (List.mem_of_getElem? (i := 0) rfl))
  show OGl _ _ _ _ T169 (mkF m 71 #[rv o0, jv q1, sc, iv 1] [.int 3, .ref o2])
  refine gO (fun t k => kc X169 hx hby d3_71 k) ?_
  show OGl _ _ _ _ T169 (mkF m 72 #[rv o0, jv q1, sc, iv 1] [.int (-1), .int 3, .ref o2])
  have F170 := (V163.other W169 ne_o2_o0)
  refine wI X169 hx hby hZ e169 F170 3 rfl (Nat.le_of_ble_eq_true rfl) d3_72 fun T171 h171 X171 e171 W171 V171 => ?_
  have N171 := Fr.snoc X171 N169 g_o2
  have KK171 := KK169.wr W171 (Or.inl (List.mem_of_getElem? (i := 1) rfl))
  show OGl _ _ _ _ T171 (mkF m 73 #[rv o0, jv q1, sc, iv 1] [])
  refine gO (fun t k => kaN X171 hx hby d3_73 rfl rfl (kc X171 hx hby d3_74 (kiN X171 hx hby d3_75 rfl (o_imul X171 hx hby d3_76 (kc X171 hx hby d3_77 (kiN X171 hx hby d3_78 rfl (o_imul X171 hx hby d3_79 (kc X171 hx hby d3_80 (o_iadd X171 hx hby d3_81 (klN X171 hx hby d3_82 rfl k)))))))))) ?_
  show OGl _ _ _ _ T171 (mkF m 83 #[rv o0, jv q1, sc, iv 1] [.long q1, .int 3, .int 2, .ref o0])
  have F254 := ((((F4_o0.other W161 (Or.inr (sn32_26 hw))).other W163 (Or.inl (Ne.symm ne_o2_o0))).other W169 (Or.inr (sn32_26 hw))).other W171 (Or.inl (Ne.symm ne_o2_o0)))
  have F255 := ((((F8_o0.other W161 (Or.inr (sn14_26 hw))).other W163 (Or.inl (Ne.symm ne_o2_o0))).other W169 (Or.inr (sn14_26 hw))).other W171 (Or.inl (Ne.symm ne_o2_o0)))
  have F256 := ((((V_o6.other W161 ne_o6_o0).other W163 ne_o6_o2).other W169 ne_o6_o0).other W171 ne_o6_o2)
  have F257 := ((F168.wr W169).wr W171)
  have F258 := ((((F6_o0.other W161 (Or.inr (sn19_26 hw))).other W163 (Or.inl (Ne.symm ne_o2_o0))).other W169 (Or.inr (sn19_26 hw))).other W171 (Or.inl (Ne.symm ne_o2_o0)))
  have F259 := ((((V_o5.other W161 ne_o5_o0).other W163 ne_o5_o2).other W169 ne_o5_o0).other W171 ne_o5_o2)
  have F260 := ((((F5_o0.other W161 (Or.inr (sn16_26 hw))).other W163 (Or.inl (Ne.symm ne_o2_o0))).other W169 (Or.inr (sn16_26 hw))).other W171 (Or.inl (Ne.symm ne_o2_o0)))
  have F261 := ((F164.other W169 (Or.inr (sn12_26 hw))).other W171 (Or.inl (Ne.symm ne_o2_o0)))
  have F262 := ((((V_o4.other W161 ne_o4_o0).other W163 ne_o4_o2).other W169 ne_o4_o0).other W171 ne_o4_o2)
  have F263 := (Fw169.other W171 (Or.inl (Ne.symm ne_o2_o0)))
  have F264 := ((((F7_o0.other W161 (Or.inr (sn59_26 hw))).other W163 (Or.inl (Ne.symm ne_o2_o0))).other W169 (Or.inr (sn59_26 hw))).other W171 (Or.inl (Ne.symm ne_o2_o0)))
  obtain ⟨cq172, q172a, q172b⟩ := (F257).cell
  obtain ⟨_, _, ⟨T172, L172, kk172, n172⟩, -, X172, ⟨Lc172, hQ172, l172, y172, z172⟩, st172⟩ := X171.privateBack hx (y := yy2) hown (mvT hZ (w27 hw)) (mvT hZ (w28 hw)) (own_selPriv (y := yy2) (Cond.privateMethod_at (mvP hZ (w29 hw) (args := #[]))) (mvT hZ (w28 hw)) (mvT hZ (w23 hw)) rfl) (Cond.privateMethod_at (mvP hZ (w29 hw) (args := #[]))) (mvT hZ (w30 hw)) (by decide) (backOf (W := 0) (rm4a l Z a0 hw [] o0 q1 o6 k7 o5 k8 q9 o4 o2 k3 k10 h171 n0 (Nat.le_trans Z0 KK171.1) F254 F255 F256 F257 F258 F259 F260 F261 V171 F262 F263 F264 g_o6 (Ne.symm ne_o6_o0) ne_o5_o6 g_o5 (Ne.symm ne_o5_o0) (Ne.symm ne_o6_o2) (Ne.symm ne_o5_o2) ne_o4_o6 ne_o4_o5 g_o4 (Ne.symm ne_o4_o0) (Ne.symm ne_o4_o2) g_o2 (Ne.symm ne_o2_o0) g_o0) hZ (w30 hw) (w3 hw) (by decide) (by decide)) (g := (mkF m 83 #[rv o0, jv q1, sc, iv 1] [.long q1, .int 3, .int 2, .ref o0])) rfl (by rw [hml]; rfl) (Steps.refl _) (a := o0) (by rw [e171]; exact q172a) q172b (argsL := [.int 2, .int 3, .long q1]) (rest := []) (lenOf pd_1 rfl) rfl (by show 2 * 0 + _ ≤ _; exact Nat.le_of_eq rfl) (hb hby d3_83) (fun _ _ => ⟨rfl, e171, (by decide : 0 + 0 ≤ _), (by decide : 0 + 0 ≤ _)⟩)
  dsimp only [Pt.U, Pt.locs, Pt.cells, Pt.slots] at X172 l172 y172 z172 st172 hQ172
  replace l172 := l172.symm
  subst l172 y172 z172
  obtain ⟨rfl, Nq172, K172, Fq172_0, Fq172_1, Fq172_2, Fq172_3, Fq172_4, Fq172_5, Fq172_6, Fq172_7, Fq172_8, Fq172_9, Fq172_10⟩ := hQ172
  have KK172 : Keep h0 T172.heap [o0, o2, o6, o5, o4] := KK171.trans K172 (allS (Or.inl (List.mem_of_getElem? (i := 0) rfl)) (allS (Or.inl (List.mem_of_getElem? (i := 1) rfl)) (allS (Or.inl (List.mem_of_getElem? (i := 4) rfl)) (allS (Or.inl (List.mem_of_getElem? (i := 3) rfl)) (allS (Or.inl (List.mem_of_getElem? (i := 2) rfl)) all0)))))
  have N172 := Fr.app N171 Nq172
  refine gO (fun t k => st172.trans k) ?_
  show OGl _ _ _ _ T172 (mkF m 86 #[rv o0, jv q1, sc, iv 1] [])
  refine gO (fun t k => kiN X172 hx hby d3_86 rfl k) ?_
  show OGl _ _ _ _ T172 (mkF m 87 #[rv o0, jv q1, sc, iv 1] [.int 1])
  obtain ⟨fs, hr, hrun, hended, hW, hsame⟩ := X172.leave (v := some (.int 1)) (fun h => by rw [Bd.returns] at h; cases h) (BodyLoose.notSynchronized Bd)
  refine ⟨_, _, retI X172 hx Bd.returns (hb hby d3_87) hr, hrun, hended, _, _, rfl, ?_, ⟨_, rfl⟩, hW, hsame.mono (by decide) (by decide)⟩
  show Q3a Z o0 q1 o2 k3 o4 o5 o6 k7 k8 q9 k10 h0 n0 _ T172.heap _
  exact ⟨rfl, N172, KK172, Fq172_0, Fq172_1, Fq172_2, Fq172_3, Fq172_4, Fq172_5, Fq172_6, Fq172_7, Fq172_10, Fq172_9, Fq172_8⟩
abbrev zi10 : List Value := [.int 0, .int 0, .int 0, .int 0, .int 0, .int 0, .int 0, .int 0, .int 0, .int 0]
abbrev zi11 : List Value := [.int 0, .int 0, .int 0, .int 0, .int 0, .int 0, .int 0, .int 0, .int 0, .int 0, .int 0]
abbrev zj11 : List Value := [.long 0, .long 0, .long 0, .long 0, .long 0, .long 0, .long 0, .long 0, .long 0, .long 0, .long 0]
def Q5d (Z : State) (o0 : Addr) (q1 : Int64) (o2 : Addr) (k3 : ClassId) (o4 : Addr) (k5 : ClassId) (q6 : Int64) (q7 : Int64) (o8 : Addr) (o9 : Addr) (k10 : ClassId) (k11 : ClassId) (h0 : Heap) (n0 : Nat) (v : Option Value) (h : Heap) (L : List Loc) : Prop := v = none ∧ Fr n0 L ∧ Keep h0 h [o2, o4, o8, o9, o0] ∧ Arv Z h o2 k3 .int 16 (.int 1 :: .int 0 :: .int 3 :: .int 2 :: .int 5 :: zi11) (.int 0) ∧ Arv Z h o4 k5 .long 16 (.long q6 :: .long 0 :: .long q7 :: .long 0 :: .long q1 :: zj11) (.long 0) ∧ Arv Z h o8 k11 .int 16 (.int (-1) :: .int (-1) :: .int (-1) :: .int (-1) :: .int (-1) :: zi11) (.int 0) ∧ Arv Z h o9 k10 .int 16 (.int 0 :: .int 1 :: .int 2 :: .int 3 :: .int 4 :: .int (-1) :: zi10) (.int 0) ∧ Fld Z h o0 cc0 "edges" "I" (.int 5) ∧ Fld Z h o0 cc0 "halves" "I" (.int 6) ∧ Fld Z h o0 cc0 "heads" "[I" (.ref o9) ∧ Fld Z h o0 cc0 "nexts" "[I" (.ref o8) ∧ Fld Z h o0 cc0 "residues" "[J" (.ref o4) ∧ Fld Z h o0 cc0 "sourceSide" "[Z" (.null) ∧ Fld Z h o0 cc0 "targets" "[I" (.ref o2)
set_option maxRecDepth 65536 in
set_option maxHeartbeats 40000000 in
theorem rm5d (l : Launch) (Z : State) (a0 : Array Value) (hw : ∀ d ∈ tables_1, d.before a0 Z = true) (ws : List Jvm.Cond) (o0 : Addr) (q1 : Int64) (o2 : Addr) (k3 : ClassId) (o4 : Addr) (k5 : ClassId) (q6 : Int64) (q7 : Int64) (o8 : Addr) (o9 : Addr) (k10 : ClassId) (k11 : ClassId) (h0 : Heap) (n0 : Nat) (Z0 : n0 ≤ h0.size) (F0_o0 : Fld Z h0 o0 cc0 "targets" "[I" (.ref o2)) (F1_o0 : Fld Z h0 o0 cc0 "edges" "I" (.int 4)) (V_o2 : Arv Z h0 o2 k3 .int 16 (.int 1 :: .int 0 :: .int 3 :: .int 2 :: zi12) (.int 0)) (g_o2 : n0 ≤ o2) (F4_o0 : Fld Z h0 o0 cc0 "residues" "[J" (.ref o4)) (ne_o0_o2 : o0 ≠ o2) (V_o4 : Arv Z h0 o4 k5 .long 16 (.long q6 :: .long 0 :: .long q7 :: zj13) (.long 0)) (ne_o4_o2 : o4 ≠ o2) (g_o4 : n0 ≤ o4) (F9_o0 : Fld Z h0 o0 cc0 "nexts" "[I" (.ref o8)) (ne_o0_o4 : o0 ≠ o4) (F11_o0 : Fld Z h0 o0 cc0 "heads" "[I" (.ref o9)) (V_o9 : Arv Z h0 o9 k10 .int 16 (.int 0 :: .int 1 :: .int 2 :: .int 3 :: .int (-1) :: .int (-1) :: zi10) (.int 0)) (ne_o9_o2 : o9 ≠ o2) (ne_o9_o4 : o9 ≠ o4) (V_o8 : Arv Z h0 o8 k11 .int 16 (.int (-1) :: .int (-1) :: .int (-1) :: .int (-1) :: zi12) (.int 0)) (ne_o8_o2 : o8 ≠ o2) (ne_o8_o4 : o8 ≠ o4) (g_o8 : n0 ≤ o8) (ne_o0_o8 : o0 ≠ o8) (ne_o9_o8 : o9 ≠ o8) (g_o9 : n0 ≤ o9) (ne_o0_o9 : o0 ≠ o9) (E_o0 : Exa Z h0 o0 cc0) (F24_o0 : Fld Z h0 o0 cc0 "halves" "I" (.int 6)) (F25_o0 : Fld Z h0 o0 cc0 "sourceSide" "[Z" (.null)) (g_o0 : n0 ≤ o0) :
    MetFree l yy1 (head1 (Jvm.Cond.code yy1 bc3 5 none :: ws) rr1) (fun a U => a = #[.ref o0, .int 4, .int 5, .long q1] ∧ Z.Warmed39 U.vm ∧ U.heap = h0) (fun _ _ _ _ _ => True) (fun _ U o U' => ∃ v L, o = .returned v ∧ Q5d Z o0 q1 o2 k3 o4 k5 q6 q7 o8 o9 k10 k11 h0 n0 v U'.heap L ∧ FrameEnd U o U' L rr1.cells rr1.slots) := by
  refine MetFree.of_bodySF (plainFor_of_name pn_0) hisR ?_
  intro p e s m args below meth c s₁ Bd hml0 hP hK
  obtain ⟨rfl, hZ, hh⟩ := hP
  have hx := Bd.exec
  have hby := Bd.bytes
  have hml : c.maxLocals = 5 := hml0
  have hown : s.vm.findClass cc0 = some m.cls := findClass_of_methodNamed Bd.named
  have hnm := (name_of_methodNamed Bd.named Bd.method).1
  have X0 : Stand p l e rr1 s m #[.ref o0, .int 4, .int 5, .long q1] below meth c s₁ [] 0 0 := Stand.of_body Bd
  have e0 : s₁.heap = h0 := by rw [← hh, Bd.state]; rfl
  have N0 := Fr.nil n0
  refine OGl.start (ef_5 m o0 (4 : Int32) (5 : Int32) q1) ?_
  show OGl _ _ _ _ s₁ (mkF m 0 #[rv o0, iv 4, iv 5, jv q1, sc] [])
  refine gO (fun t k => kaN X0 hx hby d5_0 rfl rfl k) (gG X0 hx hby hZ hown (w13 hw) e0 F0_o0 d5_1 fun T287 X287 e287 => gO (fun t k => kaN X287 hx hby d5_4 rfl rfl k) (gG X287 hx hby hZ hown (w31 hw) e287 F1_o0 d5_5 fun T288 X288 e288 => gO (fun t k => kiN X288 hx hby d5_8 rfl k) ?_))
  show OGl _ _ _ _ T288 (mkF m 9 #[rv o0, iv 4, iv 5, jv q1, sc] [.int 5, .int 4, .ref o2])
  refine wI X288 hx hby hZ e288 V_o2 4 rfl (Nat.le_of_ble_eq_true rfl) d5_9 fun T289 h289 X289 e289 W289 V289 => ?_
  have N289 := Fr.snoc X289 N0 g_o2
  have KK289 := (Keep.refl h0 [o2, o4, o8, o9, o0]).wr W289 (Or.inl (List.mem_of_getElem? (i := 0) rfl))
  show OGl _ _ _ _ T289 (mkF m 10 #[rv o0, iv 4, iv 5, jv q1, sc] [])
  have F290 := (F4_o0.other W289 (Or.inl ne_o0_o2))
  have F292 := (F1_o0.other W289 (Or.inl ne_o0_o2))
  refine gO (fun t k => kaN X289 hx hby d5_10 rfl rfl k) (gG X289 hx hby hZ hown (w18 hw) e289 F290 d5_11 fun T291 X291 e291 => gO (fun t k => kaN X291 hx hby d5_14 rfl rfl k) (gG X291 hx hby hZ hown (w31 hw) e291 F292 d5_15 fun T293 X293 e293 => gO (fun t k => klN X293 hx hby d5_18 rfl k) ?_))
  show OGl _ _ _ _ T293 (mkF m 19 #[rv o0, iv 4, iv 5, jv q1, sc] [.long q1, .int 4, .ref o4])
  have F294 := (V_o4.other W289 ne_o4_o2)
  refine wJ X293 hx hby hZ e293 F294 4 rfl (Nat.le_of_ble_eq_true rfl) d5_19 fun T295 h295 X295 e295 W295 V295 => ?_
  have N295 := Fr.snoc X295 N289 g_o4
  have KK295 := KK289.wr W295 (Or.inl (List.mem_of_getElem? (i := 1) rfl))
  show OGl _ _ _ _ T295 (mkF m 20 #[rv o0, iv 4, iv 5, jv q1, sc] [])
  have F296 := ((F9_o0.other W289 (Or.inl ne_o0_o2)).other W295 (Or.inl ne_o0_o4))
  have F298 := (F292.other W295 (Or.inl ne_o0_o4))
  have F300 := ((F11_o0.other W289 (Or.inl ne_o0_o2)).other W295 (Or.inl ne_o0_o4))
  have F302 := ((V_o9.other W289 ne_o9_o2).other W295 ne_o9_o4)
  refine gO (fun t k => kaN X295 hx hby d5_20 rfl rfl k) (gG X295 hx hby hZ hown (w15 hw) e295 F296 d5_21 fun T297 X297 e297 => gO (fun t k => kaN X297 hx hby d5_24 rfl rfl k) (gG X297 hx hby hZ hown (w31 hw) e297 F298 d5_25 fun T299 X299 e299 => gO (fun t k => kaN X299 hx hby d5_28 rfl rfl k) (gG X299 hx hby hZ hown (w11 hw) e299 F300 d5_29 fun T301 X301 e301 => gO (fun t k => kiN X301 hx hby d5_32 rfl (rI X301 hx hby hZ e301 F302 (.int (-1)) rfl rfl d5_33 k)) ?_)))
  show OGl _ _ _ _ T301 (mkF m 34 #[rv o0, iv 4, iv 5, jv q1, sc] [.int (-1), .int 4, .ref o8])
  have F303 := ((V_o8.other W289 ne_o8_o2).other W295 ne_o8_o4)
  refine wI X301 hx hby hZ e301 F303 4 rfl (Nat.le_of_ble_eq_true rfl) d5_34 fun T304 h304 X304 e304 W304 V304 => ?_
  have N304 := Fr.snoc X304 N295 g_o8
  have KK304 := KK295.wr W304 (Or.inl (List.mem_of_getElem? (i := 2) rfl))
  show OGl _ _ _ _ T304 (mkF m 35 #[rv o0, iv 4, iv 5, jv q1, sc] [])
  have F305 := (F300.other W304 (Or.inl ne_o0_o8))
  have F307 := (F298.other W304 (Or.inl ne_o0_o8))
  refine gO (fun t k => kaN X304 hx hby d5_35 rfl rfl k) (gG X304 hx hby hZ hown (w11 hw) e304 F305 d5_36 fun T306 X306 e306 => gO (fun t k => kiN X306 hx hby d5_39 rfl (kaN X306 hx hby d5_40 rfl rfl k)) (gG X306 hx hby hZ hown (w31 hw) e306 F307 d5_41 fun T308 X308 e308 => ?_))
  show OGl _ _ _ _ T308 (mkF m 44 #[rv o0, iv 4, iv 5, jv q1, sc] [.int 4, .int 4, .ref o9])
  have F309 := (F302.other W304 ne_o9_o8)
  refine wI X308 hx hby hZ e308 F309 4 rfl (Nat.le_of_ble_eq_true rfl) d5_44 fun T310 h310 X310 e310 W310 V310 => ?_
  have N310 := Fr.snoc X310 N304 g_o9
  have KK310 := KK304.wr W310 (Or.inl (List.mem_of_getElem? (i := 3) rfl))
  show OGl _ _ _ _ T310 (mkF m 45 #[rv o0, iv 4, iv 5, jv q1, sc] [])
  have F311 := (F307.other W310 (Or.inl ne_o0_o9))
  refine gO (fun t k => kaN X310 hx hby d5_45 rfl rfl (o_dup X310 hx hby d5_46 rfl k)) (gG X310 hx hby hZ hown (w31 hw) e310 F311 d5_47 fun T312 X312 e312 => gO (fun t k => kc X312 hx hby d5_50 (o_iadd X312 hx hby d5_51 k)) ?_)
  show OGl _ _ _ _ T312 (mkF m 52 #[rv o0, iv 4, iv 5, jv q1, sc] [.int 5, .ref o0])
  have F313 := ((((E_o0.wr W289).wr W295).wr W304).wr W310)
  obtain ⟨T314, h314, X314, e314, W314, st314⟩ := putF X312 hx hZ hown (host := "") (Or.inl (w31 hw)) Via.refl e312 F311 F313 (Or.inl (w32 hw)) (w2 hw) (ty := .int) (by decide) rfl rfl (g := (mkF m 52 #[rv o0, iv 4, iv 5, jv q1, sc] [.int 5, .ref o0])) rfl rfl (hb hby d5_52)
  refine gO st314 ?_
  have N314 := Fr.snoc X314 N310 g_o0
  have Fw314 := F311.same W314
  have KK314 := KK310.wr W314 (Or.inl (List.mem_of_getElem? (i := 4) rfl))
  show OGl _ _ _ _ T314 (mkF m 55 #[rv o0, iv 4, iv 5, jv q1, sc] [])
  obtain ⟨fs, hr, hrun, hended, hW, hsame⟩ := X314.leave (v := none) (fun _ => rfl) (BodyLoose.notSynchronized Bd)
  refine ⟨_, _, X314.returnOut hx Bd.returns (hb hby d5_55) hr, hrun, hended, _, _, rfl, ?_, ⟨_, rfl⟩, hW, hsame.mono (by decide) (by decide)⟩
  show Q5d Z o0 q1 o2 k3 o4 k5 q6 q7 o8 o9 k10 k11 h0 n0 _ T314.heap _
  rw [e314]
  have F315 := ((((V289.other W295 (Ne.symm ne_o4_o2)).other W304 (Ne.symm ne_o8_o2)).other W310 (Ne.symm ne_o9_o2)).other W314 (Ne.symm ne_o0_o2))
  have F316 := (((V295.other W304 (Ne.symm ne_o8_o4)).other W310 (Ne.symm ne_o9_o4)).other W314 (Ne.symm ne_o0_o4))
  have F317 := ((V304.other W310 (Ne.symm ne_o9_o8)).other W314 (Ne.symm ne_o0_o8))
  have F318 := (V310.other W314 (Ne.symm ne_o0_o9))
  have F319 := (((((F24_o0.other W289 (Or.inl ne_o0_o2)).other W295 (Or.inl ne_o0_o4)).other W304 (Or.inl ne_o0_o8)).other W310 (Or.inl ne_o0_o9)).other W314 (Or.inr (sn26_32 hw)))
  have F320 := ((F305.other W310 (Or.inl ne_o0_o9)).other W314 (Or.inr (sn12_32 hw)))
  have F321 := (((F296.other W304 (Or.inl ne_o0_o8)).other W310 (Or.inl ne_o0_o9)).other W314 (Or.inr (sn16_32 hw)))
  have F322 := ((((F290.other W295 (Or.inl ne_o0_o4)).other W304 (Or.inl ne_o0_o8)).other W310 (Or.inl ne_o0_o9)).other W314 (Or.inr (sn19_32 hw)))
  have F323 := (((((F25_o0.other W289 (Or.inl ne_o0_o2)).other W295 (Or.inl ne_o0_o4)).other W304 (Or.inl ne_o0_o8)).other W310 (Or.inl ne_o0_o9)).other W314 (Or.inr (sn59_32 hw)))
  have F324 := (((((F0_o0.other W289 (Or.inl ne_o0_o2)).other W295 (Or.inl ne_o0_o4)).other W304 (Or.inl ne_o0_o8)).other W310 (Or.inl ne_o0_o9)).other W314 (Or.inr (sn14_32 hw)))
  exact ⟨rfl, N314, KK314, F315, F316, F317, F318, Fw314, F319, F320, F321, F322, F323, F324⟩
def Q5e (Z : State) (o0 : Addr) (o1 : Addr) (k2 : ClassId) (o3 : Addr) (k4 : ClassId) (q5 : Int64) (q6 : Int64) (q7 : Int64) (o8 : Addr) (o9 : Addr) (k10 : ClassId) (k11 : ClassId) (h0 : Heap) (n0 : Nat) (v : Option Value) (h : Heap) (L : List Loc) : Prop := v = none ∧ Fr n0 L ∧ Keep h0 h [o1, o3, o8, o9, o0] ∧ Arv Z h o1 k2 .int 16 (.int 1 :: .int 0 :: .int 3 :: .int 2 :: .int 5 :: .int 4 :: zi10) (.int 0) ∧ Arv Z h o3 k4 .long 16 (.long q5 :: .long 0 :: .long q6 :: .long 0 :: .long q7 :: zj11) (.long 0) ∧ Arv Z h o8 k11 .int 16 (.int (-1) :: .int (-1) :: .int (-1) :: .int (-1) :: .int (-1) :: .int (-1) :: zi10) (.int 0) ∧ Arv Z h o9 k10 .int 16 (.int 0 :: .int 1 :: .int 2 :: .int 3 :: .int 4 :: .int 5 :: zi10) (.int 0) ∧ Fld Z h o0 cc0 "edges" "I" (.int 6) ∧ Fld Z h o0 cc0 "halves" "I" (.int 6) ∧ Fld Z h o0 cc0 "heads" "[I" (.ref o9) ∧ Fld Z h o0 cc0 "nexts" "[I" (.ref o8) ∧ Fld Z h o0 cc0 "residues" "[J" (.ref o3) ∧ Fld Z h o0 cc0 "sourceSide" "[Z" (.null) ∧ Fld Z h o0 cc0 "targets" "[I" (.ref o1)
set_option maxRecDepth 65536 in
set_option maxHeartbeats 40000000 in
theorem rm5e (l : Launch) (Z : State) (a0 : Array Value) (hw : ∀ d ∈ tables_1, d.before a0 Z = true) (ws : List Jvm.Cond) (o0 : Addr) (o1 : Addr) (k2 : ClassId) (o3 : Addr) (k4 : ClassId) (q5 : Int64) (q6 : Int64) (q7 : Int64) (o8 : Addr) (o9 : Addr) (k10 : ClassId) (k11 : ClassId) (h0 : Heap) (n0 : Nat) (Z0 : n0 ≤ h0.size) (F0_o0 : Fld Z h0 o0 cc0 "targets" "[I" (.ref o1)) (F1_o0 : Fld Z h0 o0 cc0 "edges" "I" (.int 5)) (V_o1 : Arv Z h0 o1 k2 .int 16 (.int 1 :: .int 0 :: .int 3 :: .int 2 :: .int 5 :: zi11) (.int 0)) (g_o1 : n0 ≤ o1) (F4_o0 : Fld Z h0 o0 cc0 "residues" "[J" (.ref o3)) (ne_o0_o1 : o0 ≠ o1) (V_o3 : Arv Z h0 o3 k4 .long 16 (.long q5 :: .long 0 :: .long q6 :: .long 0 :: .long q7 :: zj11) (.long 0)) (ne_o3_o1 : o3 ≠ o1) (g_o3 : n0 ≤ o3) (F9_o0 : Fld Z h0 o0 cc0 "nexts" "[I" (.ref o8)) (ne_o0_o3 : o0 ≠ o3) (F11_o0 : Fld Z h0 o0 cc0 "heads" "[I" (.ref o9)) (V_o9 : Arv Z h0 o9 k10 .int 16 (.int 0 :: .int 1 :: .int 2 :: .int 3 :: .int 4 :: .int (-1) :: zi10) (.int 0)) (ne_o9_o1 : o9 ≠ o1) (ne_o9_o3 : o9 ≠ o3) (V_o8 : Arv Z h0 o8 k11 .int 16 (.int (-1) :: .int (-1) :: .int (-1) :: .int (-1) :: .int (-1) :: zi11) (.int 0)) (ne_o8_o1 : o8 ≠ o1) (ne_o8_o3 : o8 ≠ o3) (g_o8 : n0 ≤ o8) (ne_o0_o8 : o0 ≠ o8) (ne_o9_o8 : o9 ≠ o8) (g_o9 : n0 ≤ o9) (ne_o0_o9 : o0 ≠ o9) (E_o0 : Exa Z h0 o0 cc0) (F24_o0 : Fld Z h0 o0 cc0 "halves" "I" (.int 6)) (F25_o0 : Fld Z h0 o0 cc0 "sourceSide" "[Z" (.null)) (g_o0 : n0 ≤ o0) :
    MetFree l yy1 (head1 (Jvm.Cond.code yy1 bc3 5 none :: ws) rr1) (fun a U => a = #[.ref o0, .int 5, .int 4, .long 0] ∧ Z.Warmed39 U.vm ∧ U.heap = h0) (fun _ _ _ _ _ => True) (fun _ U o U' => ∃ v L, o = .returned v ∧ Q5e Z o0 o1 k2 o3 k4 q5 q6 q7 o8 o9 k10 k11 h0 n0 v U'.heap L ∧ FrameEnd U o U' L rr1.cells rr1.slots) := by
  refine MetFree.of_bodySF (plainFor_of_name pn_0) hisR ?_
  intro p e s m args below meth c s₁ Bd hml0 hP hK
  obtain ⟨rfl, hZ, hh⟩ := hP
  have hx := Bd.exec
  have hby := Bd.bytes
  have hml : c.maxLocals = 5 := hml0
  have hown : s.vm.findClass cc0 = some m.cls := findClass_of_methodNamed Bd.named
  have hnm := (name_of_methodNamed Bd.named Bd.method).1
  have X0 : Stand p l e rr1 s m #[.ref o0, .int 5, .int 4, .long 0] below meth c s₁ [] 0 0 := Stand.of_body Bd
  have e0 : s₁.heap = h0 := by rw [← hh, Bd.state]; rfl
  have N0 := Fr.nil n0
  refine OGl.start (ef_5 m o0 (5 : Int32) (4 : Int32) (0 : Int64)) ?_
  show OGl _ _ _ _ s₁ (mkF m 0 #[rv o0, iv 5, iv 4, jv 0, sc] [])
  refine gO (fun t k => kaN X0 hx hby d5_0 rfl rfl k) (gG X0 hx hby hZ hown (w13 hw) e0 F0_o0 d5_1 fun T326 X326 e326 => gO (fun t k => kaN X326 hx hby d5_4 rfl rfl k) (gG X326 hx hby hZ hown (w31 hw) e326 F1_o0 d5_5 fun T327 X327 e327 => gO (fun t k => kiN X327 hx hby d5_8 rfl k) ?_))
  show OGl _ _ _ _ T327 (mkF m 9 #[rv o0, iv 5, iv 4, jv 0, sc] [.int 4, .int 5, .ref o1])
  refine wI X327 hx hby hZ e327 V_o1 5 rfl (Nat.le_of_ble_eq_true rfl) d5_9 fun T328 h328 X328 e328 W328 V328 => ?_
  have N328 := Fr.snoc X328 N0 g_o1
  have KK328 := (Keep.refl h0 [o1, o3, o8, o9, o0]).wr W328 (Or.inl (List.mem_of_getElem? (i := 0) rfl))
  show OGl _ _ _ _ T328 (mkF m 10 #[rv o0, iv 5, iv 4, jv 0, sc] [])
  have F329 := (F4_o0.other W328 (Or.inl ne_o0_o1))
  have F331 := (F1_o0.other W328 (Or.inl ne_o0_o1))
  refine gO (fun t k => kaN X328 hx hby d5_10 rfl rfl k) (gG X328 hx hby hZ hown (w18 hw) e328 F329 d5_11 fun T330 X330 e330 => gO (fun t k => kaN X330 hx hby d5_14 rfl rfl k) (gG X330 hx hby hZ hown (w31 hw) e330 F331 d5_15 fun T332 X332 e332 => gO (fun t k => klN X332 hx hby d5_18 rfl k) ?_))
  show OGl _ _ _ _ T332 (mkF m 19 #[rv o0, iv 5, iv 4, jv 0, sc] [.long 0, .int 5, .ref o3])
  have F333 := (V_o3.other W328 ne_o3_o1)
  refine wJ X332 hx hby hZ e332 F333 5 rfl (Nat.le_of_ble_eq_true rfl) d5_19 fun T334 h334 X334 e334 W334 V334 => ?_
  have N334 := Fr.snoc X334 N328 g_o3
  have KK334 := KK328.wr W334 (Or.inl (List.mem_of_getElem? (i := 1) rfl))
  show OGl _ _ _ _ T334 (mkF m 20 #[rv o0, iv 5, iv 4, jv 0, sc] [])
  have F335 := ((F9_o0.other W328 (Or.inl ne_o0_o1)).other W334 (Or.inl ne_o0_o3))
  have F337 := (F331.other W334 (Or.inl ne_o0_o3))
  have F339 := ((F11_o0.other W328 (Or.inl ne_o0_o1)).other W334 (Or.inl ne_o0_o3))
  have F341 := ((V_o9.other W328 ne_o9_o1).other W334 ne_o9_o3)
  refine gO (fun t k => kaN X334 hx hby d5_20 rfl rfl k) (gG X334 hx hby hZ hown (w15 hw) e334 F335 d5_21 fun T336 X336 e336 => gO (fun t k => kaN X336 hx hby d5_24 rfl rfl k) (gG X336 hx hby hZ hown (w31 hw) e336 F337 d5_25 fun T338 X338 e338 => gO (fun t k => kaN X338 hx hby d5_28 rfl rfl k) (gG X338 hx hby hZ hown (w11 hw) e338 F339 d5_29 fun T340 X340 e340 => gO (fun t k => kiN X340 hx hby d5_32 rfl (rI X340 hx hby hZ e340 F341 (.int (-1)) rfl rfl d5_33 k)) ?_)))
  show OGl _ _ _ _ T340 (mkF m 34 #[rv o0, iv 5, iv 4, jv 0, sc] [.int (-1), .int 5, .ref o8])
  have F342 := ((V_o8.other W328 ne_o8_o1).other W334 ne_o8_o3)
  refine wI X340 hx hby hZ e340 F342 5 rfl (Nat.le_of_ble_eq_true rfl) d5_34 fun T343 h343 X343 e343 W343 V343 => ?_
  have N343 := Fr.snoc X343 N334 g_o8
  have KK343 := KK334.wr W343 (Or.inl (List.mem_of_getElem? (i := 2) rfl))
  show OGl _ _ _ _ T343 (mkF m 35 #[rv o0, iv 5, iv 4, jv 0, sc] [])
  have F344 := (F339.other W343 (Or.inl ne_o0_o8))
  have F346 := (F337.other W343 (Or.inl ne_o0_o8))
  refine gO (fun t k => kaN X343 hx hby d5_35 rfl rfl k) (gG X343 hx hby hZ hown (w11 hw) e343 F344 d5_36 fun T345 X345 e345 => gO (fun t k => kiN X345 hx hby d5_39 rfl (kaN X345 hx hby d5_40 rfl rfl k)) (gG X345 hx hby hZ hown (w31 hw) e345 F346 d5_41 fun T347 X347 e347 => ?_))
  show OGl _ _ _ _ T347 (mkF m 44 #[rv o0, iv 5, iv 4, jv 0, sc] [.int 5, .int 5, .ref o9])
  have F348 := (F341.other W343 ne_o9_o8)
  refine wI X347 hx hby hZ e347 F348 5 rfl (Nat.le_of_ble_eq_true rfl) d5_44 fun T349 h349 X349 e349 W349 V349 => ?_
  have N349 := Fr.snoc X349 N343 g_o9
  have KK349 := KK343.wr W349 (Or.inl (List.mem_of_getElem? (i := 3) rfl))
  show OGl _ _ _ _ T349 (mkF m 45 #[rv o0, iv 5, iv 4, jv 0, sc] [])
  have F350 := (F346.other W349 (Or.inl ne_o0_o9))
  refine gO (fun t k => kaN X349 hx hby d5_45 rfl rfl (o_dup X349 hx hby d5_46 rfl k)) (gG X349 hx hby hZ hown (w31 hw) e349 F350 d5_47 fun T351 X351 e351 => gO (fun t k => kc X351 hx hby d5_50 (o_iadd X351 hx hby d5_51 k)) ?_)
  show OGl _ _ _ _ T351 (mkF m 52 #[rv o0, iv 5, iv 4, jv 0, sc] [.int 6, .ref o0])
  have F352 := ((((E_o0.wr W328).wr W334).wr W343).wr W349)
  obtain ⟨T353, h353, X353, e353, W353, st353⟩ := putF X351 hx hZ hown (host := "") (Or.inl (w31 hw)) Via.refl e351 F350 F352 (Or.inl (w32 hw)) (w2 hw) (ty := .int) (by decide) rfl rfl (g := (mkF m 52 #[rv o0, iv 5, iv 4, jv 0, sc] [.int 6, .ref o0])) rfl rfl (hb hby d5_52)
  refine gO st353 ?_
  have N353 := Fr.snoc X353 N349 g_o0
  have Fw353 := F350.same W353
  have KK353 := KK349.wr W353 (Or.inl (List.mem_of_getElem? (i := 4) rfl))
  show OGl _ _ _ _ T353 (mkF m 55 #[rv o0, iv 5, iv 4, jv 0, sc] [])
  obtain ⟨fs, hr, hrun, hended, hW, hsame⟩ := X353.leave (v := none) (fun _ => rfl) (BodyLoose.notSynchronized Bd)
  refine ⟨_, _, X353.returnOut hx Bd.returns (hb hby d5_55) hr, hrun, hended, _, _, rfl, ?_, ⟨_, rfl⟩, hW, hsame.mono (by decide) (by decide)⟩
  show Q5e Z o0 o1 k2 o3 k4 q5 q6 q7 o8 o9 k10 k11 h0 n0 _ T353.heap _
  rw [e353]
  have F354 := ((((V328.other W334 (Ne.symm ne_o3_o1)).other W343 (Ne.symm ne_o8_o1)).other W349 (Ne.symm ne_o9_o1)).other W353 (Ne.symm ne_o0_o1))
  have F355 := (((V334.other W343 (Ne.symm ne_o8_o3)).other W349 (Ne.symm ne_o9_o3)).other W353 (Ne.symm ne_o0_o3))
  have F356 := ((V343.other W349 (Ne.symm ne_o9_o8)).other W353 (Ne.symm ne_o0_o8))
  have F357 := (V349.other W353 (Ne.symm ne_o0_o9))
  have F358 := (((((F24_o0.other W328 (Or.inl ne_o0_o1)).other W334 (Or.inl ne_o0_o3)).other W343 (Or.inl ne_o0_o8)).other W349 (Or.inl ne_o0_o9)).other W353 (Or.inr (sn26_32 hw)))
  have F359 := ((F344.other W349 (Or.inl ne_o0_o9)).other W353 (Or.inr (sn12_32 hw)))
  have F360 := (((F335.other W343 (Or.inl ne_o0_o8)).other W349 (Or.inl ne_o0_o9)).other W353 (Or.inr (sn16_32 hw)))
  have F361 := ((((F329.other W334 (Or.inl ne_o0_o3)).other W343 (Or.inl ne_o0_o8)).other W349 (Or.inl ne_o0_o9)).other W353 (Or.inr (sn19_32 hw)))
  have F362 := (((((F25_o0.other W328 (Or.inl ne_o0_o1)).other W334 (Or.inl ne_o0_o3)).other W343 (Or.inl ne_o0_o8)).other W349 (Or.inl ne_o0_o9)).other W353 (Or.inr (sn59_32 hw)))
  have F363 := (((((F0_o0.other W328 (Or.inl ne_o0_o1)).other W334 (Or.inl ne_o0_o3)).other W343 (Or.inl ne_o0_o8)).other W349 (Or.inl ne_o0_o9)).other W353 (Or.inr (sn14_32 hw)))
  exact ⟨rfl, N353, KK353, F354, F355, F356, F357, Fw353, F358, F359, F360, F361, F362, F363⟩
def Q4b (Z : State) (o0 : Addr) (q1 : Int64) (o2 : Addr) (k3 : ClassId) (o4 : Addr) (k5 : ClassId) (q6 : Int64) (q7 : Int64) (o8 : Addr) (o9 : Addr) (k10 : ClassId) (k11 : ClassId) (h0 : Heap) (n0 : Nat) (v : Option Value) (h : Heap) (L : List Loc) : Prop := v = none ∧ Fr n0 L ∧ Keep h0 h [o0, o9, o8, o4, o2] ∧ Fld Z h o0 cc0 "edges" "I" (.int 6) ∧ Fld Z h o0 cc0 "halves" "I" (.int 6) ∧ Fld Z h o0 cc0 "heads" "[I" (.ref o9) ∧ Fld Z h o0 cc0 "nexts" "[I" (.ref o8) ∧ Fld Z h o0 cc0 "residues" "[J" (.ref o4) ∧ Fld Z h o0 cc0 "sourceSide" "[Z" (.null) ∧ Fld Z h o0 cc0 "targets" "[I" (.ref o2) ∧ Arv Z h o9 k10 .int 16 (.int 0 :: .int 1 :: .int 2 :: .int 3 :: .int 4 :: .int 5 :: zi10) (.int 0) ∧ Arv Z h o8 k11 .int 16 (.int (-1) :: .int (-1) :: .int (-1) :: .int (-1) :: .int (-1) :: .int (-1) :: zi10) (.int 0) ∧ Arv Z h o4 k5 .long 16 (.long q6 :: .long 0 :: .long q7 :: .long 0 :: .long q1 :: zj11) (.long 0) ∧ Arv Z h o2 k3 .int 16 (.int 1 :: .int 0 :: .int 3 :: .int 2 :: .int 5 :: .int 4 :: zi10) (.int 0)
set_option maxRecDepth 65536 in
set_option maxHeartbeats 40000000 in
theorem rm4b (l : Launch) (Z : State) (a0 : Array Value) (hw : ∀ d ∈ tables_1, d.before a0 Z = true) (ws : List Jvm.Cond) (o0 : Addr) (q1 : Int64) (o2 : Addr) (k3 : ClassId) (o4 : Addr) (k5 : ClassId) (q6 : Int64) (q7 : Int64) (o8 : Addr) (o9 : Addr) (k10 : ClassId) (k11 : ClassId) (h0 : Heap) (n0 : Nat) (Z0 : n0 ≤ h0.size) (F0_o0 : Fld Z h0 o0 cc0 "edges" "I" (.int 4)) (F1_o0 : Fld Z h0 o0 cc0 "targets" "[I" (.ref o2)) (V_o2 : Arv Z h0 o2 k3 .int 16 (.int 1 :: .int 0 :: .int 3 :: .int 2 :: zi12) (.int 0)) (E_o0 : Exa Z h0 o0 cc0) (F4_o0 : Fld Z h0 o0 cc0 "residues" "[J" (.ref o4)) (V_o4 : Arv Z h0 o4 k5 .long 16 (.long q6 :: .long 0 :: .long q7 :: zj13) (.long 0)) (F6_o0 : Fld Z h0 o0 cc0 "nexts" "[I" (.ref o8)) (F7_o0 : Fld Z h0 o0 cc0 "heads" "[I" (.ref o9)) (V_o9 : Arv Z h0 o9 k10 .int 16 (.int 0 :: .int 1 :: .int 2 :: .int 3 :: .int (-1) :: .int (-1) :: zi10) (.int 0)) (V_o8 : Arv Z h0 o8 k11 .int 16 (.int (-1) :: .int (-1) :: .int (-1) :: .int (-1) :: zi12) (.int 0)) (F10_o0 : Fld Z h0 o0 cc0 "halves" "I" (.int 6)) (F11_o0 : Fld Z h0 o0 cc0 "sourceSide" "[Z" (.null)) (g_o2 : n0 ≤ o2) (ne_o0_o2 : o0 ≠ o2) (ne_o4_o2 : o4 ≠ o2) (g_o4 : n0 ≤ o4) (ne_o0_o4 : o0 ≠ o4) (ne_o9_o2 : o9 ≠ o2) (ne_o9_o4 : o9 ≠ o4) (ne_o8_o2 : o8 ≠ o2) (ne_o8_o4 : o8 ≠ o4) (g_o8 : n0 ≤ o8) (ne_o0_o8 : o0 ≠ o8) (ne_o9_o8 : o9 ≠ o8) (g_o9 : n0 ≤ o9) (ne_o0_o9 : o0 ≠ o9) (g_o0 : n0 ≤ o0) :
    MetFree l yy2 (head1 (Jvm.Cond.code yy2 bc2 5 none :: ws) rr2) (fun a U => a = #[.ref o0, .int 4, .int 5, .long q1] ∧ Z.Warmed39 U.vm ∧ U.heap = h0) (fun _ _ _ _ _ => True) (fun _ U o U' => ∃ v L, o = .returned v ∧ Q4b Z o0 q1 o2 k3 o4 k5 q6 q7 o8 o9 k10 k11 h0 n0 v U'.heap L ∧ FrameEnd U o U' L rr2.cells rr2.slots) := by
  refine MetFree.of_bodySF (plainFor_of_name pn_0) hisR ?_
  intro p e s m args below meth c s₁ Bd hml0 hP hK
  obtain ⟨rfl, hZ, hh⟩ := hP
  have hx := Bd.exec
  have hby := Bd.bytes
  have hml : c.maxLocals = 5 := hml0
  have hown : s.vm.findClass cc0 = some m.cls := findClass_of_methodNamed Bd.named
  have hnm := (name_of_methodNamed Bd.named Bd.method).1
  have X0 : Stand p l e rr2 s m #[.ref o0, .int 4, .int 5, .long q1] below meth c s₁ [] 0 0 := Stand.of_body Bd
  have e0 : s₁.heap = h0 := by rw [← hh, Bd.state]; rfl
  have N0 := Fr.nil n0
  refine OGl.start (ef_4 m o0 (4 : Int32) (5 : Int32) q1) ?_
  show OGl _ _ _ _ s₁ (mkF m 0 #[rv o0, iv 4, iv 5, jv q1, sc] [])
  refine gO (fun t k => kaN X0 hx hby d4_0 rfl rfl k) (gG X0 hx hby hZ hown (w31 hw) e0 F0_o0 d4_1 fun T284 X284 e284 => gO (fun t k => kc X284 hx hby d4_4 (o_iadd X284 hx hby d4_5 (kaN X284 hx hby d4_6 rfl rfl k))) (gG X284 hx hby hZ hown (w13 hw) e284 F1_o0 d4_7 fun T285 X285 e285 => gO (fun t k => rL X285 hx hby hZ e285 V_o2 d4_10 (cY X285 hx hby 68 d4_11 (flt (by decide : ¬ ((16 : Int32) < (6 : Int32)))).2.2.2 rfl (kaN X285 hx hby d4_68 rfl rfl (kiN X285 hx hby d4_69 rfl (kiN X285 hx hby d4_70 rfl (klN X285 hx hby d4_71 rfl k)))))) ?_))
  show OGl _ _ _ _ T285 (mkF m 72 #[rv o0, iv 4, iv 5, jv q1, sc] [.long q1, .int 5, .int 4, .ref o0])
  obtain ⟨cq286, q286a, q286b⟩ := (E_o0).cell
  obtain ⟨_, _, ⟨T286, L286, kk286, n286⟩, -, X286, ⟨Lc286, hQ286, l286, y286, z286⟩, st286⟩ := X285.privateBack hx (y := yy1) hown (mvT hZ (w33 hw)) (mvT hZ (w34 hw)) (own_selPriv (y := yy1) (Cond.privateMethod_at (mvP hZ (w35 hw) (args := #[]))) (mvT hZ (w34 hw)) (mvT hZ (w23 hw)) rfl) (Cond.privateMethod_at (mvP hZ (w35 hw) (args := #[]))) (mvT hZ (w36 hw)) (by decide) (backOf (W := 0) (rm5d l Z a0 hw [] o0 q1 o2 k3 o4 k5 q6 q7 o8 o9 k10 k11 h0 n0 Z0 F1_o0 F0_o0 V_o2 g_o2 F4_o0 ne_o0_o2 V_o4 ne_o4_o2 g_o4 F6_o0 ne_o0_o4 F7_o0 V_o9 ne_o9_o2 ne_o9_o4 V_o8 ne_o8_o2 ne_o8_o4 g_o8 ne_o0_o8 ne_o9_o8 g_o9 ne_o0_o9 E_o0 F10_o0 F11_o0 g_o0) hZ (w36 hw) (w3 hw) (by decide) (by decide)) (g := (mkF m 72 #[rv o0, iv 4, iv 5, jv q1, sc] [.long q1, .int 5, .int 4, .ref o0])) rfl (by rw [hml]; rfl) (Steps.refl _) (a := o0) (by rw [e285]; exact q286a) q286b (argsL := [.int 4, .int 5, .long q1]) (rest := []) (lenOf pd_1 rfl) rfl (by show 2 * 0 + _ ≤ _; exact Nat.le_of_eq rfl) (hb hby d4_72) (fun _ _ => ⟨rfl, e285, (by decide : 0 + 0 ≤ _), (by decide : 0 + 0 ≤ _)⟩)
  dsimp only [Pt.U, Pt.locs, Pt.cells, Pt.slots] at X286 l286 y286 z286 st286 hQ286
  replace l286 := l286.symm
  subst l286 y286 z286
  obtain ⟨rfl, Nq286, K286, Fq286_0, Fq286_1, Fq286_2, Fq286_3, Fq286_4, Fq286_5, Fq286_6, Fq286_7, Fq286_8, Fq286_9, Fq286_10⟩ := hQ286
  have KK286 : Keep h0 T286.heap [o0, o9, o8, o4, o2] := (Keep.refl h0 [o0, o9, o8, o4, o2]).trans K286 (allS (Or.inl (List.mem_of_getElem? (i := 4) rfl)) (allS (Or.inl (List.mem_of_getElem? (i := 3) rfl)) (allS (Or.inl (List.mem_of_getElem? (i := 2) rfl)) (allS (Or.inl (List.mem_of_getElem? (i := 1) rfl)) (allS (Or.inl (List.mem_of_getElem? (i := 0) rfl)) all0)))))
  have N286 := Fr.app N0 Nq286
  refine gO (fun t k => st286.trans k) ?_
  show OGl _ _ _ _ T286 (mkF m 75 #[rv o0, iv 4, iv 5, jv q1, sc] [])
  refine gO (fun t k => kaN X286 hx hby d4_75 rfl rfl (kiN X286 hx hby d4_76 rfl (kiN X286 hx hby d4_77 rfl (kcl X286 hx hby d4_78 k)))) ?_
  show OGl _ _ _ _ T286 (mkF m 79 #[rv o0, iv 4, iv 5, jv q1, sc] [.long 0, .int 4, .int 5, .ref o0])
  have F364 := (E_o0.keep K286)
  obtain ⟨cq325, q325a, q325b⟩ := (F364).cell
  obtain ⟨_, _, ⟨T325, L325, kk325, n325⟩, -, X325, ⟨Lc325, hQ325, l325, y325, z325⟩, st325⟩ := X286.privateBack hx (y := yy1) hown (mvT hZ (w33 hw)) (mvT hZ (w34 hw)) (own_selPriv (y := yy1) (Cond.privateMethod_at (mvP hZ (w35 hw) (args := #[]))) (mvT hZ (w34 hw)) (mvT hZ (w23 hw)) rfl) (Cond.privateMethod_at (mvP hZ (w35 hw) (args := #[]))) (mvT hZ (w36 hw)) (by decide) (backOf (W := 0) (rm5e l Z a0 hw [] o0 o2 k3 o4 k5 q6 q7 q1 o8 o9 k10 k11 T286.heap n0 (Nat.le_trans Z0 KK286.1) Fq286_10 Fq286_4 Fq286_0 g_o2 Fq286_8 ne_o0_o2 Fq286_1 ne_o4_o2 g_o4 Fq286_7 ne_o0_o4 Fq286_6 Fq286_3 ne_o9_o2 ne_o9_o4 Fq286_2 ne_o8_o2 ne_o8_o4 g_o8 ne_o0_o8 ne_o9_o8 g_o9 ne_o0_o9 F364 Fq286_5 Fq286_9 g_o0) hZ (w36 hw) (w3 hw) (by decide) (by decide)) (g := (mkF m 79 #[rv o0, iv 4, iv 5, jv q1, sc] [.long 0, .int 4, .int 5, .ref o0])) rfl (by rw [hml]; rfl) (Steps.refl _) (a := o0) q325a q325b (argsL := [.int 5, .int 4, .long 0]) (rest := []) (lenOf pd_1 rfl) rfl (by show 2 * 0 + _ ≤ _; exact Nat.le_of_eq rfl) (hb hby d4_79) (fun _ _ => ⟨rfl, rfl, (by decide : 0 + 0 ≤ _), (by decide : 0 + 0 ≤ _)⟩)
  dsimp only [Pt.U, Pt.locs, Pt.cells, Pt.slots] at X325 l325 y325 z325 st325 hQ325
  replace l325 := l325.symm
  subst l325 y325 z325
  obtain ⟨rfl, Nq325, K325, Fq325_0, Fq325_1, Fq325_2, Fq325_3, Fq325_4, Fq325_5, Fq325_6, Fq325_7, Fq325_8, Fq325_9, Fq325_10⟩ := hQ325
  have KK325 : Keep h0 T325.heap [o0, o9, o8, o4, o2] := KK286.trans K325 (allS (Or.inl (List.mem_of_getElem? (i := 4) rfl)) (allS (Or.inl (List.mem_of_getElem? (i := 3) rfl)) (allS (Or.inl (List.mem_of_getElem? (i := 2) rfl)) (allS (Or.inl (List.mem_of_getElem? (i := 1) rfl)) (allS (Or.inl (List.mem_of_getElem? (i := 0) rfl)) all0)))))
  have N325 := Fr.app N286 Nq325
  refine gO (fun t k => st325.trans k) ?_
  show OGl _ _ _ _ T325 (mkF m 82 #[rv o0, iv 4, iv 5, jv q1, sc] [])
  obtain ⟨fs, hr, hrun, hended, hW, hsame⟩ := X325.leave (v := none) (fun _ => rfl) (BodyLoose.notSynchronized Bd)
  refine ⟨_, _, X325.returnOut hx Bd.returns (hb hby d4_82) hr, hrun, hended, _, _, rfl, ?_, ⟨_, rfl⟩, hW, hsame.mono (by decide) (by decide)⟩
  show Q4b Z o0 q1 o2 k3 o4 k5 q6 q7 o8 o9 k10 k11 h0 n0 _ T325.heap _
  exact ⟨rfl, N325, KK325, Fq325_4, Fq325_5, Fq325_6, Fq325_7, Fq325_8, Fq325_9, Fq325_10, Fq325_3, Fq325_2, Fq325_1, Fq325_0⟩
def Q3b (Z : State) (o0 : Addr) (q1 : Int64) (o2 : Addr) (k3 : ClassId) (o4 : Addr) (o5 : Addr) (o6 : Addr) (k7 : ClassId) (k8 : ClassId) (q9 : Int64) (q10 : Int64) (k11 : ClassId) (h0 : Heap) (n0 : Nat) (v : Option Value) (h : Heap) (L : List Loc) : Prop := v = some (.int 2) ∧ Fr n0 L ∧ Keep h0 h [o0, o2, o6, o5, o4] ∧ Fld Z h o0 cc0 "edges" "I" (.int 6) ∧ Fld Z h o0 cc0 "halves" "I" (.int 6) ∧ Fld Z h o0 cc0 "heads" "[I" (.ref o2) ∧ Fld Z h o0 cc0 "nexts" "[I" (.ref o4) ∧ Fld Z h o0 cc0 "residues" "[J" (.ref o5) ∧ Fld Z h o0 cc0 "sourceSide" "[Z" (.null) ∧ Fld Z h o0 cc0 "targets" "[I" (.ref o6) ∧ Arv Z h o2 k3 .int 16 (.int 0 :: .int 1 :: .int 2 :: .int 3 :: .int 4 :: .int 5 :: zi10) (.int 0) ∧ Arv Z h o6 k7 .int 16 (.int 1 :: .int 0 :: .int 3 :: .int 2 :: .int 5 :: .int 4 :: zi10) (.int 0) ∧ Arv Z h o5 k8 .long 16 (.long q9 :: .long 0 :: .long q10 :: .long 0 :: .long q1 :: zj11) (.long 0) ∧ Arv Z h o4 k11 .int 16 (.int (-1) :: .int (-1) :: .int (-1) :: .int (-1) :: .int (-1) :: .int (-1) :: zi10) (.int 0)
set_option maxRecDepth 65536 in
set_option maxHeartbeats 40000000 in
theorem rm3b (l : Launch) (Z : State) (a0 : Array Value) (hw : ∀ d ∈ tables_1, d.before a0 Z = true) (ws : List Jvm.Cond) (o0 : Addr) (q1 : Int64) (o2 : Addr) (k3 : ClassId) (o4 : Addr) (o5 : Addr) (o6 : Addr) (k7 : ClassId) (k8 : ClassId) (q9 : Int64) (q10 : Int64) (k11 : ClassId) (h0 : Heap) (n0 : Nat) (Z0 : n0 ≤ h0.size) (F0_o0 : Fld Z h0 o0 cc0 "halves" "I" (.int 4)) (F1_o0 : Fld Z h0 o0 cc0 "heads" "[I" (.ref o2)) (V_o2 : Arv Z h0 o2 k3 .int 16 (.int 0 :: .int 1 :: .int 2 :: .int 3 :: zi12) (.int 0)) (E_o0 : Exa Z h0 o0 cc0) (F4_o0 : Fld Z h0 o0 cc0 "edges" "I" (.int 4)) (F5_o0 : Fld Z h0 o0 cc0 "nexts" "[I" (.ref o4)) (F6_o0 : Fld Z h0 o0 cc0 "residues" "[J" (.ref o5)) (F7_o0 : Fld Z h0 o0 cc0 "sourceSide" "[Z" (.null)) (F8_o0 : Fld Z h0 o0 cc0 "targets" "[I" (.ref o6)) (g_o0 : n0 ≤ o0) (ne_o2_o0 : o2 ≠ o0) (g_o2 : n0 ≤ o2) (V_o6 : Arv Z h0 o6 k7 .int 16 (.int 1 :: .int 0 :: .int 3 :: .int 2 :: zi12) (.int 0)) (V_o5 : Arv Z h0 o5 k8 .long 16 (.long q9 :: .long 0 :: .long q10 :: zj13) (.long 0)) (V_o4 : Arv Z h0 o4 k11 .int 16 (.int (-1) :: .int (-1) :: .int (-1) :: .int (-1) :: zi12) (.int 0)) (ne_o6_o0 : o6 ≠ o0) (ne_o6_o2 : o6 ≠ o2) (ne_o5_o0 : o5 ≠ o0) (ne_o5_o2 : o5 ≠ o2) (ne_o4_o0 : o4 ≠ o0) (ne_o4_o2 : o4 ≠ o2) (g_o6 : n0 ≤ o6) (ne_o5_o6 : o5 ≠ o6) (g_o5 : n0 ≤ o5) (ne_o4_o6 : o4 ≠ o6) (ne_o4_o5 : o4 ≠ o5) (g_o4 : n0 ≤ o4) :
    MetFree l yy3 (head1 (Jvm.Cond.code yy3 bc1 4 (some .int) :: ws) rr3) (fun a U => a = #[.ref o0, .long q1] ∧ Z.Warmed39 U.vm ∧ U.heap = h0) (fun _ _ _ _ _ => True) (fun _ U o U' => ∃ v L, o = .returned v ∧ Q3b Z o0 q1 o2 k3 o4 o5 o6 k7 k8 q9 q10 k11 h0 n0 v U'.heap L ∧ FrameEnd U o U' L rr3.cells rr3.slots) := by
  refine MetFree.of_bodySF (plainFor_of_name pn_0) hisR ?_
  intro p e s m args below meth c s₁ Bd hml0 hP hK
  obtain ⟨rfl, hZ, hh⟩ := hP
  have hx := Bd.exec
  have hby := Bd.bytes
  have hml : c.maxLocals = 4 := hml0
  have hown : s.vm.findClass cc0 = some m.cls := findClass_of_methodNamed Bd.named
  have hnm := (name_of_methodNamed Bd.named Bd.method).1
  have X0 : Stand p l e rr3 s m #[.ref o0, .long q1] below meth c s₁ [] 0 0 := Stand.of_body Bd
  have e0 : s₁.heap = h0 := by rw [← hh, Bd.state]; rfl
  have N0 := Fr.nil n0
  refine OGl.start (ef_3 m o0 q1) ?_
  show OGl _ _ _ _ s₁ (mkF m 0 #[rv o0, jv q1, sc, un] [])
  refine gO (fun t k => kaN X0 hx hby d3_0 rfl rfl k) (gG X0 hx hby hZ hown (w25 hw) e0 F0_o0 d3_1 fun T267 X267 e267 => gO (fun t k => kc X267 hx hby d3_4 (XS.idiv X267.here hx rfl (hb hby d3_5) rfl (by decide) (siN X267 hx hby (L' := #[rv o0, jv q1, sc, iv 2]) d3_6 rfl (kaN X267 hx hby d3_7 rfl rfl k)))) (gG X267 hx hby hZ hown (w25 hw) e267 F0_o0 d3_8 fun T268 X268 e268 => gO (fun t k => kc X268 hx hby d3_11 (o_iadd X268 hx hby d3_12 (kaN X268 hx hby d3_13 rfl rfl k))) (gG X268 hx hby hZ hown (w11 hw) e268 F1_o0 d3_14 fun T269 X269 e269 => gO (fun t k => rL X269 hx hby hZ e269 V_o2 d3_17 (cY X269 hx hby 39 d3_18 (flt (by decide : ¬ ((16 : Int32) < (6 : Int32)))).2.2.2 rfl (kaN X269 hx hby d3_39 rfl rfl k))) (gG X269 hx hby hZ hown (w11 hw) e269 F1_o0 d3_40 fun T270 X270 e270 => gO (fun t k => kaN X270 hx hby d3_43 rfl rfl (o_dup X270 hx hby d3_44 rfl k)) (gG X270 hx hby hZ hown (w25 hw) e270 F0_o0 d3_45 fun T271 X271 e271 => gO (fun t k => o_dupX1 X271 hx hby d3_48 rfl rfl (kc X271 hx hby d3_49 (o_iadd X271 hx hby d3_50 k))) ?_)))))
  show OGl _ _ _ _ T271 (mkF m 51 #[rv o0, jv q1, sc, iv 2] [.int 5, .ref o0, .int 4, .ref o2])
  obtain ⟨T272, h272, X272, e272, W272, st272⟩ := putF X271 hx hZ hown (host := "") (Or.inl (w25 hw)) Via.refl e271 F0_o0 E_o0 (Or.inl (w26 hw)) (w2 hw) (ty := .int) (by decide) rfl rfl (g := (mkF m 51 #[rv o0, jv q1, sc, iv 2] [.int 5, .ref o0, .int 4, .ref o2])) rfl rfl (hb hby d3_51)
  refine gO st272 ?_
  have N272 := Fr.snoc X272 N0 g_o0
  have Fw272 := F0_o0.same W272
  have KK272 := (Keep.refl h0 [o0, o2, o6, o5, o4]).wr W272 (Or.inl (List.mem_of_getElem? (i := 0) rfl))
  show OGl _ _ _ _ T272 (mkF m 54 #[rv o0, jv q1, sc, iv 2] [.int 4, .ref o2])
  refine gO (fun t k => kc X272 hx hby d3_54 k) ?_
  show OGl _ _ _ _ T272 (mkF m 55 #[rv o0, jv q1, sc, iv 2] [.int (-1), .int 4, .ref o2])
  have F273 := (V_o2.other W272 ne_o2_o0)
  refine wI X272 hx hby hZ e272 F273 4 rfl (Nat.le_of_ble_eq_true rfl) d3_55 fun T274 h274 X274 e274 W274 V274 => ?_
  have N274 := Fr.snoc X274 N272 g_o2
  have KK274 := KK272.wr W274 (Or.inl (List.mem_of_getElem? (i := 1) rfl))
  show OGl _ _ _ _ T274 (mkF m 56 #[rv o0, jv q1, sc, iv 2] [])
  have F275 := ((F1_o0.other W272 (Or.inr (sn12_26 hw))).other W274 (Or.inl (Ne.symm ne_o2_o0)))
  have F277 := (Fw272.other W274 (Or.inl (Ne.symm ne_o2_o0)))
  refine gO (fun t k => kaN X274 hx hby d3_56 rfl rfl k) (gG X274 hx hby hZ hown (w11 hw) e274 F275 d3_57 fun T276 X276 e276 => gO (fun t k => kaN X276 hx hby d3_60 rfl rfl (o_dup X276 hx hby d3_61 rfl k)) (gG X276 hx hby hZ hown (w25 hw) e276 F277 d3_62 fun T278 X278 e278 => gO (fun t k => o_dupX1 X278 hx hby d3_65 rfl rfl (kc X278 hx hby d3_66 (o_iadd X278 hx hby d3_67 k))) ?_))
  show OGl _ _ _ _ T278 (mkF m 68 #[rv o0, jv q1, sc, iv 2] [.int 6, .ref o0, .int 5, .ref o2])
  have F279 := ((E_o0.wr W272).wr W274)
  obtain ⟨T280, h280, X280, e280, W280, st280⟩ := putF X278 hx hZ hown (host := "") (Or.inl (w25 hw)) Via.refl e278 F277 F279 (Or.inl (w26 hw)) (w2 hw) (ty := .int) (by decide) rfl rfl (g := (mkF m 68 #[rv o0, jv q1, sc, iv 2] [.int 6, .ref o0, .int 5, .ref o2])) rfl rfl (hb hby d3_68)
  refine gO st280 ?_
  have N280 := Fr.snoc X280 N274 g_o0
  have Fw280 := F277.same W280
  have KK280 := KK274.wr W280 (Or.inl (List.mem_of_getElem? (i := 0) rfl))
  show OGl _ _ _ _ T280 (mkF m 71 #[rv o0, jv q1, sc, iv 2] [.int 5, .ref o2])
  refine gO (fun t k => kc X280 hx hby d3_71 k) ?_
  show OGl _ _ _ _ T280 (mkF m 72 #[rv o0, jv q1, sc, iv 2] [.int (-1), .int 5, .ref o2])
  have F281 := (V274.other W280 ne_o2_o0)
  refine wI X280 hx hby hZ e280 F281 5 rfl (Nat.le_of_ble_eq_true rfl) d3_72 fun T282 h282 X282 e282 W282 V282 => ?_
  have N282 := Fr.snoc X282 N280 g_o2
  have KK282 := KK280.wr W282 (Or.inl (List.mem_of_getElem? (i := 1) rfl))
  show OGl _ _ _ _ T282 (mkF m 73 #[rv o0, jv q1, sc, iv 2] [])
  refine gO (fun t k => kaN X282 hx hby d3_73 rfl rfl (kc X282 hx hby d3_74 (kiN X282 hx hby d3_75 rfl (o_imul X282 hx hby d3_76 (kc X282 hx hby d3_77 (kiN X282 hx hby d3_78 rfl (o_imul X282 hx hby d3_79 (kc X282 hx hby d3_80 (o_iadd X282 hx hby d3_81 (klN X282 hx hby d3_82 rfl k)))))))))) ?_
  show OGl _ _ _ _ T282 (mkF m 83 #[rv o0, jv q1, sc, iv 2] [.long q1, .int 5, .int 4, .ref o0])
  have F365 := ((((F4_o0.other W272 (Or.inr (sn32_26 hw))).other W274 (Or.inl (Ne.symm ne_o2_o0))).other W280 (Or.inr (sn32_26 hw))).other W282 (Or.inl (Ne.symm ne_o2_o0)))
  have F366 := ((((F8_o0.other W272 (Or.inr (sn14_26 hw))).other W274 (Or.inl (Ne.symm ne_o2_o0))).other W280 (Or.inr (sn14_26 hw))).other W282 (Or.inl (Ne.symm ne_o2_o0)))
  have F367 := ((((V_o6.other W272 ne_o6_o0).other W274 ne_o6_o2).other W280 ne_o6_o0).other W282 ne_o6_o2)
  have F368 := ((F279.wr W280).wr W282)
  have F369 := ((((F6_o0.other W272 (Or.inr (sn19_26 hw))).other W274 (Or.inl (Ne.symm ne_o2_o0))).other W280 (Or.inr (sn19_26 hw))).other W282 (Or.inl (Ne.symm ne_o2_o0)))
  have F370 := ((((V_o5.other W272 ne_o5_o0).other W274 ne_o5_o2).other W280 ne_o5_o0).other W282 ne_o5_o2)
  have F371 := ((((F5_o0.other W272 (Or.inr (sn16_26 hw))).other W274 (Or.inl (Ne.symm ne_o2_o0))).other W280 (Or.inr (sn16_26 hw))).other W282 (Or.inl (Ne.symm ne_o2_o0)))
  have F372 := ((F275.other W280 (Or.inr (sn12_26 hw))).other W282 (Or.inl (Ne.symm ne_o2_o0)))
  have F373 := ((((V_o4.other W272 ne_o4_o0).other W274 ne_o4_o2).other W280 ne_o4_o0).other W282 ne_o4_o2)
  have F374 := (Fw280.other W282 (Or.inl (Ne.symm ne_o2_o0)))
  have F375 := ((((F7_o0.other W272 (Or.inr (sn59_26 hw))).other W274 (Or.inl (Ne.symm ne_o2_o0))).other W280 (Or.inr (sn59_26 hw))).other W282 (Or.inl (Ne.symm ne_o2_o0)))
  obtain ⟨cq283, q283a, q283b⟩ := (F368).cell
  obtain ⟨_, _, ⟨T283, L283, kk283, n283⟩, -, X283, ⟨Lc283, hQ283, l283, y283, z283⟩, st283⟩ := X282.privateBack hx (y := yy2) hown (mvT hZ (w27 hw)) (mvT hZ (w28 hw)) (own_selPriv (y := yy2) (Cond.privateMethod_at (mvP hZ (w29 hw) (args := #[]))) (mvT hZ (w28 hw)) (mvT hZ (w23 hw)) rfl) (Cond.privateMethod_at (mvP hZ (w29 hw) (args := #[]))) (mvT hZ (w30 hw)) (by decide) (backOf (W := 0) (rm4b l Z a0 hw [] o0 q1 o6 k7 o5 k8 q9 q10 o4 o2 k3 k11 h282 n0 (Nat.le_trans Z0 KK282.1) F365 F366 F367 F368 F369 F370 F371 F372 V282 F373 F374 F375 g_o6 (Ne.symm ne_o6_o0) ne_o5_o6 g_o5 (Ne.symm ne_o5_o0) (Ne.symm ne_o6_o2) (Ne.symm ne_o5_o2) ne_o4_o6 ne_o4_o5 g_o4 (Ne.symm ne_o4_o0) (Ne.symm ne_o4_o2) g_o2 (Ne.symm ne_o2_o0) g_o0) hZ (w30 hw) (w3 hw) (by decide) (by decide)) (g := (mkF m 83 #[rv o0, jv q1, sc, iv 2] [.long q1, .int 5, .int 4, .ref o0])) rfl (by rw [hml]; rfl) (Steps.refl _) (a := o0) (by rw [e282]; exact q283a) q283b (argsL := [.int 4, .int 5, .long q1]) (rest := []) (lenOf pd_1 rfl) rfl (by show 2 * 0 + _ ≤ _; exact Nat.le_of_eq rfl) (hb hby d3_83) (fun _ _ => ⟨rfl, e282, (by decide : 0 + 0 ≤ _), (by decide : 0 + 0 ≤ _)⟩)
  dsimp only [Pt.U, Pt.locs, Pt.cells, Pt.slots] at X283 l283 y283 z283 st283 hQ283
  replace l283 := l283.symm
  subst l283 y283 z283
  obtain ⟨rfl, Nq283, K283, Fq283_0, Fq283_1, Fq283_2, Fq283_3, Fq283_4, Fq283_5, Fq283_6, Fq283_7, Fq283_8, Fq283_9, Fq283_10⟩ := hQ283
  have KK283 : Keep h0 T283.heap [o0, o2, o6, o5, o4] := KK282.trans K283 (allS (Or.inl (List.mem_of_getElem? (i := 0) rfl)) (allS (Or.inl (List.mem_of_getElem? (i := 1) rfl)) (allS (Or.inl (List.mem_of_getElem? (i := 4) rfl)) (allS (Or.inl (List.mem_of_getElem? (i := 3) rfl)) (allS (Or.inl (List.mem_of_getElem? (i := 2) rfl)) all0)))))
  have N283 := Fr.app N282 Nq283
  refine gO (fun t k => st283.trans k) ?_
  show OGl _ _ _ _ T283 (mkF m 86 #[rv o0, jv q1, sc, iv 2] [])
  refine gO (fun t k => kiN X283 hx hby d3_86 rfl k) ?_
  show OGl _ _ _ _ T283 (mkF m 87 #[rv o0, jv q1, sc, iv 2] [.int 2])
  obtain ⟨fs, hr, hrun, hended, hW, hsame⟩ := X283.leave (v := some (.int 2)) (fun h => by rw [Bd.returns] at h; cases h) (BodyLoose.notSynchronized Bd)
  refine ⟨_, _, retI X283 hx Bd.returns (hb hby d3_87) hr, hrun, hended, _, _, rfl, ?_, ⟨_, rfl⟩, hW, hsame.mono (by decide) (by decide)⟩
  show Q3b Z o0 q1 o2 k3 o4 o5 o6 k7 k8 q9 q10 k11 h0 n0 _ T283.heap _
  exact ⟨rfl, N283, KK283, Fq283_0, Fq283_1, Fq283_2, Fq283_3, Fq283_4, Fq283_5, Fq283_6, Fq283_7, Fq283_10, Fq283_9, Fq283_8⟩
abbrev zi8 : List Value := [.int 0, .int 0, .int 0, .int 0, .int 0, .int 0, .int 0, .int 0]
abbrev zi9 : List Value := [.int 0, .int 0, .int 0, .int 0, .int 0, .int 0, .int 0, .int 0, .int 0]
abbrev zj9 : List Value := [.long 0, .long 0, .long 0, .long 0, .long 0, .long 0, .long 0, .long 0, .long 0]
def Q5f (Z : State) (o0 : Addr) (q1 : Int64) (o2 : Addr) (k3 : ClassId) (o4 : Addr) (k5 : ClassId) (q6 : Int64) (q7 : Int64) (q8 : Int64) (o9 : Addr) (o10 : Addr) (k11 : ClassId) (k12 : ClassId) (h0 : Heap) (n0 : Nat) (v : Option Value) (h : Heap) (L : List Loc) : Prop := v = none ∧ Fr n0 L ∧ Keep h0 h [o2, o4, o9, o10, o0] ∧ Arv Z h o2 k3 .int 16 (.int 1 :: .int 0 :: .int 3 :: .int 2 :: .int 5 :: .int 4 :: .int 7 :: zi9) (.int 0) ∧ Arv Z h o4 k5 .long 16 (.long q6 :: .long 0 :: .long q7 :: .long 0 :: .long q8 :: .long 0 :: .long q1 :: zj9) (.long 0) ∧ Arv Z h o9 k12 .int 16 (.int (-1) :: .int (-1) :: .int (-1) :: .int (-1) :: .int (-1) :: .int (-1) :: .int (-1) :: zi9) (.int 0) ∧ Arv Z h o10 k11 .int 16 (.int 0 :: .int 1 :: .int 2 :: .int 3 :: .int 4 :: .int 5 :: .int 6 :: .int (-1) :: zi8) (.int 0) ∧ Fld Z h o0 cc0 "edges" "I" (.int 7) ∧ Fld Z h o0 cc0 "halves" "I" (.int 8) ∧ Fld Z h o0 cc0 "heads" "[I" (.ref o10) ∧ Fld Z h o0 cc0 "nexts" "[I" (.ref o9) ∧ Fld Z h o0 cc0 "residues" "[J" (.ref o4) ∧ Fld Z h o0 cc0 "sourceSide" "[Z" (.null) ∧ Fld Z h o0 cc0 "targets" "[I" (.ref o2)
set_option maxRecDepth 65536 in
set_option maxHeartbeats 40000000 in
theorem rm5f (l : Launch) (Z : State) (a0 : Array Value) (hw : ∀ d ∈ tables_1, d.before a0 Z = true) (ws : List Jvm.Cond) (o0 : Addr) (q1 : Int64) (o2 : Addr) (k3 : ClassId) (o4 : Addr) (k5 : ClassId) (q6 : Int64) (q7 : Int64) (q8 : Int64) (o9 : Addr) (o10 : Addr) (k11 : ClassId) (k12 : ClassId) (h0 : Heap) (n0 : Nat) (Z0 : n0 ≤ h0.size) (F0_o0 : Fld Z h0 o0 cc0 "targets" "[I" (.ref o2)) (F1_o0 : Fld Z h0 o0 cc0 "edges" "I" (.int 6)) (V_o2 : Arv Z h0 o2 k3 .int 16 (.int 1 :: .int 0 :: .int 3 :: .int 2 :: .int 5 :: .int 4 :: zi10) (.int 0)) (g_o2 : n0 ≤ o2) (F4_o0 : Fld Z h0 o0 cc0 "residues" "[J" (.ref o4)) (ne_o0_o2 : o0 ≠ o2) (V_o4 : Arv Z h0 o4 k5 .long 16 (.long q6 :: .long 0 :: .long q7 :: .long 0 :: .long q8 :: zj11) (.long 0)) (ne_o4_o2 : o4 ≠ o2) (g_o4 : n0 ≤ o4) (F9_o0 : Fld Z h0 o0 cc0 "nexts" "[I" (.ref o9)) (ne_o0_o4 : o0 ≠ o4) (F11_o0 : Fld Z h0 o0 cc0 "heads" "[I" (.ref o10)) (V_o10 : Arv Z h0 o10 k11 .int 16 (.int 0 :: .int 1 :: .int 2 :: .int 3 :: .int 4 :: .int 5 :: .int (-1) :: .int (-1) :: zi8) (.int 0)) (ne_o10_o2 : o10 ≠ o2) (ne_o10_o4 : o10 ≠ o4) (V_o9 : Arv Z h0 o9 k12 .int 16 (.int (-1) :: .int (-1) :: .int (-1) :: .int (-1) :: .int (-1) :: .int (-1) :: zi10) (.int 0)) (ne_o9_o2 : o9 ≠ o2) (ne_o9_o4 : o9 ≠ o4) (g_o9 : n0 ≤ o9) (ne_o0_o9 : o0 ≠ o9) (ne_o10_o9 : o10 ≠ o9) (g_o10 : n0 ≤ o10) (ne_o0_o10 : o0 ≠ o10) (E_o0 : Exa Z h0 o0 cc0) (F24_o0 : Fld Z h0 o0 cc0 "halves" "I" (.int 8)) (F25_o0 : Fld Z h0 o0 cc0 "sourceSide" "[Z" (.null)) (g_o0 : n0 ≤ o0) :
    MetFree l yy1 (head1 (Jvm.Cond.code yy1 bc3 5 none :: ws) rr1) (fun a U => a = #[.ref o0, .int 6, .int 7, .long q1] ∧ Z.Warmed39 U.vm ∧ U.heap = h0) (fun _ _ _ _ _ => True) (fun _ U o U' => ∃ v L, o = .returned v ∧ Q5f Z o0 q1 o2 k3 o4 k5 q6 q7 q8 o9 o10 k11 k12 h0 n0 v U'.heap L ∧ FrameEnd U o U' L rr1.cells rr1.slots) := by
  refine MetFree.of_bodySF (plainFor_of_name pn_0) hisR ?_
  intro p e s m args below meth c s₁ Bd hml0 hP hK
  obtain ⟨rfl, hZ, hh⟩ := hP
  have hx := Bd.exec
  have hby := Bd.bytes
  have hml : c.maxLocals = 5 := hml0
  have hown : s.vm.findClass cc0 = some m.cls := findClass_of_methodNamed Bd.named
  have hnm := (name_of_methodNamed Bd.named Bd.method).1
  have X0 : Stand p l e rr1 s m #[.ref o0, .int 6, .int 7, .long q1] below meth c s₁ [] 0 0 := Stand.of_body Bd
  have e0 : s₁.heap = h0 := by rw [← hh, Bd.state]; rfl
  have N0 := Fr.nil n0
  refine OGl.start (ef_5 m o0 (6 : Int32) (7 : Int32) q1) ?_
  show OGl _ _ _ _ s₁ (mkF m 0 #[rv o0, iv 6, iv 7, jv q1, sc] [])
  refine gO (fun t k => kaN X0 hx hby d5_0 rfl rfl k) (gG X0 hx hby hZ hown (w13 hw) e0 F0_o0 d5_1 fun T398 X398 e398 => gO (fun t k => kaN X398 hx hby d5_4 rfl rfl k) (gG X398 hx hby hZ hown (w31 hw) e398 F1_o0 d5_5 fun T399 X399 e399 => gO (fun t k => kiN X399 hx hby d5_8 rfl k) ?_))
  show OGl _ _ _ _ T399 (mkF m 9 #[rv o0, iv 6, iv 7, jv q1, sc] [.int 7, .int 6, .ref o2])
  refine wI X399 hx hby hZ e399 V_o2 6 rfl (Nat.le_of_ble_eq_true rfl) d5_9 fun T400 h400 X400 e400 W400 V400 => ?_
  have N400 := Fr.snoc X400 N0 g_o2
  have KK400 := (Keep.refl h0 [o2, o4, o9, o10, o0]).wr W400 (Or.inl (List.mem_of_getElem? (i := 0) rfl))
  show OGl _ _ _ _ T400 (mkF m 10 #[rv o0, iv 6, iv 7, jv q1, sc] [])
  have F401 := (F4_o0.other W400 (Or.inl ne_o0_o2))
  have F403 := (F1_o0.other W400 (Or.inl ne_o0_o2))
  refine gO (fun t k => kaN X400 hx hby d5_10 rfl rfl k) (gG X400 hx hby hZ hown (w18 hw) e400 F401 d5_11 fun T402 X402 e402 => gO (fun t k => kaN X402 hx hby d5_14 rfl rfl k) (gG X402 hx hby hZ hown (w31 hw) e402 F403 d5_15 fun T404 X404 e404 => gO (fun t k => klN X404 hx hby d5_18 rfl k) ?_))
  show OGl _ _ _ _ T404 (mkF m 19 #[rv o0, iv 6, iv 7, jv q1, sc] [.long q1, .int 6, .ref o4])
  have F405 := (V_o4.other W400 ne_o4_o2)
  refine wJ X404 hx hby hZ e404 F405 6 rfl (Nat.le_of_ble_eq_true rfl) d5_19 fun T406 h406 X406 e406 W406 V406 => ?_
  have N406 := Fr.snoc X406 N400 g_o4
  have KK406 := KK400.wr W406 (Or.inl (List.mem_of_getElem? (i := 1) rfl))
  show OGl _ _ _ _ T406 (mkF m 20 #[rv o0, iv 6, iv 7, jv q1, sc] [])
  have F407 := ((F9_o0.other W400 (Or.inl ne_o0_o2)).other W406 (Or.inl ne_o0_o4))
  have F409 := (F403.other W406 (Or.inl ne_o0_o4))
  have F411 := ((F11_o0.other W400 (Or.inl ne_o0_o2)).other W406 (Or.inl ne_o0_o4))
  have F413 := ((V_o10.other W400 ne_o10_o2).other W406 ne_o10_o4)
  refine gO (fun t k => kaN X406 hx hby d5_20 rfl rfl k) (gG X406 hx hby hZ hown (w15 hw) e406 F407 d5_21 fun T408 X408 e408 => gO (fun t k => kaN X408 hx hby d5_24 rfl rfl k) (gG X408 hx hby hZ hown (w31 hw) e408 F409 d5_25 fun T410 X410 e410 => gO (fun t k => kaN X410 hx hby d5_28 rfl rfl k) (gG X410 hx hby hZ hown (w11 hw) e410 F411 d5_29 fun T412 X412 e412 => gO (fun t k => kiN X412 hx hby d5_32 rfl (rI X412 hx hby hZ e412 F413 (.int (-1)) rfl rfl d5_33 k)) ?_)))
  show OGl _ _ _ _ T412 (mkF m 34 #[rv o0, iv 6, iv 7, jv q1, sc] [.int (-1), .int 6, .ref o9])
  have F414 := ((V_o9.other W400 ne_o9_o2).other W406 ne_o9_o4)
  refine wI X412 hx hby hZ e412 F414 6 rfl (Nat.le_of_ble_eq_true rfl) d5_34 fun T415 h415 X415 e415 W415 V415 => ?_
  have N415 := Fr.snoc X415 N406 g_o9
  have KK415 := KK406.wr W415 (Or.inl (List.mem_of_getElem? (i := 2) rfl))
  show OGl _ _ _ _ T415 (mkF m 35 #[rv o0, iv 6, iv 7, jv q1, sc] [])
  have F416 := (F411.other W415 (Or.inl ne_o0_o9))
  have F418 := (F409.other W415 (Or.inl ne_o0_o9))
  refine gO (fun t k => kaN X415 hx hby d5_35 rfl rfl k) (gG X415 hx hby hZ hown (w11 hw) e415 F416 d5_36 fun T417 X417 e417 => gO (fun t k => kiN X417 hx hby d5_39 rfl (kaN X417 hx hby d5_40 rfl rfl k)) (gG X417 hx hby hZ hown (w31 hw) e417 F418 d5_41 fun T419 X419 e419 => ?_))
  show OGl _ _ _ _ T419 (mkF m 44 #[rv o0, iv 6, iv 7, jv q1, sc] [.int 6, .int 6, .ref o10])
  have F420 := (F413.other W415 ne_o10_o9)
  refine wI X419 hx hby hZ e419 F420 6 rfl (Nat.le_of_ble_eq_true rfl) d5_44 fun T421 h421 X421 e421 W421 V421 => ?_
  have N421 := Fr.snoc X421 N415 g_o10
  have KK421 := KK415.wr W421 (Or.inl (List.mem_of_getElem? (i := 3) rfl))
  show OGl _ _ _ _ T421 (mkF m 45 #[rv o0, iv 6, iv 7, jv q1, sc] [])
  have F422 := (F418.other W421 (Or.inl ne_o0_o10))
  refine gO (fun t k => kaN X421 hx hby d5_45 rfl rfl (o_dup X421 hx hby d5_46 rfl k)) (gG X421 hx hby hZ hown (w31 hw) e421 F422 d5_47 fun T423 X423 e423 => gO (fun t k => kc X423 hx hby d5_50 (o_iadd X423 hx hby d5_51 k)) ?_)
  show OGl _ _ _ _ T423 (mkF m 52 #[rv o0, iv 6, iv 7, jv q1, sc] [.int 7, .ref o0])
  have F424 := ((((E_o0.wr W400).wr W406).wr W415).wr W421)
  obtain ⟨T425, h425, X425, e425, W425, st425⟩ := putF X423 hx hZ hown (host := "") (Or.inl (w31 hw)) Via.refl e423 F422 F424 (Or.inl (w32 hw)) (w2 hw) (ty := .int) (by decide) rfl rfl (g := (mkF m 52 #[rv o0, iv 6, iv 7, jv q1, sc] [.int 7, .ref o0])) rfl rfl (hb hby d5_52)
  refine gO st425 ?_
  have N425 := Fr.snoc X425 N421 g_o0
  have Fw425 := F422.same W425
  have KK425 := KK421.wr W425 (Or.inl (List.mem_of_getElem? (i := 4) rfl))
  show OGl _ _ _ _ T425 (mkF m 55 #[rv o0, iv 6, iv 7, jv q1, sc] [])
  obtain ⟨fs, hr, hrun, hended, hW, hsame⟩ := X425.leave (v := none) (fun _ => rfl) (BodyLoose.notSynchronized Bd)
  refine ⟨_, _, X425.returnOut hx Bd.returns (hb hby d5_55) hr, hrun, hended, _, _, rfl, ?_, ⟨_, rfl⟩, hW, hsame.mono (by decide) (by decide)⟩
  show Q5f Z o0 q1 o2 k3 o4 k5 q6 q7 q8 o9 o10 k11 k12 h0 n0 _ T425.heap _
  rw [e425]
  have F426 := ((((V400.other W406 (Ne.symm ne_o4_o2)).other W415 (Ne.symm ne_o9_o2)).other W421 (Ne.symm ne_o10_o2)).other W425 (Ne.symm ne_o0_o2))
  have F427 := (((V406.other W415 (Ne.symm ne_o9_o4)).other W421 (Ne.symm ne_o10_o4)).other W425 (Ne.symm ne_o0_o4))
  have F428 := ((V415.other W421 (Ne.symm ne_o10_o9)).other W425 (Ne.symm ne_o0_o9))
  have F429 := (V421.other W425 (Ne.symm ne_o0_o10))
  have F430 := (((((F24_o0.other W400 (Or.inl ne_o0_o2)).other W406 (Or.inl ne_o0_o4)).other W415 (Or.inl ne_o0_o9)).other W421 (Or.inl ne_o0_o10)).other W425 (Or.inr (sn26_32 hw)))
  have F431 := ((F416.other W421 (Or.inl ne_o0_o10)).other W425 (Or.inr (sn12_32 hw)))
  have F432 := (((F407.other W415 (Or.inl ne_o0_o9)).other W421 (Or.inl ne_o0_o10)).other W425 (Or.inr (sn16_32 hw)))
  have F433 := ((((F401.other W406 (Or.inl ne_o0_o4)).other W415 (Or.inl ne_o0_o9)).other W421 (Or.inl ne_o0_o10)).other W425 (Or.inr (sn19_32 hw)))
  have F434 := (((((F25_o0.other W400 (Or.inl ne_o0_o2)).other W406 (Or.inl ne_o0_o4)).other W415 (Or.inl ne_o0_o9)).other W421 (Or.inl ne_o0_o10)).other W425 (Or.inr (sn59_32 hw)))
  have F435 := (((((F0_o0.other W400 (Or.inl ne_o0_o2)).other W406 (Or.inl ne_o0_o4)).other W415 (Or.inl ne_o0_o9)).other W421 (Or.inl ne_o0_o10)).other W425 (Or.inr (sn14_32 hw)))
  exact ⟨rfl, N425, KK425, F426, F427, F428, F429, Fw425, F430, F431, F432, F433, F434, F435⟩
def Q5g (Z : State) (o0 : Addr) (o1 : Addr) (k2 : ClassId) (o3 : Addr) (k4 : ClassId) (q5 : Int64) (q6 : Int64) (q7 : Int64) (q8 : Int64) (o9 : Addr) (o10 : Addr) (k11 : ClassId) (k12 : ClassId) (h0 : Heap) (n0 : Nat) (v : Option Value) (h : Heap) (L : List Loc) : Prop := v = none ∧ Fr n0 L ∧ Keep h0 h [o1, o3, o9, o10, o0] ∧ Arv Z h o1 k2 .int 16 (.int 1 :: .int 0 :: .int 3 :: .int 2 :: .int 5 :: .int 4 :: .int 7 :: .int 6 :: zi8) (.int 0) ∧ Arv Z h o3 k4 .long 16 (.long q5 :: .long 0 :: .long q6 :: .long 0 :: .long q7 :: .long 0 :: .long q8 :: zj9) (.long 0) ∧ Arv Z h o9 k12 .int 16 (.int (-1) :: .int (-1) :: .int (-1) :: .int (-1) :: .int (-1) :: .int (-1) :: .int (-1) :: .int (-1) :: zi8) (.int 0) ∧ Arv Z h o10 k11 .int 16 (.int 0 :: .int 1 :: .int 2 :: .int 3 :: .int 4 :: .int 5 :: .int 6 :: .int 7 :: zi8) (.int 0) ∧ Fld Z h o0 cc0 "edges" "I" (.int 8) ∧ Fld Z h o0 cc0 "halves" "I" (.int 8) ∧ Fld Z h o0 cc0 "heads" "[I" (.ref o10) ∧ Fld Z h o0 cc0 "nexts" "[I" (.ref o9) ∧ Fld Z h o0 cc0 "residues" "[J" (.ref o3) ∧ Fld Z h o0 cc0 "sourceSide" "[Z" (.null) ∧ Fld Z h o0 cc0 "targets" "[I" (.ref o1)
set_option maxRecDepth 65536 in
set_option maxHeartbeats 40000000 in
theorem rm5g (l : Launch) (Z : State) (a0 : Array Value) (hw : ∀ d ∈ tables_1, d.before a0 Z = true) (ws : List Jvm.Cond) (o0 : Addr) (o1 : Addr) (k2 : ClassId) (o3 : Addr) (k4 : ClassId) (q5 : Int64) (q6 : Int64) (q7 : Int64) (q8 : Int64) (o9 : Addr) (o10 : Addr) (k11 : ClassId) (k12 : ClassId) (h0 : Heap) (n0 : Nat) (Z0 : n0 ≤ h0.size) (F0_o0 : Fld Z h0 o0 cc0 "targets" "[I" (.ref o1)) (F1_o0 : Fld Z h0 o0 cc0 "edges" "I" (.int 7)) (V_o1 : Arv Z h0 o1 k2 .int 16 (.int 1 :: .int 0 :: .int 3 :: .int 2 :: .int 5 :: .int 4 :: .int 7 :: zi9) (.int 0)) (g_o1 : n0 ≤ o1) (F4_o0 : Fld Z h0 o0 cc0 "residues" "[J" (.ref o3)) (ne_o0_o1 : o0 ≠ o1) (V_o3 : Arv Z h0 o3 k4 .long 16 (.long q5 :: .long 0 :: .long q6 :: .long 0 :: .long q7 :: .long 0 :: .long q8 :: zj9) (.long 0)) (ne_o3_o1 : o3 ≠ o1) (g_o3 : n0 ≤ o3) (F9_o0 : Fld Z h0 o0 cc0 "nexts" "[I" (.ref o9)) (ne_o0_o3 : o0 ≠ o3) (F11_o0 : Fld Z h0 o0 cc0 "heads" "[I" (.ref o10)) (V_o10 : Arv Z h0 o10 k11 .int 16 (.int 0 :: .int 1 :: .int 2 :: .int 3 :: .int 4 :: .int 5 :: .int 6 :: .int (-1) :: zi8) (.int 0)) (ne_o10_o1 : o10 ≠ o1) (ne_o10_o3 : o10 ≠ o3) (V_o9 : Arv Z h0 o9 k12 .int 16 (.int (-1) :: .int (-1) :: .int (-1) :: .int (-1) :: .int (-1) :: .int (-1) :: .int (-1) :: zi9) (.int 0)) (ne_o9_o1 : o9 ≠ o1) (ne_o9_o3 : o9 ≠ o3) (g_o9 : n0 ≤ o9) (ne_o0_o9 : o0 ≠ o9) (ne_o10_o9 : o10 ≠ o9) (g_o10 : n0 ≤ o10) (ne_o0_o10 : o0 ≠ o10) (E_o0 : Exa Z h0 o0 cc0) (F24_o0 : Fld Z h0 o0 cc0 "halves" "I" (.int 8)) (F25_o0 : Fld Z h0 o0 cc0 "sourceSide" "[Z" (.null)) (g_o0 : n0 ≤ o0) :
    MetFree l yy1 (head1 (Jvm.Cond.code yy1 bc3 5 none :: ws) rr1) (fun a U => a = #[.ref o0, .int 7, .int 6, .long 0] ∧ Z.Warmed39 U.vm ∧ U.heap = h0) (fun _ _ _ _ _ => True) (fun _ U o U' => ∃ v L, o = .returned v ∧ Q5g Z o0 o1 k2 o3 k4 q5 q6 q7 q8 o9 o10 k11 k12 h0 n0 v U'.heap L ∧ FrameEnd U o U' L rr1.cells rr1.slots) := by
  refine MetFree.of_bodySF (plainFor_of_name pn_0) hisR ?_
  intro p e s m args below meth c s₁ Bd hml0 hP hK
  obtain ⟨rfl, hZ, hh⟩ := hP
  have hx := Bd.exec
  have hby := Bd.bytes
  have hml : c.maxLocals = 5 := hml0
  have hown : s.vm.findClass cc0 = some m.cls := findClass_of_methodNamed Bd.named
  have hnm := (name_of_methodNamed Bd.named Bd.method).1
  have X0 : Stand p l e rr1 s m #[.ref o0, .int 7, .int 6, .long 0] below meth c s₁ [] 0 0 := Stand.of_body Bd
  have e0 : s₁.heap = h0 := by rw [← hh, Bd.state]; rfl
  have N0 := Fr.nil n0
  refine OGl.start (ef_5 m o0 (7 : Int32) (6 : Int32) (0 : Int64)) ?_
  show OGl _ _ _ _ s₁ (mkF m 0 #[rv o0, iv 7, iv 6, jv 0, sc] [])
  refine gO (fun t k => kaN X0 hx hby d5_0 rfl rfl k) (gG X0 hx hby hZ hown (w13 hw) e0 F0_o0 d5_1 fun T437 X437 e437 => gO (fun t k => kaN X437 hx hby d5_4 rfl rfl k) (gG X437 hx hby hZ hown (w31 hw) e437 F1_o0 d5_5 fun T438 X438 e438 => gO (fun t k => kiN X438 hx hby d5_8 rfl k) ?_))
  show OGl _ _ _ _ T438 (mkF m 9 #[rv o0, iv 7, iv 6, jv 0, sc] [.int 6, .int 7, .ref o1])
  refine wI X438 hx hby hZ e438 V_o1 7 rfl (Nat.le_of_ble_eq_true rfl) d5_9 fun T439 h439 X439 e439 W439 V439 => ?_
  have N439 := Fr.snoc X439 N0 g_o1
  have KK439 := (Keep.refl h0 [o1, o3, o9, o10, o0]).wr W439 (Or.inl (List.mem_of_getElem? (i := 0) rfl))
  show OGl _ _ _ _ T439 (mkF m 10 #[rv o0, iv 7, iv 6, jv 0, sc] [])
  have F440 := (F4_o0.other W439 (Or.inl ne_o0_o1))
  have F442 := (F1_o0.other W439 (Or.inl ne_o0_o1))
  refine gO (fun t k => kaN X439 hx hby d5_10 rfl rfl k) (gG X439 hx hby hZ hown (w18 hw) e439 F440 d5_11 fun T441 X441 e441 => gO (fun t k => kaN X441 hx hby d5_14 rfl rfl k) (gG X441 hx hby hZ hown (w31 hw) e441 F442 d5_15 fun T443 X443 e443 => gO (fun t k => klN X443 hx hby d5_18 rfl k) ?_))
  show OGl _ _ _ _ T443 (mkF m 19 #[rv o0, iv 7, iv 6, jv 0, sc] [.long 0, .int 7, .ref o3])
  have F444 := (V_o3.other W439 ne_o3_o1)
  refine wJ X443 hx hby hZ e443 F444 7 rfl (Nat.le_of_ble_eq_true rfl) d5_19 fun T445 h445 X445 e445 W445 V445 => ?_
  have N445 := Fr.snoc X445 N439 g_o3
  have KK445 := KK439.wr W445 (Or.inl (List.mem_of_getElem? (i := 1) rfl))
  show OGl _ _ _ _ T445 (mkF m 20 #[rv o0, iv 7, iv 6, jv 0, sc] [])
  have F446 := ((F9_o0.other W439 (Or.inl ne_o0_o1)).other W445 (Or.inl ne_o0_o3))
  have F448 := (F442.other W445 (Or.inl ne_o0_o3))
  have F450 := ((F11_o0.other W439 (Or.inl ne_o0_o1)).other W445 (Or.inl ne_o0_o3))
  have F452 := ((V_o10.other W439 ne_o10_o1).other W445 ne_o10_o3)
  refine gO (fun t k => kaN X445 hx hby d5_20 rfl rfl k) (gG X445 hx hby hZ hown (w15 hw) e445 F446 d5_21 fun T447 X447 e447 => gO (fun t k => kaN X447 hx hby d5_24 rfl rfl k) (gG X447 hx hby hZ hown (w31 hw) e447 F448 d5_25 fun T449 X449 e449 => gO (fun t k => kaN X449 hx hby d5_28 rfl rfl k) (gG X449 hx hby hZ hown (w11 hw) e449 F450 d5_29 fun T451 X451 e451 => gO (fun t k => kiN X451 hx hby d5_32 rfl (rI X451 hx hby hZ e451 F452 (.int (-1)) rfl rfl d5_33 k)) ?_)))
  show OGl _ _ _ _ T451 (mkF m 34 #[rv o0, iv 7, iv 6, jv 0, sc] [.int (-1), .int 7, .ref o9])
  have F453 := ((V_o9.other W439 ne_o9_o1).other W445 ne_o9_o3)
  refine wI X451 hx hby hZ e451 F453 7 rfl (Nat.le_of_ble_eq_true rfl) d5_34 fun T454 h454 X454 e454 W454 V454 => ?_
  have N454 := Fr.snoc X454 N445 g_o9
  have KK454 := KK445.wr W454 (Or.inl (List.mem_of_getElem? (i := 2) rfl))
  show OGl _ _ _ _ T454 (mkF m 35 #[rv o0, iv 7, iv 6, jv 0, sc] [])
  have F455 := (F450.other W454 (Or.inl ne_o0_o9))
  have F457 := (F448.other W454 (Or.inl ne_o0_o9))
  refine gO (fun t k => kaN X454 hx hby d5_35 rfl rfl k) (gG X454 hx hby hZ hown (w11 hw) e454 F455 d5_36 fun T456 X456 e456 => gO (fun t k => kiN X456 hx hby d5_39 rfl (kaN X456 hx hby d5_40 rfl rfl k)) (gG X456 hx hby hZ hown (w31 hw) e456 F457 d5_41 fun T458 X458 e458 => ?_))
  show OGl _ _ _ _ T458 (mkF m 44 #[rv o0, iv 7, iv 6, jv 0, sc] [.int 7, .int 7, .ref o10])
  have F459 := (F452.other W454 ne_o10_o9)
  refine wI X458 hx hby hZ e458 F459 7 rfl (Nat.le_of_ble_eq_true rfl) d5_44 fun T460 h460 X460 e460 W460 V460 => ?_
  have N460 := Fr.snoc X460 N454 g_o10
  have KK460 := KK454.wr W460 (Or.inl (List.mem_of_getElem? (i := 3) rfl))
  show OGl _ _ _ _ T460 (mkF m 45 #[rv o0, iv 7, iv 6, jv 0, sc] [])
  have F461 := (F457.other W460 (Or.inl ne_o0_o10))
  refine gO (fun t k => kaN X460 hx hby d5_45 rfl rfl (o_dup X460 hx hby d5_46 rfl k)) (gG X460 hx hby hZ hown (w31 hw) e460 F461 d5_47 fun T462 X462 e462 => gO (fun t k => kc X462 hx hby d5_50 (o_iadd X462 hx hby d5_51 k)) ?_)
  show OGl _ _ _ _ T462 (mkF m 52 #[rv o0, iv 7, iv 6, jv 0, sc] [.int 8, .ref o0])
  have F463 := ((((E_o0.wr W439).wr W445).wr W454).wr W460)
  obtain ⟨T464, h464, X464, e464, W464, st464⟩ := putF X462 hx hZ hown (host := "") (Or.inl (w31 hw)) Via.refl e462 F461 F463 (Or.inl (w32 hw)) (w2 hw) (ty := .int) (by decide) rfl rfl (g := (mkF m 52 #[rv o0, iv 7, iv 6, jv 0, sc] [.int 8, .ref o0])) rfl rfl (hb hby d5_52)
  refine gO st464 ?_
  have N464 := Fr.snoc X464 N460 g_o0
  have Fw464 := F461.same W464
  have KK464 := KK460.wr W464 (Or.inl (List.mem_of_getElem? (i := 4) rfl))
  show OGl _ _ _ _ T464 (mkF m 55 #[rv o0, iv 7, iv 6, jv 0, sc] [])
  obtain ⟨fs, hr, hrun, hended, hW, hsame⟩ := X464.leave (v := none) (fun _ => rfl) (BodyLoose.notSynchronized Bd)
  refine ⟨_, _, X464.returnOut hx Bd.returns (hb hby d5_55) hr, hrun, hended, _, _, rfl, ?_, ⟨_, rfl⟩, hW, hsame.mono (by decide) (by decide)⟩
  show Q5g Z o0 o1 k2 o3 k4 q5 q6 q7 q8 o9 o10 k11 k12 h0 n0 _ T464.heap _
  rw [e464]
  have F465 := ((((V439.other W445 (Ne.symm ne_o3_o1)).other W454 (Ne.symm ne_o9_o1)).other W460 (Ne.symm ne_o10_o1)).other W464 (Ne.symm ne_o0_o1))
  have F466 := (((V445.other W454 (Ne.symm ne_o9_o3)).other W460 (Ne.symm ne_o10_o3)).other W464 (Ne.symm ne_o0_o3))
  have F467 := ((V454.other W460 (Ne.symm ne_o10_o9)).other W464 (Ne.symm ne_o0_o9))
  have F468 := (V460.other W464 (Ne.symm ne_o0_o10))
  have F469 := (((((F24_o0.other W439 (Or.inl ne_o0_o1)).other W445 (Or.inl ne_o0_o3)).other W454 (Or.inl ne_o0_o9)).other W460 (Or.inl ne_o0_o10)).other W464 (Or.inr (sn26_32 hw)))
  have F470 := ((F455.other W460 (Or.inl ne_o0_o10)).other W464 (Or.inr (sn12_32 hw)))
  have F471 := (((F446.other W454 (Or.inl ne_o0_o9)).other W460 (Or.inl ne_o0_o10)).other W464 (Or.inr (sn16_32 hw)))
  have F472 := ((((F440.other W445 (Or.inl ne_o0_o3)).other W454 (Or.inl ne_o0_o9)).other W460 (Or.inl ne_o0_o10)).other W464 (Or.inr (sn19_32 hw)))
  have F473 := (((((F25_o0.other W439 (Or.inl ne_o0_o1)).other W445 (Or.inl ne_o0_o3)).other W454 (Or.inl ne_o0_o9)).other W460 (Or.inl ne_o0_o10)).other W464 (Or.inr (sn59_32 hw)))
  have F474 := (((((F0_o0.other W439 (Or.inl ne_o0_o1)).other W445 (Or.inl ne_o0_o3)).other W454 (Or.inl ne_o0_o9)).other W460 (Or.inl ne_o0_o10)).other W464 (Or.inr (sn14_32 hw)))
  exact ⟨rfl, N464, KK464, F465, F466, F467, F468, Fw464, F469, F470, F471, F472, F473, F474⟩
def Q4c (Z : State) (o0 : Addr) (q1 : Int64) (o2 : Addr) (k3 : ClassId) (o4 : Addr) (k5 : ClassId) (q6 : Int64) (q7 : Int64) (q8 : Int64) (o9 : Addr) (o10 : Addr) (k11 : ClassId) (k12 : ClassId) (h0 : Heap) (n0 : Nat) (v : Option Value) (h : Heap) (L : List Loc) : Prop := v = none ∧ Fr n0 L ∧ Keep h0 h [o0, o10, o9, o4, o2] ∧ Fld Z h o0 cc0 "edges" "I" (.int 8) ∧ Fld Z h o0 cc0 "halves" "I" (.int 8) ∧ Fld Z h o0 cc0 "heads" "[I" (.ref o10) ∧ Fld Z h o0 cc0 "nexts" "[I" (.ref o9) ∧ Fld Z h o0 cc0 "residues" "[J" (.ref o4) ∧ Fld Z h o0 cc0 "sourceSide" "[Z" (.null) ∧ Fld Z h o0 cc0 "targets" "[I" (.ref o2) ∧ Arv Z h o10 k11 .int 16 (.int 0 :: .int 1 :: .int 2 :: .int 3 :: .int 4 :: .int 5 :: .int 6 :: .int 7 :: zi8) (.int 0) ∧ Arv Z h o9 k12 .int 16 (.int (-1) :: .int (-1) :: .int (-1) :: .int (-1) :: .int (-1) :: .int (-1) :: .int (-1) :: .int (-1) :: zi8) (.int 0) ∧ Arv Z h o4 k5 .long 16 (.long q6 :: .long 0 :: .long q7 :: .long 0 :: .long q8 :: .long 0 :: .long q1 :: zj9) (.long 0) ∧ Arv Z h o2 k3 .int 16 (.int 1 :: .int 0 :: .int 3 :: .int 2 :: .int 5 :: .int 4 :: .int 7 :: .int 6 :: zi8) (.int 0)
set_option maxRecDepth 65536 in
set_option maxHeartbeats 40000000 in
theorem rm4c (l : Launch) (Z : State) (a0 : Array Value) (hw : ∀ d ∈ tables_1, d.before a0 Z = true) (ws : List Jvm.Cond) (o0 : Addr) (q1 : Int64) (o2 : Addr) (k3 : ClassId) (o4 : Addr) (k5 : ClassId) (q6 : Int64) (q7 : Int64) (q8 : Int64) (o9 : Addr) (o10 : Addr) (k11 : ClassId) (k12 : ClassId) (h0 : Heap) (n0 : Nat) (Z0 : n0 ≤ h0.size) (F0_o0 : Fld Z h0 o0 cc0 "edges" "I" (.int 6)) (F1_o0 : Fld Z h0 o0 cc0 "targets" "[I" (.ref o2)) (V_o2 : Arv Z h0 o2 k3 .int 16 (.int 1 :: .int 0 :: .int 3 :: .int 2 :: .int 5 :: .int 4 :: zi10) (.int 0)) (E_o0 : Exa Z h0 o0 cc0) (F4_o0 : Fld Z h0 o0 cc0 "residues" "[J" (.ref o4)) (V_o4 : Arv Z h0 o4 k5 .long 16 (.long q6 :: .long 0 :: .long q7 :: .long 0 :: .long q8 :: zj11) (.long 0)) (F6_o0 : Fld Z h0 o0 cc0 "nexts" "[I" (.ref o9)) (F7_o0 : Fld Z h0 o0 cc0 "heads" "[I" (.ref o10)) (V_o10 : Arv Z h0 o10 k11 .int 16 (.int 0 :: .int 1 :: .int 2 :: .int 3 :: .int 4 :: .int 5 :: .int (-1) :: .int (-1) :: zi8) (.int 0)) (V_o9 : Arv Z h0 o9 k12 .int 16 (.int (-1) :: .int (-1) :: .int (-1) :: .int (-1) :: .int (-1) :: .int (-1) :: zi10) (.int 0)) (F10_o0 : Fld Z h0 o0 cc0 "halves" "I" (.int 8)) (F11_o0 : Fld Z h0 o0 cc0 "sourceSide" "[Z" (.null)) (g_o2 : n0 ≤ o2) (ne_o0_o2 : o0 ≠ o2) (ne_o4_o2 : o4 ≠ o2) (g_o4 : n0 ≤ o4) (ne_o0_o4 : o0 ≠ o4) (ne_o10_o2 : o10 ≠ o2) (ne_o10_o4 : o10 ≠ o4) (ne_o9_o2 : o9 ≠ o2) (ne_o9_o4 : o9 ≠ o4) (g_o9 : n0 ≤ o9) (ne_o0_o9 : o0 ≠ o9) (ne_o10_o9 : o10 ≠ o9) (g_o10 : n0 ≤ o10) (ne_o0_o10 : o0 ≠ o10) (g_o0 : n0 ≤ o0) :
    MetFree l yy2 (head1 (Jvm.Cond.code yy2 bc2 5 none :: ws) rr2) (fun a U => a = #[.ref o0, .int 6, .int 7, .long q1] ∧ Z.Warmed39 U.vm ∧ U.heap = h0) (fun _ _ _ _ _ => True) (fun _ U o U' => ∃ v L, o = .returned v ∧ Q4c Z o0 q1 o2 k3 o4 k5 q6 q7 q8 o9 o10 k11 k12 h0 n0 v U'.heap L ∧ FrameEnd U o U' L rr2.cells rr2.slots) := by
  refine MetFree.of_bodySF (plainFor_of_name pn_0) hisR ?_
  intro p e s m args below meth c s₁ Bd hml0 hP hK
  obtain ⟨rfl, hZ, hh⟩ := hP
  have hx := Bd.exec
  have hby := Bd.bytes
  have hml : c.maxLocals = 5 := hml0
  have hown : s.vm.findClass cc0 = some m.cls := findClass_of_methodNamed Bd.named
  have hnm := (name_of_methodNamed Bd.named Bd.method).1
  have X0 : Stand p l e rr2 s m #[.ref o0, .int 6, .int 7, .long q1] below meth c s₁ [] 0 0 := Stand.of_body Bd
  have e0 : s₁.heap = h0 := by rw [← hh, Bd.state]; rfl
  have N0 := Fr.nil n0
  refine OGl.start (ef_4 m o0 (6 : Int32) (7 : Int32) q1) ?_
  show OGl _ _ _ _ s₁ (mkF m 0 #[rv o0, iv 6, iv 7, jv q1, sc] [])
  refine gO (fun t k => kaN X0 hx hby d4_0 rfl rfl k) (gG X0 hx hby hZ hown (w31 hw) e0 F0_o0 d4_1 fun T395 X395 e395 => gO (fun t k => kc X395 hx hby d4_4 (o_iadd X395 hx hby d4_5 (kaN X395 hx hby d4_6 rfl rfl k))) (gG X395 hx hby hZ hown (w13 hw) e395 F1_o0 d4_7 fun T396 X396 e396 => gO (fun t k => rL X396 hx hby hZ e396 V_o2 d4_10 (cY X396 hx hby 68 d4_11 (flt (by decide : ¬ ((16 : Int32) < (8 : Int32)))).2.2.2 rfl (kaN X396 hx hby d4_68 rfl rfl (kiN X396 hx hby d4_69 rfl (kiN X396 hx hby d4_70 rfl (klN X396 hx hby d4_71 rfl k)))))) ?_))
  show OGl _ _ _ _ T396 (mkF m 72 #[rv o0, iv 6, iv 7, jv q1, sc] [.long q1, .int 7, .int 6, .ref o0])
  obtain ⟨cq397, q397a, q397b⟩ := (E_o0).cell
  obtain ⟨_, _, ⟨T397, L397, kk397, n397⟩, -, X397, ⟨Lc397, hQ397, l397, y397, z397⟩, st397⟩ := X396.privateBack hx (y := yy1) hown (mvT hZ (w33 hw)) (mvT hZ (w34 hw)) (own_selPriv (y := yy1) (Cond.privateMethod_at (mvP hZ (w35 hw) (args := #[]))) (mvT hZ (w34 hw)) (mvT hZ (w23 hw)) rfl) (Cond.privateMethod_at (mvP hZ (w35 hw) (args := #[]))) (mvT hZ (w36 hw)) (by decide) (backOf (W := 0) (rm5f l Z a0 hw [] o0 q1 o2 k3 o4 k5 q6 q7 q8 o9 o10 k11 k12 h0 n0 Z0 F1_o0 F0_o0 V_o2 g_o2 F4_o0 ne_o0_o2 V_o4 ne_o4_o2 g_o4 F6_o0 ne_o0_o4 F7_o0 V_o10 ne_o10_o2 ne_o10_o4 V_o9 ne_o9_o2 ne_o9_o4 g_o9 ne_o0_o9 ne_o10_o9 g_o10 ne_o0_o10 E_o0 F10_o0 F11_o0 g_o0) hZ (w36 hw) (w3 hw) (by decide) (by decide)) (g := (mkF m 72 #[rv o0, iv 6, iv 7, jv q1, sc] [.long q1, .int 7, .int 6, .ref o0])) rfl (by rw [hml]; rfl) (Steps.refl _) (a := o0) (by rw [e396]; exact q397a) q397b (argsL := [.int 6, .int 7, .long q1]) (rest := []) (lenOf pd_1 rfl) rfl (by show 2 * 0 + _ ≤ _; exact Nat.le_of_eq rfl) (hb hby d4_72) (fun _ _ => ⟨rfl, e396, (by decide : 0 + 0 ≤ _), (by decide : 0 + 0 ≤ _)⟩)
  dsimp only [Pt.U, Pt.locs, Pt.cells, Pt.slots] at X397 l397 y397 z397 st397 hQ397
  replace l397 := l397.symm
  subst l397 y397 z397
  obtain ⟨rfl, Nq397, K397, Fq397_0, Fq397_1, Fq397_2, Fq397_3, Fq397_4, Fq397_5, Fq397_6, Fq397_7, Fq397_8, Fq397_9, Fq397_10⟩ := hQ397
  have KK397 : Keep h0 T397.heap [o0, o10, o9, o4, o2] := (Keep.refl h0 [o0, o10, o9, o4, o2]).trans K397 (allS (Or.inl (List.mem_of_getElem? (i := 4) rfl)) (allS (Or.inl (List.mem_of_getElem? (i := 3) rfl)) (allS (Or.inl (List.mem_of_getElem? (i := 2) rfl)) (allS (Or.inl (List.mem_of_getElem? (i := 1) rfl)) (allS (Or.inl (List.mem_of_getElem? (i := 0) rfl)) all0)))))
  have N397 := Fr.app N0 Nq397
  refine gO (fun t k => st397.trans k) ?_
  show OGl _ _ _ _ T397 (mkF m 75 #[rv o0, iv 6, iv 7, jv q1, sc] [])
  refine gO (fun t k => kaN X397 hx hby d4_75 rfl rfl (kiN X397 hx hby d4_76 rfl (kiN X397 hx hby d4_77 rfl (kcl X397 hx hby d4_78 k)))) ?_
  show OGl _ _ _ _ T397 (mkF m 79 #[rv o0, iv 6, iv 7, jv q1, sc] [.long 0, .int 6, .int 7, .ref o0])
  have F475 := (E_o0.keep K397)
  obtain ⟨cq436, q436a, q436b⟩ := (F475).cell
  obtain ⟨_, _, ⟨T436, L436, kk436, n436⟩, -, X436, ⟨Lc436, hQ436, l436, y436, z436⟩, st436⟩ := X397.privateBack hx (y := yy1) hown (mvT hZ (w33 hw)) (mvT hZ (w34 hw)) (own_selPriv (y := yy1) (Cond.privateMethod_at (mvP hZ (w35 hw) (args := #[]))) (mvT hZ (w34 hw)) (mvT hZ (w23 hw)) rfl) (Cond.privateMethod_at (mvP hZ (w35 hw) (args := #[]))) (mvT hZ (w36 hw)) (by decide) (backOf (W := 0) (rm5g l Z a0 hw [] o0 o2 k3 o4 k5 q6 q7 q8 q1 o9 o10 k11 k12 T397.heap n0 (Nat.le_trans Z0 KK397.1) Fq397_10 Fq397_4 Fq397_0 g_o2 Fq397_8 ne_o0_o2 Fq397_1 ne_o4_o2 g_o4 Fq397_7 ne_o0_o4 Fq397_6 Fq397_3 ne_o10_o2 ne_o10_o4 Fq397_2 ne_o9_o2 ne_o9_o4 g_o9 ne_o0_o9 ne_o10_o9 g_o10 ne_o0_o10 F475 Fq397_5 Fq397_9 g_o0) hZ (w36 hw) (w3 hw) (by decide) (by decide)) (g := (mkF m 79 #[rv o0, iv 6, iv 7, jv q1, sc] [.long 0, .int 6, .int 7, .ref o0])) rfl (by rw [hml]; rfl) (Steps.refl _) (a := o0) q436a q436b (argsL := [.int 7, .int 6, .long 0]) (rest := []) (lenOf pd_1 rfl) rfl (by show 2 * 0 + _ ≤ _; exact Nat.le_of_eq rfl) (hb hby d4_79) (fun _ _ => ⟨rfl, rfl, (by decide : 0 + 0 ≤ _), (by decide : 0 + 0 ≤ _)⟩)
  dsimp only [Pt.U, Pt.locs, Pt.cells, Pt.slots] at X436 l436 y436 z436 st436 hQ436
  replace l436 := l436.symm
  subst l436 y436 z436
  obtain ⟨rfl, Nq436, K436, Fq436_0, Fq436_1, Fq436_2, Fq436_3, Fq436_4, Fq436_5, Fq436_6, Fq436_7, Fq436_8, Fq436_9, Fq436_10⟩ := hQ436
  have KK436 : Keep h0 T436.heap [o0, o10, o9, o4, o2] := KK397.trans K436 (allS (Or.inl (List.mem_of_getElem? (i := 4) rfl)) (allS (Or.inl (List.mem_of_getElem? (i := 3) rfl)) (allS (Or.inl (List.mem_of_getElem? (i := 2) rfl)) (allS (Or.inl (List.mem_of_getElem? (i := 1) rfl)) (allS (Or.inl (List.mem_of_getElem? (i := 0) rfl)) all0)))))
  have N436 := Fr.app N397 Nq436
  refine gO (fun t k => st436.trans k) ?_
  show OGl _ _ _ _ T436 (mkF m 82 #[rv o0, iv 6, iv 7, jv q1, sc] [])
  obtain ⟨fs, hr, hrun, hended, hW, hsame⟩ := X436.leave (v := none) (fun _ => rfl) (BodyLoose.notSynchronized Bd)
  refine ⟨_, _, X436.returnOut hx Bd.returns (hb hby d4_82) hr, hrun, hended, _, _, rfl, ?_, ⟨_, rfl⟩, hW, hsame.mono (by decide) (by decide)⟩
  show Q4c Z o0 q1 o2 k3 o4 k5 q6 q7 q8 o9 o10 k11 k12 h0 n0 _ T436.heap _
  exact ⟨rfl, N436, KK436, Fq436_4, Fq436_5, Fq436_6, Fq436_7, Fq436_8, Fq436_9, Fq436_10, Fq436_3, Fq436_2, Fq436_1, Fq436_0⟩
def Q3c (Z : State) (o0 : Addr) (q1 : Int64) (o2 : Addr) (k3 : ClassId) (o4 : Addr) (o5 : Addr) (o6 : Addr) (k7 : ClassId) (k8 : ClassId) (q9 : Int64) (q10 : Int64) (q11 : Int64) (k12 : ClassId) (h0 : Heap) (n0 : Nat) (v : Option Value) (h : Heap) (L : List Loc) : Prop := v = some (.int 3) ∧ Fr n0 L ∧ Keep h0 h [o0, o2, o6, o5, o4] ∧ Fld Z h o0 cc0 "edges" "I" (.int 8) ∧ Fld Z h o0 cc0 "halves" "I" (.int 8) ∧ Fld Z h o0 cc0 "heads" "[I" (.ref o2) ∧ Fld Z h o0 cc0 "nexts" "[I" (.ref o4) ∧ Fld Z h o0 cc0 "residues" "[J" (.ref o5) ∧ Fld Z h o0 cc0 "sourceSide" "[Z" (.null) ∧ Fld Z h o0 cc0 "targets" "[I" (.ref o6) ∧ Arv Z h o2 k3 .int 16 (.int 0 :: .int 1 :: .int 2 :: .int 3 :: .int 4 :: .int 5 :: .int 6 :: .int 7 :: zi8) (.int 0) ∧ Arv Z h o6 k7 .int 16 (.int 1 :: .int 0 :: .int 3 :: .int 2 :: .int 5 :: .int 4 :: .int 7 :: .int 6 :: zi8) (.int 0) ∧ Arv Z h o5 k8 .long 16 (.long q9 :: .long 0 :: .long q10 :: .long 0 :: .long q11 :: .long 0 :: .long q1 :: zj9) (.long 0) ∧ Arv Z h o4 k12 .int 16 (.int (-1) :: .int (-1) :: .int (-1) :: .int (-1) :: .int (-1) :: .int (-1) :: .int (-1) :: .int (-1) :: zi8) (.int 0)
set_option maxRecDepth 65536 in
set_option maxHeartbeats 40000000 in
theorem rm3c (l : Launch) (Z : State) (a0 : Array Value) (hw : ∀ d ∈ tables_1, d.before a0 Z = true) (ws : List Jvm.Cond) (o0 : Addr) (q1 : Int64) (o2 : Addr) (k3 : ClassId) (o4 : Addr) (o5 : Addr) (o6 : Addr) (k7 : ClassId) (k8 : ClassId) (q9 : Int64) (q10 : Int64) (q11 : Int64) (k12 : ClassId) (h0 : Heap) (n0 : Nat) (Z0 : n0 ≤ h0.size) (F0_o0 : Fld Z h0 o0 cc0 "halves" "I" (.int 6)) (F1_o0 : Fld Z h0 o0 cc0 "heads" "[I" (.ref o2)) (V_o2 : Arv Z h0 o2 k3 .int 16 (.int 0 :: .int 1 :: .int 2 :: .int 3 :: .int 4 :: .int 5 :: zi10) (.int 0)) (E_o0 : Exa Z h0 o0 cc0) (F4_o0 : Fld Z h0 o0 cc0 "edges" "I" (.int 6)) (F5_o0 : Fld Z h0 o0 cc0 "nexts" "[I" (.ref o4)) (F6_o0 : Fld Z h0 o0 cc0 "residues" "[J" (.ref o5)) (F7_o0 : Fld Z h0 o0 cc0 "sourceSide" "[Z" (.null)) (F8_o0 : Fld Z h0 o0 cc0 "targets" "[I" (.ref o6)) (g_o0 : n0 ≤ o0) (ne_o2_o0 : o2 ≠ o0) (g_o2 : n0 ≤ o2) (V_o6 : Arv Z h0 o6 k7 .int 16 (.int 1 :: .int 0 :: .int 3 :: .int 2 :: .int 5 :: .int 4 :: zi10) (.int 0)) (V_o5 : Arv Z h0 o5 k8 .long 16 (.long q9 :: .long 0 :: .long q10 :: .long 0 :: .long q11 :: zj11) (.long 0)) (V_o4 : Arv Z h0 o4 k12 .int 16 (.int (-1) :: .int (-1) :: .int (-1) :: .int (-1) :: .int (-1) :: .int (-1) :: zi10) (.int 0)) (ne_o6_o0 : o6 ≠ o0) (ne_o6_o2 : o6 ≠ o2) (ne_o5_o0 : o5 ≠ o0) (ne_o5_o2 : o5 ≠ o2) (ne_o4_o0 : o4 ≠ o0) (ne_o4_o2 : o4 ≠ o2) (g_o6 : n0 ≤ o6) (ne_o5_o6 : o5 ≠ o6) (g_o5 : n0 ≤ o5) (ne_o4_o6 : o4 ≠ o6) (ne_o4_o5 : o4 ≠ o5) (g_o4 : n0 ≤ o4) :
    MetFree l yy3 (head1 (Jvm.Cond.code yy3 bc1 4 (some .int) :: ws) rr3) (fun a U => a = #[.ref o0, .long q1] ∧ Z.Warmed39 U.vm ∧ U.heap = h0) (fun _ _ _ _ _ => True) (fun _ U o U' => ∃ v L, o = .returned v ∧ Q3c Z o0 q1 o2 k3 o4 o5 o6 k7 k8 q9 q10 q11 k12 h0 n0 v U'.heap L ∧ FrameEnd U o U' L rr3.cells rr3.slots) := by
  refine MetFree.of_bodySF (plainFor_of_name pn_0) hisR ?_
  intro p e s m args below meth c s₁ Bd hml0 hP hK
  obtain ⟨rfl, hZ, hh⟩ := hP
  have hx := Bd.exec
  have hby := Bd.bytes
  have hml : c.maxLocals = 4 := hml0
  have hown : s.vm.findClass cc0 = some m.cls := findClass_of_methodNamed Bd.named
  have hnm := (name_of_methodNamed Bd.named Bd.method).1
  have X0 : Stand p l e rr3 s m #[.ref o0, .long q1] below meth c s₁ [] 0 0 := Stand.of_body Bd
  have e0 : s₁.heap = h0 := by rw [← hh, Bd.state]; rfl
  have N0 := Fr.nil n0
  refine OGl.start (ef_3 m o0 q1) ?_
  show OGl _ _ _ _ s₁ (mkF m 0 #[rv o0, jv q1, sc, un] [])
  refine gO (fun t k => kaN X0 hx hby d3_0 rfl rfl k) (gG X0 hx hby hZ hown (w25 hw) e0 F0_o0 d3_1 fun T378 X378 e378 => gO (fun t k => kc X378 hx hby d3_4 (XS.idiv X378.here hx rfl (hb hby d3_5) rfl (by decide) (siN X378 hx hby (L' := #[rv o0, jv q1, sc, iv 3]) d3_6 rfl (kaN X378 hx hby d3_7 rfl rfl k)))) (gG X378 hx hby hZ hown (w25 hw) e378 F0_o0 d3_8 fun T379 X379 e379 => gO (fun t k => kc X379 hx hby d3_11 (o_iadd X379 hx hby d3_12 (kaN X379 hx hby d3_13 rfl rfl k))) (gG X379 hx hby hZ hown (w11 hw) e379 F1_o0 d3_14 fun T380 X380 e380 => gO (fun t k => rL X380 hx hby hZ e380 V_o2 d3_17 (cY X380 hx hby 39 d3_18 (flt (by decide : ¬ ((16 : Int32) < (8 : Int32)))).2.2.2 rfl (kaN X380 hx hby d3_39 rfl rfl k))) (gG X380 hx hby hZ hown (w11 hw) e380 F1_o0 d3_40 fun T381 X381 e381 => gO (fun t k => kaN X381 hx hby d3_43 rfl rfl (o_dup X381 hx hby d3_44 rfl k)) (gG X381 hx hby hZ hown (w25 hw) e381 F0_o0 d3_45 fun T382 X382 e382 => gO (fun t k => o_dupX1 X382 hx hby d3_48 rfl rfl (kc X382 hx hby d3_49 (o_iadd X382 hx hby d3_50 k))) ?_)))))
  show OGl _ _ _ _ T382 (mkF m 51 #[rv o0, jv q1, sc, iv 3] [.int 7, .ref o0, .int 6, .ref o2])
  obtain ⟨T383, h383, X383, e383, W383, st383⟩ := putF X382 hx hZ hown (host := "") (Or.inl (w25 hw)) Via.refl e382 F0_o0 E_o0 (Or.inl (w26 hw)) (w2 hw) (ty := .int) (by decide) rfl rfl (g := (mkF m 51 #[rv o0, jv q1, sc, iv 3] [.int 7, .ref o0, .int 6, .ref o2])) rfl rfl (hb hby d3_51)
  refine gO st383 ?_
  have N383 := Fr.snoc X383 N0 g_o0
  have Fw383 := F0_o0.same W383
  have KK383 := (Keep.refl h0 [o0, o2, o6, o5, o4]).wr W383 (Or.inl (List.mem_of_getElem? (i := 0) rfl))
  show OGl _ _ _ _ T383 (mkF m 54 #[rv o0, jv q1, sc, iv 3] [.int 6, .ref o2])
  refine gO (fun t k => kc X383 hx hby d3_54 k) ?_
  show OGl _ _ _ _ T383 (mkF m 55 #[rv o0, jv q1, sc, iv 3] [.int (-1), .int 6, .ref o2])
  have F384 := (V_o2.other W383 ne_o2_o0)
  refine wI X383 hx hby hZ e383 F384 6 rfl (Nat.le_of_ble_eq_true rfl) d3_55 fun T385 h385 X385 e385 W385 V385 => ?_
  have N385 := Fr.snoc X385 N383 g_o2
  have KK385 := KK383.wr W385 (Or.inl (List.mem_of_getElem? (i := 1) rfl))
  show OGl _ _ _ _ T385 (mkF m 56 #[rv o0, jv q1, sc, iv 3] [])
  have F386 := ((F1_o0.other W383 (Or.inr (sn12_26 hw))).other W385 (Or.inl (Ne.symm ne_o2_o0)))
  have F388 := (Fw383.other W385 (Or.inl (Ne.symm ne_o2_o0)))
  refine gO (fun t k => kaN X385 hx hby d3_56 rfl rfl k) (gG X385 hx hby hZ hown (w11 hw) e385 F386 d3_57 fun T387 X387 e387 => gO (fun t k => kaN X387 hx hby d3_60 rfl rfl (o_dup X387 hx hby d3_61 rfl k)) (gG X387 hx hby hZ hown (w25 hw) e387 F388 d3_62 fun T389 X389 e389 => gO (fun t k => o_dupX1 X389 hx hby d3_65 rfl rfl (kc X389 hx hby d3_66 (o_iadd X389 hx hby d3_67 k))) ?_))
  show OGl _ _ _ _ T389 (mkF m 68 #[rv o0, jv q1, sc, iv 3] [.int 8, .ref o0, .int 7, .ref o2])
  have F390 := ((E_o0.wr W383).wr W385)
  obtain ⟨T391, h391, X391, e391, W391, st391⟩ := putF X389 hx hZ hown (host := "") (Or.inl (w25 hw)) Via.refl e389 F388 F390 (Or.inl (w26 hw)) (w2 hw) (ty := .int) (by decide) rfl rfl (g := (mkF m 68 #[rv o0, jv q1, sc, iv 3] [.int 8, .ref o0, .int 7, .ref o2])) rfl rfl (hb hby d3_68)
  refine gO st391 ?_
  have N391 := Fr.snoc X391 N385 g_o0
  have Fw391 := F388.same W391
  have KK391 := KK385.wr W391 (Or.inl (List.mem_of_getElem? (i := 0) rfl))
  show OGl _ _ _ _ T391 (mkF m 71 #[rv o0, jv q1, sc, iv 3] [.int 7, .ref o2])
  refine gO (fun t k => kc X391 hx hby d3_71 k) ?_
  show OGl _ _ _ _ T391 (mkF m 72 #[rv o0, jv q1, sc, iv 3] [.int (-1), .int 7, .ref o2])
  have F392 := (V385.other W391 ne_o2_o0)
  refine wI X391 hx hby hZ e391 F392 7 rfl (Nat.le_of_ble_eq_true rfl) d3_72 fun T393 h393 X393 e393 W393 V393 => ?_
  have N393 := Fr.snoc X393 N391 g_o2
  have KK393 := KK391.wr W393 (Or.inl (List.mem_of_getElem? (i := 1) rfl))
  show OGl _ _ _ _ T393 (mkF m 73 #[rv o0, jv q1, sc, iv 3] [])
  refine gO (fun t k => kaN X393 hx hby d3_73 rfl rfl (kc X393 hx hby d3_74 (kiN X393 hx hby d3_75 rfl (o_imul X393 hx hby d3_76 (kc X393 hx hby d3_77 (kiN X393 hx hby d3_78 rfl (o_imul X393 hx hby d3_79 (kc X393 hx hby d3_80 (o_iadd X393 hx hby d3_81 (klN X393 hx hby d3_82 rfl k)))))))))) ?_
  show OGl _ _ _ _ T393 (mkF m 83 #[rv o0, jv q1, sc, iv 3] [.long q1, .int 7, .int 6, .ref o0])
  have F476 := ((((F4_o0.other W383 (Or.inr (sn32_26 hw))).other W385 (Or.inl (Ne.symm ne_o2_o0))).other W391 (Or.inr (sn32_26 hw))).other W393 (Or.inl (Ne.symm ne_o2_o0)))
  have F477 := ((((F8_o0.other W383 (Or.inr (sn14_26 hw))).other W385 (Or.inl (Ne.symm ne_o2_o0))).other W391 (Or.inr (sn14_26 hw))).other W393 (Or.inl (Ne.symm ne_o2_o0)))
  have F478 := ((((V_o6.other W383 ne_o6_o0).other W385 ne_o6_o2).other W391 ne_o6_o0).other W393 ne_o6_o2)
  have F479 := ((F390.wr W391).wr W393)
  have F480 := ((((F6_o0.other W383 (Or.inr (sn19_26 hw))).other W385 (Or.inl (Ne.symm ne_o2_o0))).other W391 (Or.inr (sn19_26 hw))).other W393 (Or.inl (Ne.symm ne_o2_o0)))
  have F481 := ((((V_o5.other W383 ne_o5_o0).other W385 ne_o5_o2).other W391 ne_o5_o0).other W393 ne_o5_o2)
  have F482 := ((((F5_o0.other W383 (Or.inr (sn16_26 hw))).other W385 (Or.inl (Ne.symm ne_o2_o0))).other W391 (Or.inr (sn16_26 hw))).other W393 (Or.inl (Ne.symm ne_o2_o0)))
  have F483 := ((F386.other W391 (Or.inr (sn12_26 hw))).other W393 (Or.inl (Ne.symm ne_o2_o0)))
  have F484 := ((((V_o4.other W383 ne_o4_o0).other W385 ne_o4_o2).other W391 ne_o4_o0).other W393 ne_o4_o2)
  have F485 := (Fw391.other W393 (Or.inl (Ne.symm ne_o2_o0)))
  have F486 := ((((F7_o0.other W383 (Or.inr (sn59_26 hw))).other W385 (Or.inl (Ne.symm ne_o2_o0))).other W391 (Or.inr (sn59_26 hw))).other W393 (Or.inl (Ne.symm ne_o2_o0)))
  obtain ⟨cq394, q394a, q394b⟩ := (F479).cell
  obtain ⟨_, _, ⟨T394, L394, kk394, n394⟩, -, X394, ⟨Lc394, hQ394, l394, y394, z394⟩, st394⟩ := X393.privateBack hx (y := yy2) hown (mvT hZ (w27 hw)) (mvT hZ (w28 hw)) (own_selPriv (y := yy2) (Cond.privateMethod_at (mvP hZ (w29 hw) (args := #[]))) (mvT hZ (w28 hw)) (mvT hZ (w23 hw)) rfl) (Cond.privateMethod_at (mvP hZ (w29 hw) (args := #[]))) (mvT hZ (w30 hw)) (by decide) (backOf (W := 0) (rm4c l Z a0 hw [] o0 q1 o6 k7 o5 k8 q9 q10 q11 o4 o2 k3 k12 h393 n0 (Nat.le_trans Z0 KK393.1) F476 F477 F478 F479 F480 F481 F482 F483 V393 F484 F485 F486 g_o6 (Ne.symm ne_o6_o0) ne_o5_o6 g_o5 (Ne.symm ne_o5_o0) (Ne.symm ne_o6_o2) (Ne.symm ne_o5_o2) ne_o4_o6 ne_o4_o5 g_o4 (Ne.symm ne_o4_o0) (Ne.symm ne_o4_o2) g_o2 (Ne.symm ne_o2_o0) g_o0) hZ (w30 hw) (w3 hw) (by decide) (by decide)) (g := (mkF m 83 #[rv o0, jv q1, sc, iv 3] [.long q1, .int 7, .int 6, .ref o0])) rfl (by rw [hml]; rfl) (Steps.refl _) (a := o0) (by rw [e393]; exact q394a) q394b (argsL := [.int 6, .int 7, .long q1]) (rest := []) (lenOf pd_1 rfl) rfl (by show 2 * 0 + _ ≤ _; exact Nat.le_of_eq rfl) (hb hby d3_83) (fun _ _ => ⟨rfl, e393, (by decide : 0 + 0 ≤ _), (by decide : 0 + 0 ≤ _)⟩)
  dsimp only [Pt.U, Pt.locs, Pt.cells, Pt.slots] at X394 l394 y394 z394 st394 hQ394
  replace l394 := l394.symm
  subst l394 y394 z394
  obtain ⟨rfl, Nq394, K394, Fq394_0, Fq394_1, Fq394_2, Fq394_3, Fq394_4, Fq394_5, Fq394_6, Fq394_7, Fq394_8, Fq394_9, Fq394_10⟩ := hQ394
  have KK394 : Keep h0 T394.heap [o0, o2, o6, o5, o4] := KK393.trans K394 (allS (Or.inl (List.mem_of_getElem? (i := 0) rfl)) (allS (Or.inl (List.mem_of_getElem? (i := 1) rfl)) (allS (Or.inl (List.mem_of_getElem? (i := 4) rfl)) (allS (Or.inl (List.mem_of_getElem? (i := 3) rfl)) (allS (Or.inl (List.mem_of_getElem? (i := 2) rfl)) all0)))))
  have N394 := Fr.app N393 Nq394
  refine gO (fun t k => st394.trans k) ?_
  show OGl _ _ _ _ T394 (mkF m 86 #[rv o0, jv q1, sc, iv 3] [])
  refine gO (fun t k => kiN X394 hx hby d3_86 rfl k) ?_
  show OGl _ _ _ _ T394 (mkF m 87 #[rv o0, jv q1, sc, iv 3] [.int 3])
  obtain ⟨fs, hr, hrun, hended, hW, hsame⟩ := X394.leave (v := some (.int 3)) (fun h => by rw [Bd.returns] at h; cases h) (BodyLoose.notSynchronized Bd)
  refine ⟨_, _, retI X394 hx Bd.returns (hb hby d3_87) hr, hrun, hended, _, _, rfl, ?_, ⟨_, rfl⟩, hW, hsame.mono (by decide) (by decide)⟩
  show Q3c Z o0 q1 o2 k3 o4 o5 o6 k7 k8 q9 q10 q11 k12 h0 n0 _ T394.heap _
  exact ⟨rfl, N394, KK394, Fq394_0, Fq394_1, Fq394_2, Fq394_3, Fq394_4, Fq394_5, Fq394_6, Fq394_7, Fq394_10, Fq394_9, Fq394_8⟩
theorem d6_0 : decode bc4 0 = .ok (.aload_n 0, 1) := by decide +kernel
theorem d6_1 : decode bc4 1 = .ok (.iconst 2, 1) := by decide +kernel
theorem d6_2 : decode bc4 2 = .ok (.iload_n 1, 1) := by decide +kernel
theorem d6_3 : decode bc4 3 = .ok (.imul, 1) := by decide +kernel
theorem d6_4 : decode bc4 4 = .ok (.iconst 1, 1) := by decide +kernel
theorem d6_5 : decode bc4 5 = .ok (.iadd, 1) := by decide +kernel
theorem d6_6 : decode bc4 6 = .ok (.iconst 2, 1) := by decide +kernel
theorem d6_7 : decode bc4 7 = .ok (.iload_n 2, 1) := by decide +kernel
theorem d6_8 : decode bc4 8 = .ok (.imul, 1) := by decide +kernel
theorem d6_9 : decode bc4 9 = .ok (.ldc2_w 39, 3) := by decide +kernel
theorem d6_12 : decode bc4 12 = .ok (.invokevirtual 35, 3) := by decide +kernel
abbrev zi7 : List Value := [.int 0, .int 0, .int 0, .int 0, .int 0, .int 0, .int 0]
abbrev zj7 : List Value := [.long 0, .long 0, .long 0, .long 0, .long 0, .long 0, .long 0]
def Q5h (Z : State) (o0 : Addr) (o1 : Addr) (k2 : ClassId) (o3 : Addr) (k4 : ClassId) (q5 : Int64) (q6 : Int64) (q7 : Int64) (q8 : Int64) (o9 : Addr) (o10 : Addr) (k11 : ClassId) (k12 : ClassId) (h0 : Heap) (n0 : Nat) (v : Option Value) (h : Heap) (L : List Loc) : Prop := v = none ∧ Fr n0 L ∧ Keep h0 h [o1, o3, o9, o10, o0] ∧ Arv Z h o1 k2 .int 16 (.int 1 :: .int 0 :: .int 3 :: .int 2 :: .int 5 :: .int 4 :: .int 7 :: .int 6 :: .int 2 :: zi7) (.int 0) ∧ Arv Z h o3 k4 .long 16 (.long q5 :: .long 0 :: .long q6 :: .long 0 :: .long q7 :: .long 0 :: .long q8 :: .long 0 :: .long 2305843009213693951 :: zj7) (.long 0) ∧ Arv Z h o9 k12 .int 16 (.int (-1) :: .int (-1) :: .int (-1) :: .int (-1) :: .int (-1) :: .int (-1) :: .int (-1) :: .int (-1) :: .int 1 :: zi7) (.int 0) ∧ Arv Z h o10 k11 .int 16 (.int 0 :: .int 8 :: .int 2 :: .int 3 :: .int 4 :: .int 5 :: .int 6 :: .int 7 :: zi8) (.int 0) ∧ Fld Z h o0 cc0 "edges" "I" (.int 9) ∧ Fld Z h o0 cc0 "halves" "I" (.int 8) ∧ Fld Z h o0 cc0 "heads" "[I" (.ref o10) ∧ Fld Z h o0 cc0 "nexts" "[I" (.ref o9) ∧ Fld Z h o0 cc0 "residues" "[J" (.ref o3) ∧ Fld Z h o0 cc0 "sourceSide" "[Z" (.null) ∧ Fld Z h o0 cc0 "targets" "[I" (.ref o1)
set_option maxRecDepth 65536 in
set_option maxHeartbeats 40000000 in
theorem rm5h (l : Launch) (Z : State) (a0 : Array Value) (hw : ∀ d ∈ tables_1, d.before a0 Z = true) (ws : List Jvm.Cond) (o0 : Addr) (o1 : Addr) (k2 : ClassId) (o3 : Addr) (k4 : ClassId) (q5 : Int64) (q6 : Int64) (q7 : Int64) (q8 : Int64) (o9 : Addr) (o10 : Addr) (k11 : ClassId) (k12 : ClassId) (h0 : Heap) (n0 : Nat) (Z0 : n0 ≤ h0.size) (F0_o0 : Fld Z h0 o0 cc0 "targets" "[I" (.ref o1)) (F1_o0 : Fld Z h0 o0 cc0 "edges" "I" (.int 8)) (V_o1 : Arv Z h0 o1 k2 .int 16 (.int 1 :: .int 0 :: .int 3 :: .int 2 :: .int 5 :: .int 4 :: .int 7 :: .int 6 :: zi8) (.int 0)) (g_o1 : n0 ≤ o1) (F4_o0 : Fld Z h0 o0 cc0 "residues" "[J" (.ref o3)) (ne_o0_o1 : o0 ≠ o1) (V_o3 : Arv Z h0 o3 k4 .long 16 (.long q5 :: .long 0 :: .long q6 :: .long 0 :: .long q7 :: .long 0 :: .long q8 :: zj9) (.long 0)) (ne_o3_o1 : o3 ≠ o1) (g_o3 : n0 ≤ o3) (F9_o0 : Fld Z h0 o0 cc0 "nexts" "[I" (.ref o9)) (ne_o0_o3 : o0 ≠ o3) (F11_o0 : Fld Z h0 o0 cc0 "heads" "[I" (.ref o10)) (V_o10 : Arv Z h0 o10 k11 .int 16 (.int 0 :: .int 1 :: .int 2 :: .int 3 :: .int 4 :: .int 5 :: .int 6 :: .int 7 :: zi8) (.int 0)) (ne_o10_o1 : o10 ≠ o1) (ne_o10_o3 : o10 ≠ o3) (V_o9 : Arv Z h0 o9 k12 .int 16 (.int (-1) :: .int (-1) :: .int (-1) :: .int (-1) :: .int (-1) :: .int (-1) :: .int (-1) :: .int (-1) :: zi8) (.int 0)) (ne_o9_o1 : o9 ≠ o1) (ne_o9_o3 : o9 ≠ o3) (g_o9 : n0 ≤ o9) (ne_o0_o9 : o0 ≠ o9) (ne_o10_o9 : o10 ≠ o9) (g_o10 : n0 ≤ o10) (ne_o0_o10 : o0 ≠ o10) (E_o0 : Exa Z h0 o0 cc0) (F24_o0 : Fld Z h0 o0 cc0 "halves" "I" (.int 8)) (F25_o0 : Fld Z h0 o0 cc0 "sourceSide" "[Z" (.null)) (g_o0 : n0 ≤ o0) :
    MetFree l yy1 (head1 (Jvm.Cond.code yy1 bc3 5 none :: ws) rr1) (fun a U => a = #[.ref o0, .int 1, .int 2, .long 2305843009213693951] ∧ Z.Warmed39 U.vm ∧ U.heap = h0) (fun _ _ _ _ _ => True) (fun _ U o U' => ∃ v L, o = .returned v ∧ Q5h Z o0 o1 k2 o3 k4 q5 q6 q7 q8 o9 o10 k11 k12 h0 n0 v U'.heap L ∧ FrameEnd U o U' L rr1.cells rr1.slots) := by
  refine MetFree.of_bodySF (plainFor_of_name pn_0) hisR ?_
  intro p e s m args below meth c s₁ Bd hml0 hP hK
  obtain ⟨rfl, hZ, hh⟩ := hP
  have hx := Bd.exec
  have hby := Bd.bytes
  have hml : c.maxLocals = 5 := hml0
  have hown : s.vm.findClass cc0 = some m.cls := findClass_of_methodNamed Bd.named
  have hnm := (name_of_methodNamed Bd.named Bd.method).1
  have X0 : Stand p l e rr1 s m #[.ref o0, .int 1, .int 2, .long 2305843009213693951] below meth c s₁ [] 0 0 := Stand.of_body Bd
  have e0 : s₁.heap = h0 := by rw [← hh, Bd.state]; rfl
  have N0 := Fr.nil n0
  refine OGl.start (ef_5 m o0 (1 : Int32) (2 : Int32) (2305843009213693951 : Int64)) ?_
  show OGl _ _ _ _ s₁ (mkF m 0 #[rv o0, iv 1, iv 2, jv 2305843009213693951, sc] [])
  refine gO (fun t k => kaN X0 hx hby d5_0 rfl rfl k) (gG X0 hx hby hZ hown (w13 hw) e0 F0_o0 d5_1 fun T493 X493 e493 => gO (fun t k => kaN X493 hx hby d5_4 rfl rfl k) (gG X493 hx hby hZ hown (w31 hw) e493 F1_o0 d5_5 fun T494 X494 e494 => gO (fun t k => kiN X494 hx hby d5_8 rfl k) ?_))
  show OGl _ _ _ _ T494 (mkF m 9 #[rv o0, iv 1, iv 2, jv 2305843009213693951, sc] [.int 2, .int 8, .ref o1])
  refine wI X494 hx hby hZ e494 V_o1 8 rfl (Nat.le_of_ble_eq_true rfl) d5_9 fun T495 h495 X495 e495 W495 V495 => ?_
  have N495 := Fr.snoc X495 N0 g_o1
  have KK495 := (Keep.refl h0 [o1, o3, o9, o10, o0]).wr W495 (Or.inl (List.mem_of_getElem? (i := 0) rfl))
  show OGl _ _ _ _ T495 (mkF m 10 #[rv o0, iv 1, iv 2, jv 2305843009213693951, sc] [])
  have F496 := (F4_o0.other W495 (Or.inl ne_o0_o1))
  have F498 := (F1_o0.other W495 (Or.inl ne_o0_o1))
  refine gO (fun t k => kaN X495 hx hby d5_10 rfl rfl k) (gG X495 hx hby hZ hown (w18 hw) e495 F496 d5_11 fun T497 X497 e497 => gO (fun t k => kaN X497 hx hby d5_14 rfl rfl k) (gG X497 hx hby hZ hown (w31 hw) e497 F498 d5_15 fun T499 X499 e499 => gO (fun t k => klN X499 hx hby d5_18 rfl k) ?_))
  show OGl _ _ _ _ T499 (mkF m 19 #[rv o0, iv 1, iv 2, jv 2305843009213693951, sc] [.long 2305843009213693951, .int 8, .ref o3])
  have F500 := (V_o3.other W495 ne_o3_o1)
  refine wJ X499 hx hby hZ e499 F500 8 rfl (Nat.le_of_ble_eq_true rfl) d5_19 fun T501 h501 X501 e501 W501 V501 => ?_
  have N501 := Fr.snoc X501 N495 g_o3
  have KK501 := KK495.wr W501 (Or.inl (List.mem_of_getElem? (i := 1) rfl))
  show OGl _ _ _ _ T501 (mkF m 20 #[rv o0, iv 1, iv 2, jv 2305843009213693951, sc] [])
  have F502 := ((F9_o0.other W495 (Or.inl ne_o0_o1)).other W501 (Or.inl ne_o0_o3))
  have F504 := (F498.other W501 (Or.inl ne_o0_o3))
  have F506 := ((F11_o0.other W495 (Or.inl ne_o0_o1)).other W501 (Or.inl ne_o0_o3))
  have F508 := ((V_o10.other W495 ne_o10_o1).other W501 ne_o10_o3)
  refine gO (fun t k => kaN X501 hx hby d5_20 rfl rfl k) (gG X501 hx hby hZ hown (w15 hw) e501 F502 d5_21 fun T503 X503 e503 => gO (fun t k => kaN X503 hx hby d5_24 rfl rfl k) (gG X503 hx hby hZ hown (w31 hw) e503 F504 d5_25 fun T505 X505 e505 => gO (fun t k => kaN X505 hx hby d5_28 rfl rfl k) (gG X505 hx hby hZ hown (w11 hw) e505 F506 d5_29 fun T507 X507 e507 => gO (fun t k => kiN X507 hx hby d5_32 rfl (rI X507 hx hby hZ e507 F508 (.int 1) rfl rfl d5_33 k)) ?_)))
  show OGl _ _ _ _ T507 (mkF m 34 #[rv o0, iv 1, iv 2, jv 2305843009213693951, sc] [.int 1, .int 8, .ref o9])
  have F509 := ((V_o9.other W495 ne_o9_o1).other W501 ne_o9_o3)
  refine wI X507 hx hby hZ e507 F509 8 rfl (Nat.le_of_ble_eq_true rfl) d5_34 fun T510 h510 X510 e510 W510 V510 => ?_
  have N510 := Fr.snoc X510 N501 g_o9
  have KK510 := KK501.wr W510 (Or.inl (List.mem_of_getElem? (i := 2) rfl))
  show OGl _ _ _ _ T510 (mkF m 35 #[rv o0, iv 1, iv 2, jv 2305843009213693951, sc] [])
  have F511 := (F506.other W510 (Or.inl ne_o0_o9))
  have F513 := (F504.other W510 (Or.inl ne_o0_o9))
  refine gO (fun t k => kaN X510 hx hby d5_35 rfl rfl k) (gG X510 hx hby hZ hown (w11 hw) e510 F511 d5_36 fun T512 X512 e512 => gO (fun t k => kiN X512 hx hby d5_39 rfl (kaN X512 hx hby d5_40 rfl rfl k)) (gG X512 hx hby hZ hown (w31 hw) e512 F513 d5_41 fun T514 X514 e514 => ?_))
  show OGl _ _ _ _ T514 (mkF m 44 #[rv o0, iv 1, iv 2, jv 2305843009213693951, sc] [.int 8, .int 1, .ref o10])
  have F515 := (F508.other W510 ne_o10_o9)
  refine wI X514 hx hby hZ e514 F515 1 rfl (Nat.le_of_ble_eq_true rfl) d5_44 fun T516 h516 X516 e516 W516 V516 => ?_
  have N516 := Fr.snoc X516 N510 g_o10
  have KK516 := KK510.wr W516 (Or.inl (List.mem_of_getElem? (i := 3) rfl))
  show OGl _ _ _ _ T516 (mkF m 45 #[rv o0, iv 1, iv 2, jv 2305843009213693951, sc] [])
  have F517 := (F513.other W516 (Or.inl ne_o0_o10))
  refine gO (fun t k => kaN X516 hx hby d5_45 rfl rfl (o_dup X516 hx hby d5_46 rfl k)) (gG X516 hx hby hZ hown (w31 hw) e516 F517 d5_47 fun T518 X518 e518 => gO (fun t k => kc X518 hx hby d5_50 (o_iadd X518 hx hby d5_51 k)) ?_)
  show OGl _ _ _ _ T518 (mkF m 52 #[rv o0, iv 1, iv 2, jv 2305843009213693951, sc] [.int 9, .ref o0])
  have F519 := ((((E_o0.wr W495).wr W501).wr W510).wr W516)
  obtain ⟨T520, h520, X520, e520, W520, st520⟩ := putF X518 hx hZ hown (host := "") (Or.inl (w31 hw)) Via.refl e518 F517 F519 (Or.inl (w32 hw)) (w2 hw) (ty := .int) (by decide) rfl rfl (g := (mkF m 52 #[rv o0, iv 1, iv 2, jv 2305843009213693951, sc] [.int 9, .ref o0])) rfl rfl (hb hby d5_52)
  refine gO st520 ?_
  have N520 := Fr.snoc X520 N516 g_o0
  have Fw520 := F517.same W520
  have KK520 := KK516.wr W520 (Or.inl (List.mem_of_getElem? (i := 4) rfl))
  show OGl _ _ _ _ T520 (mkF m 55 #[rv o0, iv 1, iv 2, jv 2305843009213693951, sc] [])
  obtain ⟨fs, hr, hrun, hended, hW, hsame⟩ := X520.leave (v := none) (fun _ => rfl) (BodyLoose.notSynchronized Bd)
  refine ⟨_, _, X520.returnOut hx Bd.returns (hb hby d5_55) hr, hrun, hended, _, _, rfl, ?_, ⟨_, rfl⟩, hW, hsame.mono (by decide) (by decide)⟩
  show Q5h Z o0 o1 k2 o3 k4 q5 q6 q7 q8 o9 o10 k11 k12 h0 n0 _ T520.heap _
  rw [e520]
  have F521 := ((((V495.other W501 (Ne.symm ne_o3_o1)).other W510 (Ne.symm ne_o9_o1)).other W516 (Ne.symm ne_o10_o1)).other W520 (Ne.symm ne_o0_o1))
  have F522 := (((V501.other W510 (Ne.symm ne_o9_o3)).other W516 (Ne.symm ne_o10_o3)).other W520 (Ne.symm ne_o0_o3))
  have F523 := ((V510.other W516 (Ne.symm ne_o10_o9)).other W520 (Ne.symm ne_o0_o9))
  have F524 := (V516.other W520 (Ne.symm ne_o0_o10))
  have F525 := (((((F24_o0.other W495 (Or.inl ne_o0_o1)).other W501 (Or.inl ne_o0_o3)).other W510 (Or.inl ne_o0_o9)).other W516 (Or.inl ne_o0_o10)).other W520 (Or.inr (sn26_32 hw)))
  have F526 := ((F511.other W516 (Or.inl ne_o0_o10)).other W520 (Or.inr (sn12_32 hw)))
  have F527 := (((F502.other W510 (Or.inl ne_o0_o9)).other W516 (Or.inl ne_o0_o10)).other W520 (Or.inr (sn16_32 hw)))
  have F528 := ((((F496.other W501 (Or.inl ne_o0_o3)).other W510 (Or.inl ne_o0_o9)).other W516 (Or.inl ne_o0_o10)).other W520 (Or.inr (sn19_32 hw)))
  have F529 := (((((F25_o0.other W495 (Or.inl ne_o0_o1)).other W501 (Or.inl ne_o0_o3)).other W510 (Or.inl ne_o0_o9)).other W516 (Or.inl ne_o0_o10)).other W520 (Or.inr (sn59_32 hw)))
  have F530 := (((((F0_o0.other W495 (Or.inl ne_o0_o1)).other W501 (Or.inl ne_o0_o3)).other W510 (Or.inl ne_o0_o9)).other W516 (Or.inl ne_o0_o10)).other W520 (Or.inr (sn14_32 hw)))
  exact ⟨rfl, N520, KK520, F521, F522, F523, F524, Fw520, F525, F526, F527, F528, F529, F530⟩
abbrev zi6 : List Value := [.int 0, .int 0, .int 0, .int 0, .int 0, .int 0]
def Q5i (Z : State) (o0 : Addr) (o1 : Addr) (k2 : ClassId) (o3 : Addr) (k4 : ClassId) (q5 : Int64) (q6 : Int64) (q7 : Int64) (q8 : Int64) (o9 : Addr) (o10 : Addr) (k11 : ClassId) (k12 : ClassId) (h0 : Heap) (n0 : Nat) (v : Option Value) (h : Heap) (L : List Loc) : Prop := v = none ∧ Fr n0 L ∧ Keep h0 h [o1, o3, o9, o10, o0] ∧ Arv Z h o1 k2 .int 16 (.int 1 :: .int 0 :: .int 3 :: .int 2 :: .int 5 :: .int 4 :: .int 7 :: .int 6 :: .int 2 :: .int 1 :: zi6) (.int 0) ∧ Arv Z h o3 k4 .long 16 (.long q5 :: .long 0 :: .long q6 :: .long 0 :: .long q7 :: .long 0 :: .long q8 :: .long 0 :: .long 2305843009213693951 :: zj7) (.long 0) ∧ Arv Z h o9 k12 .int 16 (.int (-1) :: .int (-1) :: .int (-1) :: .int (-1) :: .int (-1) :: .int (-1) :: .int (-1) :: .int (-1) :: .int 1 :: .int 2 :: zi6) (.int 0) ∧ Arv Z h o10 k11 .int 16 (.int 0 :: .int 8 :: .int 9 :: .int 3 :: .int 4 :: .int 5 :: .int 6 :: .int 7 :: zi8) (.int 0) ∧ Fld Z h o0 cc0 "edges" "I" (.int 10) ∧ Fld Z h o0 cc0 "halves" "I" (.int 8) ∧ Fld Z h o0 cc0 "heads" "[I" (.ref o10) ∧ Fld Z h o0 cc0 "nexts" "[I" (.ref o9) ∧ Fld Z h o0 cc0 "residues" "[J" (.ref o3) ∧ Fld Z h o0 cc0 "sourceSide" "[Z" (.null) ∧ Fld Z h o0 cc0 "targets" "[I" (.ref o1)
set_option maxRecDepth 65536 in
set_option maxHeartbeats 40000000 in
theorem rm5i (l : Launch) (Z : State) (a0 : Array Value) (hw : ∀ d ∈ tables_1, d.before a0 Z = true) (ws : List Jvm.Cond) (o0 : Addr) (o1 : Addr) (k2 : ClassId) (o3 : Addr) (k4 : ClassId) (q5 : Int64) (q6 : Int64) (q7 : Int64) (q8 : Int64) (o9 : Addr) (o10 : Addr) (k11 : ClassId) (k12 : ClassId) (h0 : Heap) (n0 : Nat) (Z0 : n0 ≤ h0.size) (F0_o0 : Fld Z h0 o0 cc0 "targets" "[I" (.ref o1)) (F1_o0 : Fld Z h0 o0 cc0 "edges" "I" (.int 9)) (V_o1 : Arv Z h0 o1 k2 .int 16 (.int 1 :: .int 0 :: .int 3 :: .int 2 :: .int 5 :: .int 4 :: .int 7 :: .int 6 :: .int 2 :: zi7) (.int 0)) (g_o1 : n0 ≤ o1) (F4_o0 : Fld Z h0 o0 cc0 "residues" "[J" (.ref o3)) (ne_o0_o1 : o0 ≠ o1) (V_o3 : Arv Z h0 o3 k4 .long 16 (.long q5 :: .long 0 :: .long q6 :: .long 0 :: .long q7 :: .long 0 :: .long q8 :: .long 0 :: .long 2305843009213693951 :: zj7) (.long 0)) (ne_o3_o1 : o3 ≠ o1) (g_o3 : n0 ≤ o3) (F9_o0 : Fld Z h0 o0 cc0 "nexts" "[I" (.ref o9)) (ne_o0_o3 : o0 ≠ o3) (F11_o0 : Fld Z h0 o0 cc0 "heads" "[I" (.ref o10)) (V_o10 : Arv Z h0 o10 k11 .int 16 (.int 0 :: .int 8 :: .int 2 :: .int 3 :: .int 4 :: .int 5 :: .int 6 :: .int 7 :: zi8) (.int 0)) (ne_o10_o1 : o10 ≠ o1) (ne_o10_o3 : o10 ≠ o3) (V_o9 : Arv Z h0 o9 k12 .int 16 (.int (-1) :: .int (-1) :: .int (-1) :: .int (-1) :: .int (-1) :: .int (-1) :: .int (-1) :: .int (-1) :: .int 1 :: zi7) (.int 0)) (ne_o9_o1 : o9 ≠ o1) (ne_o9_o3 : o9 ≠ o3) (g_o9 : n0 ≤ o9) (ne_o0_o9 : o0 ≠ o9) (ne_o10_o9 : o10 ≠ o9) (g_o10 : n0 ≤ o10) (ne_o0_o10 : o0 ≠ o10) (E_o0 : Exa Z h0 o0 cc0) (F24_o0 : Fld Z h0 o0 cc0 "halves" "I" (.int 8)) (F25_o0 : Fld Z h0 o0 cc0 "sourceSide" "[Z" (.null)) (g_o0 : n0 ≤ o0) :
    MetFree l yy1 (head1 (Jvm.Cond.code yy1 bc3 5 none :: ws) rr1) (fun a U => a = #[.ref o0, .int 2, .int 1, .long 0] ∧ Z.Warmed39 U.vm ∧ U.heap = h0) (fun _ _ _ _ _ => True) (fun _ U o U' => ∃ v L, o = .returned v ∧ Q5i Z o0 o1 k2 o3 k4 q5 q6 q7 q8 o9 o10 k11 k12 h0 n0 v U'.heap L ∧ FrameEnd U o U' L rr1.cells rr1.slots) := by
  refine MetFree.of_bodySF (plainFor_of_name pn_0) hisR ?_
  intro p e s m args below meth c s₁ Bd hml0 hP hK
  obtain ⟨rfl, hZ, hh⟩ := hP
  have hx := Bd.exec
  have hby := Bd.bytes
  have hml : c.maxLocals = 5 := hml0
  have hown : s.vm.findClass cc0 = some m.cls := findClass_of_methodNamed Bd.named
  have hnm := (name_of_methodNamed Bd.named Bd.method).1
  have X0 : Stand p l e rr1 s m #[.ref o0, .int 2, .int 1, .long 0] below meth c s₁ [] 0 0 := Stand.of_body Bd
  have e0 : s₁.heap = h0 := by rw [← hh, Bd.state]; rfl
  have N0 := Fr.nil n0
  refine OGl.start (ef_5 m o0 (2 : Int32) (1 : Int32) (0 : Int64)) ?_
  show OGl _ _ _ _ s₁ (mkF m 0 #[rv o0, iv 2, iv 1, jv 0, sc] [])
  refine gO (fun t k => kaN X0 hx hby d5_0 rfl rfl k) (gG X0 hx hby hZ hown (w13 hw) e0 F0_o0 d5_1 fun T532 X532 e532 => gO (fun t k => kaN X532 hx hby d5_4 rfl rfl k) (gG X532 hx hby hZ hown (w31 hw) e532 F1_o0 d5_5 fun T533 X533 e533 => gO (fun t k => kiN X533 hx hby d5_8 rfl k) ?_))
  show OGl _ _ _ _ T533 (mkF m 9 #[rv o0, iv 2, iv 1, jv 0, sc] [.int 1, .int 9, .ref o1])
  refine wI X533 hx hby hZ e533 V_o1 9 rfl (Nat.le_of_ble_eq_true rfl) d5_9 fun T534 h534 X534 e534 W534 V534 => ?_
  have N534 := Fr.snoc X534 N0 g_o1
  have KK534 := (Keep.refl h0 [o1, o3, o9, o10, o0]).wr W534 (Or.inl (List.mem_of_getElem? (i := 0) rfl))
  show OGl _ _ _ _ T534 (mkF m 10 #[rv o0, iv 2, iv 1, jv 0, sc] [])
  have F535 := (F4_o0.other W534 (Or.inl ne_o0_o1))
  have F537 := (F1_o0.other W534 (Or.inl ne_o0_o1))
  refine gO (fun t k => kaN X534 hx hby d5_10 rfl rfl k) (gG X534 hx hby hZ hown (w18 hw) e534 F535 d5_11 fun T536 X536 e536 => gO (fun t k => kaN X536 hx hby d5_14 rfl rfl k) (gG X536 hx hby hZ hown (w31 hw) e536 F537 d5_15 fun T538 X538 e538 => gO (fun t k => klN X538 hx hby d5_18 rfl k) ?_))
  show OGl _ _ _ _ T538 (mkF m 19 #[rv o0, iv 2, iv 1, jv 0, sc] [.long 0, .int 9, .ref o3])
  have F539 := (V_o3.other W534 ne_o3_o1)
  refine wJ X538 hx hby hZ e538 F539 9 rfl (Nat.le_of_ble_eq_true rfl) d5_19 fun T540 h540 X540 e540 W540 V540 => ?_
  have N540 := Fr.snoc X540 N534 g_o3
  have KK540 := KK534.wr W540 (Or.inl (List.mem_of_getElem? (i := 1) rfl))
  show OGl _ _ _ _ T540 (mkF m 20 #[rv o0, iv 2, iv 1, jv 0, sc] [])
  have F541 := ((F9_o0.other W534 (Or.inl ne_o0_o1)).other W540 (Or.inl ne_o0_o3))
  have F543 := (F537.other W540 (Or.inl ne_o0_o3))
  have F545 := ((F11_o0.other W534 (Or.inl ne_o0_o1)).other W540 (Or.inl ne_o0_o3))
  have F547 := ((V_o10.other W534 ne_o10_o1).other W540 ne_o10_o3)
  refine gO (fun t k => kaN X540 hx hby d5_20 rfl rfl k) (gG X540 hx hby hZ hown (w15 hw) e540 F541 d5_21 fun T542 X542 e542 => gO (fun t k => kaN X542 hx hby d5_24 rfl rfl k) (gG X542 hx hby hZ hown (w31 hw) e542 F543 d5_25 fun T544 X544 e544 => gO (fun t k => kaN X544 hx hby d5_28 rfl rfl k) (gG X544 hx hby hZ hown (w11 hw) e544 F545 d5_29 fun T546 X546 e546 => gO (fun t k => kiN X546 hx hby d5_32 rfl (rI X546 hx hby hZ e546 F547 (.int 2) rfl rfl d5_33 k)) ?_)))
  show OGl _ _ _ _ T546 (mkF m 34 #[rv o0, iv 2, iv 1, jv 0, sc] [.int 2, .int 9, .ref o9])
  have F548 := ((V_o9.other W534 ne_o9_o1).other W540 ne_o9_o3)
  refine wI X546 hx hby hZ e546 F548 9 rfl (Nat.le_of_ble_eq_true rfl) d5_34 fun T549 h549 X549 e549 W549 V549 => ?_
  have N549 := Fr.snoc X549 N540 g_o9
  have KK549 := KK540.wr W549 (Or.inl (List.mem_of_getElem? (i := 2) rfl))
  show OGl _ _ _ _ T549 (mkF m 35 #[rv o0, iv 2, iv 1, jv 0, sc] [])
  have F550 := (F545.other W549 (Or.inl ne_o0_o9))
  have F552 := (F543.other W549 (Or.inl ne_o0_o9))
  refine gO (fun t k => kaN X549 hx hby d5_35 rfl rfl k) (gG X549 hx hby hZ hown (w11 hw) e549 F550 d5_36 fun T551 X551 e551 => gO (fun t k => kiN X551 hx hby d5_39 rfl (kaN X551 hx hby d5_40 rfl rfl k)) (gG X551 hx hby hZ hown (w31 hw) e551 F552 d5_41 fun T553 X553 e553 => ?_))
  show OGl _ _ _ _ T553 (mkF m 44 #[rv o0, iv 2, iv 1, jv 0, sc] [.int 9, .int 2, .ref o10])
  have F554 := (F547.other W549 ne_o10_o9)
  refine wI X553 hx hby hZ e553 F554 2 rfl (Nat.le_of_ble_eq_true rfl) d5_44 fun T555 h555 X555 e555 W555 V555 => ?_
  have N555 := Fr.snoc X555 N549 g_o10
  have KK555 := KK549.wr W555 (Or.inl (List.mem_of_getElem? (i := 3) rfl))
  show OGl _ _ _ _ T555 (mkF m 45 #[rv o0, iv 2, iv 1, jv 0, sc] [])
  have F556 := (F552.other W555 (Or.inl ne_o0_o10))
  refine gO (fun t k => kaN X555 hx hby d5_45 rfl rfl (o_dup X555 hx hby d5_46 rfl k)) (gG X555 hx hby hZ hown (w31 hw) e555 F556 d5_47 fun T557 X557 e557 => gO (fun t k => kc X557 hx hby d5_50 (o_iadd X557 hx hby d5_51 k)) ?_)
  show OGl _ _ _ _ T557 (mkF m 52 #[rv o0, iv 2, iv 1, jv 0, sc] [.int 10, .ref o0])
  have F558 := ((((E_o0.wr W534).wr W540).wr W549).wr W555)
  obtain ⟨T559, h559, X559, e559, W559, st559⟩ := putF X557 hx hZ hown (host := "") (Or.inl (w31 hw)) Via.refl e557 F556 F558 (Or.inl (w32 hw)) (w2 hw) (ty := .int) (by decide) rfl rfl (g := (mkF m 52 #[rv o0, iv 2, iv 1, jv 0, sc] [.int 10, .ref o0])) rfl rfl (hb hby d5_52)
  refine gO st559 ?_
  have N559 := Fr.snoc X559 N555 g_o0
  have Fw559 := F556.same W559
  have KK559 := KK555.wr W559 (Or.inl (List.mem_of_getElem? (i := 4) rfl))
  show OGl _ _ _ _ T559 (mkF m 55 #[rv o0, iv 2, iv 1, jv 0, sc] [])
  obtain ⟨fs, hr, hrun, hended, hW, hsame⟩ := X559.leave (v := none) (fun _ => rfl) (BodyLoose.notSynchronized Bd)
  refine ⟨_, _, X559.returnOut hx Bd.returns (hb hby d5_55) hr, hrun, hended, _, _, rfl, ?_, ⟨_, rfl⟩, hW, hsame.mono (by decide) (by decide)⟩
  show Q5i Z o0 o1 k2 o3 k4 q5 q6 q7 q8 o9 o10 k11 k12 h0 n0 _ T559.heap _
  rw [e559]
  have F560 := ((((V534.other W540 (Ne.symm ne_o3_o1)).other W549 (Ne.symm ne_o9_o1)).other W555 (Ne.symm ne_o10_o1)).other W559 (Ne.symm ne_o0_o1))
  have F561 := (((V540.other W549 (Ne.symm ne_o9_o3)).other W555 (Ne.symm ne_o10_o3)).other W559 (Ne.symm ne_o0_o3))
  have F562 := ((V549.other W555 (Ne.symm ne_o10_o9)).other W559 (Ne.symm ne_o0_o9))
  have F563 := (V555.other W559 (Ne.symm ne_o0_o10))
  have F564 := (((((F24_o0.other W534 (Or.inl ne_o0_o1)).other W540 (Or.inl ne_o0_o3)).other W549 (Or.inl ne_o0_o9)).other W555 (Or.inl ne_o0_o10)).other W559 (Or.inr (sn26_32 hw)))
  have F565 := ((F550.other W555 (Or.inl ne_o0_o10)).other W559 (Or.inr (sn12_32 hw)))
  have F566 := (((F541.other W549 (Or.inl ne_o0_o9)).other W555 (Or.inl ne_o0_o10)).other W559 (Or.inr (sn16_32 hw)))
  have F567 := ((((F535.other W540 (Or.inl ne_o0_o3)).other W549 (Or.inl ne_o0_o9)).other W555 (Or.inl ne_o0_o10)).other W559 (Or.inr (sn19_32 hw)))
  have F568 := (((((F25_o0.other W534 (Or.inl ne_o0_o1)).other W540 (Or.inl ne_o0_o3)).other W549 (Or.inl ne_o0_o9)).other W555 (Or.inl ne_o0_o10)).other W559 (Or.inr (sn59_32 hw)))
  have F569 := (((((F0_o0.other W534 (Or.inl ne_o0_o1)).other W540 (Or.inl ne_o0_o3)).other W549 (Or.inl ne_o0_o9)).other W555 (Or.inl ne_o0_o10)).other W559 (Or.inr (sn14_32 hw)))
  exact ⟨rfl, N559, KK559, F560, F561, F562, F563, Fw559, F564, F565, F566, F567, F568, F569⟩
def Q4d (Z : State) (o0 : Addr) (o1 : Addr) (k2 : ClassId) (o3 : Addr) (k4 : ClassId) (q5 : Int64) (q6 : Int64) (q7 : Int64) (q8 : Int64) (o9 : Addr) (o10 : Addr) (k11 : ClassId) (k12 : ClassId) (h0 : Heap) (n0 : Nat) (v : Option Value) (h : Heap) (L : List Loc) : Prop := v = none ∧ Fr n0 L ∧ Keep h0 h [o0, o10, o9, o3, o1] ∧ Fld Z h o0 cc0 "edges" "I" (.int 10) ∧ Fld Z h o0 cc0 "halves" "I" (.int 8) ∧ Fld Z h o0 cc0 "heads" "[I" (.ref o10) ∧ Fld Z h o0 cc0 "nexts" "[I" (.ref o9) ∧ Fld Z h o0 cc0 "residues" "[J" (.ref o3) ∧ Fld Z h o0 cc0 "sourceSide" "[Z" (.null) ∧ Fld Z h o0 cc0 "targets" "[I" (.ref o1) ∧ Arv Z h o10 k11 .int 16 (.int 0 :: .int 8 :: .int 9 :: .int 3 :: .int 4 :: .int 5 :: .int 6 :: .int 7 :: zi8) (.int 0) ∧ Arv Z h o9 k12 .int 16 (.int (-1) :: .int (-1) :: .int (-1) :: .int (-1) :: .int (-1) :: .int (-1) :: .int (-1) :: .int (-1) :: .int 1 :: .int 2 :: zi6) (.int 0) ∧ Arv Z h o3 k4 .long 16 (.long q5 :: .long 0 :: .long q6 :: .long 0 :: .long q7 :: .long 0 :: .long q8 :: .long 0 :: .long 2305843009213693951 :: zj7) (.long 0) ∧ Arv Z h o1 k2 .int 16 (.int 1 :: .int 0 :: .int 3 :: .int 2 :: .int 5 :: .int 4 :: .int 7 :: .int 6 :: .int 2 :: .int 1 :: zi6) (.int 0)
set_option maxRecDepth 65536 in
set_option maxHeartbeats 40000000 in
theorem rm4d (l : Launch) (Z : State) (a0 : Array Value) (hw : ∀ d ∈ tables_1, d.before a0 Z = true) (ws : List Jvm.Cond) (o0 : Addr) (o1 : Addr) (k2 : ClassId) (o3 : Addr) (k4 : ClassId) (q5 : Int64) (q6 : Int64) (q7 : Int64) (q8 : Int64) (o9 : Addr) (o10 : Addr) (k11 : ClassId) (k12 : ClassId) (h0 : Heap) (n0 : Nat) (Z0 : n0 ≤ h0.size) (F0_o0 : Fld Z h0 o0 cc0 "edges" "I" (.int 8)) (F1_o0 : Fld Z h0 o0 cc0 "targets" "[I" (.ref o1)) (V_o1 : Arv Z h0 o1 k2 .int 16 (.int 1 :: .int 0 :: .int 3 :: .int 2 :: .int 5 :: .int 4 :: .int 7 :: .int 6 :: zi8) (.int 0)) (E_o0 : Exa Z h0 o0 cc0) (F4_o0 : Fld Z h0 o0 cc0 "residues" "[J" (.ref o3)) (V_o3 : Arv Z h0 o3 k4 .long 16 (.long q5 :: .long 0 :: .long q6 :: .long 0 :: .long q7 :: .long 0 :: .long q8 :: zj9) (.long 0)) (F6_o0 : Fld Z h0 o0 cc0 "nexts" "[I" (.ref o9)) (F7_o0 : Fld Z h0 o0 cc0 "heads" "[I" (.ref o10)) (V_o10 : Arv Z h0 o10 k11 .int 16 (.int 0 :: .int 1 :: .int 2 :: .int 3 :: .int 4 :: .int 5 :: .int 6 :: .int 7 :: zi8) (.int 0)) (V_o9 : Arv Z h0 o9 k12 .int 16 (.int (-1) :: .int (-1) :: .int (-1) :: .int (-1) :: .int (-1) :: .int (-1) :: .int (-1) :: .int (-1) :: zi8) (.int 0)) (F10_o0 : Fld Z h0 o0 cc0 "halves" "I" (.int 8)) (F11_o0 : Fld Z h0 o0 cc0 "sourceSide" "[Z" (.null)) (g_o1 : n0 ≤ o1) (ne_o0_o1 : o0 ≠ o1) (ne_o3_o1 : o3 ≠ o1) (g_o3 : n0 ≤ o3) (ne_o0_o3 : o0 ≠ o3) (ne_o10_o1 : o10 ≠ o1) (ne_o10_o3 : o10 ≠ o3) (ne_o9_o1 : o9 ≠ o1) (ne_o9_o3 : o9 ≠ o3) (g_o9 : n0 ≤ o9) (ne_o0_o9 : o0 ≠ o9) (ne_o10_o9 : o10 ≠ o9) (g_o10 : n0 ≤ o10) (ne_o0_o10 : o0 ≠ o10) (g_o0 : n0 ≤ o0) :
    MetFree l yy2 (head1 (Jvm.Cond.code yy2 bc2 5 none :: ws) rr2) (fun a U => a = #[.ref o0, .int 1, .int 2, .long 2305843009213693951] ∧ Z.Warmed39 U.vm ∧ U.heap = h0) (fun _ _ _ _ _ => True) (fun _ U o U' => ∃ v L, o = .returned v ∧ Q4d Z o0 o1 k2 o3 k4 q5 q6 q7 q8 o9 o10 k11 k12 h0 n0 v U'.heap L ∧ FrameEnd U o U' L rr2.cells rr2.slots) := by
  refine MetFree.of_bodySF (plainFor_of_name pn_0) hisR ?_
  intro p e s m args below meth c s₁ Bd hml0 hP hK
  obtain ⟨rfl, hZ, hh⟩ := hP
  have hx := Bd.exec
  have hby := Bd.bytes
  have hml : c.maxLocals = 5 := hml0
  have hown : s.vm.findClass cc0 = some m.cls := findClass_of_methodNamed Bd.named
  have hnm := (name_of_methodNamed Bd.named Bd.method).1
  have X0 : Stand p l e rr2 s m #[.ref o0, .int 1, .int 2, .long 2305843009213693951] below meth c s₁ [] 0 0 := Stand.of_body Bd
  have e0 : s₁.heap = h0 := by rw [← hh, Bd.state]; rfl
  have N0 := Fr.nil n0
  refine OGl.start (ef_4 m o0 (1 : Int32) (2 : Int32) (2305843009213693951 : Int64)) ?_
  show OGl _ _ _ _ s₁ (mkF m 0 #[rv o0, iv 1, iv 2, jv 2305843009213693951, sc] [])
  refine gO (fun t k => kaN X0 hx hby d4_0 rfl rfl k) (gG X0 hx hby hZ hown (w31 hw) e0 F0_o0 d4_1 fun T490 X490 e490 => gO (fun t k => kc X490 hx hby d4_4 (o_iadd X490 hx hby d4_5 (kaN X490 hx hby d4_6 rfl rfl k))) (gG X490 hx hby hZ hown (w13 hw) e490 F1_o0 d4_7 fun T491 X491 e491 => gO (fun t k => rL X491 hx hby hZ e491 V_o1 d4_10 (cY X491 hx hby 68 d4_11 (flt (by decide : ¬ ((16 : Int32) < (10 : Int32)))).2.2.2 rfl (kaN X491 hx hby d4_68 rfl rfl (kiN X491 hx hby d4_69 rfl (kiN X491 hx hby d4_70 rfl (klN X491 hx hby d4_71 rfl k)))))) ?_))
  show OGl _ _ _ _ T491 (mkF m 72 #[rv o0, iv 1, iv 2, jv 2305843009213693951, sc] [.long 2305843009213693951, .int 2, .int 1, .ref o0])
  obtain ⟨cq492, q492a, q492b⟩ := (E_o0).cell
  obtain ⟨_, _, ⟨T492, L492, kk492, n492⟩, -, X492, ⟨Lc492, hQ492, l492, y492, z492⟩, st492⟩ := X491.privateBack hx (y := yy1) hown (mvT hZ (w33 hw)) (mvT hZ (w34 hw)) (own_selPriv (y := yy1) (Cond.privateMethod_at (mvP hZ (w35 hw) (args := #[]))) (mvT hZ (w34 hw)) (mvT hZ (w23 hw)) rfl) (Cond.privateMethod_at (mvP hZ (w35 hw) (args := #[]))) (mvT hZ (w36 hw)) (by decide) (backOf (W := 0) (rm5h l Z a0 hw [] o0 o1 k2 o3 k4 q5 q6 q7 q8 o9 o10 k11 k12 h0 n0 Z0 F1_o0 F0_o0 V_o1 g_o1 F4_o0 ne_o0_o1 V_o3 ne_o3_o1 g_o3 F6_o0 ne_o0_o3 F7_o0 V_o10 ne_o10_o1 ne_o10_o3 V_o9 ne_o9_o1 ne_o9_o3 g_o9 ne_o0_o9 ne_o10_o9 g_o10 ne_o0_o10 E_o0 F10_o0 F11_o0 g_o0) hZ (w36 hw) (w3 hw) (by decide) (by decide)) (g := (mkF m 72 #[rv o0, iv 1, iv 2, jv 2305843009213693951, sc] [.long 2305843009213693951, .int 2, .int 1, .ref o0])) rfl (by rw [hml]; rfl) (Steps.refl _) (a := o0) (by rw [e491]; exact q492a) q492b (argsL := [.int 1, .int 2, .long 2305843009213693951]) (rest := []) (lenOf pd_1 rfl) rfl (by show 2 * 0 + _ ≤ _; exact Nat.le_of_eq rfl) (hb hby d4_72) (fun _ _ => ⟨rfl, e491, (by decide : 0 + 0 ≤ _), (by decide : 0 + 0 ≤ _)⟩)
  dsimp only [Pt.U, Pt.locs, Pt.cells, Pt.slots] at X492 l492 y492 z492 st492 hQ492
  replace l492 := l492.symm
  subst l492 y492 z492
  obtain ⟨rfl, Nq492, K492, Fq492_0, Fq492_1, Fq492_2, Fq492_3, Fq492_4, Fq492_5, Fq492_6, Fq492_7, Fq492_8, Fq492_9, Fq492_10⟩ := hQ492
  have KK492 : Keep h0 T492.heap [o0, o10, o9, o3, o1] := (Keep.refl h0 [o0, o10, o9, o3, o1]).trans K492 (allS (Or.inl (List.mem_of_getElem? (i := 4) rfl)) (allS (Or.inl (List.mem_of_getElem? (i := 3) rfl)) (allS (Or.inl (List.mem_of_getElem? (i := 2) rfl)) (allS (Or.inl (List.mem_of_getElem? (i := 1) rfl)) (allS (Or.inl (List.mem_of_getElem? (i := 0) rfl)) all0)))))
  have N492 := Fr.app N0 Nq492
  refine gO (fun t k => st492.trans k) ?_
  show OGl _ _ _ _ T492 (mkF m 75 #[rv o0, iv 1, iv 2, jv 2305843009213693951, sc] [])
  refine gO (fun t k => kaN X492 hx hby d4_75 rfl rfl (kiN X492 hx hby d4_76 rfl (kiN X492 hx hby d4_77 rfl (kcl X492 hx hby d4_78 k)))) ?_
  show OGl _ _ _ _ T492 (mkF m 79 #[rv o0, iv 1, iv 2, jv 2305843009213693951, sc] [.long 0, .int 1, .int 2, .ref o0])
  have F570 := (E_o0.keep K492)
  obtain ⟨cq531, q531a, q531b⟩ := (F570).cell
  obtain ⟨_, _, ⟨T531, L531, kk531, n531⟩, -, X531, ⟨Lc531, hQ531, l531, y531, z531⟩, st531⟩ := X492.privateBack hx (y := yy1) hown (mvT hZ (w33 hw)) (mvT hZ (w34 hw)) (own_selPriv (y := yy1) (Cond.privateMethod_at (mvP hZ (w35 hw) (args := #[]))) (mvT hZ (w34 hw)) (mvT hZ (w23 hw)) rfl) (Cond.privateMethod_at (mvP hZ (w35 hw) (args := #[]))) (mvT hZ (w36 hw)) (by decide) (backOf (W := 0) (rm5i l Z a0 hw [] o0 o1 k2 o3 k4 q5 q6 q7 q8 o9 o10 k11 k12 T492.heap n0 (Nat.le_trans Z0 KK492.1) Fq492_10 Fq492_4 Fq492_0 g_o1 Fq492_8 ne_o0_o1 Fq492_1 ne_o3_o1 g_o3 Fq492_7 ne_o0_o3 Fq492_6 Fq492_3 ne_o10_o1 ne_o10_o3 Fq492_2 ne_o9_o1 ne_o9_o3 g_o9 ne_o0_o9 ne_o10_o9 g_o10 ne_o0_o10 F570 Fq492_5 Fq492_9 g_o0) hZ (w36 hw) (w3 hw) (by decide) (by decide)) (g := (mkF m 79 #[rv o0, iv 1, iv 2, jv 2305843009213693951, sc] [.long 0, .int 1, .int 2, .ref o0])) rfl (by rw [hml]; rfl) (Steps.refl _) (a := o0) q531a q531b (argsL := [.int 2, .int 1, .long 0]) (rest := []) (lenOf pd_1 rfl) rfl (by show 2 * 0 + _ ≤ _; exact Nat.le_of_eq rfl) (hb hby d4_79) (fun _ _ => ⟨rfl, rfl, (by decide : 0 + 0 ≤ _), (by decide : 0 + 0 ≤ _)⟩)
  dsimp only [Pt.U, Pt.locs, Pt.cells, Pt.slots] at X531 l531 y531 z531 st531 hQ531
  replace l531 := l531.symm
  subst l531 y531 z531
  obtain ⟨rfl, Nq531, K531, Fq531_0, Fq531_1, Fq531_2, Fq531_3, Fq531_4, Fq531_5, Fq531_6, Fq531_7, Fq531_8, Fq531_9, Fq531_10⟩ := hQ531
  have KK531 : Keep h0 T531.heap [o0, o10, o9, o3, o1] := KK492.trans K531 (allS (Or.inl (List.mem_of_getElem? (i := 4) rfl)) (allS (Or.inl (List.mem_of_getElem? (i := 3) rfl)) (allS (Or.inl (List.mem_of_getElem? (i := 2) rfl)) (allS (Or.inl (List.mem_of_getElem? (i := 1) rfl)) (allS (Or.inl (List.mem_of_getElem? (i := 0) rfl)) all0)))))
  have N531 := Fr.app N492 Nq531
  refine gO (fun t k => st531.trans k) ?_
  show OGl _ _ _ _ T531 (mkF m 82 #[rv o0, iv 1, iv 2, jv 2305843009213693951, sc] [])
  obtain ⟨fs, hr, hrun, hended, hW, hsame⟩ := X531.leave (v := none) (fun _ => rfl) (BodyLoose.notSynchronized Bd)
  refine ⟨_, _, X531.returnOut hx Bd.returns (hb hby d4_82) hr, hrun, hended, _, _, rfl, ?_, ⟨_, rfl⟩, hW, hsame.mono (by decide) (by decide)⟩
  show Q4d Z o0 o1 k2 o3 k4 q5 q6 q7 q8 o9 o10 k11 k12 h0 n0 _ T531.heap _
  exact ⟨rfl, N531, KK531, Fq531_4, Fq531_5, Fq531_6, Fq531_7, Fq531_8, Fq531_9, Fq531_10, Fq531_3, Fq531_2, Fq531_1, Fq531_0⟩
theorem d6_15 : decode bc4 15 = .ok (.return_, 1) := by decide +kernel
theorem ef_6 (m : MethodId) (x0 : Addr) (x1 : Int32) (x2 : Int32) : entryFrame m #[.ref x0, .int x1, .int x2] 3 = mkF m 0 #[rv x0, iv x1, iv x2] [] := by first | (simp [entryFrame, mkF, argsToLocals, Value.category]; done) | rfl
def Q6 (Z : State) (o0 : Addr) (o1 : Addr) (k2 : ClassId) (o3 : Addr) (k4 : ClassId) (q5 : Int64) (q6 : Int64) (q7 : Int64) (q8 : Int64) (o9 : Addr) (o10 : Addr) (k11 : ClassId) (k12 : ClassId) (h0 : Heap) (n0 : Nat) (v : Option Value) (h : Heap) (L : List Loc) : Prop := v = none ∧ Fr n0 L ∧ Keep h0 h [o1, o3, o9, o10, o0] ∧ Arv Z h o1 k2 .int 16 (.int 1 :: .int 0 :: .int 3 :: .int 2 :: .int 5 :: .int 4 :: .int 7 :: .int 6 :: .int 2 :: .int 1 :: zi6) (.int 0) ∧ Arv Z h o3 k4 .long 16 (.long q5 :: .long 0 :: .long q6 :: .long 0 :: .long q7 :: .long 0 :: .long q8 :: .long 0 :: .long 2305843009213693951 :: zj7) (.long 0) ∧ Arv Z h o9 k12 .int 16 (.int (-1) :: .int (-1) :: .int (-1) :: .int (-1) :: .int (-1) :: .int (-1) :: .int (-1) :: .int (-1) :: .int 1 :: .int 2 :: zi6) (.int 0) ∧ Arv Z h o10 k11 .int 16 (.int 0 :: .int 8 :: .int 9 :: .int 3 :: .int 4 :: .int 5 :: .int 6 :: .int 7 :: zi8) (.int 0) ∧ Fld Z h o0 cc0 "edges" "I" (.int 10) ∧ Fld Z h o0 cc0 "halves" "I" (.int 8) ∧ Fld Z h o0 cc0 "heads" "[I" (.ref o10) ∧ Fld Z h o0 cc0 "nexts" "[I" (.ref o9) ∧ Fld Z h o0 cc0 "residues" "[J" (.ref o3) ∧ Fld Z h o0 cc0 "sourceSide" "[Z" (.null) ∧ Fld Z h o0 cc0 "targets" "[I" (.ref o1)
set_option maxRecDepth 65536 in
set_option maxHeartbeats 40000000 in
theorem rm6 (l : Launch) (Z : State) (a0 : Array Value) (hw : ∀ d ∈ tables_1, d.before a0 Z = true) (ws : List Jvm.Cond) (o0 : Addr) (o1 : Addr) (k2 : ClassId) (o3 : Addr) (k4 : ClassId) (q5 : Int64) (q6 : Int64) (q7 : Int64) (q8 : Int64) (o9 : Addr) (o10 : Addr) (k11 : ClassId) (k12 : ClassId) (h0 : Heap) (n0 : Nat) (Z0 : n0 ≤ h0.size) (E_o0 : Exa Z h0 o0 cc0) (F1_o0 : Fld Z h0 o0 cc0 "edges" "I" (.int 8)) (F2_o0 : Fld Z h0 o0 cc0 "targets" "[I" (.ref o1)) (V_o1 : Arv Z h0 o1 k2 .int 16 (.int 1 :: .int 0 :: .int 3 :: .int 2 :: .int 5 :: .int 4 :: .int 7 :: .int 6 :: zi8) (.int 0)) (F4_o0 : Fld Z h0 o0 cc0 "residues" "[J" (.ref o3)) (V_o3 : Arv Z h0 o3 k4 .long 16 (.long q5 :: .long 0 :: .long q6 :: .long 0 :: .long q7 :: .long 0 :: .long q8 :: zj9) (.long 0)) (F6_o0 : Fld Z h0 o0 cc0 "nexts" "[I" (.ref o9)) (F7_o0 : Fld Z h0 o0 cc0 "heads" "[I" (.ref o10)) (V_o10 : Arv Z h0 o10 k11 .int 16 (.int 0 :: .int 1 :: .int 2 :: .int 3 :: .int 4 :: .int 5 :: .int 6 :: .int 7 :: zi8) (.int 0)) (V_o9 : Arv Z h0 o9 k12 .int 16 (.int (-1) :: .int (-1) :: .int (-1) :: .int (-1) :: .int (-1) :: .int (-1) :: .int (-1) :: .int (-1) :: zi8) (.int 0)) (F10_o0 : Fld Z h0 o0 cc0 "halves" "I" (.int 8)) (F11_o0 : Fld Z h0 o0 cc0 "sourceSide" "[Z" (.null)) (g_o1 : n0 ≤ o1) (ne_o0_o1 : o0 ≠ o1) (ne_o3_o1 : o3 ≠ o1) (g_o3 : n0 ≤ o3) (ne_o0_o3 : o0 ≠ o3) (ne_o10_o1 : o10 ≠ o1) (ne_o10_o3 : o10 ≠ o3) (ne_o9_o1 : o9 ≠ o1) (ne_o9_o3 : o9 ≠ o3) (g_o9 : n0 ≤ o9) (ne_o0_o9 : o0 ≠ o9) (ne_o10_o9 : o10 ≠ o9) (g_o10 : n0 ≤ o10) (ne_o0_o10 : o0 ≠ o10) (g_o0 : n0 ≤ o0) :
    MetFree l yy4 (head1 (Jvm.Cond.code yy4 bc4 3 none :: ws) rr3) (fun a U => a = #[.ref o0, .int 0, .int 1] ∧ Z.Warmed39 U.vm ∧ U.heap = h0) (fun _ _ _ _ _ => True) (fun _ U o U' => ∃ v L, o = .returned v ∧ Q6 Z o0 o1 k2 o3 k4 q5 q6 q7 q8 o9 o10 k11 k12 h0 n0 v U'.heap L ∧ FrameEnd U o U' L rr3.cells rr3.slots) := by
  refine MetFree.of_bodySF (plainFor_of_name pn_0) hisR ?_
  intro p e s m args below meth c s₁ Bd hml0 hP hK
  obtain ⟨rfl, hZ, hh⟩ := hP
  have hx := Bd.exec
  have hby := Bd.bytes
  have hml : c.maxLocals = 3 := hml0
  have hown : s.vm.findClass cc0 = some m.cls := findClass_of_methodNamed Bd.named
  have hnm := (name_of_methodNamed Bd.named Bd.method).1
  have X0 : Stand p l e rr3 s m #[.ref o0, .int 0, .int 1] below meth c s₁ [] 0 0 := Stand.of_body Bd
  have e0 : s₁.heap = h0 := by rw [← hh, Bd.state]; rfl
  have N0 := Fr.nil n0
  refine OGl.start (ef_6 m o0 (0 : Int32) (1 : Int32)) ?_
  show OGl _ _ _ _ s₁ (mkF m 0 #[rv o0, iv 0, iv 1] [])
  refine gO (fun t k => kaN X0 hx hby d6_0 rfl rfl (kc X0 hx hby d6_1 (kiN X0 hx hby d6_2 rfl (o_imul X0 hx hby d6_3 (kc X0 hx hby d6_4 (o_iadd X0 hx hby d6_5 (kc X0 hx hby d6_6 (kiN X0 hx hby d6_7 rfl (o_imul X0 hx hby d6_8 (own_ldc2 X0 hx hown (mvT hZ (w42 hw)) rfl (hb hby d6_9) k)))))))))) ?_
  show OGl _ _ _ _ s₁ (mkF m 12 #[rv o0, iv 0, iv 1] [.long 2305843009213693951, .int 2, .int 1, .ref o0])
  obtain ⟨cq489, q489a, q489b⟩ := (E_o0).cell
  obtain ⟨_, _, ⟨T489, L489, kk489, n489⟩, -, X489, ⟨Lc489, hQ489, l489, y489, z489⟩, st489⟩ := X0.privateBack hx (y := yy2) hown (mvT hZ (w27 hw)) (mvT hZ (w28 hw)) (own_selPriv (y := yy2) (Cond.privateMethod_at (mvP hZ (w29 hw) (args := #[]))) (mvT hZ (w28 hw)) (mvT hZ (w23 hw)) rfl) (Cond.privateMethod_at (mvP hZ (w29 hw) (args := #[]))) (mvT hZ (w30 hw)) (by decide) (backOf (W := 0) (rm4d l Z a0 hw [] o0 o1 k2 o3 k4 q5 q6 q7 q8 o9 o10 k11 k12 h0 n0 Z0 F1_o0 F2_o0 V_o1 E_o0 F4_o0 V_o3 F6_o0 F7_o0 V_o10 V_o9 F10_o0 F11_o0 g_o1 ne_o0_o1 ne_o3_o1 g_o3 ne_o0_o3 ne_o10_o1 ne_o10_o3 ne_o9_o1 ne_o9_o3 g_o9 ne_o0_o9 ne_o10_o9 g_o10 ne_o0_o10 g_o0) hZ (w30 hw) (w3 hw) (by decide) (by decide)) (g := (mkF m 12 #[rv o0, iv 0, iv 1] [.long 2305843009213693951, .int 2, .int 1, .ref o0])) rfl (by rw [hml]; rfl) (Steps.refl _) (a := o0) (by rw [e0]; exact q489a) q489b (argsL := [.int 1, .int 2, .long 2305843009213693951]) (rest := []) (lenOf pd_1 rfl) rfl (by show 2 * 0 + _ ≤ _; exact Nat.le_of_eq rfl) (hb hby d6_12) (fun _ _ => ⟨rfl, e0, (by decide : 0 + 0 ≤ _), (by decide : 0 + 0 ≤ _)⟩)
  dsimp only [Pt.U, Pt.locs, Pt.cells, Pt.slots] at X489 l489 y489 z489 st489 hQ489
  replace l489 := l489.symm
  subst l489 y489 z489
  obtain ⟨rfl, Nq489, K489, Fq489_0, Fq489_1, Fq489_2, Fq489_3, Fq489_4, Fq489_5, Fq489_6, Fq489_7, Fq489_8, Fq489_9, Fq489_10⟩ := hQ489
  have KK489 : Keep h0 T489.heap [o1, o3, o9, o10, o0] := (Keep.refl h0 [o1, o3, o9, o10, o0]).trans K489 (allS (Or.inl (List.mem_of_getElem? (i := 4) rfl)) (allS (Or.inl (List.mem_of_getElem? (i := 3) rfl)) (allS (Or.inl (List.mem_of_getElem? (i := 2) rfl)) (allS (Or.inl (List.mem_of_getElem? (i := 1) rfl)) (allS (Or.inl (List.mem_of_getElem? (i := 0) rfl)) all0)))))
  have N489 := Fr.app N0 Nq489
  refine gO (fun t k => st489.trans k) ?_
  show OGl _ _ _ _ T489 (mkF m 15 #[rv o0, iv 0, iv 1] [])
  obtain ⟨fs, hr, hrun, hended, hW, hsame⟩ := X489.leave (v := none) (fun _ => rfl) (BodyLoose.notSynchronized Bd)
  refine ⟨_, _, X489.returnOut hx Bd.returns (hb hby d6_15) hr, hrun, hended, _, _, rfl, ?_, ⟨_, rfl⟩, hW, hsame.mono (by decide) (by decide)⟩
  show Q6 Z o0 o1 k2 o3 k4 q5 q6 q7 q8 o9 o10 k11 k12 h0 n0 _ T489.heap _
  exact ⟨rfl, N489, KK489, Fq489_10, Fq489_9, Fq489_8, Fq489_7, Fq489_0, Fq489_1, Fq489_2, Fq489_3, Fq489_4, Fq489_5, Fq489_6⟩
theorem pd_3 : parseMethodDescriptor "(II)V" = some ⟨[.int, .int], none⟩ := by decide +kernel
abbrev zi5 : List Value := [.int 0, .int 0, .int 0, .int 0, .int 0]
abbrev zj5 : List Value := [.long 0, .long 0, .long 0, .long 0, .long 0]
def Q5j (Z : State) (o0 : Addr) (o1 : Addr) (k2 : ClassId) (o3 : Addr) (k4 : ClassId) (q5 : Int64) (q6 : Int64) (q7 : Int64) (q8 : Int64) (o9 : Addr) (o10 : Addr) (k11 : ClassId) (k12 : ClassId) (h0 : Heap) (n0 : Nat) (v : Option Value) (h : Heap) (L : List Loc) : Prop := v = none ∧ Fr n0 L ∧ Keep h0 h [o1, o3, o9, o10, o0] ∧ Arv Z h o1 k2 .int 16 (.int 1 :: .int 0 :: .int 3 :: .int 2 :: .int 5 :: .int 4 :: .int 7 :: .int 6 :: .int 2 :: .int 1 :: .int 4 :: zi5) (.int 0) ∧ Arv Z h o3 k4 .long 16 (.long q5 :: .long 0 :: .long q6 :: .long 0 :: .long q7 :: .long 0 :: .long q8 :: .long 0 :: .long 2305843009213693951 :: .long 0 :: .long 2305843009213693951 :: zj5) (.long 0) ∧ Arv Z h o9 k12 .int 16 (.int (-1) :: .int (-1) :: .int (-1) :: .int (-1) :: .int (-1) :: .int (-1) :: .int (-1) :: .int (-1) :: .int 1 :: .int 2 :: .int 3 :: zi5) (.int 0) ∧ Arv Z h o10 k11 .int 16 (.int 0 :: .int 8 :: .int 9 :: .int 10 :: .int 4 :: .int 5 :: .int 6 :: .int 7 :: zi8) (.int 0) ∧ Fld Z h o0 cc0 "edges" "I" (.int 11) ∧ Fld Z h o0 cc0 "halves" "I" (.int 8) ∧ Fld Z h o0 cc0 "heads" "[I" (.ref o10) ∧ Fld Z h o0 cc0 "nexts" "[I" (.ref o9) ∧ Fld Z h o0 cc0 "residues" "[J" (.ref o3) ∧ Fld Z h o0 cc0 "sourceSide" "[Z" (.null) ∧ Fld Z h o0 cc0 "targets" "[I" (.ref o1)
set_option maxRecDepth 65536 in
set_option maxHeartbeats 40000000 in
theorem rm5j (l : Launch) (Z : State) (a0 : Array Value) (hw : ∀ d ∈ tables_1, d.before a0 Z = true) (ws : List Jvm.Cond) (o0 : Addr) (o1 : Addr) (k2 : ClassId) (o3 : Addr) (k4 : ClassId) (q5 : Int64) (q6 : Int64) (q7 : Int64) (q8 : Int64) (o9 : Addr) (o10 : Addr) (k11 : ClassId) (k12 : ClassId) (h0 : Heap) (n0 : Nat) (Z0 : n0 ≤ h0.size) (F0_o0 : Fld Z h0 o0 cc0 "targets" "[I" (.ref o1)) (F1_o0 : Fld Z h0 o0 cc0 "edges" "I" (.int 10)) (V_o1 : Arv Z h0 o1 k2 .int 16 (.int 1 :: .int 0 :: .int 3 :: .int 2 :: .int 5 :: .int 4 :: .int 7 :: .int 6 :: .int 2 :: .int 1 :: zi6) (.int 0)) (g_o1 : n0 ≤ o1) (F4_o0 : Fld Z h0 o0 cc0 "residues" "[J" (.ref o3)) (ne_o0_o1 : o0 ≠ o1) (V_o3 : Arv Z h0 o3 k4 .long 16 (.long q5 :: .long 0 :: .long q6 :: .long 0 :: .long q7 :: .long 0 :: .long q8 :: .long 0 :: .long 2305843009213693951 :: zj7) (.long 0)) (ne_o3_o1 : o3 ≠ o1) (g_o3 : n0 ≤ o3) (F9_o0 : Fld Z h0 o0 cc0 "nexts" "[I" (.ref o9)) (ne_o0_o3 : o0 ≠ o3) (F11_o0 : Fld Z h0 o0 cc0 "heads" "[I" (.ref o10)) (V_o10 : Arv Z h0 o10 k11 .int 16 (.int 0 :: .int 8 :: .int 9 :: .int 3 :: .int 4 :: .int 5 :: .int 6 :: .int 7 :: zi8) (.int 0)) (ne_o10_o1 : o10 ≠ o1) (ne_o10_o3 : o10 ≠ o3) (V_o9 : Arv Z h0 o9 k12 .int 16 (.int (-1) :: .int (-1) :: .int (-1) :: .int (-1) :: .int (-1) :: .int (-1) :: .int (-1) :: .int (-1) :: .int 1 :: .int 2 :: zi6) (.int 0)) (ne_o9_o1 : o9 ≠ o1) (ne_o9_o3 : o9 ≠ o3) (g_o9 : n0 ≤ o9) (ne_o0_o9 : o0 ≠ o9) (ne_o10_o9 : o10 ≠ o9) (g_o10 : n0 ≤ o10) (ne_o0_o10 : o0 ≠ o10) (E_o0 : Exa Z h0 o0 cc0) (F24_o0 : Fld Z h0 o0 cc0 "halves" "I" (.int 8)) (F25_o0 : Fld Z h0 o0 cc0 "sourceSide" "[Z" (.null)) (g_o0 : n0 ≤ o0) :
    MetFree l yy1 (head1 (Jvm.Cond.code yy1 bc3 5 none :: ws) rr1) (fun a U => a = #[.ref o0, .int 3, .int 4, .long 2305843009213693951] ∧ Z.Warmed39 U.vm ∧ U.heap = h0) (fun _ _ _ _ _ => True) (fun _ U o U' => ∃ v L, o = .returned v ∧ Q5j Z o0 o1 k2 o3 k4 q5 q6 q7 q8 o9 o10 k11 k12 h0 n0 v U'.heap L ∧ FrameEnd U o U' L rr1.cells rr1.slots) := by
  refine MetFree.of_bodySF (plainFor_of_name pn_0) hisR ?_
  intro p e s m args below meth c s₁ Bd hml0 hP hK
  obtain ⟨rfl, hZ, hh⟩ := hP
  have hx := Bd.exec
  have hby := Bd.bytes
  have hml : c.maxLocals = 5 := hml0
  have hown : s.vm.findClass cc0 = some m.cls := findClass_of_methodNamed Bd.named
  have hnm := (name_of_methodNamed Bd.named Bd.method).1
  have X0 : Stand p l e rr1 s m #[.ref o0, .int 3, .int 4, .long 2305843009213693951] below meth c s₁ [] 0 0 := Stand.of_body Bd
  have e0 : s₁.heap = h0 := by rw [← hh, Bd.state]; rfl
  have N0 := Fr.nil n0
  refine OGl.start (ef_5 m o0 (3 : Int32) (4 : Int32) (2305843009213693951 : Int64)) ?_
  show OGl _ _ _ _ s₁ (mkF m 0 #[rv o0, iv 3, iv 4, jv 2305843009213693951, sc] [])
  refine gO (fun t k => kaN X0 hx hby d5_0 rfl rfl k) (gG X0 hx hby hZ hown (w13 hw) e0 F0_o0 d5_1 fun T577 X577 e577 => gO (fun t k => kaN X577 hx hby d5_4 rfl rfl k) (gG X577 hx hby hZ hown (w31 hw) e577 F1_o0 d5_5 fun T578 X578 e578 => gO (fun t k => kiN X578 hx hby d5_8 rfl k) ?_))
  show OGl _ _ _ _ T578 (mkF m 9 #[rv o0, iv 3, iv 4, jv 2305843009213693951, sc] [.int 4, .int 10, .ref o1])
  refine wI X578 hx hby hZ e578 V_o1 10 rfl (Nat.le_of_ble_eq_true rfl) d5_9 fun T579 h579 X579 e579 W579 V579 => ?_
  have N579 := Fr.snoc X579 N0 g_o1
  have KK579 := (Keep.refl h0 [o1, o3, o9, o10, o0]).wr W579 (Or.inl (List.mem_of_getElem? (i := 0) rfl))
  show OGl _ _ _ _ T579 (mkF m 10 #[rv o0, iv 3, iv 4, jv 2305843009213693951, sc] [])
  have F580 := (F4_o0.other W579 (Or.inl ne_o0_o1))
  have F582 := (F1_o0.other W579 (Or.inl ne_o0_o1))
  refine gO (fun t k => kaN X579 hx hby d5_10 rfl rfl k) (gG X579 hx hby hZ hown (w18 hw) e579 F580 d5_11 fun T581 X581 e581 => gO (fun t k => kaN X581 hx hby d5_14 rfl rfl k) (gG X581 hx hby hZ hown (w31 hw) e581 F582 d5_15 fun T583 X583 e583 => gO (fun t k => klN X583 hx hby d5_18 rfl k) ?_))
  show OGl _ _ _ _ T583 (mkF m 19 #[rv o0, iv 3, iv 4, jv 2305843009213693951, sc] [.long 2305843009213693951, .int 10, .ref o3])
  have F584 := (V_o3.other W579 ne_o3_o1)
  refine wJ X583 hx hby hZ e583 F584 10 rfl (Nat.le_of_ble_eq_true rfl) d5_19 fun T585 h585 X585 e585 W585 V585 => ?_
  have N585 := Fr.snoc X585 N579 g_o3
  have KK585 := KK579.wr W585 (Or.inl (List.mem_of_getElem? (i := 1) rfl))
  show OGl _ _ _ _ T585 (mkF m 20 #[rv o0, iv 3, iv 4, jv 2305843009213693951, sc] [])
  have F586 := ((F9_o0.other W579 (Or.inl ne_o0_o1)).other W585 (Or.inl ne_o0_o3))
  have F588 := (F582.other W585 (Or.inl ne_o0_o3))
  have F590 := ((F11_o0.other W579 (Or.inl ne_o0_o1)).other W585 (Or.inl ne_o0_o3))
  have F592 := ((V_o10.other W579 ne_o10_o1).other W585 ne_o10_o3)
  refine gO (fun t k => kaN X585 hx hby d5_20 rfl rfl k) (gG X585 hx hby hZ hown (w15 hw) e585 F586 d5_21 fun T587 X587 e587 => gO (fun t k => kaN X587 hx hby d5_24 rfl rfl k) (gG X587 hx hby hZ hown (w31 hw) e587 F588 d5_25 fun T589 X589 e589 => gO (fun t k => kaN X589 hx hby d5_28 rfl rfl k) (gG X589 hx hby hZ hown (w11 hw) e589 F590 d5_29 fun T591 X591 e591 => gO (fun t k => kiN X591 hx hby d5_32 rfl (rI X591 hx hby hZ e591 F592 (.int 3) rfl rfl d5_33 k)) ?_)))
  show OGl _ _ _ _ T591 (mkF m 34 #[rv o0, iv 3, iv 4, jv 2305843009213693951, sc] [.int 3, .int 10, .ref o9])
  have F593 := ((V_o9.other W579 ne_o9_o1).other W585 ne_o9_o3)
  refine wI X591 hx hby hZ e591 F593 10 rfl (Nat.le_of_ble_eq_true rfl) d5_34 fun T594 h594 X594 e594 W594 V594 => ?_
  have N594 := Fr.snoc X594 N585 g_o9
  have KK594 := KK585.wr W594 (Or.inl (List.mem_of_getElem? (i := 2) rfl))
  show OGl _ _ _ _ T594 (mkF m 35 #[rv o0, iv 3, iv 4, jv 2305843009213693951, sc] [])
  have F595 := (F590.other W594 (Or.inl ne_o0_o9))
  have F597 := (F588.other W594 (Or.inl ne_o0_o9))
  refine gO (fun t k => kaN X594 hx hby d5_35 rfl rfl k) (gG X594 hx hby hZ hown (w11 hw) e594 F595 d5_36 fun T596 X596 e596 => gO (fun t k => kiN X596 hx hby d5_39 rfl (kaN X596 hx hby d5_40 rfl rfl k)) (gG X596 hx hby hZ hown (w31 hw) e596 F597 d5_41 fun T598 X598 e598 => ?_))
  show OGl _ _ _ _ T598 (mkF m 44 #[rv o0, iv 3, iv 4, jv 2305843009213693951, sc] [.int 10, .int 3, .ref o10])
  have F599 := (F592.other W594 ne_o10_o9)
  refine wI X598 hx hby hZ e598 F599 3 rfl (Nat.le_of_ble_eq_true rfl) d5_44 fun T600 h600 X600 e600 W600 V600 => ?_
  have N600 := Fr.snoc X600 N594 g_o10
  have KK600 := KK594.wr W600 (Or.inl (List.mem_of_getElem? (i := 3) rfl))
  show OGl _ _ _ _ T600 (mkF m 45 #[rv o0, iv 3, iv 4, jv 2305843009213693951, sc] [])
  have F601 := (F597.other W600 (Or.inl ne_o0_o10))
  refine gO (fun t k => kaN X600 hx hby d5_45 rfl rfl (o_dup X600 hx hby d5_46 rfl k)) (gG X600 hx hby hZ hown (w31 hw) e600 F601 d5_47 fun T602 X602 e602 => gO (fun t k => kc X602 hx hby d5_50 (o_iadd X602 hx hby d5_51 k)) ?_)
  show OGl _ _ _ _ T602 (mkF m 52 #[rv o0, iv 3, iv 4, jv 2305843009213693951, sc] [.int 11, .ref o0])
  have F603 := ((((E_o0.wr W579).wr W585).wr W594).wr W600)
  obtain ⟨T604, h604, X604, e604, W604, st604⟩ := putF X602 hx hZ hown (host := "") (Or.inl (w31 hw)) Via.refl e602 F601 F603 (Or.inl (w32 hw)) (w2 hw) (ty := .int) (by decide) rfl rfl (g := (mkF m 52 #[rv o0, iv 3, iv 4, jv 2305843009213693951, sc] [.int 11, .ref o0])) rfl rfl (hb hby d5_52)
  refine gO st604 ?_
  have N604 := Fr.snoc X604 N600 g_o0
  have Fw604 := F601.same W604
  have KK604 := KK600.wr W604 (Or.inl (List.mem_of_getElem? (i := 4) rfl))
  show OGl _ _ _ _ T604 (mkF m 55 #[rv o0, iv 3, iv 4, jv 2305843009213693951, sc] [])
  obtain ⟨fs, hr, hrun, hended, hW, hsame⟩ := X604.leave (v := none) (fun _ => rfl) (BodyLoose.notSynchronized Bd)
  refine ⟨_, _, X604.returnOut hx Bd.returns (hb hby d5_55) hr, hrun, hended, _, _, rfl, ?_, ⟨_, rfl⟩, hW, hsame.mono (by decide) (by decide)⟩
  show Q5j Z o0 o1 k2 o3 k4 q5 q6 q7 q8 o9 o10 k11 k12 h0 n0 _ T604.heap _
  rw [e604]
  have F605 := ((((V579.other W585 (Ne.symm ne_o3_o1)).other W594 (Ne.symm ne_o9_o1)).other W600 (Ne.symm ne_o10_o1)).other W604 (Ne.symm ne_o0_o1))
  have F606 := (((V585.other W594 (Ne.symm ne_o9_o3)).other W600 (Ne.symm ne_o10_o3)).other W604 (Ne.symm ne_o0_o3))
  have F607 := ((V594.other W600 (Ne.symm ne_o10_o9)).other W604 (Ne.symm ne_o0_o9))
  have F608 := (V600.other W604 (Ne.symm ne_o0_o10))
  have F609 := (((((F24_o0.other W579 (Or.inl ne_o0_o1)).other W585 (Or.inl ne_o0_o3)).other W594 (Or.inl ne_o0_o9)).other W600 (Or.inl ne_o0_o10)).other W604 (Or.inr (sn26_32 hw)))
  have F610 := ((F595.other W600 (Or.inl ne_o0_o10)).other W604 (Or.inr (sn12_32 hw)))
  have F611 := (((F586.other W594 (Or.inl ne_o0_o9)).other W600 (Or.inl ne_o0_o10)).other W604 (Or.inr (sn16_32 hw)))
  have F612 := ((((F580.other W585 (Or.inl ne_o0_o3)).other W594 (Or.inl ne_o0_o9)).other W600 (Or.inl ne_o0_o10)).other W604 (Or.inr (sn19_32 hw)))
  have F613 := (((((F25_o0.other W579 (Or.inl ne_o0_o1)).other W585 (Or.inl ne_o0_o3)).other W594 (Or.inl ne_o0_o9)).other W600 (Or.inl ne_o0_o10)).other W604 (Or.inr (sn59_32 hw)))
  have F614 := (((((F0_o0.other W579 (Or.inl ne_o0_o1)).other W585 (Or.inl ne_o0_o3)).other W594 (Or.inl ne_o0_o9)).other W600 (Or.inl ne_o0_o10)).other W604 (Or.inr (sn14_32 hw)))
  exact ⟨rfl, N604, KK604, F605, F606, F607, F608, Fw604, F609, F610, F611, F612, F613, F614⟩
abbrev zi4 : List Value := [.int 0, .int 0, .int 0, .int 0]
def Q5k (Z : State) (o0 : Addr) (o1 : Addr) (k2 : ClassId) (o3 : Addr) (k4 : ClassId) (q5 : Int64) (q6 : Int64) (q7 : Int64) (q8 : Int64) (o9 : Addr) (o10 : Addr) (k11 : ClassId) (k12 : ClassId) (h0 : Heap) (n0 : Nat) (v : Option Value) (h : Heap) (L : List Loc) : Prop := v = none ∧ Fr n0 L ∧ Keep h0 h [o1, o3, o9, o10, o0] ∧ Arv Z h o1 k2 .int 16 (.int 1 :: .int 0 :: .int 3 :: .int 2 :: .int 5 :: .int 4 :: .int 7 :: .int 6 :: .int 2 :: .int 1 :: .int 4 :: .int 3 :: zi4) (.int 0) ∧ Arv Z h o3 k4 .long 16 (.long q5 :: .long 0 :: .long q6 :: .long 0 :: .long q7 :: .long 0 :: .long q8 :: .long 0 :: .long 2305843009213693951 :: .long 0 :: .long 2305843009213693951 :: zj5) (.long 0) ∧ Arv Z h o9 k12 .int 16 (.int (-1) :: .int (-1) :: .int (-1) :: .int (-1) :: .int (-1) :: .int (-1) :: .int (-1) :: .int (-1) :: .int 1 :: .int 2 :: .int 3 :: .int 4 :: zi4) (.int 0) ∧ Arv Z h o10 k11 .int 16 (.int 0 :: .int 8 :: .int 9 :: .int 10 :: .int 11 :: .int 5 :: .int 6 :: .int 7 :: zi8) (.int 0) ∧ Fld Z h o0 cc0 "edges" "I" (.int 12) ∧ Fld Z h o0 cc0 "halves" "I" (.int 8) ∧ Fld Z h o0 cc0 "heads" "[I" (.ref o10) ∧ Fld Z h o0 cc0 "nexts" "[I" (.ref o9) ∧ Fld Z h o0 cc0 "residues" "[J" (.ref o3) ∧ Fld Z h o0 cc0 "sourceSide" "[Z" (.null) ∧ Fld Z h o0 cc0 "targets" "[I" (.ref o1)
set_option maxRecDepth 65536 in
set_option maxHeartbeats 40000000 in
theorem rm5k (l : Launch) (Z : State) (a0 : Array Value) (hw : ∀ d ∈ tables_1, d.before a0 Z = true) (ws : List Jvm.Cond) (o0 : Addr) (o1 : Addr) (k2 : ClassId) (o3 : Addr) (k4 : ClassId) (q5 : Int64) (q6 : Int64) (q7 : Int64) (q8 : Int64) (o9 : Addr) (o10 : Addr) (k11 : ClassId) (k12 : ClassId) (h0 : Heap) (n0 : Nat) (Z0 : n0 ≤ h0.size) (F0_o0 : Fld Z h0 o0 cc0 "targets" "[I" (.ref o1)) (F1_o0 : Fld Z h0 o0 cc0 "edges" "I" (.int 11)) (V_o1 : Arv Z h0 o1 k2 .int 16 (.int 1 :: .int 0 :: .int 3 :: .int 2 :: .int 5 :: .int 4 :: .int 7 :: .int 6 :: .int 2 :: .int 1 :: .int 4 :: zi5) (.int 0)) (g_o1 : n0 ≤ o1) (F4_o0 : Fld Z h0 o0 cc0 "residues" "[J" (.ref o3)) (ne_o0_o1 : o0 ≠ o1) (V_o3 : Arv Z h0 o3 k4 .long 16 (.long q5 :: .long 0 :: .long q6 :: .long 0 :: .long q7 :: .long 0 :: .long q8 :: .long 0 :: .long 2305843009213693951 :: .long 0 :: .long 2305843009213693951 :: zj5) (.long 0)) (ne_o3_o1 : o3 ≠ o1) (g_o3 : n0 ≤ o3) (F9_o0 : Fld Z h0 o0 cc0 "nexts" "[I" (.ref o9)) (ne_o0_o3 : o0 ≠ o3) (F11_o0 : Fld Z h0 o0 cc0 "heads" "[I" (.ref o10)) (V_o10 : Arv Z h0 o10 k11 .int 16 (.int 0 :: .int 8 :: .int 9 :: .int 10 :: .int 4 :: .int 5 :: .int 6 :: .int 7 :: zi8) (.int 0)) (ne_o10_o1 : o10 ≠ o1) (ne_o10_o3 : o10 ≠ o3) (V_o9 : Arv Z h0 o9 k12 .int 16 (.int (-1) :: .int (-1) :: .int (-1) :: .int (-1) :: .int (-1) :: .int (-1) :: .int (-1) :: .int (-1) :: .int 1 :: .int 2 :: .int 3 :: zi5) (.int 0)) (ne_o9_o1 : o9 ≠ o1) (ne_o9_o3 : o9 ≠ o3) (g_o9 : n0 ≤ o9) (ne_o0_o9 : o0 ≠ o9) (ne_o10_o9 : o10 ≠ o9) (g_o10 : n0 ≤ o10) (ne_o0_o10 : o0 ≠ o10) (E_o0 : Exa Z h0 o0 cc0) (F24_o0 : Fld Z h0 o0 cc0 "halves" "I" (.int 8)) (F25_o0 : Fld Z h0 o0 cc0 "sourceSide" "[Z" (.null)) (g_o0 : n0 ≤ o0) :
    MetFree l yy1 (head1 (Jvm.Cond.code yy1 bc3 5 none :: ws) rr1) (fun a U => a = #[.ref o0, .int 4, .int 3, .long 0] ∧ Z.Warmed39 U.vm ∧ U.heap = h0) (fun _ _ _ _ _ => True) (fun _ U o U' => ∃ v L, o = .returned v ∧ Q5k Z o0 o1 k2 o3 k4 q5 q6 q7 q8 o9 o10 k11 k12 h0 n0 v U'.heap L ∧ FrameEnd U o U' L rr1.cells rr1.slots) := by
  refine MetFree.of_bodySF (plainFor_of_name pn_0) hisR ?_
  intro p e s m args below meth c s₁ Bd hml0 hP hK
  obtain ⟨rfl, hZ, hh⟩ := hP
  have hx := Bd.exec
  have hby := Bd.bytes
  have hml : c.maxLocals = 5 := hml0
  have hown : s.vm.findClass cc0 = some m.cls := findClass_of_methodNamed Bd.named
  have hnm := (name_of_methodNamed Bd.named Bd.method).1
  have X0 : Stand p l e rr1 s m #[.ref o0, .int 4, .int 3, .long 0] below meth c s₁ [] 0 0 := Stand.of_body Bd
  have e0 : s₁.heap = h0 := by rw [← hh, Bd.state]; rfl
  have N0 := Fr.nil n0
  refine OGl.start (ef_5 m o0 (4 : Int32) (3 : Int32) (0 : Int64)) ?_
  show OGl _ _ _ _ s₁ (mkF m 0 #[rv o0, iv 4, iv 3, jv 0, sc] [])
  refine gO (fun t k => kaN X0 hx hby d5_0 rfl rfl k) (gG X0 hx hby hZ hown (w13 hw) e0 F0_o0 d5_1 fun T616 X616 e616 => gO (fun t k => kaN X616 hx hby d5_4 rfl rfl k) (gG X616 hx hby hZ hown (w31 hw) e616 F1_o0 d5_5 fun T617 X617 e617 => gO (fun t k => kiN X617 hx hby d5_8 rfl k) ?_))
  show OGl _ _ _ _ T617 (mkF m 9 #[rv o0, iv 4, iv 3, jv 0, sc] [.int 3, .int 11, .ref o1])
  refine wI X617 hx hby hZ e617 V_o1 11 rfl (Nat.le_of_ble_eq_true rfl) d5_9 fun T618 h618 X618 e618 W618 V618 => ?_
  have N618 := Fr.snoc X618 N0 g_o1
  have KK618 := (Keep.refl h0 [o1, o3, o9, o10, o0]).wr W618 (Or.inl (List.mem_of_getElem? (i := 0) rfl))
  show OGl _ _ _ _ T618 (mkF m 10 #[rv o0, iv 4, iv 3, jv 0, sc] [])
  have F619 := (F4_o0.other W618 (Or.inl ne_o0_o1))
  have F621 := (F1_o0.other W618 (Or.inl ne_o0_o1))
  refine gO (fun t k => kaN X618 hx hby d5_10 rfl rfl k) (gG X618 hx hby hZ hown (w18 hw) e618 F619 d5_11 fun T620 X620 e620 => gO (fun t k => kaN X620 hx hby d5_14 rfl rfl k) (gG X620 hx hby hZ hown (w31 hw) e620 F621 d5_15 fun T622 X622 e622 => gO (fun t k => klN X622 hx hby d5_18 rfl k) ?_))
  show OGl _ _ _ _ T622 (mkF m 19 #[rv o0, iv 4, iv 3, jv 0, sc] [.long 0, .int 11, .ref o3])
  have F623 := (V_o3.other W618 ne_o3_o1)
  refine wJ X622 hx hby hZ e622 F623 11 rfl (Nat.le_of_ble_eq_true rfl) d5_19 fun T624 h624 X624 e624 W624 V624 => ?_
  have N624 := Fr.snoc X624 N618 g_o3
  have KK624 := KK618.wr W624 (Or.inl (List.mem_of_getElem? (i := 1) rfl))
  show OGl _ _ _ _ T624 (mkF m 20 #[rv o0, iv 4, iv 3, jv 0, sc] [])
  have F625 := ((F9_o0.other W618 (Or.inl ne_o0_o1)).other W624 (Or.inl ne_o0_o3))
  have F627 := (F621.other W624 (Or.inl ne_o0_o3))
  have F629 := ((F11_o0.other W618 (Or.inl ne_o0_o1)).other W624 (Or.inl ne_o0_o3))
  have F631 := ((V_o10.other W618 ne_o10_o1).other W624 ne_o10_o3)
  refine gO (fun t k => kaN X624 hx hby d5_20 rfl rfl k) (gG X624 hx hby hZ hown (w15 hw) e624 F625 d5_21 fun T626 X626 e626 => gO (fun t k => kaN X626 hx hby d5_24 rfl rfl k) (gG X626 hx hby hZ hown (w31 hw) e626 F627 d5_25 fun T628 X628 e628 => gO (fun t k => kaN X628 hx hby d5_28 rfl rfl k) (gG X628 hx hby hZ hown (w11 hw) e628 F629 d5_29 fun T630 X630 e630 => gO (fun t k => kiN X630 hx hby d5_32 rfl (rI X630 hx hby hZ e630 F631 (.int 4) rfl rfl d5_33 k)) ?_)))
  show OGl _ _ _ _ T630 (mkF m 34 #[rv o0, iv 4, iv 3, jv 0, sc] [.int 4, .int 11, .ref o9])
  have F632 := ((V_o9.other W618 ne_o9_o1).other W624 ne_o9_o3)
  refine wI X630 hx hby hZ e630 F632 11 rfl (Nat.le_of_ble_eq_true rfl) d5_34 fun T633 h633 X633 e633 W633 V633 => ?_
  have N633 := Fr.snoc X633 N624 g_o9
  have KK633 := KK624.wr W633 (Or.inl (List.mem_of_getElem? (i := 2) rfl))
  show OGl _ _ _ _ T633 (mkF m 35 #[rv o0, iv 4, iv 3, jv 0, sc] [])
  have F634 := (F629.other W633 (Or.inl ne_o0_o9))
  have F636 := (F627.other W633 (Or.inl ne_o0_o9))
  refine gO (fun t k => kaN X633 hx hby d5_35 rfl rfl k) (gG X633 hx hby hZ hown (w11 hw) e633 F634 d5_36 fun T635 X635 e635 => gO (fun t k => kiN X635 hx hby d5_39 rfl (kaN X635 hx hby d5_40 rfl rfl k)) (gG X635 hx hby hZ hown (w31 hw) e635 F636 d5_41 fun T637 X637 e637 => ?_))
  show OGl _ _ _ _ T637 (mkF m 44 #[rv o0, iv 4, iv 3, jv 0, sc] [.int 11, .int 4, .ref o10])
  have F638 := (F631.other W633 ne_o10_o9)
  refine wI X637 hx hby hZ e637 F638 4 rfl (Nat.le_of_ble_eq_true rfl) d5_44 fun T639 h639 X639 e639 W639 V639 => ?_
  have N639 := Fr.snoc X639 N633 g_o10
  have KK639 := KK633.wr W639 (Or.inl (List.mem_of_getElem? (i := 3) rfl))
  show OGl _ _ _ _ T639 (mkF m 45 #[rv o0, iv 4, iv 3, jv 0, sc] [])
  have F640 := (F636.other W639 (Or.inl ne_o0_o10))
  refine gO (fun t k => kaN X639 hx hby d5_45 rfl rfl (o_dup X639 hx hby d5_46 rfl k)) (gG X639 hx hby hZ hown (w31 hw) e639 F640 d5_47 fun T641 X641 e641 => gO (fun t k => kc X641 hx hby d5_50 (o_iadd X641 hx hby d5_51 k)) ?_)
  show OGl _ _ _ _ T641 (mkF m 52 #[rv o0, iv 4, iv 3, jv 0, sc] [.int 12, .ref o0])
  have F642 := ((((E_o0.wr W618).wr W624).wr W633).wr W639)
  obtain ⟨T643, h643, X643, e643, W643, st643⟩ := putF X641 hx hZ hown (host := "") (Or.inl (w31 hw)) Via.refl e641 F640 F642 (Or.inl (w32 hw)) (w2 hw) (ty := .int) (by decide) rfl rfl (g := (mkF m 52 #[rv o0, iv 4, iv 3, jv 0, sc] [.int 12, .ref o0])) rfl rfl (hb hby d5_52)
  refine gO st643 ?_
  have N643 := Fr.snoc X643 N639 g_o0
  have Fw643 := F640.same W643
  have KK643 := KK639.wr W643 (Or.inl (List.mem_of_getElem? (i := 4) rfl))
  show OGl _ _ _ _ T643 (mkF m 55 #[rv o0, iv 4, iv 3, jv 0, sc] [])
  obtain ⟨fs, hr, hrun, hended, hW, hsame⟩ := X643.leave (v := none) (fun _ => rfl) (BodyLoose.notSynchronized Bd)
  refine ⟨_, _, X643.returnOut hx Bd.returns (hb hby d5_55) hr, hrun, hended, _, _, rfl, ?_, ⟨_, rfl⟩, hW, hsame.mono (by decide) (by decide)⟩
  show Q5k Z o0 o1 k2 o3 k4 q5 q6 q7 q8 o9 o10 k11 k12 h0 n0 _ T643.heap _
  rw [e643]
  have F644 := ((((V618.other W624 (Ne.symm ne_o3_o1)).other W633 (Ne.symm ne_o9_o1)).other W639 (Ne.symm ne_o10_o1)).other W643 (Ne.symm ne_o0_o1))
  have F645 := (((V624.other W633 (Ne.symm ne_o9_o3)).other W639 (Ne.symm ne_o10_o3)).other W643 (Ne.symm ne_o0_o3))
  have F646 := ((V633.other W639 (Ne.symm ne_o10_o9)).other W643 (Ne.symm ne_o0_o9))
  have F647 := (V639.other W643 (Ne.symm ne_o0_o10))
  have F648 := (((((F24_o0.other W618 (Or.inl ne_o0_o1)).other W624 (Or.inl ne_o0_o3)).other W633 (Or.inl ne_o0_o9)).other W639 (Or.inl ne_o0_o10)).other W643 (Or.inr (sn26_32 hw)))
  have F649 := ((F634.other W639 (Or.inl ne_o0_o10)).other W643 (Or.inr (sn12_32 hw)))
  have F650 := (((F625.other W633 (Or.inl ne_o0_o9)).other W639 (Or.inl ne_o0_o10)).other W643 (Or.inr (sn16_32 hw)))
  have F651 := ((((F619.other W624 (Or.inl ne_o0_o3)).other W633 (Or.inl ne_o0_o9)).other W639 (Or.inl ne_o0_o10)).other W643 (Or.inr (sn19_32 hw)))
  have F652 := (((((F25_o0.other W618 (Or.inl ne_o0_o1)).other W624 (Or.inl ne_o0_o3)).other W633 (Or.inl ne_o0_o9)).other W639 (Or.inl ne_o0_o10)).other W643 (Or.inr (sn59_32 hw)))
  have F653 := (((((F0_o0.other W618 (Or.inl ne_o0_o1)).other W624 (Or.inl ne_o0_o3)).other W633 (Or.inl ne_o0_o9)).other W639 (Or.inl ne_o0_o10)).other W643 (Or.inr (sn14_32 hw)))
  exact ⟨rfl, N643, KK643, F644, F645, F646, F647, Fw643, F648, F649, F650, F651, F652, F653⟩
def Q4e (Z : State) (o0 : Addr) (o1 : Addr) (k2 : ClassId) (o3 : Addr) (k4 : ClassId) (q5 : Int64) (q6 : Int64) (q7 : Int64) (q8 : Int64) (o9 : Addr) (o10 : Addr) (k11 : ClassId) (k12 : ClassId) (h0 : Heap) (n0 : Nat) (v : Option Value) (h : Heap) (L : List Loc) : Prop := v = none ∧ Fr n0 L ∧ Keep h0 h [o0, o10, o9, o3, o1] ∧ Fld Z h o0 cc0 "edges" "I" (.int 12) ∧ Fld Z h o0 cc0 "halves" "I" (.int 8) ∧ Fld Z h o0 cc0 "heads" "[I" (.ref o10) ∧ Fld Z h o0 cc0 "nexts" "[I" (.ref o9) ∧ Fld Z h o0 cc0 "residues" "[J" (.ref o3) ∧ Fld Z h o0 cc0 "sourceSide" "[Z" (.null) ∧ Fld Z h o0 cc0 "targets" "[I" (.ref o1) ∧ Arv Z h o10 k11 .int 16 (.int 0 :: .int 8 :: .int 9 :: .int 10 :: .int 11 :: .int 5 :: .int 6 :: .int 7 :: zi8) (.int 0) ∧ Arv Z h o9 k12 .int 16 (.int (-1) :: .int (-1) :: .int (-1) :: .int (-1) :: .int (-1) :: .int (-1) :: .int (-1) :: .int (-1) :: .int 1 :: .int 2 :: .int 3 :: .int 4 :: zi4) (.int 0) ∧ Arv Z h o3 k4 .long 16 (.long q5 :: .long 0 :: .long q6 :: .long 0 :: .long q7 :: .long 0 :: .long q8 :: .long 0 :: .long 2305843009213693951 :: .long 0 :: .long 2305843009213693951 :: zj5) (.long 0) ∧ Arv Z h o1 k2 .int 16 (.int 1 :: .int 0 :: .int 3 :: .int 2 :: .int 5 :: .int 4 :: .int 7 :: .int 6 :: .int 2 :: .int 1 :: .int 4 :: .int 3 :: zi4) (.int 0)
set_option maxRecDepth 65536 in
set_option maxHeartbeats 40000000 in
theorem rm4e (l : Launch) (Z : State) (a0 : Array Value) (hw : ∀ d ∈ tables_1, d.before a0 Z = true) (ws : List Jvm.Cond) (o0 : Addr) (o1 : Addr) (k2 : ClassId) (o3 : Addr) (k4 : ClassId) (q5 : Int64) (q6 : Int64) (q7 : Int64) (q8 : Int64) (o9 : Addr) (o10 : Addr) (k11 : ClassId) (k12 : ClassId) (h0 : Heap) (n0 : Nat) (Z0 : n0 ≤ h0.size) (F0_o0 : Fld Z h0 o0 cc0 "edges" "I" (.int 10)) (F1_o0 : Fld Z h0 o0 cc0 "targets" "[I" (.ref o1)) (V_o1 : Arv Z h0 o1 k2 .int 16 (.int 1 :: .int 0 :: .int 3 :: .int 2 :: .int 5 :: .int 4 :: .int 7 :: .int 6 :: .int 2 :: .int 1 :: zi6) (.int 0)) (E_o0 : Exa Z h0 o0 cc0) (F4_o0 : Fld Z h0 o0 cc0 "residues" "[J" (.ref o3)) (V_o3 : Arv Z h0 o3 k4 .long 16 (.long q5 :: .long 0 :: .long q6 :: .long 0 :: .long q7 :: .long 0 :: .long q8 :: .long 0 :: .long 2305843009213693951 :: zj7) (.long 0)) (F6_o0 : Fld Z h0 o0 cc0 "nexts" "[I" (.ref o9)) (F7_o0 : Fld Z h0 o0 cc0 "heads" "[I" (.ref o10)) (V_o10 : Arv Z h0 o10 k11 .int 16 (.int 0 :: .int 8 :: .int 9 :: .int 3 :: .int 4 :: .int 5 :: .int 6 :: .int 7 :: zi8) (.int 0)) (V_o9 : Arv Z h0 o9 k12 .int 16 (.int (-1) :: .int (-1) :: .int (-1) :: .int (-1) :: .int (-1) :: .int (-1) :: .int (-1) :: .int (-1) :: .int 1 :: .int 2 :: zi6) (.int 0)) (F10_o0 : Fld Z h0 o0 cc0 "halves" "I" (.int 8)) (F11_o0 : Fld Z h0 o0 cc0 "sourceSide" "[Z" (.null)) (g_o1 : n0 ≤ o1) (ne_o0_o1 : o0 ≠ o1) (ne_o3_o1 : o3 ≠ o1) (g_o3 : n0 ≤ o3) (ne_o0_o3 : o0 ≠ o3) (ne_o10_o1 : o10 ≠ o1) (ne_o10_o3 : o10 ≠ o3) (ne_o9_o1 : o9 ≠ o1) (ne_o9_o3 : o9 ≠ o3) (g_o9 : n0 ≤ o9) (ne_o0_o9 : o0 ≠ o9) (ne_o10_o9 : o10 ≠ o9) (g_o10 : n0 ≤ o10) (ne_o0_o10 : o0 ≠ o10) (g_o0 : n0 ≤ o0) :
    MetFree l yy2 (head1 (Jvm.Cond.code yy2 bc2 5 none :: ws) rr2) (fun a U => a = #[.ref o0, .int 3, .int 4, .long 2305843009213693951] ∧ Z.Warmed39 U.vm ∧ U.heap = h0) (fun _ _ _ _ _ => True) (fun _ U o U' => ∃ v L, o = .returned v ∧ Q4e Z o0 o1 k2 o3 k4 q5 q6 q7 q8 o9 o10 k11 k12 h0 n0 v U'.heap L ∧ FrameEnd U o U' L rr2.cells rr2.slots) := by
  refine MetFree.of_bodySF (plainFor_of_name pn_0) hisR ?_
  intro p e s m args below meth c s₁ Bd hml0 hP hK
  obtain ⟨rfl, hZ, hh⟩ := hP
  have hx := Bd.exec
  have hby := Bd.bytes
  have hml : c.maxLocals = 5 := hml0
  have hown : s.vm.findClass cc0 = some m.cls := findClass_of_methodNamed Bd.named
  have hnm := (name_of_methodNamed Bd.named Bd.method).1
  have X0 : Stand p l e rr2 s m #[.ref o0, .int 3, .int 4, .long 2305843009213693951] below meth c s₁ [] 0 0 := Stand.of_body Bd
  have e0 : s₁.heap = h0 := by rw [← hh, Bd.state]; rfl
  have N0 := Fr.nil n0
  refine OGl.start (ef_4 m o0 (3 : Int32) (4 : Int32) (2305843009213693951 : Int64)) ?_
  show OGl _ _ _ _ s₁ (mkF m 0 #[rv o0, iv 3, iv 4, jv 2305843009213693951, sc] [])
  refine gO (fun t k => kaN X0 hx hby d4_0 rfl rfl k) (gG X0 hx hby hZ hown (w31 hw) e0 F0_o0 d4_1 fun T574 X574 e574 => gO (fun t k => kc X574 hx hby d4_4 (o_iadd X574 hx hby d4_5 (kaN X574 hx hby d4_6 rfl rfl k))) (gG X574 hx hby hZ hown (w13 hw) e574 F1_o0 d4_7 fun T575 X575 e575 => gO (fun t k => rL X575 hx hby hZ e575 V_o1 d4_10 (cY X575 hx hby 68 d4_11 (flt (by decide : ¬ ((16 : Int32) < (12 : Int32)))).2.2.2 rfl (kaN X575 hx hby d4_68 rfl rfl (kiN X575 hx hby d4_69 rfl (kiN X575 hx hby d4_70 rfl (klN X575 hx hby d4_71 rfl k)))))) ?_))
  show OGl _ _ _ _ T575 (mkF m 72 #[rv o0, iv 3, iv 4, jv 2305843009213693951, sc] [.long 2305843009213693951, .int 4, .int 3, .ref o0])
  obtain ⟨cq576, q576a, q576b⟩ := (E_o0).cell
  obtain ⟨_, _, ⟨T576, L576, kk576, n576⟩, -, X576, ⟨Lc576, hQ576, l576, y576, z576⟩, st576⟩ := X575.privateBack hx (y := yy1) hown (mvT hZ (w33 hw)) (mvT hZ (w34 hw)) (own_selPriv (y := yy1) (Cond.privateMethod_at (mvP hZ (w35 hw) (args := #[]))) (mvT hZ (w34 hw)) (mvT hZ (w23 hw)) rfl) (Cond.privateMethod_at (mvP hZ (w35 hw) (args := #[]))) (mvT hZ (w36 hw)) (by decide) (backOf (W := 0) (rm5j l Z a0 hw [] o0 o1 k2 o3 k4 q5 q6 q7 q8 o9 o10 k11 k12 h0 n0 Z0 F1_o0 F0_o0 V_o1 g_o1 F4_o0 ne_o0_o1 V_o3 ne_o3_o1 g_o3 F6_o0 ne_o0_o3 F7_o0 V_o10 ne_o10_o1 ne_o10_o3 V_o9 ne_o9_o1 ne_o9_o3 g_o9 ne_o0_o9 ne_o10_o9 g_o10 ne_o0_o10 E_o0 F10_o0 F11_o0 g_o0) hZ (w36 hw) (w3 hw) (by decide) (by decide)) (g := (mkF m 72 #[rv o0, iv 3, iv 4, jv 2305843009213693951, sc] [.long 2305843009213693951, .int 4, .int 3, .ref o0])) rfl (by rw [hml]; rfl) (Steps.refl _) (a := o0) (by rw [e575]; exact q576a) q576b (argsL := [.int 3, .int 4, .long 2305843009213693951]) (rest := []) (lenOf pd_1 rfl) rfl (by show 2 * 0 + _ ≤ _; exact Nat.le_of_eq rfl) (hb hby d4_72) (fun _ _ => ⟨rfl, e575, (by decide : 0 + 0 ≤ _), (by decide : 0 + 0 ≤ _)⟩)
  dsimp only [Pt.U, Pt.locs, Pt.cells, Pt.slots] at X576 l576 y576 z576 st576 hQ576
  replace l576 := l576.symm
  subst l576 y576 z576
  obtain ⟨rfl, Nq576, K576, Fq576_0, Fq576_1, Fq576_2, Fq576_3, Fq576_4, Fq576_5, Fq576_6, Fq576_7, Fq576_8, Fq576_9, Fq576_10⟩ := hQ576
  have KK576 : Keep h0 T576.heap [o0, o10, o9, o3, o1] := (Keep.refl h0 [o0, o10, o9, o3, o1]).trans K576 (allS (Or.inl (List.mem_of_getElem? (i := 4) rfl)) (allS (Or.inl (List.mem_of_getElem? (i := 3) rfl)) (allS (Or.inl (List.mem_of_getElem? (i := 2) rfl)) (allS (Or.inl (List.mem_of_getElem? (i := 1) rfl)) (allS (Or.inl (List.mem_of_getElem? (i := 0) rfl)) all0)))))
  have N576 := Fr.app N0 Nq576
  refine gO (fun t k => st576.trans k) ?_
  show OGl _ _ _ _ T576 (mkF m 75 #[rv o0, iv 3, iv 4, jv 2305843009213693951, sc] [])
  refine gO (fun t k => kaN X576 hx hby d4_75 rfl rfl (kiN X576 hx hby d4_76 rfl (kiN X576 hx hby d4_77 rfl (kcl X576 hx hby d4_78 k)))) ?_
  show OGl _ _ _ _ T576 (mkF m 79 #[rv o0, iv 3, iv 4, jv 2305843009213693951, sc] [.long 0, .int 3, .int 4, .ref o0])
  have F654 := (E_o0.keep K576)
  obtain ⟨cq615, q615a, q615b⟩ := (F654).cell
  obtain ⟨_, _, ⟨T615, L615, kk615, n615⟩, -, X615, ⟨Lc615, hQ615, l615, y615, z615⟩, st615⟩ := X576.privateBack hx (y := yy1) hown (mvT hZ (w33 hw)) (mvT hZ (w34 hw)) (own_selPriv (y := yy1) (Cond.privateMethod_at (mvP hZ (w35 hw) (args := #[]))) (mvT hZ (w34 hw)) (mvT hZ (w23 hw)) rfl) (Cond.privateMethod_at (mvP hZ (w35 hw) (args := #[]))) (mvT hZ (w36 hw)) (by decide) (backOf (W := 0) (rm5k l Z a0 hw [] o0 o1 k2 o3 k4 q5 q6 q7 q8 o9 o10 k11 k12 T576.heap n0 (Nat.le_trans Z0 KK576.1) Fq576_10 Fq576_4 Fq576_0 g_o1 Fq576_8 ne_o0_o1 Fq576_1 ne_o3_o1 g_o3 Fq576_7 ne_o0_o3 Fq576_6 Fq576_3 ne_o10_o1 ne_o10_o3 Fq576_2 ne_o9_o1 ne_o9_o3 g_o9 ne_o0_o9 ne_o10_o9 g_o10 ne_o0_o10 F654 Fq576_5 Fq576_9 g_o0) hZ (w36 hw) (w3 hw) (by decide) (by decide)) (g := (mkF m 79 #[rv o0, iv 3, iv 4, jv 2305843009213693951, sc] [.long 0, .int 3, .int 4, .ref o0])) rfl (by rw [hml]; rfl) (Steps.refl _) (a := o0) q615a q615b (argsL := [.int 4, .int 3, .long 0]) (rest := []) (lenOf pd_1 rfl) rfl (by show 2 * 0 + _ ≤ _; exact Nat.le_of_eq rfl) (hb hby d4_79) (fun _ _ => ⟨rfl, rfl, (by decide : 0 + 0 ≤ _), (by decide : 0 + 0 ≤ _)⟩)
  dsimp only [Pt.U, Pt.locs, Pt.cells, Pt.slots] at X615 l615 y615 z615 st615 hQ615
  replace l615 := l615.symm
  subst l615 y615 z615
  obtain ⟨rfl, Nq615, K615, Fq615_0, Fq615_1, Fq615_2, Fq615_3, Fq615_4, Fq615_5, Fq615_6, Fq615_7, Fq615_8, Fq615_9, Fq615_10⟩ := hQ615
  have KK615 : Keep h0 T615.heap [o0, o10, o9, o3, o1] := KK576.trans K615 (allS (Or.inl (List.mem_of_getElem? (i := 4) rfl)) (allS (Or.inl (List.mem_of_getElem? (i := 3) rfl)) (allS (Or.inl (List.mem_of_getElem? (i := 2) rfl)) (allS (Or.inl (List.mem_of_getElem? (i := 1) rfl)) (allS (Or.inl (List.mem_of_getElem? (i := 0) rfl)) all0)))))
  have N615 := Fr.app N576 Nq615
  refine gO (fun t k => st615.trans k) ?_
  show OGl _ _ _ _ T615 (mkF m 82 #[rv o0, iv 3, iv 4, jv 2305843009213693951, sc] [])
  obtain ⟨fs, hr, hrun, hended, hW, hsame⟩ := X615.leave (v := none) (fun _ => rfl) (BodyLoose.notSynchronized Bd)
  refine ⟨_, _, X615.returnOut hx Bd.returns (hb hby d4_82) hr, hrun, hended, _, _, rfl, ?_, ⟨_, rfl⟩, hW, hsame.mono (by decide) (by decide)⟩
  show Q4e Z o0 o1 k2 o3 k4 q5 q6 q7 q8 o9 o10 k11 k12 h0 n0 _ T615.heap _
  exact ⟨rfl, N615, KK615, Fq615_4, Fq615_5, Fq615_6, Fq615_7, Fq615_8, Fq615_9, Fq615_10, Fq615_3, Fq615_2, Fq615_1, Fq615_0⟩
def Q6a (Z : State) (o0 : Addr) (o1 : Addr) (k2 : ClassId) (o3 : Addr) (k4 : ClassId) (q5 : Int64) (q6 : Int64) (q7 : Int64) (q8 : Int64) (o9 : Addr) (o10 : Addr) (k11 : ClassId) (k12 : ClassId) (h0 : Heap) (n0 : Nat) (v : Option Value) (h : Heap) (L : List Loc) : Prop := v = none ∧ Fr n0 L ∧ Keep h0 h [o1, o3, o9, o10, o0] ∧ Arv Z h o1 k2 .int 16 (.int 1 :: .int 0 :: .int 3 :: .int 2 :: .int 5 :: .int 4 :: .int 7 :: .int 6 :: .int 2 :: .int 1 :: .int 4 :: .int 3 :: zi4) (.int 0) ∧ Arv Z h o3 k4 .long 16 (.long q5 :: .long 0 :: .long q6 :: .long 0 :: .long q7 :: .long 0 :: .long q8 :: .long 0 :: .long 2305843009213693951 :: .long 0 :: .long 2305843009213693951 :: zj5) (.long 0) ∧ Arv Z h o9 k12 .int 16 (.int (-1) :: .int (-1) :: .int (-1) :: .int (-1) :: .int (-1) :: .int (-1) :: .int (-1) :: .int (-1) :: .int 1 :: .int 2 :: .int 3 :: .int 4 :: zi4) (.int 0) ∧ Arv Z h o10 k11 .int 16 (.int 0 :: .int 8 :: .int 9 :: .int 10 :: .int 11 :: .int 5 :: .int 6 :: .int 7 :: zi8) (.int 0) ∧ Fld Z h o0 cc0 "edges" "I" (.int 12) ∧ Fld Z h o0 cc0 "halves" "I" (.int 8) ∧ Fld Z h o0 cc0 "heads" "[I" (.ref o10) ∧ Fld Z h o0 cc0 "nexts" "[I" (.ref o9) ∧ Fld Z h o0 cc0 "residues" "[J" (.ref o3) ∧ Fld Z h o0 cc0 "sourceSide" "[Z" (.null) ∧ Fld Z h o0 cc0 "targets" "[I" (.ref o1)
set_option maxRecDepth 65536 in
set_option maxHeartbeats 40000000 in
theorem rm6a (l : Launch) (Z : State) (a0 : Array Value) (hw : ∀ d ∈ tables_1, d.before a0 Z = true) (ws : List Jvm.Cond) (o0 : Addr) (o1 : Addr) (k2 : ClassId) (o3 : Addr) (k4 : ClassId) (q5 : Int64) (q6 : Int64) (q7 : Int64) (q8 : Int64) (o9 : Addr) (o10 : Addr) (k11 : ClassId) (k12 : ClassId) (h0 : Heap) (n0 : Nat) (Z0 : n0 ≤ h0.size) (E_o0 : Exa Z h0 o0 cc0) (F1_o0 : Fld Z h0 o0 cc0 "edges" "I" (.int 10)) (F2_o0 : Fld Z h0 o0 cc0 "targets" "[I" (.ref o1)) (V_o1 : Arv Z h0 o1 k2 .int 16 (.int 1 :: .int 0 :: .int 3 :: .int 2 :: .int 5 :: .int 4 :: .int 7 :: .int 6 :: .int 2 :: .int 1 :: zi6) (.int 0)) (F4_o0 : Fld Z h0 o0 cc0 "residues" "[J" (.ref o3)) (V_o3 : Arv Z h0 o3 k4 .long 16 (.long q5 :: .long 0 :: .long q6 :: .long 0 :: .long q7 :: .long 0 :: .long q8 :: .long 0 :: .long 2305843009213693951 :: zj7) (.long 0)) (F6_o0 : Fld Z h0 o0 cc0 "nexts" "[I" (.ref o9)) (F7_o0 : Fld Z h0 o0 cc0 "heads" "[I" (.ref o10)) (V_o10 : Arv Z h0 o10 k11 .int 16 (.int 0 :: .int 8 :: .int 9 :: .int 3 :: .int 4 :: .int 5 :: .int 6 :: .int 7 :: zi8) (.int 0)) (V_o9 : Arv Z h0 o9 k12 .int 16 (.int (-1) :: .int (-1) :: .int (-1) :: .int (-1) :: .int (-1) :: .int (-1) :: .int (-1) :: .int (-1) :: .int 1 :: .int 2 :: zi6) (.int 0)) (F10_o0 : Fld Z h0 o0 cc0 "halves" "I" (.int 8)) (F11_o0 : Fld Z h0 o0 cc0 "sourceSide" "[Z" (.null)) (g_o1 : n0 ≤ o1) (ne_o0_o1 : o0 ≠ o1) (ne_o3_o1 : o3 ≠ o1) (g_o3 : n0 ≤ o3) (ne_o0_o3 : o0 ≠ o3) (ne_o10_o1 : o10 ≠ o1) (ne_o10_o3 : o10 ≠ o3) (ne_o9_o1 : o9 ≠ o1) (ne_o9_o3 : o9 ≠ o3) (g_o9 : n0 ≤ o9) (ne_o0_o9 : o0 ≠ o9) (ne_o10_o9 : o10 ≠ o9) (g_o10 : n0 ≤ o10) (ne_o0_o10 : o0 ≠ o10) (g_o0 : n0 ≤ o0) :
    MetFree l yy4 (head1 (Jvm.Cond.code yy4 bc4 3 none :: ws) rr3) (fun a U => a = #[.ref o0, .int 1, .int 2] ∧ Z.Warmed39 U.vm ∧ U.heap = h0) (fun _ _ _ _ _ => True) (fun _ U o U' => ∃ v L, o = .returned v ∧ Q6a Z o0 o1 k2 o3 k4 q5 q6 q7 q8 o9 o10 k11 k12 h0 n0 v U'.heap L ∧ FrameEnd U o U' L rr3.cells rr3.slots) := by
  refine MetFree.of_bodySF (plainFor_of_name pn_0) hisR ?_
  intro p e s m args below meth c s₁ Bd hml0 hP hK
  obtain ⟨rfl, hZ, hh⟩ := hP
  have hx := Bd.exec
  have hby := Bd.bytes
  have hml : c.maxLocals = 3 := hml0
  have hown : s.vm.findClass cc0 = some m.cls := findClass_of_methodNamed Bd.named
  have hnm := (name_of_methodNamed Bd.named Bd.method).1
  have X0 : Stand p l e rr3 s m #[.ref o0, .int 1, .int 2] below meth c s₁ [] 0 0 := Stand.of_body Bd
  have e0 : s₁.heap = h0 := by rw [← hh, Bd.state]; rfl
  have N0 := Fr.nil n0
  refine OGl.start (ef_6 m o0 (1 : Int32) (2 : Int32)) ?_
  show OGl _ _ _ _ s₁ (mkF m 0 #[rv o0, iv 1, iv 2] [])
  refine gO (fun t k => kaN X0 hx hby d6_0 rfl rfl (kc X0 hx hby d6_1 (kiN X0 hx hby d6_2 rfl (o_imul X0 hx hby d6_3 (kc X0 hx hby d6_4 (o_iadd X0 hx hby d6_5 (kc X0 hx hby d6_6 (kiN X0 hx hby d6_7 rfl (o_imul X0 hx hby d6_8 (own_ldc2 X0 hx hown (mvT hZ (w42 hw)) rfl (hb hby d6_9) k)))))))))) ?_
  show OGl _ _ _ _ s₁ (mkF m 12 #[rv o0, iv 1, iv 2] [.long 2305843009213693951, .int 4, .int 3, .ref o0])
  obtain ⟨cq573, q573a, q573b⟩ := (E_o0).cell
  obtain ⟨_, _, ⟨T573, L573, kk573, n573⟩, -, X573, ⟨Lc573, hQ573, l573, y573, z573⟩, st573⟩ := X0.privateBack hx (y := yy2) hown (mvT hZ (w27 hw)) (mvT hZ (w28 hw)) (own_selPriv (y := yy2) (Cond.privateMethod_at (mvP hZ (w29 hw) (args := #[]))) (mvT hZ (w28 hw)) (mvT hZ (w23 hw)) rfl) (Cond.privateMethod_at (mvP hZ (w29 hw) (args := #[]))) (mvT hZ (w30 hw)) (by decide) (backOf (W := 0) (rm4e l Z a0 hw [] o0 o1 k2 o3 k4 q5 q6 q7 q8 o9 o10 k11 k12 h0 n0 Z0 F1_o0 F2_o0 V_o1 E_o0 F4_o0 V_o3 F6_o0 F7_o0 V_o10 V_o9 F10_o0 F11_o0 g_o1 ne_o0_o1 ne_o3_o1 g_o3 ne_o0_o3 ne_o10_o1 ne_o10_o3 ne_o9_o1 ne_o9_o3 g_o9 ne_o0_o9 ne_o10_o9 g_o10 ne_o0_o10 g_o0) hZ (w30 hw) (w3 hw) (by decide) (by decide)) (g := (mkF m 12 #[rv o0, iv 1, iv 2] [.long 2305843009213693951, .int 4, .int 3, .ref o0])) rfl (by rw [hml]; rfl) (Steps.refl _) (a := o0) (by rw [e0]; exact q573a) q573b (argsL := [.int 3, .int 4, .long 2305843009213693951]) (rest := []) (lenOf pd_1 rfl) rfl (by show 2 * 0 + _ ≤ _; exact Nat.le_of_eq rfl) (hb hby d6_12) (fun _ _ => ⟨rfl, e0, (by decide : 0 + 0 ≤ _), (by decide : 0 + 0 ≤ _)⟩)
  dsimp only [Pt.U, Pt.locs, Pt.cells, Pt.slots] at X573 l573 y573 z573 st573 hQ573
  replace l573 := l573.symm
  subst l573 y573 z573
  obtain ⟨rfl, Nq573, K573, Fq573_0, Fq573_1, Fq573_2, Fq573_3, Fq573_4, Fq573_5, Fq573_6, Fq573_7, Fq573_8, Fq573_9, Fq573_10⟩ := hQ573
  have KK573 : Keep h0 T573.heap [o1, o3, o9, o10, o0] := (Keep.refl h0 [o1, o3, o9, o10, o0]).trans K573 (allS (Or.inl (List.mem_of_getElem? (i := 4) rfl)) (allS (Or.inl (List.mem_of_getElem? (i := 3) rfl)) (allS (Or.inl (List.mem_of_getElem? (i := 2) rfl)) (allS (Or.inl (List.mem_of_getElem? (i := 1) rfl)) (allS (Or.inl (List.mem_of_getElem? (i := 0) rfl)) all0)))))
  have N573 := Fr.app N0 Nq573
  refine gO (fun t k => st573.trans k) ?_
  show OGl _ _ _ _ T573 (mkF m 15 #[rv o0, iv 1, iv 2] [])
  obtain ⟨fs, hr, hrun, hended, hW, hsame⟩ := X573.leave (v := none) (fun _ => rfl) (BodyLoose.notSynchronized Bd)
  refine ⟨_, _, X573.returnOut hx Bd.returns (hb hby d6_15) hr, hrun, hended, _, _, rfl, ?_, ⟨_, rfl⟩, hW, hsame.mono (by decide) (by decide)⟩
  show Q6a Z o0 o1 k2 o3 k4 q5 q6 q7 q8 o9 o10 k11 k12 h0 n0 _ T573.heap _
  exact ⟨rfl, N573, KK573, Fq573_10, Fq573_9, Fq573_8, Fq573_7, Fq573_0, Fq573_1, Fq573_2, Fq573_3, Fq573_4, Fq573_5, Fq573_6⟩
def Q5l (Z : State) (o0 : Addr) (o1 : Addr) (k2 : ClassId) (o3 : Addr) (k4 : ClassId) (q5 : Int64) (q6 : Int64) (q7 : Int64) (q8 : Int64) (o9 : Addr) (o10 : Addr) (k11 : ClassId) (k12 : ClassId) (h0 : Heap) (n0 : Nat) (v : Option Value) (h : Heap) (L : List Loc) : Prop := v = none ∧ Fr n0 L ∧ Keep h0 h [o1, o3, o9, o10, o0] ∧ Arv Z h o1 k2 .int 16 [.int 1, .int 0, .int 3, .int 2, .int 5, .int 4, .int 7, .int 6, .int 2, .int 1, .int 4, .int 3, .int 6, .int 0, .int 0, .int 0] (.int 0) ∧ Arv Z h o3 k4 .long 16 [.long q5, .long 0, .long q6, .long 0, .long q7, .long 0, .long q8, .long 0, .long 2305843009213693951, .long 0, .long 2305843009213693951, .long 0, .long 2305843009213693951, .long 0, .long 0, .long 0] (.long 0) ∧ Arv Z h o9 k12 .int 16 [.int (-1), .int (-1), .int (-1), .int (-1), .int (-1), .int (-1), .int (-1), .int (-1), .int 1, .int 2, .int 3, .int 4, .int 5, .int 0, .int 0, .int 0] (.int 0) ∧ Arv Z h o10 k11 .int 16 (.int 0 :: .int 8 :: .int 9 :: .int 10 :: .int 11 :: .int 12 :: .int 6 :: .int 7 :: zi8) (.int 0) ∧ Fld Z h o0 cc0 "edges" "I" (.int 13) ∧ Fld Z h o0 cc0 "halves" "I" (.int 8) ∧ Fld Z h o0 cc0 "heads" "[I" (.ref o10) ∧ Fld Z h o0 cc0 "nexts" "[I" (.ref o9) ∧ Fld Z h o0 cc0 "residues" "[J" (.ref o3) ∧ Fld Z h o0 cc0 "sourceSide" "[Z" (.null) ∧ Fld Z h o0 cc0 "targets" "[I" (.ref o1)
set_option maxRecDepth 65536 in
set_option maxHeartbeats 40000000 in
theorem rm5l (l : Launch) (Z : State) (a0 : Array Value) (hw : ∀ d ∈ tables_1, d.before a0 Z = true) (ws : List Jvm.Cond) (o0 : Addr) (o1 : Addr) (k2 : ClassId) (o3 : Addr) (k4 : ClassId) (q5 : Int64) (q6 : Int64) (q7 : Int64) (q8 : Int64) (o9 : Addr) (o10 : Addr) (k11 : ClassId) (k12 : ClassId) (h0 : Heap) (n0 : Nat) (Z0 : n0 ≤ h0.size) (F0_o0 : Fld Z h0 o0 cc0 "targets" "[I" (.ref o1)) (F1_o0 : Fld Z h0 o0 cc0 "edges" "I" (.int 12)) (V_o1 : Arv Z h0 o1 k2 .int 16 (.int 1 :: .int 0 :: .int 3 :: .int 2 :: .int 5 :: .int 4 :: .int 7 :: .int 6 :: .int 2 :: .int 1 :: .int 4 :: .int 3 :: zi4) (.int 0)) (g_o1 : n0 ≤ o1) (F4_o0 : Fld Z h0 o0 cc0 "residues" "[J" (.ref o3)) (ne_o0_o1 : o0 ≠ o1) (V_o3 : Arv Z h0 o3 k4 .long 16 (.long q5 :: .long 0 :: .long q6 :: .long 0 :: .long q7 :: .long 0 :: .long q8 :: .long 0 :: .long 2305843009213693951 :: .long 0 :: .long 2305843009213693951 :: zj5) (.long 0)) (ne_o3_o1 : o3 ≠ o1) (g_o3 : n0 ≤ o3) (F9_o0 : Fld Z h0 o0 cc0 "nexts" "[I" (.ref o9)) (ne_o0_o3 : o0 ≠ o3) (F11_o0 : Fld Z h0 o0 cc0 "heads" "[I" (.ref o10)) (V_o10 : Arv Z h0 o10 k11 .int 16 (.int 0 :: .int 8 :: .int 9 :: .int 10 :: .int 11 :: .int 5 :: .int 6 :: .int 7 :: zi8) (.int 0)) (ne_o10_o1 : o10 ≠ o1) (ne_o10_o3 : o10 ≠ o3) (V_o9 : Arv Z h0 o9 k12 .int 16 (.int (-1) :: .int (-1) :: .int (-1) :: .int (-1) :: .int (-1) :: .int (-1) :: .int (-1) :: .int (-1) :: .int 1 :: .int 2 :: .int 3 :: .int 4 :: zi4) (.int 0)) (ne_o9_o1 : o9 ≠ o1) (ne_o9_o3 : o9 ≠ o3) (g_o9 : n0 ≤ o9) (ne_o0_o9 : o0 ≠ o9) (ne_o10_o9 : o10 ≠ o9) (g_o10 : n0 ≤ o10) (ne_o0_o10 : o0 ≠ o10) (E_o0 : Exa Z h0 o0 cc0) (F24_o0 : Fld Z h0 o0 cc0 "halves" "I" (.int 8)) (F25_o0 : Fld Z h0 o0 cc0 "sourceSide" "[Z" (.null)) (g_o0 : n0 ≤ o0) :
    MetFree l yy1 (head1 (Jvm.Cond.code yy1 bc3 5 none :: ws) rr1) (fun a U => a = #[.ref o0, .int 5, .int 6, .long 2305843009213693951] ∧ Z.Warmed39 U.vm ∧ U.heap = h0) (fun _ _ _ _ _ => True) (fun _ U o U' => ∃ v L, o = .returned v ∧ Q5l Z o0 o1 k2 o3 k4 q5 q6 q7 q8 o9 o10 k11 k12 h0 n0 v U'.heap L ∧ FrameEnd U o U' L rr1.cells rr1.slots) := by
  refine MetFree.of_bodySF (plainFor_of_name pn_0) hisR ?_
  intro p e s m args below meth c s₁ Bd hml0 hP hK
  obtain ⟨rfl, hZ, hh⟩ := hP
  have hx := Bd.exec
  have hby := Bd.bytes
  have hml : c.maxLocals = 5 := hml0
  have hown : s.vm.findClass cc0 = some m.cls := findClass_of_methodNamed Bd.named
  have hnm := (name_of_methodNamed Bd.named Bd.method).1
  have X0 : Stand p l e rr1 s m #[.ref o0, .int 5, .int 6, .long 2305843009213693951] below meth c s₁ [] 0 0 := Stand.of_body Bd
  have e0 : s₁.heap = h0 := by rw [← hh, Bd.state]; rfl
  have N0 := Fr.nil n0
  refine OGl.start (ef_5 m o0 (5 : Int32) (6 : Int32) (2305843009213693951 : Int64)) ?_
  show OGl _ _ _ _ s₁ (mkF m 0 #[rv o0, iv 5, iv 6, jv 2305843009213693951, sc] [])
  refine gO (fun t k => kaN X0 hx hby d5_0 rfl rfl k) (gG X0 hx hby hZ hown (w13 hw) e0 F0_o0 d5_1 fun T661 X661 e661 => gO (fun t k => kaN X661 hx hby d5_4 rfl rfl k) (gG X661 hx hby hZ hown (w31 hw) e661 F1_o0 d5_5 fun T662 X662 e662 => gO (fun t k => kiN X662 hx hby d5_8 rfl k) ?_))
  show OGl _ _ _ _ T662 (mkF m 9 #[rv o0, iv 5, iv 6, jv 2305843009213693951, sc] [.int 6, .int 12, .ref o1])
  refine wI X662 hx hby hZ e662 V_o1 12 rfl (Nat.le_of_ble_eq_true rfl) d5_9 fun T663 h663 X663 e663 W663 V663 => ?_
  have N663 := Fr.snoc X663 N0 g_o1
  have KK663 := (Keep.refl h0 [o1, o3, o9, o10, o0]).wr W663 (Or.inl (List.mem_of_getElem? (i := 0) rfl))
  show OGl _ _ _ _ T663 (mkF m 10 #[rv o0, iv 5, iv 6, jv 2305843009213693951, sc] [])
  have F664 := (F4_o0.other W663 (Or.inl ne_o0_o1))
  have F666 := (F1_o0.other W663 (Or.inl ne_o0_o1))
  refine gO (fun t k => kaN X663 hx hby d5_10 rfl rfl k) (gG X663 hx hby hZ hown (w18 hw) e663 F664 d5_11 fun T665 X665 e665 => gO (fun t k => kaN X665 hx hby d5_14 rfl rfl k) (gG X665 hx hby hZ hown (w31 hw) e665 F666 d5_15 fun T667 X667 e667 => gO (fun t k => klN X667 hx hby d5_18 rfl k) ?_))
  show OGl _ _ _ _ T667 (mkF m 19 #[rv o0, iv 5, iv 6, jv 2305843009213693951, sc] [.long 2305843009213693951, .int 12, .ref o3])
  have F668 := (V_o3.other W663 ne_o3_o1)
  refine wJ X667 hx hby hZ e667 F668 12 rfl (Nat.le_of_ble_eq_true rfl) d5_19 fun T669 h669 X669 e669 W669 V669 => ?_
  have N669 := Fr.snoc X669 N663 g_o3
  have KK669 := KK663.wr W669 (Or.inl (List.mem_of_getElem? (i := 1) rfl))
  show OGl _ _ _ _ T669 (mkF m 20 #[rv o0, iv 5, iv 6, jv 2305843009213693951, sc] [])
  have F670 := ((F9_o0.other W663 (Or.inl ne_o0_o1)).other W669 (Or.inl ne_o0_o3))
  have F672 := (F666.other W669 (Or.inl ne_o0_o3))
  have F674 := ((F11_o0.other W663 (Or.inl ne_o0_o1)).other W669 (Or.inl ne_o0_o3))
  have F676 := ((V_o10.other W663 ne_o10_o1).other W669 ne_o10_o3)
  refine gO (fun t k => kaN X669 hx hby d5_20 rfl rfl k) (gG X669 hx hby hZ hown (w15 hw) e669 F670 d5_21 fun T671 X671 e671 => gO (fun t k => kaN X671 hx hby d5_24 rfl rfl k) (gG X671 hx hby hZ hown (w31 hw) e671 F672 d5_25 fun T673 X673 e673 => gO (fun t k => kaN X673 hx hby d5_28 rfl rfl k) (gG X673 hx hby hZ hown (w11 hw) e673 F674 d5_29 fun T675 X675 e675 => gO (fun t k => kiN X675 hx hby d5_32 rfl (rI X675 hx hby hZ e675 F676 (.int 5) rfl rfl d5_33 k)) ?_)))
  show OGl _ _ _ _ T675 (mkF m 34 #[rv o0, iv 5, iv 6, jv 2305843009213693951, sc] [.int 5, .int 12, .ref o9])
  have F677 := ((V_o9.other W663 ne_o9_o1).other W669 ne_o9_o3)
  refine wI X675 hx hby hZ e675 F677 12 rfl (Nat.le_of_ble_eq_true rfl) d5_34 fun T678 h678 X678 e678 W678 V678 => ?_
  have N678 := Fr.snoc X678 N669 g_o9
  have KK678 := KK669.wr W678 (Or.inl (List.mem_of_getElem? (i := 2) rfl))
  show OGl _ _ _ _ T678 (mkF m 35 #[rv o0, iv 5, iv 6, jv 2305843009213693951, sc] [])
  have F679 := (F674.other W678 (Or.inl ne_o0_o9))
  have F681 := (F672.other W678 (Or.inl ne_o0_o9))
  refine gO (fun t k => kaN X678 hx hby d5_35 rfl rfl k) (gG X678 hx hby hZ hown (w11 hw) e678 F679 d5_36 fun T680 X680 e680 => gO (fun t k => kiN X680 hx hby d5_39 rfl (kaN X680 hx hby d5_40 rfl rfl k)) (gG X680 hx hby hZ hown (w31 hw) e680 F681 d5_41 fun T682 X682 e682 => ?_))
  show OGl _ _ _ _ T682 (mkF m 44 #[rv o0, iv 5, iv 6, jv 2305843009213693951, sc] [.int 12, .int 5, .ref o10])
  have F683 := (F676.other W678 ne_o10_o9)
  refine wI X682 hx hby hZ e682 F683 5 rfl (Nat.le_of_ble_eq_true rfl) d5_44 fun T684 h684 X684 e684 W684 V684 => ?_
  have N684 := Fr.snoc X684 N678 g_o10
  have KK684 := KK678.wr W684 (Or.inl (List.mem_of_getElem? (i := 3) rfl))
  show OGl _ _ _ _ T684 (mkF m 45 #[rv o0, iv 5, iv 6, jv 2305843009213693951, sc] [])
  have F685 := (F681.other W684 (Or.inl ne_o0_o10))
  refine gO (fun t k => kaN X684 hx hby d5_45 rfl rfl (o_dup X684 hx hby d5_46 rfl k)) (gG X684 hx hby hZ hown (w31 hw) e684 F685 d5_47 fun T686 X686 e686 => gO (fun t k => kc X686 hx hby d5_50 (o_iadd X686 hx hby d5_51 k)) ?_)
  show OGl _ _ _ _ T686 (mkF m 52 #[rv o0, iv 5, iv 6, jv 2305843009213693951, sc] [.int 13, .ref o0])
  have F687 := ((((E_o0.wr W663).wr W669).wr W678).wr W684)
  obtain ⟨T688, h688, X688, e688, W688, st688⟩ := putF X686 hx hZ hown (host := "") (Or.inl (w31 hw)) Via.refl e686 F685 F687 (Or.inl (w32 hw)) (w2 hw) (ty := .int) (by decide) rfl rfl (g := (mkF m 52 #[rv o0, iv 5, iv 6, jv 2305843009213693951, sc] [.int 13, .ref o0])) rfl rfl (hb hby d5_52)
  refine gO st688 ?_
  have N688 := Fr.snoc X688 N684 g_o0
  have Fw688 := F685.same W688
  have KK688 := KK684.wr W688 (Or.inl (List.mem_of_getElem? (i := 4) rfl))
  show OGl _ _ _ _ T688 (mkF m 55 #[rv o0, iv 5, iv 6, jv 2305843009213693951, sc] [])
  obtain ⟨fs, hr, hrun, hended, hW, hsame⟩ := X688.leave (v := none) (fun _ => rfl) (BodyLoose.notSynchronized Bd)
  refine ⟨_, _, X688.returnOut hx Bd.returns (hb hby d5_55) hr, hrun, hended, _, _, rfl, ?_, ⟨_, rfl⟩, hW, hsame.mono (by decide) (by decide)⟩
  show Q5l Z o0 o1 k2 o3 k4 q5 q6 q7 q8 o9 o10 k11 k12 h0 n0 _ T688.heap _
  rw [e688]
  have F689 := ((((V663.other W669 (Ne.symm ne_o3_o1)).other W678 (Ne.symm ne_o9_o1)).other W684 (Ne.symm ne_o10_o1)).other W688 (Ne.symm ne_o0_o1))
  have F690 := (((V669.other W678 (Ne.symm ne_o9_o3)).other W684 (Ne.symm ne_o10_o3)).other W688 (Ne.symm ne_o0_o3))
  have F691 := ((V678.other W684 (Ne.symm ne_o10_o9)).other W688 (Ne.symm ne_o0_o9))
  have F692 := (V684.other W688 (Ne.symm ne_o0_o10))
  have F693 := (((((F24_o0.other W663 (Or.inl ne_o0_o1)).other W669 (Or.inl ne_o0_o3)).other W678 (Or.inl ne_o0_o9)).other W684 (Or.inl ne_o0_o10)).other W688 (Or.inr (sn26_32 hw)))
  have F694 := ((F679.other W684 (Or.inl ne_o0_o10)).other W688 (Or.inr (sn12_32 hw)))
  have F695 := (((F670.other W678 (Or.inl ne_o0_o9)).other W684 (Or.inl ne_o0_o10)).other W688 (Or.inr (sn16_32 hw)))
  have F696 := ((((F664.other W669 (Or.inl ne_o0_o3)).other W678 (Or.inl ne_o0_o9)).other W684 (Or.inl ne_o0_o10)).other W688 (Or.inr (sn19_32 hw)))
  have F697 := (((((F25_o0.other W663 (Or.inl ne_o0_o1)).other W669 (Or.inl ne_o0_o3)).other W678 (Or.inl ne_o0_o9)).other W684 (Or.inl ne_o0_o10)).other W688 (Or.inr (sn59_32 hw)))
  have F698 := (((((F0_o0.other W663 (Or.inl ne_o0_o1)).other W669 (Or.inl ne_o0_o3)).other W678 (Or.inl ne_o0_o9)).other W684 (Or.inl ne_o0_o10)).other W688 (Or.inr (sn14_32 hw)))
  exact ⟨rfl, N688, KK688, F689, F690, F691, F692, Fw688, F693, F694, F695, F696, F697, F698⟩
def Q5m (Z : State) (o0 : Addr) (o1 : Addr) (k2 : ClassId) (o3 : Addr) (k4 : ClassId) (q5 : Int64) (q6 : Int64) (q7 : Int64) (q8 : Int64) (o9 : Addr) (o10 : Addr) (k11 : ClassId) (k12 : ClassId) (h0 : Heap) (n0 : Nat) (v : Option Value) (h : Heap) (L : List Loc) : Prop := v = none ∧ Fr n0 L ∧ Keep h0 h [o1, o3, o9, o10, o0] ∧ Arv Z h o1 k2 .int 16 [.int 1, .int 0, .int 3, .int 2, .int 5, .int 4, .int 7, .int 6, .int 2, .int 1, .int 4, .int 3, .int 6, .int 5, .int 0, .int 0] (.int 0) ∧ Arv Z h o3 k4 .long 16 [.long q5, .long 0, .long q6, .long 0, .long q7, .long 0, .long q8, .long 0, .long 2305843009213693951, .long 0, .long 2305843009213693951, .long 0, .long 2305843009213693951, .long 0, .long 0, .long 0] (.long 0) ∧ Arv Z h o9 k12 .int 16 [.int (-1), .int (-1), .int (-1), .int (-1), .int (-1), .int (-1), .int (-1), .int (-1), .int 1, .int 2, .int 3, .int 4, .int 5, .int 6, .int 0, .int 0] (.int 0) ∧ Arv Z h o10 k11 .int 16 (.int 0 :: .int 8 :: .int 9 :: .int 10 :: .int 11 :: .int 12 :: .int 13 :: .int 7 :: zi8) (.int 0) ∧ Fld Z h o0 cc0 "edges" "I" (.int 14) ∧ Fld Z h o0 cc0 "halves" "I" (.int 8) ∧ Fld Z h o0 cc0 "heads" "[I" (.ref o10) ∧ Fld Z h o0 cc0 "nexts" "[I" (.ref o9) ∧ Fld Z h o0 cc0 "residues" "[J" (.ref o3) ∧ Fld Z h o0 cc0 "sourceSide" "[Z" (.null) ∧ Fld Z h o0 cc0 "targets" "[I" (.ref o1)
set_option maxRecDepth 65536 in
set_option maxHeartbeats 40000000 in
theorem rm5m (l : Launch) (Z : State) (a0 : Array Value) (hw : ∀ d ∈ tables_1, d.before a0 Z = true) (ws : List Jvm.Cond) (o0 : Addr) (o1 : Addr) (k2 : ClassId) (o3 : Addr) (k4 : ClassId) (q5 : Int64) (q6 : Int64) (q7 : Int64) (q8 : Int64) (o9 : Addr) (o10 : Addr) (k11 : ClassId) (k12 : ClassId) (h0 : Heap) (n0 : Nat) (Z0 : n0 ≤ h0.size) (F0_o0 : Fld Z h0 o0 cc0 "targets" "[I" (.ref o1)) (F1_o0 : Fld Z h0 o0 cc0 "edges" "I" (.int 13)) (V_o1 : Arv Z h0 o1 k2 .int 16 [.int 1, .int 0, .int 3, .int 2, .int 5, .int 4, .int 7, .int 6, .int 2, .int 1, .int 4, .int 3, .int 6, .int 0, .int 0, .int 0] (.int 0)) (g_o1 : n0 ≤ o1) (F4_o0 : Fld Z h0 o0 cc0 "residues" "[J" (.ref o3)) (ne_o0_o1 : o0 ≠ o1) (V_o3 : Arv Z h0 o3 k4 .long 16 [.long q5, .long 0, .long q6, .long 0, .long q7, .long 0, .long q8, .long 0, .long 2305843009213693951, .long 0, .long 2305843009213693951, .long 0, .long 2305843009213693951, .long 0, .long 0, .long 0] (.long 0)) (ne_o3_o1 : o3 ≠ o1) (g_o3 : n0 ≤ o3) (F9_o0 : Fld Z h0 o0 cc0 "nexts" "[I" (.ref o9)) (ne_o0_o3 : o0 ≠ o3) (F11_o0 : Fld Z h0 o0 cc0 "heads" "[I" (.ref o10)) (V_o10 : Arv Z h0 o10 k11 .int 16 (.int 0 :: .int 8 :: .int 9 :: .int 10 :: .int 11 :: .int 12 :: .int 6 :: .int 7 :: zi8) (.int 0)) (ne_o10_o1 : o10 ≠ o1) (ne_o10_o3 : o10 ≠ o3) (V_o9 : Arv Z h0 o9 k12 .int 16 [.int (-1), .int (-1), .int (-1), .int (-1), .int (-1), .int (-1), .int (-1), .int (-1), .int 1, .int 2, .int 3, .int 4, .int 5, .int 0, .int 0, .int 0] (.int 0)) (ne_o9_o1 : o9 ≠ o1) (ne_o9_o3 : o9 ≠ o3) (g_o9 : n0 ≤ o9) (ne_o0_o9 : o0 ≠ o9) (ne_o10_o9 : o10 ≠ o9) (g_o10 : n0 ≤ o10) (ne_o0_o10 : o0 ≠ o10) (E_o0 : Exa Z h0 o0 cc0) (F24_o0 : Fld Z h0 o0 cc0 "halves" "I" (.int 8)) (F25_o0 : Fld Z h0 o0 cc0 "sourceSide" "[Z" (.null)) (g_o0 : n0 ≤ o0) :
    MetFree l yy1 (head1 (Jvm.Cond.code yy1 bc3 5 none :: ws) rr1) (fun a U => a = #[.ref o0, .int 6, .int 5, .long 0] ∧ Z.Warmed39 U.vm ∧ U.heap = h0) (fun _ _ _ _ _ => True) (fun _ U o U' => ∃ v L, o = .returned v ∧ Q5m Z o0 o1 k2 o3 k4 q5 q6 q7 q8 o9 o10 k11 k12 h0 n0 v U'.heap L ∧ FrameEnd U o U' L rr1.cells rr1.slots) := by
  refine MetFree.of_bodySF (plainFor_of_name pn_0) hisR ?_
  intro p e s m args below meth c s₁ Bd hml0 hP hK
  obtain ⟨rfl, hZ, hh⟩ := hP
  have hx := Bd.exec
  have hby := Bd.bytes
  have hml : c.maxLocals = 5 := hml0
  have hown : s.vm.findClass cc0 = some m.cls := findClass_of_methodNamed Bd.named
  have hnm := (name_of_methodNamed Bd.named Bd.method).1
  have X0 : Stand p l e rr1 s m #[.ref o0, .int 6, .int 5, .long 0] below meth c s₁ [] 0 0 := Stand.of_body Bd
  have e0 : s₁.heap = h0 := by rw [← hh, Bd.state]; rfl
  have N0 := Fr.nil n0
  refine OGl.start (ef_5 m o0 (6 : Int32) (5 : Int32) (0 : Int64)) ?_
  show OGl _ _ _ _ s₁ (mkF m 0 #[rv o0, iv 6, iv 5, jv 0, sc] [])
  refine gO (fun t k => kaN X0 hx hby d5_0 rfl rfl k) (gG X0 hx hby hZ hown (w13 hw) e0 F0_o0 d5_1 fun T700 X700 e700 => gO (fun t k => kaN X700 hx hby d5_4 rfl rfl k) (gG X700 hx hby hZ hown (w31 hw) e700 F1_o0 d5_5 fun T701 X701 e701 => gO (fun t k => kiN X701 hx hby d5_8 rfl k) ?_))
  show OGl _ _ _ _ T701 (mkF m 9 #[rv o0, iv 6, iv 5, jv 0, sc] [.int 5, .int 13, .ref o1])
  refine wI X701 hx hby hZ e701 V_o1 13 rfl (Nat.le_of_ble_eq_true rfl) d5_9 fun T702 h702 X702 e702 W702 V702 => ?_
  have N702 := Fr.snoc X702 N0 g_o1
  have KK702 := (Keep.refl h0 [o1, o3, o9, o10, o0]).wr W702 (Or.inl (List.mem_of_getElem? (i := 0) rfl))
  show OGl _ _ _ _ T702 (mkF m 10 #[rv o0, iv 6, iv 5, jv 0, sc] [])
  have F703 := (F4_o0.other W702 (Or.inl ne_o0_o1))
  have F705 := (F1_o0.other W702 (Or.inl ne_o0_o1))
  refine gO (fun t k => kaN X702 hx hby d5_10 rfl rfl k) (gG X702 hx hby hZ hown (w18 hw) e702 F703 d5_11 fun T704 X704 e704 => gO (fun t k => kaN X704 hx hby d5_14 rfl rfl k) (gG X704 hx hby hZ hown (w31 hw) e704 F705 d5_15 fun T706 X706 e706 => gO (fun t k => klN X706 hx hby d5_18 rfl k) ?_))
  show OGl _ _ _ _ T706 (mkF m 19 #[rv o0, iv 6, iv 5, jv 0, sc] [.long 0, .int 13, .ref o3])
  have F707 := (V_o3.other W702 ne_o3_o1)
  refine wJ X706 hx hby hZ e706 F707 13 rfl (Nat.le_of_ble_eq_true rfl) d5_19 fun T708 h708 X708 e708 W708 V708 => ?_
  have N708 := Fr.snoc X708 N702 g_o3
  have KK708 := KK702.wr W708 (Or.inl (List.mem_of_getElem? (i := 1) rfl))
  show OGl _ _ _ _ T708 (mkF m 20 #[rv o0, iv 6, iv 5, jv 0, sc] [])
  have F709 := ((F9_o0.other W702 (Or.inl ne_o0_o1)).other W708 (Or.inl ne_o0_o3))
  have F711 := (F705.other W708 (Or.inl ne_o0_o3))
  have F713 := ((F11_o0.other W702 (Or.inl ne_o0_o1)).other W708 (Or.inl ne_o0_o3))
  have F715 := ((V_o10.other W702 ne_o10_o1).other W708 ne_o10_o3)
  refine gO (fun t k => kaN X708 hx hby d5_20 rfl rfl k) (gG X708 hx hby hZ hown (w15 hw) e708 F709 d5_21 fun T710 X710 e710 => gO (fun t k => kaN X710 hx hby d5_24 rfl rfl k) (gG X710 hx hby hZ hown (w31 hw) e710 F711 d5_25 fun T712 X712 e712 => gO (fun t k => kaN X712 hx hby d5_28 rfl rfl k) (gG X712 hx hby hZ hown (w11 hw) e712 F713 d5_29 fun T714 X714 e714 => gO (fun t k => kiN X714 hx hby d5_32 rfl (rI X714 hx hby hZ e714 F715 (.int 6) rfl rfl d5_33 k)) ?_)))
  show OGl _ _ _ _ T714 (mkF m 34 #[rv o0, iv 6, iv 5, jv 0, sc] [.int 6, .int 13, .ref o9])
  have F716 := ((V_o9.other W702 ne_o9_o1).other W708 ne_o9_o3)
  refine wI X714 hx hby hZ e714 F716 13 rfl (Nat.le_of_ble_eq_true rfl) d5_34 fun T717 h717 X717 e717 W717 V717 => ?_
  have N717 := Fr.snoc X717 N708 g_o9
  have KK717 := KK708.wr W717 (Or.inl (List.mem_of_getElem? (i := 2) rfl))
  show OGl _ _ _ _ T717 (mkF m 35 #[rv o0, iv 6, iv 5, jv 0, sc] [])
  have F718 := (F713.other W717 (Or.inl ne_o0_o9))
  have F720 := (F711.other W717 (Or.inl ne_o0_o9))
  refine gO (fun t k => kaN X717 hx hby d5_35 rfl rfl k) (gG X717 hx hby hZ hown (w11 hw) e717 F718 d5_36 fun T719 X719 e719 => gO (fun t k => kiN X719 hx hby d5_39 rfl (kaN X719 hx hby d5_40 rfl rfl k)) (gG X719 hx hby hZ hown (w31 hw) e719 F720 d5_41 fun T721 X721 e721 => ?_))
  show OGl _ _ _ _ T721 (mkF m 44 #[rv o0, iv 6, iv 5, jv 0, sc] [.int 13, .int 6, .ref o10])
  have F722 := (F715.other W717 ne_o10_o9)
  refine wI X721 hx hby hZ e721 F722 6 rfl (Nat.le_of_ble_eq_true rfl) d5_44 fun T723 h723 X723 e723 W723 V723 => ?_
  have N723 := Fr.snoc X723 N717 g_o10
  have KK723 := KK717.wr W723 (Or.inl (List.mem_of_getElem? (i := 3) rfl))
  show OGl _ _ _ _ T723 (mkF m 45 #[rv o0, iv 6, iv 5, jv 0, sc] [])
  have F724 := (F720.other W723 (Or.inl ne_o0_o10))
  refine gO (fun t k => kaN X723 hx hby d5_45 rfl rfl (o_dup X723 hx hby d5_46 rfl k)) (gG X723 hx hby hZ hown (w31 hw) e723 F724 d5_47 fun T725 X725 e725 => gO (fun t k => kc X725 hx hby d5_50 (o_iadd X725 hx hby d5_51 k)) ?_)
  show OGl _ _ _ _ T725 (mkF m 52 #[rv o0, iv 6, iv 5, jv 0, sc] [.int 14, .ref o0])
  have F726 := ((((E_o0.wr W702).wr W708).wr W717).wr W723)
  obtain ⟨T727, h727, X727, e727, W727, st727⟩ := putF X725 hx hZ hown (host := "") (Or.inl (w31 hw)) Via.refl e725 F724 F726 (Or.inl (w32 hw)) (w2 hw) (ty := .int) (by decide) rfl rfl (g := (mkF m 52 #[rv o0, iv 6, iv 5, jv 0, sc] [.int 14, .ref o0])) rfl rfl (hb hby d5_52)
  refine gO st727 ?_
  have N727 := Fr.snoc X727 N723 g_o0
  have Fw727 := F724.same W727
  have KK727 := KK723.wr W727 (Or.inl (List.mem_of_getElem? (i := 4) rfl))
  show OGl _ _ _ _ T727 (mkF m 55 #[rv o0, iv 6, iv 5, jv 0, sc] [])
  obtain ⟨fs, hr, hrun, hended, hW, hsame⟩ := X727.leave (v := none) (fun _ => rfl) (BodyLoose.notSynchronized Bd)
  refine ⟨_, _, X727.returnOut hx Bd.returns (hb hby d5_55) hr, hrun, hended, _, _, rfl, ?_, ⟨_, rfl⟩, hW, hsame.mono (by decide) (by decide)⟩
  show Q5m Z o0 o1 k2 o3 k4 q5 q6 q7 q8 o9 o10 k11 k12 h0 n0 _ T727.heap _
  rw [e727]
  have F728 := ((((V702.other W708 (Ne.symm ne_o3_o1)).other W717 (Ne.symm ne_o9_o1)).other W723 (Ne.symm ne_o10_o1)).other W727 (Ne.symm ne_o0_o1))
  have F729 := (((V708.other W717 (Ne.symm ne_o9_o3)).other W723 (Ne.symm ne_o10_o3)).other W727 (Ne.symm ne_o0_o3))
  have F730 := ((V717.other W723 (Ne.symm ne_o10_o9)).other W727 (Ne.symm ne_o0_o9))
  have F731 := (V723.other W727 (Ne.symm ne_o0_o10))
  have F732 := (((((F24_o0.other W702 (Or.inl ne_o0_o1)).other W708 (Or.inl ne_o0_o3)).other W717 (Or.inl ne_o0_o9)).other W723 (Or.inl ne_o0_o10)).other W727 (Or.inr (sn26_32 hw)))
  have F733 := ((F718.other W723 (Or.inl ne_o0_o10)).other W727 (Or.inr (sn12_32 hw)))
  have F734 := (((F709.other W717 (Or.inl ne_o0_o9)).other W723 (Or.inl ne_o0_o10)).other W727 (Or.inr (sn16_32 hw)))
  have F735 := ((((F703.other W708 (Or.inl ne_o0_o3)).other W717 (Or.inl ne_o0_o9)).other W723 (Or.inl ne_o0_o10)).other W727 (Or.inr (sn19_32 hw)))
  have F736 := (((((F25_o0.other W702 (Or.inl ne_o0_o1)).other W708 (Or.inl ne_o0_o3)).other W717 (Or.inl ne_o0_o9)).other W723 (Or.inl ne_o0_o10)).other W727 (Or.inr (sn59_32 hw)))
  have F737 := (((((F0_o0.other W702 (Or.inl ne_o0_o1)).other W708 (Or.inl ne_o0_o3)).other W717 (Or.inl ne_o0_o9)).other W723 (Or.inl ne_o0_o10)).other W727 (Or.inr (sn14_32 hw)))
  exact ⟨rfl, N727, KK727, F728, F729, F730, F731, Fw727, F732, F733, F734, F735, F736, F737⟩
def Q4f (Z : State) (o0 : Addr) (o1 : Addr) (k2 : ClassId) (o3 : Addr) (k4 : ClassId) (q5 : Int64) (q6 : Int64) (q7 : Int64) (q8 : Int64) (o9 : Addr) (o10 : Addr) (k11 : ClassId) (k12 : ClassId) (h0 : Heap) (n0 : Nat) (v : Option Value) (h : Heap) (L : List Loc) : Prop := v = none ∧ Fr n0 L ∧ Keep h0 h [o0, o10, o9, o3, o1] ∧ Fld Z h o0 cc0 "edges" "I" (.int 14) ∧ Fld Z h o0 cc0 "halves" "I" (.int 8) ∧ Fld Z h o0 cc0 "heads" "[I" (.ref o10) ∧ Fld Z h o0 cc0 "nexts" "[I" (.ref o9) ∧ Fld Z h o0 cc0 "residues" "[J" (.ref o3) ∧ Fld Z h o0 cc0 "sourceSide" "[Z" (.null) ∧ Fld Z h o0 cc0 "targets" "[I" (.ref o1) ∧ Arv Z h o10 k11 .int 16 (.int 0 :: .int 8 :: .int 9 :: .int 10 :: .int 11 :: .int 12 :: .int 13 :: .int 7 :: zi8) (.int 0) ∧ Arv Z h o9 k12 .int 16 [.int (-1), .int (-1), .int (-1), .int (-1), .int (-1), .int (-1), .int (-1), .int (-1), .int 1, .int 2, .int 3, .int 4, .int 5, .int 6, .int 0, .int 0] (.int 0) ∧ Arv Z h o3 k4 .long 16 [.long q5, .long 0, .long q6, .long 0, .long q7, .long 0, .long q8, .long 0, .long 2305843009213693951, .long 0, .long 2305843009213693951, .long 0, .long 2305843009213693951, .long 0, .long 0, .long 0] (.long 0) ∧ Arv Z h o1 k2 .int 16 [.int 1, .int 0, .int 3, .int 2, .int 5, .int 4, .int 7, .int 6, .int 2, .int 1, .int 4, .int 3, .int 6, .int 5, .int 0, .int 0] (.int 0)
set_option maxRecDepth 65536 in
set_option maxHeartbeats 40000000 in
theorem rm4f (l : Launch) (Z : State) (a0 : Array Value) (hw : ∀ d ∈ tables_1, d.before a0 Z = true) (ws : List Jvm.Cond) (o0 : Addr) (o1 : Addr) (k2 : ClassId) (o3 : Addr) (k4 : ClassId) (q5 : Int64) (q6 : Int64) (q7 : Int64) (q8 : Int64) (o9 : Addr) (o10 : Addr) (k11 : ClassId) (k12 : ClassId) (h0 : Heap) (n0 : Nat) (Z0 : n0 ≤ h0.size) (F0_o0 : Fld Z h0 o0 cc0 "edges" "I" (.int 12)) (F1_o0 : Fld Z h0 o0 cc0 "targets" "[I" (.ref o1)) (V_o1 : Arv Z h0 o1 k2 .int 16 (.int 1 :: .int 0 :: .int 3 :: .int 2 :: .int 5 :: .int 4 :: .int 7 :: .int 6 :: .int 2 :: .int 1 :: .int 4 :: .int 3 :: zi4) (.int 0)) (E_o0 : Exa Z h0 o0 cc0) (F4_o0 : Fld Z h0 o0 cc0 "residues" "[J" (.ref o3)) (V_o3 : Arv Z h0 o3 k4 .long 16 (.long q5 :: .long 0 :: .long q6 :: .long 0 :: .long q7 :: .long 0 :: .long q8 :: .long 0 :: .long 2305843009213693951 :: .long 0 :: .long 2305843009213693951 :: zj5) (.long 0)) (F6_o0 : Fld Z h0 o0 cc0 "nexts" "[I" (.ref o9)) (F7_o0 : Fld Z h0 o0 cc0 "heads" "[I" (.ref o10)) (V_o10 : Arv Z h0 o10 k11 .int 16 (.int 0 :: .int 8 :: .int 9 :: .int 10 :: .int 11 :: .int 5 :: .int 6 :: .int 7 :: zi8) (.int 0)) (V_o9 : Arv Z h0 o9 k12 .int 16 (.int (-1) :: .int (-1) :: .int (-1) :: .int (-1) :: .int (-1) :: .int (-1) :: .int (-1) :: .int (-1) :: .int 1 :: .int 2 :: .int 3 :: .int 4 :: zi4) (.int 0)) (F10_o0 : Fld Z h0 o0 cc0 "halves" "I" (.int 8)) (F11_o0 : Fld Z h0 o0 cc0 "sourceSide" "[Z" (.null)) (g_o1 : n0 ≤ o1) (ne_o0_o1 : o0 ≠ o1) (ne_o3_o1 : o3 ≠ o1) (g_o3 : n0 ≤ o3) (ne_o0_o3 : o0 ≠ o3) (ne_o10_o1 : o10 ≠ o1) (ne_o10_o3 : o10 ≠ o3) (ne_o9_o1 : o9 ≠ o1) (ne_o9_o3 : o9 ≠ o3) (g_o9 : n0 ≤ o9) (ne_o0_o9 : o0 ≠ o9) (ne_o10_o9 : o10 ≠ o9) (g_o10 : n0 ≤ o10) (ne_o0_o10 : o0 ≠ o10) (g_o0 : n0 ≤ o0) :
    MetFree l yy2 (head1 (Jvm.Cond.code yy2 bc2 5 none :: ws) rr2) (fun a U => a = #[.ref o0, .int 5, .int 6, .long 2305843009213693951] ∧ Z.Warmed39 U.vm ∧ U.heap = h0) (fun _ _ _ _ _ => True) (fun _ U o U' => ∃ v L, o = .returned v ∧ Q4f Z o0 o1 k2 o3 k4 q5 q6 q7 q8 o9 o10 k11 k12 h0 n0 v U'.heap L ∧ FrameEnd U o U' L rr2.cells rr2.slots) := by
  refine MetFree.of_bodySF (plainFor_of_name pn_0) hisR ?_
  intro p e s m args below meth c s₁ Bd hml0 hP hK
  obtain ⟨rfl, hZ, hh⟩ := hP
  have hx := Bd.exec
  have hby := Bd.bytes
  have hml : c.maxLocals = 5 := hml0
  have hown : s.vm.findClass cc0 = some m.cls := findClass_of_methodNamed Bd.named
  have hnm := (name_of_methodNamed Bd.named Bd.method).1
  have X0 : Stand p l e rr2 s m #[.ref o0, .int 5, .int 6, .long 2305843009213693951] below meth c s₁ [] 0 0 := Stand.of_body Bd
  have e0 : s₁.heap = h0 := by rw [← hh, Bd.state]; rfl
  have N0 := Fr.nil n0
  refine OGl.start (ef_4 m o0 (5 : Int32) (6 : Int32) (2305843009213693951 : Int64)) ?_
  show OGl _ _ _ _ s₁ (mkF m 0 #[rv o0, iv 5, iv 6, jv 2305843009213693951, sc] [])
  refine gO (fun t k => kaN X0 hx hby d4_0 rfl rfl k) (gG X0 hx hby hZ hown (w31 hw) e0 F0_o0 d4_1 fun T658 X658 e658 => gO (fun t k => kc X658 hx hby d4_4 (o_iadd X658 hx hby d4_5 (kaN X658 hx hby d4_6 rfl rfl k))) (gG X658 hx hby hZ hown (w13 hw) e658 F1_o0 d4_7 fun T659 X659 e659 => gO (fun t k => rL X659 hx hby hZ e659 V_o1 d4_10 (cY X659 hx hby 68 d4_11 (flt (by decide : ¬ ((16 : Int32) < (14 : Int32)))).2.2.2 rfl (kaN X659 hx hby d4_68 rfl rfl (kiN X659 hx hby d4_69 rfl (kiN X659 hx hby d4_70 rfl (klN X659 hx hby d4_71 rfl k)))))) ?_))
  show OGl _ _ _ _ T659 (mkF m 72 #[rv o0, iv 5, iv 6, jv 2305843009213693951, sc] [.long 2305843009213693951, .int 6, .int 5, .ref o0])
  obtain ⟨cq660, q660a, q660b⟩ := (E_o0).cell
  obtain ⟨_, _, ⟨T660, L660, kk660, n660⟩, -, X660, ⟨Lc660, hQ660, l660, y660, z660⟩, st660⟩ := X659.privateBack hx (y := yy1) hown (mvT hZ (w33 hw)) (mvT hZ (w34 hw)) (own_selPriv (y := yy1) (Cond.privateMethod_at (mvP hZ (w35 hw) (args := #[]))) (mvT hZ (w34 hw)) (mvT hZ (w23 hw)) rfl) (Cond.privateMethod_at (mvP hZ (w35 hw) (args := #[]))) (mvT hZ (w36 hw)) (by decide) (backOf (W := 0) (rm5l l Z a0 hw [] o0 o1 k2 o3 k4 q5 q6 q7 q8 o9 o10 k11 k12 h0 n0 Z0 F1_o0 F0_o0 V_o1 g_o1 F4_o0 ne_o0_o1 V_o3 ne_o3_o1 g_o3 F6_o0 ne_o0_o3 F7_o0 V_o10 ne_o10_o1 ne_o10_o3 V_o9 ne_o9_o1 ne_o9_o3 g_o9 ne_o0_o9 ne_o10_o9 g_o10 ne_o0_o10 E_o0 F10_o0 F11_o0 g_o0) hZ (w36 hw) (w3 hw) (by decide) (by decide)) (g := (mkF m 72 #[rv o0, iv 5, iv 6, jv 2305843009213693951, sc] [.long 2305843009213693951, .int 6, .int 5, .ref o0])) rfl (by rw [hml]; rfl) (Steps.refl _) (a := o0) (by rw [e659]; exact q660a) q660b (argsL := [.int 5, .int 6, .long 2305843009213693951]) (rest := []) (lenOf pd_1 rfl) rfl (by show 2 * 0 + _ ≤ _; exact Nat.le_of_eq rfl) (hb hby d4_72) (fun _ _ => ⟨rfl, e659, (by decide : 0 + 0 ≤ _), (by decide : 0 + 0 ≤ _)⟩)
  dsimp only [Pt.U, Pt.locs, Pt.cells, Pt.slots] at X660 l660 y660 z660 st660 hQ660
  replace l660 := l660.symm
  subst l660 y660 z660
  obtain ⟨rfl, Nq660, K660, Fq660_0, Fq660_1, Fq660_2, Fq660_3, Fq660_4, Fq660_5, Fq660_6, Fq660_7, Fq660_8, Fq660_9, Fq660_10⟩ := hQ660
  have KK660 : Keep h0 T660.heap [o0, o10, o9, o3, o1] := (Keep.refl h0 [o0, o10, o9, o3, o1]).trans K660 (allS (Or.inl (List.mem_of_getElem? (i := 4) rfl)) (allS (Or.inl (List.mem_of_getElem? (i := 3) rfl)) (allS (Or.inl (List.mem_of_getElem? (i := 2) rfl)) (allS (Or.inl (List.mem_of_getElem? (i := 1) rfl)) (allS (Or.inl (List.mem_of_getElem? (i := 0) rfl)) all0)))))
  have N660 := Fr.app N0 Nq660
  refine gO (fun t k => st660.trans k) ?_
  show OGl _ _ _ _ T660 (mkF m 75 #[rv o0, iv 5, iv 6, jv 2305843009213693951, sc] [])
  refine gO (fun t k => kaN X660 hx hby d4_75 rfl rfl (kiN X660 hx hby d4_76 rfl (kiN X660 hx hby d4_77 rfl (kcl X660 hx hby d4_78 k)))) ?_
  show OGl _ _ _ _ T660 (mkF m 79 #[rv o0, iv 5, iv 6, jv 2305843009213693951, sc] [.long 0, .int 5, .int 6, .ref o0])
  have F738 := (E_o0.keep K660)
  obtain ⟨cq699, q699a, q699b⟩ := (F738).cell
  obtain ⟨_, _, ⟨T699, L699, kk699, n699⟩, -, X699, ⟨Lc699, hQ699, l699, y699, z699⟩, st699⟩ := X660.privateBack hx (y := yy1) hown (mvT hZ (w33 hw)) (mvT hZ (w34 hw)) (own_selPriv (y := yy1) (Cond.privateMethod_at (mvP hZ (w35 hw) (args := #[]))) (mvT hZ (w34 hw)) (mvT hZ (w23 hw)) rfl) (Cond.privateMethod_at (mvP hZ (w35 hw) (args := #[]))) (mvT hZ (w36 hw)) (by decide) (backOf (W := 0) (rm5m l Z a0 hw [] o0 o1 k2 o3 k4 q5 q6 q7 q8 o9 o10 k11 k12 T660.heap n0 (Nat.le_trans Z0 KK660.1) Fq660_10 Fq660_4 Fq660_0 g_o1 Fq660_8 ne_o0_o1 Fq660_1 ne_o3_o1 g_o3 Fq660_7 ne_o0_o3 Fq660_6 Fq660_3 ne_o10_o1 ne_o10_o3 Fq660_2 ne_o9_o1 ne_o9_o3 g_o9 ne_o0_o9 ne_o10_o9 g_o10 ne_o0_o10 F738 Fq660_5 Fq660_9 g_o0) hZ (w36 hw) (w3 hw) (by decide) (by decide)) (g := (mkF m 79 #[rv o0, iv 5, iv 6, jv 2305843009213693951, sc] [.long 0, .int 5, .int 6, .ref o0])) rfl (by rw [hml]; rfl) (Steps.refl _) (a := o0) q699a q699b (argsL := [.int 6, .int 5, .long 0]) (rest := []) (lenOf pd_1 rfl) rfl (by show 2 * 0 + _ ≤ _; exact Nat.le_of_eq rfl) (hb hby d4_79) (fun _ _ => ⟨rfl, rfl, (by decide : 0 + 0 ≤ _), (by decide : 0 + 0 ≤ _)⟩)
  dsimp only [Pt.U, Pt.locs, Pt.cells, Pt.slots] at X699 l699 y699 z699 st699 hQ699
  replace l699 := l699.symm
  subst l699 y699 z699
  obtain ⟨rfl, Nq699, K699, Fq699_0, Fq699_1, Fq699_2, Fq699_3, Fq699_4, Fq699_5, Fq699_6, Fq699_7, Fq699_8, Fq699_9, Fq699_10⟩ := hQ699
  have KK699 : Keep h0 T699.heap [o0, o10, o9, o3, o1] := KK660.trans K699 (allS (Or.inl (List.mem_of_getElem? (i := 4) rfl)) (allS (Or.inl (List.mem_of_getElem? (i := 3) rfl)) (allS (Or.inl (List.mem_of_getElem? (i := 2) rfl)) (allS (Or.inl (List.mem_of_getElem? (i := 1) rfl)) (allS (Or.inl (List.mem_of_getElem? (i := 0) rfl)) all0)))))
  have N699 := Fr.app N660 Nq699
  refine gO (fun t k => st699.trans k) ?_
  show OGl _ _ _ _ T699 (mkF m 82 #[rv o0, iv 5, iv 6, jv 2305843009213693951, sc] [])
  obtain ⟨fs, hr, hrun, hended, hW, hsame⟩ := X699.leave (v := none) (fun _ => rfl) (BodyLoose.notSynchronized Bd)
  refine ⟨_, _, X699.returnOut hx Bd.returns (hb hby d4_82) hr, hrun, hended, _, _, rfl, ?_, ⟨_, rfl⟩, hW, hsame.mono (by decide) (by decide)⟩
  show Q4f Z o0 o1 k2 o3 k4 q5 q6 q7 q8 o9 o10 k11 k12 h0 n0 _ T699.heap _
  exact ⟨rfl, N699, KK699, Fq699_4, Fq699_5, Fq699_6, Fq699_7, Fq699_8, Fq699_9, Fq699_10, Fq699_3, Fq699_2, Fq699_1, Fq699_0⟩
def Q6b (Z : State) (o0 : Addr) (o1 : Addr) (k2 : ClassId) (o3 : Addr) (k4 : ClassId) (q5 : Int64) (q6 : Int64) (q7 : Int64) (q8 : Int64) (o9 : Addr) (o10 : Addr) (k11 : ClassId) (k12 : ClassId) (h0 : Heap) (n0 : Nat) (v : Option Value) (h : Heap) (L : List Loc) : Prop := v = none ∧ Fr n0 L ∧ Keep h0 h [o1, o3, o9, o10, o0] ∧ Arv Z h o1 k2 .int 16 [.int 1, .int 0, .int 3, .int 2, .int 5, .int 4, .int 7, .int 6, .int 2, .int 1, .int 4, .int 3, .int 6, .int 5, .int 0, .int 0] (.int 0) ∧ Arv Z h o3 k4 .long 16 [.long q5, .long 0, .long q6, .long 0, .long q7, .long 0, .long q8, .long 0, .long 2305843009213693951, .long 0, .long 2305843009213693951, .long 0, .long 2305843009213693951, .long 0, .long 0, .long 0] (.long 0) ∧ Arv Z h o9 k12 .int 16 [.int (-1), .int (-1), .int (-1), .int (-1), .int (-1), .int (-1), .int (-1), .int (-1), .int 1, .int 2, .int 3, .int 4, .int 5, .int 6, .int 0, .int 0] (.int 0) ∧ Arv Z h o10 k11 .int 16 (.int 0 :: .int 8 :: .int 9 :: .int 10 :: .int 11 :: .int 12 :: .int 13 :: .int 7 :: zi8) (.int 0) ∧ Fld Z h o0 cc0 "edges" "I" (.int 14) ∧ Fld Z h o0 cc0 "halves" "I" (.int 8) ∧ Fld Z h o0 cc0 "heads" "[I" (.ref o10) ∧ Fld Z h o0 cc0 "nexts" "[I" (.ref o9) ∧ Fld Z h o0 cc0 "residues" "[J" (.ref o3) ∧ Fld Z h o0 cc0 "sourceSide" "[Z" (.null) ∧ Fld Z h o0 cc0 "targets" "[I" (.ref o1)
set_option maxRecDepth 65536 in
set_option maxHeartbeats 40000000 in
theorem rm6b (l : Launch) (Z : State) (a0 : Array Value) (hw : ∀ d ∈ tables_1, d.before a0 Z = true) (ws : List Jvm.Cond) (o0 : Addr) (o1 : Addr) (k2 : ClassId) (o3 : Addr) (k4 : ClassId) (q5 : Int64) (q6 : Int64) (q7 : Int64) (q8 : Int64) (o9 : Addr) (o10 : Addr) (k11 : ClassId) (k12 : ClassId) (h0 : Heap) (n0 : Nat) (Z0 : n0 ≤ h0.size) (E_o0 : Exa Z h0 o0 cc0) (F1_o0 : Fld Z h0 o0 cc0 "edges" "I" (.int 12)) (F2_o0 : Fld Z h0 o0 cc0 "targets" "[I" (.ref o1)) (V_o1 : Arv Z h0 o1 k2 .int 16 (.int 1 :: .int 0 :: .int 3 :: .int 2 :: .int 5 :: .int 4 :: .int 7 :: .int 6 :: .int 2 :: .int 1 :: .int 4 :: .int 3 :: zi4) (.int 0)) (F4_o0 : Fld Z h0 o0 cc0 "residues" "[J" (.ref o3)) (V_o3 : Arv Z h0 o3 k4 .long 16 (.long q5 :: .long 0 :: .long q6 :: .long 0 :: .long q7 :: .long 0 :: .long q8 :: .long 0 :: .long 2305843009213693951 :: .long 0 :: .long 2305843009213693951 :: zj5) (.long 0)) (F6_o0 : Fld Z h0 o0 cc0 "nexts" "[I" (.ref o9)) (F7_o0 : Fld Z h0 o0 cc0 "heads" "[I" (.ref o10)) (V_o10 : Arv Z h0 o10 k11 .int 16 (.int 0 :: .int 8 :: .int 9 :: .int 10 :: .int 11 :: .int 5 :: .int 6 :: .int 7 :: zi8) (.int 0)) (V_o9 : Arv Z h0 o9 k12 .int 16 (.int (-1) :: .int (-1) :: .int (-1) :: .int (-1) :: .int (-1) :: .int (-1) :: .int (-1) :: .int (-1) :: .int 1 :: .int 2 :: .int 3 :: .int 4 :: zi4) (.int 0)) (F10_o0 : Fld Z h0 o0 cc0 "halves" "I" (.int 8)) (F11_o0 : Fld Z h0 o0 cc0 "sourceSide" "[Z" (.null)) (g_o1 : n0 ≤ o1) (ne_o0_o1 : o0 ≠ o1) (ne_o3_o1 : o3 ≠ o1) (g_o3 : n0 ≤ o3) (ne_o0_o3 : o0 ≠ o3) (ne_o10_o1 : o10 ≠ o1) (ne_o10_o3 : o10 ≠ o3) (ne_o9_o1 : o9 ≠ o1) (ne_o9_o3 : o9 ≠ o3) (g_o9 : n0 ≤ o9) (ne_o0_o9 : o0 ≠ o9) (ne_o10_o9 : o10 ≠ o9) (g_o10 : n0 ≤ o10) (ne_o0_o10 : o0 ≠ o10) (g_o0 : n0 ≤ o0) :
    MetFree l yy4 (head1 (Jvm.Cond.code yy4 bc4 3 none :: ws) rr3) (fun a U => a = #[.ref o0, .int 2, .int 3] ∧ Z.Warmed39 U.vm ∧ U.heap = h0) (fun _ _ _ _ _ => True) (fun _ U o U' => ∃ v L, o = .returned v ∧ Q6b Z o0 o1 k2 o3 k4 q5 q6 q7 q8 o9 o10 k11 k12 h0 n0 v U'.heap L ∧ FrameEnd U o U' L rr3.cells rr3.slots) := by
  refine MetFree.of_bodySF (plainFor_of_name pn_0) hisR ?_
  intro p e s m args below meth c s₁ Bd hml0 hP hK
  obtain ⟨rfl, hZ, hh⟩ := hP
  have hx := Bd.exec
  have hby := Bd.bytes
  have hml : c.maxLocals = 3 := hml0
  have hown : s.vm.findClass cc0 = some m.cls := findClass_of_methodNamed Bd.named
  have hnm := (name_of_methodNamed Bd.named Bd.method).1
  have X0 : Stand p l e rr3 s m #[.ref o0, .int 2, .int 3] below meth c s₁ [] 0 0 := Stand.of_body Bd
  have e0 : s₁.heap = h0 := by rw [← hh, Bd.state]; rfl
  have N0 := Fr.nil n0
  refine OGl.start (ef_6 m o0 (2 : Int32) (3 : Int32)) ?_
  show OGl _ _ _ _ s₁ (mkF m 0 #[rv o0, iv 2, iv 3] [])
  refine gO (fun t k => kaN X0 hx hby d6_0 rfl rfl (kc X0 hx hby d6_1 (kiN X0 hx hby d6_2 rfl (o_imul X0 hx hby d6_3 (kc X0 hx hby d6_4 (o_iadd X0 hx hby d6_5 (kc X0 hx hby d6_6 (kiN X0 hx hby d6_7 rfl (o_imul X0 hx hby d6_8 (own_ldc2 X0 hx hown (mvT hZ (w42 hw)) rfl (hb hby d6_9) k)))))))))) ?_
  show OGl _ _ _ _ s₁ (mkF m 12 #[rv o0, iv 2, iv 3] [.long 2305843009213693951, .int 6, .int 5, .ref o0])
  obtain ⟨cq657, q657a, q657b⟩ := (E_o0).cell
  obtain ⟨_, _, ⟨T657, L657, kk657, n657⟩, -, X657, ⟨Lc657, hQ657, l657, y657, z657⟩, st657⟩ := X0.privateBack hx (y := yy2) hown (mvT hZ (w27 hw)) (mvT hZ (w28 hw)) (own_selPriv (y := yy2) (Cond.privateMethod_at (mvP hZ (w29 hw) (args := #[]))) (mvT hZ (w28 hw)) (mvT hZ (w23 hw)) rfl) (Cond.privateMethod_at (mvP hZ (w29 hw) (args := #[]))) (mvT hZ (w30 hw)) (by decide) (backOf (W := 0) (rm4f l Z a0 hw [] o0 o1 k2 o3 k4 q5 q6 q7 q8 o9 o10 k11 k12 h0 n0 Z0 F1_o0 F2_o0 V_o1 E_o0 F4_o0 V_o3 F6_o0 F7_o0 V_o10 V_o9 F10_o0 F11_o0 g_o1 ne_o0_o1 ne_o3_o1 g_o3 ne_o0_o3 ne_o10_o1 ne_o10_o3 ne_o9_o1 ne_o9_o3 g_o9 ne_o0_o9 ne_o10_o9 g_o10 ne_o0_o10 g_o0) hZ (w30 hw) (w3 hw) (by decide) (by decide)) (g := (mkF m 12 #[rv o0, iv 2, iv 3] [.long 2305843009213693951, .int 6, .int 5, .ref o0])) rfl (by rw [hml]; rfl) (Steps.refl _) (a := o0) (by rw [e0]; exact q657a) q657b (argsL := [.int 5, .int 6, .long 2305843009213693951]) (rest := []) (lenOf pd_1 rfl) rfl (by show 2 * 0 + _ ≤ _; exact Nat.le_of_eq rfl) (hb hby d6_12) (fun _ _ => ⟨rfl, e0, (by decide : 0 + 0 ≤ _), (by decide : 0 + 0 ≤ _)⟩)
  dsimp only [Pt.U, Pt.locs, Pt.cells, Pt.slots] at X657 l657 y657 z657 st657 hQ657
  replace l657 := l657.symm
  subst l657 y657 z657
  obtain ⟨rfl, Nq657, K657, Fq657_0, Fq657_1, Fq657_2, Fq657_3, Fq657_4, Fq657_5, Fq657_6, Fq657_7, Fq657_8, Fq657_9, Fq657_10⟩ := hQ657
  have KK657 : Keep h0 T657.heap [o1, o3, o9, o10, o0] := (Keep.refl h0 [o1, o3, o9, o10, o0]).trans K657 (allS (Or.inl (List.mem_of_getElem? (i := 4) rfl)) (allS (Or.inl (List.mem_of_getElem? (i := 3) rfl)) (allS (Or.inl (List.mem_of_getElem? (i := 2) rfl)) (allS (Or.inl (List.mem_of_getElem? (i := 1) rfl)) (allS (Or.inl (List.mem_of_getElem? (i := 0) rfl)) all0)))))
  have N657 := Fr.app N0 Nq657
  refine gO (fun t k => st657.trans k) ?_
  show OGl _ _ _ _ T657 (mkF m 15 #[rv o0, iv 2, iv 3] [])
  obtain ⟨fs, hr, hrun, hended, hW, hsame⟩ := X657.leave (v := none) (fun _ => rfl) (BodyLoose.notSynchronized Bd)
  refine ⟨_, _, X657.returnOut hx Bd.returns (hb hby d6_15) hr, hrun, hended, _, _, rfl, ?_, ⟨_, rfl⟩, hW, hsame.mono (by decide) (by decide)⟩
  show Q6b Z o0 o1 k2 o3 k4 q5 q6 q7 q8 o9 o10 k11 k12 h0 n0 _ T657.heap _
  exact ⟨rfl, N657, KK657, Fq657_10, Fq657_9, Fq657_8, Fq657_7, Fq657_0, Fq657_1, Fq657_2, Fq657_3, Fq657_4, Fq657_5, Fq657_6⟩
theorem d7_0 : decode bc5 0 = .ok (.iconst 2, 1) := by decide +kernel
theorem d7_1 : decode bc5 1 = .ok (.iload_n 1, 1) := by decide +kernel
theorem d7_2 : decode bc5 2 = .ok (.imul, 1) := by decide +kernel
theorem d7_3 : decode bc5 3 = .ok (.iconst 1, 1) := by decide +kernel
theorem d7_4 : decode bc5 4 = .ok (.iadd, 1) := by decide +kernel
theorem d7_5 : decode bc5 5 = .ok (.istore 5, 2) := by decide +kernel
theorem d7_7 : decode bc5 7 = .ok (.iconst 2, 1) := by decide +kernel
theorem d7_8 : decode bc5 8 = .ok (.iload_n 2, 1) := by decide +kernel
theorem d7_9 : decode bc5 9 = .ok (.imul, 1) := by decide +kernel
theorem d7_10 : decode bc5 10 = .ok (.istore 6, 2) := by decide +kernel
theorem d7_12 : decode bc5 12 = .ok (.aload_n 0, 1) := by decide +kernel
theorem d7_13 : decode bc5 13 = .ok (.getfield 25, 3) := by decide +kernel
theorem d7_16 : decode bc5 16 = .ok (.newarray .int, 2) := by decide +kernel
theorem d7_18 : decode bc5 18 = .ok (.astore 7, 2) := by decide +kernel
theorem d7_20 : decode bc5 20 = .ok (.lconst 0, 1) := by decide +kernel
theorem d7_21 : decode bc5 21 = .ok (.lstore 8, 2) := by decide +kernel
theorem d7_23 : decode bc5 23 = .ok (.lload 8, 2) := by decide +kernel
theorem d7_25 : decode bc5 25 = .ok (.lload_n 3, 1) := by decide +kernel
theorem d7_26 : decode bc5 26 = .ok (.lcmp, 1) := by decide +kernel
theorem d7_27 : decode bc5 27 = .ok (.ifCond .ge 309, 3) := by decide +kernel
theorem d7_30 : decode bc5 30 = .ok (.aload 7, 2) := by decide +kernel
theorem d7_32 : decode bc5 32 = .ok (.iconst (-1), 1) := by decide +kernel
theorem d7_33 : decode bc5 33 = .ok (.invokestatic 41, 3) := by decide +kernel
theorem d8_0 : decode bc6 0 = .ok (.iconst 0, 1) := by decide +kernel
theorem d8_1 : decode bc6 1 = .ok (.istore_n 2, 1) := by decide +kernel
theorem d8_2 : decode bc6 2 = .ok (.aload_n 0, 1) := by decide +kernel
theorem d8_3 : decode bc6 3 = .ok (.arraylength, 1) := by decide +kernel
theorem d8_4 : decode bc6 4 = .ok (.istore_n 3, 1) := by decide +kernel
theorem d8_5 : decode bc6 5 = .ok (.iload_n 2, 1) := by decide +kernel
theorem d8_6 : decode bc6 6 = .ok (.iload_n 3, 1) := by decide +kernel
theorem d8_7 : decode bc6 7 = .ok (.if_icmp .ge 13, 3) := by decide +kernel
theorem d8_10 : decode bc6 10 = .ok (.aload_n 0, 1) := by decide +kernel
theorem d8_11 : decode bc6 11 = .ok (.iload_n 2, 1) := by decide +kernel
theorem d8_12 : decode bc6 12 = .ok (.iload_n 1, 1) := by decide +kernel
theorem d8_13 : decode bc6 13 = .ok (.iastore, 1) := by decide +kernel
theorem d8_14 : decode bc6 14 = .ok (.iinc 2 1, 3) := by decide +kernel
theorem d8_17 : decode bc6 17 = .ok (.goto (-12), 3) := by decide +kernel
theorem d8_20 : decode bc6 20 = .ok (.return_, 1) := by decide +kernel
theorem ef_8 (m : MethodId) (x0 : Addr) (x1 : Int32) : entryFrame m #[.ref x0, .int x1] 4 = mkF m 0 #[rv x0, iv x1, un, un] [] := by first | (simp [entryFrame, mkF, argsToLocals, Value.category]; done) | rfl
theorem pn_1 : plainName "java/util/Arrays" = true := by first | (simp [plainName, overriddenIn]; done) | decide +kernel
def Q8 (Z : State) (o0 : Addr) (k1 : ClassId) (h0 : Heap) (n0 : Nat) (v : Option Value) (h : Heap) (L : List Loc) : Prop := v = none ∧ Fr n0 L ∧ Keep h0 h [o0] ∧ Arv Z h o0 k1 .int 8 [.int (-1), .int (-1), .int (-1), .int (-1), .int (-1), .int (-1), .int (-1), .int (-1)] (.int 0)
set_option maxRecDepth 65536 in
set_option maxHeartbeats 40000000 in
theorem rm8 (l : Launch) (Z : State) (a0 : Array Value) (hw : ∀ d ∈ tables_1, d.before a0 Z = true) (ws : List Jvm.Cond) (o0 : Addr) (k1 : ClassId) (h0 : Heap) (n0 : Nat) (Z0 : n0 ≤ h0.size) (V_o0 : Arv Z h0 o0 k1 .int 8 (zi8) (.int 0)) (g_o0 : n0 ≤ o0) :
    MetFree l yy5 (head1 (Jvm.Cond.code yy5 bc6 4 none :: ws) rr1) (fun a U => a = #[.ref o0, .int (-1)] ∧ Z.Warmed39 U.vm ∧ U.heap = h0) (fun _ _ _ _ _ => True) (fun _ U o U' => ∃ v L, o = .returned v ∧ Q8 Z o0 k1 h0 n0 v U'.heap L ∧ FrameEnd U o U' L rr1.cells rr1.slots) := by
  refine MetFree.of_bodySF (plainFor_of_name pn_1) hisR ?_
  intro p e s m args below meth c s₁ Bd hml0 hP hK
  obtain ⟨rfl, hZ, hh⟩ := hP
  have hx := Bd.exec
  have hby := Bd.bytes
  have hml : c.maxLocals = 4 := hml0
  have hown : s.vm.findClass "java/util/Arrays" = some m.cls := findClass_of_methodNamed Bd.named
  have hnm := (name_of_methodNamed Bd.named Bd.method).1
  have X0 : Stand p l e rr1 s m #[.ref o0, .int (-1)] below meth c s₁ [] 0 0 := Stand.of_body Bd
  have e0 : s₁.heap = h0 := by rw [← hh, Bd.state]; rfl
  have N0 := Fr.nil n0
  refine OGl.start (ef_8 m o0 (-1 : Int32)) ?_
  show OGl _ _ _ _ s₁ (mkF m 0 #[rv o0, iv (-1), un, un] [])
  refine gO (fun t k => kc X0 hx hby d8_0 (siN X0 hx hby (L' := #[rv o0, iv (-1), iv 0, un]) d8_1 rfl (kaN X0 hx hby d8_2 rfl rfl (rL X0 hx hby hZ e0 V_o0 d8_3 (siN X0 hx hby (L' := #[rv o0, iv (-1), iv 0, iv 8]) d8_4 rfl (kiN X0 hx hby d8_5 rfl (kiN X0 hx hby d8_6 rfl (cN X0 hx hby d8_7 (tlt (by decide : (0 : Int32) < (8 : Int32))).2.1 (kaN X0 hx hby d8_10 rfl rfl (kiN X0 hx hby d8_11 rfl (kiN X0 hx hby d8_12 rfl k))))))))))) ?_
  show OGl _ _ _ _ s₁ (mkF m 13 #[rv o0, iv (-1), iv 0, iv 8] [.int (-1), .int 0, .ref o0])
  refine wI X0 hx hby hZ e0 V_o0 0 rfl (Nat.le_of_ble_eq_true rfl) d8_13 fun T747 h747 X747 e747 W747 V747 => ?_
  have N747 := Fr.snoc X747 N0 g_o0
  have KK747 := (Keep.refl h0 [o0]).wr W747 (Or.inl (List.mem_of_getElem? (i := 0) rfl))
  show OGl _ _ _ _ T747 (mkF m 14 #[rv o0, iv (-1), iv 0, iv 8] [])
  refine gO (fun t k => o_iinc X747 hx hby (L' := #[rv o0, iv (-1), iv 1, iv 8]) d8_14 rfl rfl (o_goto X747 hx hby 5 d8_17 rfl (kiN X747 hx hby d8_5 rfl (kiN X747 hx hby d8_6 rfl (cN X747 hx hby d8_7 (tlt (by decide : (1 : Int32) < (8 : Int32))).2.1 (kaN X747 hx hby d8_10 rfl rfl (kiN X747 hx hby d8_11 rfl (kiN X747 hx hby d8_12 rfl k)))))))) ?_
  show OGl _ _ _ _ T747 (mkF m 13 #[rv o0, iv (-1), iv 1, iv 8] [.int (-1), .int 1, .ref o0])
  refine wI X747 hx hby hZ e747 V747 1 rfl (Nat.le_of_ble_eq_true rfl) d8_13 fun T748 h748 X748 e748 W748 V748 => ?_
  have N748 := Fr.snoc X748 N747 g_o0
  have KK748 := KK747.wr W748 (Or.inl (List.mem_of_getElem? (i := 0) rfl))
  show OGl _ _ _ _ T748 (mkF m 14 #[rv o0, iv (-1), iv 1, iv 8] [])
  refine gO (fun t k => o_iinc X748 hx hby (L' := #[rv o0, iv (-1), iv 2, iv 8]) d8_14 rfl rfl (o_goto X748 hx hby 5 d8_17 rfl (kiN X748 hx hby d8_5 rfl (kiN X748 hx hby d8_6 rfl (cN X748 hx hby d8_7 (tlt (by decide : (2 : Int32) < (8 : Int32))).2.1 (kaN X748 hx hby d8_10 rfl rfl (kiN X748 hx hby d8_11 rfl (kiN X748 hx hby d8_12 rfl k)))))))) ?_
  show OGl _ _ _ _ T748 (mkF m 13 #[rv o0, iv (-1), iv 2, iv 8] [.int (-1), .int 2, .ref o0])
  refine wI X748 hx hby hZ e748 V748 2 rfl (Nat.le_of_ble_eq_true rfl) d8_13 fun T749 h749 X749 e749 W749 V749 => ?_
  have N749 := Fr.snoc X749 N748 g_o0
  have KK749 := KK748.wr W749 (Or.inl (List.mem_of_getElem? (i := 0) rfl))
  show OGl _ _ _ _ T749 (mkF m 14 #[rv o0, iv (-1), iv 2, iv 8] [])
  refine gO (fun t k => o_iinc X749 hx hby (L' := #[rv o0, iv (-1), iv 3, iv 8]) d8_14 rfl rfl (o_goto X749 hx hby 5 d8_17 rfl (kiN X749 hx hby d8_5 rfl (kiN X749 hx hby d8_6 rfl (cN X749 hx hby d8_7 (tlt (by decide : (3 : Int32) < (8 : Int32))).2.1 (kaN X749 hx hby d8_10 rfl rfl (kiN X749 hx hby d8_11 rfl (kiN X749 hx hby d8_12 rfl k)))))))) ?_
  show OGl _ _ _ _ T749 (mkF m 13 #[rv o0, iv (-1), iv 3, iv 8] [.int (-1), .int 3, .ref o0])
  refine wI X749 hx hby hZ e749 V749 3 rfl (Nat.le_of_ble_eq_true rfl) d8_13 fun T750 h750 X750 e750 W750 V750 => ?_
  have N750 := Fr.snoc X750 N749 g_o0
  have KK750 := KK749.wr W750 (Or.inl (List.mem_of_getElem? (i := 0) rfl))
  show OGl _ _ _ _ T750 (mkF m 14 #[rv o0, iv (-1), iv 3, iv 8] [])
  refine gO (fun t k => o_iinc X750 hx hby (L' := #[rv o0, iv (-1), iv 4, iv 8]) d8_14 rfl rfl (o_goto X750 hx hby 5 d8_17 rfl (kiN X750 hx hby d8_5 rfl (kiN X750 hx hby d8_6 rfl (cN X750 hx hby d8_7 (tlt (by decide : (4 : Int32) < (8 : Int32))).2.1 (kaN X750 hx hby d8_10 rfl rfl (kiN X750 hx hby d8_11 rfl (kiN X750 hx hby d8_12 rfl k)))))))) ?_
  show OGl _ _ _ _ T750 (mkF m 13 #[rv o0, iv (-1), iv 4, iv 8] [.int (-1), .int 4, .ref o0])
  refine wI X750 hx hby hZ e750 V750 4 rfl (Nat.le_of_ble_eq_true rfl) d8_13 fun T751 h751 X751 e751 W751 V751 => ?_
  have N751 := Fr.snoc X751 N750 g_o0
  have KK751 := KK750.wr W751 (Or.inl (List.mem_of_getElem? (i := 0) rfl))
  show OGl _ _ _ _ T751 (mkF m 14 #[rv o0, iv (-1), iv 4, iv 8] [])
  refine gO (fun t k => o_iinc X751 hx hby (L' := #[rv o0, iv (-1), iv 5, iv 8]) d8_14 rfl rfl (o_goto X751 hx hby 5 d8_17 rfl (kiN X751 hx hby d8_5 rfl (kiN X751 hx hby d8_6 rfl (cN X751 hx hby d8_7 (tlt (by decide : (5 : Int32) < (8 : Int32))).2.1 (kaN X751 hx hby d8_10 rfl rfl (kiN X751 hx hby d8_11 rfl (kiN X751 hx hby d8_12 rfl k)))))))) ?_
  show OGl _ _ _ _ T751 (mkF m 13 #[rv o0, iv (-1), iv 5, iv 8] [.int (-1), .int 5, .ref o0])
  refine wI X751 hx hby hZ e751 V751 5 rfl (Nat.le_of_ble_eq_true rfl) d8_13 fun T752 h752 X752 e752 W752 V752 => ?_
  have N752 := Fr.snoc X752 N751 g_o0
  have KK752 := KK751.wr W752 (Or.inl (List.mem_of_getElem? (i := 0) rfl))
  show OGl _ _ _ _ T752 (mkF m 14 #[rv o0, iv (-1), iv 5, iv 8] [])
  refine gO (fun t k => o_iinc X752 hx hby (L' := #[rv o0, iv (-1), iv 6, iv 8]) d8_14 rfl rfl (o_goto X752 hx hby 5 d8_17 rfl (kiN X752 hx hby d8_5 rfl (kiN X752 hx hby d8_6 rfl (cN X752 hx hby d8_7 (tlt (by decide : (6 : Int32) < (8 : Int32))).2.1 (kaN X752 hx hby d8_10 rfl rfl (kiN X752 hx hby d8_11 rfl (kiN X752 hx hby d8_12 rfl k)))))))) ?_
  show OGl _ _ _ _ T752 (mkF m 13 #[rv o0, iv (-1), iv 6, iv 8] [.int (-1), .int 6, .ref o0])
  refine wI X752 hx hby hZ e752 V752 6 rfl (Nat.le_of_ble_eq_true rfl) d8_13 fun T753 h753 X753 e753 W753 V753 => ?_
  have N753 := Fr.snoc X753 N752 g_o0
  have KK753 := KK752.wr W753 (Or.inl (List.mem_of_getElem? (i := 0) rfl))
  show OGl _ _ _ _ T753 (mkF m 14 #[rv o0, iv (-1), iv 6, iv 8] [])
  refine gO (fun t k => o_iinc X753 hx hby (L' := #[rv o0, iv (-1), iv 7, iv 8]) d8_14 rfl rfl (o_goto X753 hx hby 5 d8_17 rfl (kiN X753 hx hby d8_5 rfl (kiN X753 hx hby d8_6 rfl (cN X753 hx hby d8_7 (tlt (by decide : (7 : Int32) < (8 : Int32))).2.1 (kaN X753 hx hby d8_10 rfl rfl (kiN X753 hx hby d8_11 rfl (kiN X753 hx hby d8_12 rfl k)))))))) ?_
  show OGl _ _ _ _ T753 (mkF m 13 #[rv o0, iv (-1), iv 7, iv 8] [.int (-1), .int 7, .ref o0])
  refine wI X753 hx hby hZ e753 V753 7 rfl (Nat.le_of_ble_eq_true rfl) d8_13 fun T754 h754 X754 e754 W754 V754 => ?_
  have N754 := Fr.snoc X754 N753 g_o0
  have KK754 := KK753.wr W754 (Or.inl (List.mem_of_getElem? (i := 0) rfl))
  show OGl _ _ _ _ T754 (mkF m 14 #[rv o0, iv (-1), iv 7, iv 8] [])
  refine gO (fun t k => o_iinc X754 hx hby (L' := #[rv o0, iv (-1), iv 8, iv 8]) d8_14 rfl rfl (o_goto X754 hx hby 5 d8_17 rfl (kiN X754 hx hby d8_5 rfl (kiN X754 hx hby d8_6 rfl (cY X754 hx hby 20 d8_7 (flt (by decide : ¬ ((8 : Int32) < (8 : Int32)))).2.1 rfl k))))) ?_
  show OGl _ _ _ _ T754 (mkF m 20 #[rv o0, iv (-1), iv 8, iv 8] [])
  obtain ⟨fs, hr, hrun, hended, hW, hsame⟩ := X754.leave (v := none) (fun _ => rfl) (BodyLoose.notSynchronized Bd)
  refine ⟨_, _, X754.returnOut hx Bd.returns (hb hby d8_20) hr, hrun, hended, _, _, rfl, ?_, ⟨_, rfl⟩, hW, hsame.mono (by decide) (by decide)⟩
  show Q8 Z o0 k1 h0 n0 _ T754.heap _
  rw [e754]
  exact ⟨rfl, N754, KK754, V754⟩
theorem pd_4 : parseMethodDescriptor "([II)V" = some ⟨[(.array .int), .int], none⟩ := by decide +kernel
theorem d7_36 : decode bc5 36 = .ok (.aload_n 0, 1) := by decide +kernel
theorem d7_37 : decode bc5 37 = .ok (.getfield 25, 3) := by decide +kernel
theorem d7_40 : decode bc5 40 = .ok (.newarray .int, 2) := by decide +kernel
theorem d7_42 : decode bc5 42 = .ok (.astore 10, 2) := by decide +kernel
theorem d7_44 : decode bc5 44 = .ok (.iconst 1, 1) := by decide +kernel
theorem d7_45 : decode bc5 45 = .ok (.istore 11, 2) := by decide +kernel
theorem d7_47 : decode bc5 47 = .ok (.aload 10, 2) := by decide +kernel
theorem d7_49 : decode bc5 49 = .ok (.iconst 0, 1) := by decide +kernel
theorem d7_50 : decode bc5 50 = .ok (.iload 5, 2) := by decide +kernel
theorem d7_52 : decode bc5 52 = .ok (.iastore, 1) := by decide +kernel
theorem d7_53 : decode bc5 53 = .ok (.aload 7, 2) := by decide +kernel
theorem d7_55 : decode bc5 55 = .ok (.iload 5, 2) := by decide +kernel
theorem d7_57 : decode bc5 57 = .ok (.aload_n 0, 1) := by decide +kernel
theorem d7_58 : decode bc5 58 = .ok (.getfield 45, 3) := by decide +kernel
theorem d7_61 : decode bc5 61 = .ok (.iastore, 1) := by decide +kernel
theorem d7_62 : decode bc5 62 = .ok (.iconst 0, 1) := by decide +kernel
theorem d7_63 : decode bc5 63 = .ok (.istore 12, 2) := by decide +kernel
theorem d7_65 : decode bc5 65 = .ok (.iload 12, 2) := by decide +kernel
theorem d7_67 : decode bc5 67 = .ok (.iload 11, 2) := by decide +kernel
theorem d7_69 : decode bc5 69 = .ok (.if_icmp .ge 98, 3) := by decide +kernel
theorem d7_72 : decode bc5 72 = .ok (.aload 7, 2) := by decide +kernel
theorem d7_74 : decode bc5 74 = .ok (.iload 6, 2) := by decide +kernel
theorem d7_76 : decode bc5 76 = .ok (.iaload, 1) := by decide +kernel
theorem d7_77 : decode bc5 77 = .ok (.ifCond .ge 90, 3) := by decide +kernel
theorem d7_80 : decode bc5 80 = .ok (.aload_n 0, 1) := by decide +kernel
theorem d7_81 : decode bc5 81 = .ok (.getfield 9, 3) := by decide +kernel
theorem d7_84 : decode bc5 84 = .ok (.aload 10, 2) := by decide +kernel
theorem d7_86 : decode bc5 86 = .ok (.iload 12, 2) := by decide +kernel
theorem d7_88 : decode bc5 88 = .ok (.iaload, 1) := by decide +kernel
theorem d7_89 : decode bc5 89 = .ok (.iaload, 1) := by decide +kernel
theorem d7_90 : decode bc5 90 = .ok (.istore 13, 2) := by decide +kernel
theorem d7_92 : decode bc5 92 = .ok (.iload 13, 2) := by decide +kernel
theorem d7_94 : decode bc5 94 = .ok (.ifCond .lt 67, 3) := by decide +kernel
theorem d7_97 : decode bc5 97 = .ok (.aload_n 0, 1) := by decide +kernel
theorem d7_98 : decode bc5 98 = .ok (.getfield 21, 3) := by decide +kernel
theorem d7_101 : decode bc5 101 = .ok (.iload 13, 2) := by decide +kernel
theorem d7_103 : decode bc5 103 = .ok (.laload, 1) := by decide +kernel
theorem d7_104 : decode bc5 104 = .ok (.lconst 0, 1) := by decide +kernel
theorem d7_105 : decode bc5 105 = .ok (.lcmp, 1) := by decide +kernel
theorem d7_106 : decode bc5 106 = .ok (.ifCond .le 43, 3) := by decide +kernel
theorem d7_109 : decode bc5 109 = .ok (.aload 7, 2) := by decide +kernel
theorem d7_111 : decode bc5 111 = .ok (.aload_n 0, 1) := by decide +kernel
theorem d7_112 : decode bc5 112 = .ok (.getfield 15, 3) := by decide +kernel
theorem d7_115 : decode bc5 115 = .ok (.iload 13, 2) := by decide +kernel
theorem d7_117 : decode bc5 117 = .ok (.iaload, 1) := by decide +kernel
theorem d7_118 : decode bc5 118 = .ok (.iaload, 1) := by decide +kernel
theorem d7_119 : decode bc5 119 = .ok (.ifCond .ge 30, 3) := by decide +kernel
theorem d7_122 : decode bc5 122 = .ok (.aload 7, 2) := by decide +kernel
theorem d7_124 : decode bc5 124 = .ok (.aload_n 0, 1) := by decide +kernel
theorem d7_125 : decode bc5 125 = .ok (.getfield 15, 3) := by decide +kernel
theorem d7_128 : decode bc5 128 = .ok (.iload 13, 2) := by decide +kernel
theorem d7_130 : decode bc5 130 = .ok (.iaload, 1) := by decide +kernel
theorem d7_131 : decode bc5 131 = .ok (.iload 13, 2) := by decide +kernel
theorem d7_133 : decode bc5 133 = .ok (.iastore, 1) := by decide +kernel
theorem d7_134 : decode bc5 134 = .ok (.aload 10, 2) := by decide +kernel
theorem d7_136 : decode bc5 136 = .ok (.iload 11, 2) := by decide +kernel
theorem d7_138 : decode bc5 138 = .ok (.iinc 11 1, 3) := by decide +kernel
theorem d7_141 : decode bc5 141 = .ok (.aload_n 0, 1) := by decide +kernel
theorem d7_142 : decode bc5 142 = .ok (.getfield 15, 3) := by decide +kernel
theorem d7_145 : decode bc5 145 = .ok (.iload 13, 2) := by decide +kernel
theorem d7_147 : decode bc5 147 = .ok (.iaload, 1) := by decide +kernel
theorem d7_148 : decode bc5 148 = .ok (.iastore, 1) := by decide +kernel
theorem d7_149 : decode bc5 149 = .ok (.aload_n 0, 1) := by decide +kernel
theorem d7_150 : decode bc5 150 = .ok (.getfield 18, 3) := by decide +kernel
theorem d7_153 : decode bc5 153 = .ok (.iload 13, 2) := by decide +kernel
theorem d7_155 : decode bc5 155 = .ok (.iaload, 1) := by decide +kernel
theorem d7_156 : decode bc5 156 = .ok (.istore 13, 2) := by decide +kernel
theorem d7_158 : decode bc5 158 = .ok (.goto (-66), 3) := by decide +kernel
theorem d7_161 : decode bc5 161 = .ok (.iinc 12 1, 3) := by decide +kernel
theorem d7_164 : decode bc5 164 = .ok (.goto (-99), 3) := by decide +kernel
theorem d7_167 : decode bc5 167 = .ok (.aload 7, 2) := by decide +kernel
theorem d7_169 : decode bc5 169 = .ok (.iload 6, 2) := by decide +kernel
theorem d7_171 : decode bc5 171 = .ok (.iaload, 1) := by decide +kernel
theorem d7_172 : decode bc5 172 = .ok (.ifCond .ge 43, 3) := by decide +kernel
theorem d7_215 : decode bc5 215 = .ok (.lload_n 3, 1) := by decide +kernel
theorem d7_216 : decode bc5 216 = .ok (.lload 8, 2) := by decide +kernel
theorem d7_218 : decode bc5 218 = .ok (.lsub, 1) := by decide +kernel
theorem d7_219 : decode bc5 219 = .ok (.lstore 12, 2) := by decide +kernel
theorem d7_221 : decode bc5 221 = .ok (.iload 6, 2) := by decide +kernel
theorem d7_223 : decode bc5 223 = .ok (.istore 14, 2) := by decide +kernel
theorem d7_225 : decode bc5 225 = .ok (.iload 14, 2) := by decide +kernel
theorem d7_227 : decode bc5 227 = .ok (.iload 5, 2) := by decide +kernel
theorem d7_229 : decode bc5 229 = .ok (.if_icmp .eq 37, 3) := by decide +kernel
theorem d7_232 : decode bc5 232 = .ok (.lload 12, 2) := by decide +kernel
theorem d7_234 : decode bc5 234 = .ok (.aload_n 0, 1) := by decide +kernel
theorem d7_235 : decode bc5 235 = .ok (.getfield 21, 3) := by decide +kernel
theorem d7_238 : decode bc5 238 = .ok (.aload 7, 2) := by decide +kernel
theorem d7_240 : decode bc5 240 = .ok (.iload 14, 2) := by decide +kernel
theorem d7_242 : decode bc5 242 = .ok (.iaload, 1) := by decide +kernel
theorem d7_243 : decode bc5 243 = .ok (.laload, 1) := by decide +kernel
theorem d7_244 : decode bc5 244 = .ok (.invokestatic 52, 3) := by decide +kernel
theorem d9_0 : decode bc7 0 = .ok (.lload_n 0, 1) := by decide +kernel
theorem d9_1 : decode bc7 1 = .ok (.lload_n 2, 1) := by decide +kernel
theorem d9_2 : decode bc7 2 = .ok (.lcmp, 1) := by decide +kernel
theorem d9_3 : decode bc7 3 = .ok (.ifCond .gt 7, 3) := by decide +kernel
theorem d9_6 : decode bc7 6 = .ok (.lload_n 0, 1) := by decide +kernel
theorem d9_7 : decode bc7 7 = .ok (.goto 4, 3) := by decide +kernel
theorem d9_11 : decode bc7 11 = .ok (.lreturn, 1) := by decide +kernel
theorem ef_9 (m : MethodId) (x0 : Int64) (x1 : Int64) : entryFrame m #[.long x0, .long x1] 4 = mkF m 0 #[jv x0, sc, jv x1, sc] [] := by first | (simp [entryFrame, mkF, argsToLocals, Value.category]; done) | rfl
def Q9 (Z : State)  (h0 : Heap) (n0 : Nat) (v : Option Value) (h : Heap) (L : List Loc) : Prop := v = some (.long 2305843009213693950) ∧ Fr n0 L ∧ h = h0
set_option maxRecDepth 65536 in
set_option maxHeartbeats 40000000 in
theorem rm9 (l : Launch) (Z : State) (a0 : Array Value) (hw : ∀ d ∈ tables_1, d.before a0 Z = true) (ws : List Jvm.Cond)  (h0 : Heap) (n0 : Nat) (Z0 : n0 ≤ h0.size) :
    MetFree l yy6 (head1 (Jvm.Cond.code yy6 bc7 4 (some .long) :: ws) rr1) (fun a U => a = #[.long 2305843009213693950, .long 2305843009213693951] ∧ Z.Warmed39 U.vm ∧ U.heap = h0) (fun _ _ _ _ _ => True) (fun _ U o U' => ∃ v L, o = .returned v ∧ Q9 Z  h0 n0 v U'.heap L ∧ FrameEnd U o U' L rr1.cells rr1.slots) := by
  refine MetFree.of_bodySF (Jvm.Free.JP.mathPlain rfl (by decide +kernel)) hisR ?_
  intro p e s m args below meth c s₁ Bd hml0 hP hK
  obtain ⟨rfl, hZ, hh⟩ := hP
  have hx := Bd.exec
  have hby := Bd.bytes
  have hml : c.maxLocals = 4 := hml0
  have hown : s.vm.findClass "java/lang/Math" = some m.cls := findClass_of_methodNamed Bd.named
  have hnm := (name_of_methodNamed Bd.named Bd.method).1
  have X0 : Stand p l e rr1 s m #[.long 2305843009213693950, .long 2305843009213693951] below meth c s₁ [] 0 0 := Stand.of_body Bd
  have e0 : s₁.heap = h0 := by rw [← hh, Bd.state]; rfl
  have N0 := Fr.nil n0
  refine OGl.start (ef_9 m (2305843009213693950 : Int64) (2305843009213693951 : Int64)) ?_
  show OGl _ _ _ _ s₁ (mkF m 0 #[jv 2305843009213693950, sc, jv 2305843009213693951, sc] [])
  refine gO (fun t k => klN X0 hx hby d9_0 rfl (klN X0 hx hby d9_1 rfl (o_lcmp X0 hx hby d9_2 (iN X0 hx hby d9_3 (own_fltL (by decide : ¬ ((2305843009213693951 : Int64) < (2305843009213693950 : Int64)))).2.2.1 (klN X0 hx hby d9_6 rfl (o_goto X0 hx hby 11 d9_7 rfl k)))))) ?_
  show OGl _ _ _ _ s₁ (mkF m 11 #[jv 2305843009213693950, sc, jv 2305843009213693951, sc] [.long 2305843009213693950])
  obtain ⟨fs, hr, hrun, hended, hW, hsame⟩ := X0.leave (v := some (.long 2305843009213693950)) (fun h => by rw [Bd.returns] at h; cases h) (BodyLoose.notSynchronized Bd)
  refine ⟨_, _, X0.lreturnOut hx Bd.returns (hb hby d9_11) hr, hrun, hended, _, _, rfl, ?_, ⟨_, rfl⟩, hW, hsame.mono (by decide) (by decide)⟩
  show Q9 Z  h0 n0 _ s₁.heap _
  rw [e0]
  exact ⟨rfl, N0, rfl⟩
theorem pd_5 : parseMethodDescriptor "(JJ)J" = some ⟨[.long, .long], some .long⟩ := by decide +kernel
theorem d7_247 : decode bc5 247 = .ok (.lstore 12, 2) := by decide +kernel
theorem d7_249 : decode bc5 249 = .ok (.aload_n 0, 1) := by decide +kernel
theorem d7_250 : decode bc5 250 = .ok (.getfield 15, 3) := by decide +kernel
theorem d7_253 : decode bc5 253 = .ok (.aload 7, 2) := by decide +kernel
theorem d7_255 : decode bc5 255 = .ok (.iload 14, 2) := by decide +kernel
theorem d7_257 : decode bc5 257 = .ok (.iaload, 1) := by decide +kernel
theorem d7_258 : decode bc5 258 = .ok (.iconst 1, 1) := by decide +kernel
theorem d7_259 : decode bc5 259 = .ok (.ixor, 1) := by decide +kernel
theorem d7_260 : decode bc5 260 = .ok (.iaload, 1) := by decide +kernel
theorem d7_261 : decode bc5 261 = .ok (.istore 14, 2) := by decide +kernel
theorem d7_263 : decode bc5 263 = .ok (.goto (-38), 3) := by decide +kernel
theorem d9_10 : decode bc7 10 = .ok (.lload_n 2, 1) := by decide +kernel
def t9a_0 (q0 : Int64) : Int64 := (if q0 < (2305843009213693950 : Int64) then q0 else (2305843009213693950 : Int64))
def Q9a (Z : State) (q0 : Int64) (h0 : Heap) (n0 : Nat) (v : Option Value) (h : Heap) (L : List Loc) : Prop := v = some (.long (t9a_0 q0)) ∧ Fr n0 L ∧ h = h0
set_option maxRecDepth 65536 in
set_option maxHeartbeats 40000000 in
theorem rm9a (l : Launch) (Z : State) (a0 : Array Value) (hw : ∀ d ∈ tables_1, d.before a0 Z = true) (ws : List Jvm.Cond) (q0 : Int64) (h0 : Heap) (n0 : Nat) (Z0 : n0 ≤ h0.size) :
    MetFree l yy6 (head1 (Jvm.Cond.code yy6 bc7 4 (some .long) :: ws) rr1) (fun a U => a = #[.long 2305843009213693950, .long q0] ∧ Z.Warmed39 U.vm ∧ U.heap = h0) (fun _ _ _ _ _ => True) (fun _ U o U' => ∃ v L, o = .returned v ∧ Q9a Z q0 h0 n0 v U'.heap L ∧ FrameEnd U o U' L rr1.cells rr1.slots) := by
  refine MetFree.of_bodySF (Jvm.Free.JP.mathPlain rfl (by decide +kernel)) hisR ?_
  intro p e s m args below meth c s₁ Bd hml0 hP hK
  obtain ⟨rfl, hZ, hh⟩ := hP
  have hx := Bd.exec
  have hby := Bd.bytes
  have hml : c.maxLocals = 4 := hml0
  have hown : s.vm.findClass "java/lang/Math" = some m.cls := findClass_of_methodNamed Bd.named
  have hnm := (name_of_methodNamed Bd.named Bd.method).1
  have X0 : Stand p l e rr1 s m #[.long 2305843009213693950, .long q0] below meth c s₁ [] 0 0 := Stand.of_body Bd
  have e0 : s₁.heap = h0 := by rw [← hh, Bd.state]; rfl
  have N0 := Fr.nil n0
  refine OGl.start (ef_9 m (2305843009213693950 : Int64) q0) ?_
  show OGl _ _ _ _ s₁ (mkF m 0 #[jv 2305843009213693950, sc, jv q0, sc] [])
  refine gO (fun t k => klN X0 hx hby d9_0 rfl (klN X0 hx hby d9_1 rfl (o_lcmp X0 hx hby d9_2 k))) ?_
  show OGl _ _ _ _ s₁ (mkF m 3 #[jv 2305843009213693950, sc, jv q0, sc] [.int (lcmpW (2305843009213693950 : Int64) q0)])
  by_cases hc883 : q0 < (2305843009213693950 : Int64)
  · refine gO (fun t k => iY X0 hx hby 10 d9_3 (own_tltL hc883).2.2.1 rfl (klN X0 hx hby d9_10 rfl k)) ?_
    show OGl _ _ _ _ s₁ (mkF m 11 #[jv 2305843009213693950, sc, jv q0, sc] [.long q0])
    obtain ⟨fs, hr, hrun, hended, hW, hsame⟩ := X0.leave (v := some (.long q0)) (fun h => by rw [Bd.returns] at h; cases h) (BodyLoose.notSynchronized Bd)
    refine ⟨_, _, X0.lreturnOut hx Bd.returns (hb hby d9_11) hr, hrun, hended, _, _, rfl, ?_, ⟨_, rfl⟩, hW, hsame.mono (by decide) (by decide)⟩
    have hv884 : (t9a_0 q0) = q0 := by unfold t9a_0; rw [if_pos hc883]
    show Q9a Z q0 h0 n0 _ s₁.heap _
    rw [e0]
    exact ⟨(by rw [hv884]), N0, rfl⟩
  · refine gO (fun t k => iN X0 hx hby d9_3 (own_fltL hc883).2.2.1 (klN X0 hx hby d9_6 rfl (o_goto X0 hx hby 11 d9_7 rfl k))) ?_
    show OGl _ _ _ _ s₁ (mkF m 11 #[jv 2305843009213693950, sc, jv q0, sc] [.long 2305843009213693950])
    obtain ⟨fs, hr, hrun, hended, hW, hsame⟩ := X0.leave (v := some (.long 2305843009213693950)) (fun h => by rw [Bd.returns] at h; cases h) (BodyLoose.notSynchronized Bd)
    refine ⟨_, _, X0.lreturnOut hx Bd.returns (hb hby d9_11) hr, hrun, hended, _, _, rfl, ?_, ⟨_, rfl⟩, hW, hsame.mono (by decide) (by decide)⟩
    have hv885 : (t9a_0 q0) = (2305843009213693950 : Int64) := by unfold t9a_0; rw [if_neg hc883]
    show Q9a Z q0 h0 n0 _ s₁.heap _
    rw [e0]
    exact ⟨(by rw [hv885]), N0, rfl⟩
def t9b_0 (q0 : Int64) : Int64 := (if (2305843009213693951 : Int64) < q0 then (2305843009213693951 : Int64) else q0)
def Q9b (Z : State) (q0 : Int64) (h0 : Heap) (n0 : Nat) (v : Option Value) (h : Heap) (L : List Loc) : Prop := v = some (.long (t9b_0 q0)) ∧ Fr n0 L ∧ h = h0
set_option maxRecDepth 65536 in
set_option maxHeartbeats 40000000 in
theorem rm9b (l : Launch) (Z : State) (a0 : Array Value) (hw : ∀ d ∈ tables_1, d.before a0 Z = true) (ws : List Jvm.Cond) (q0 : Int64) (h0 : Heap) (n0 : Nat) (Z0 : n0 ≤ h0.size) :
    MetFree l yy6 (head1 (Jvm.Cond.code yy6 bc7 4 (some .long) :: ws) rr1) (fun a U => a = #[.long q0, .long 2305843009213693951] ∧ Z.Warmed39 U.vm ∧ U.heap = h0) (fun _ _ _ _ _ => True) (fun _ U o U' => ∃ v L, o = .returned v ∧ Q9b Z q0 h0 n0 v U'.heap L ∧ FrameEnd U o U' L rr1.cells rr1.slots) := by
  refine MetFree.of_bodySF (Jvm.Free.JP.mathPlain rfl (by decide +kernel)) hisR ?_
  intro p e s m args below meth c s₁ Bd hml0 hP hK
  obtain ⟨rfl, hZ, hh⟩ := hP
  have hx := Bd.exec
  have hby := Bd.bytes
  have hml : c.maxLocals = 4 := hml0
  have hown : s.vm.findClass "java/lang/Math" = some m.cls := findClass_of_methodNamed Bd.named
  have hnm := (name_of_methodNamed Bd.named Bd.method).1
  have X0 : Stand p l e rr1 s m #[.long q0, .long 2305843009213693951] below meth c s₁ [] 0 0 := Stand.of_body Bd
  have e0 : s₁.heap = h0 := by rw [← hh, Bd.state]; rfl
  have N0 := Fr.nil n0
  refine OGl.start (ef_9 m q0 (2305843009213693951 : Int64)) ?_
  show OGl _ _ _ _ s₁ (mkF m 0 #[jv q0, sc, jv 2305843009213693951, sc] [])
  refine gO (fun t k => klN X0 hx hby d9_0 rfl (klN X0 hx hby d9_1 rfl (o_lcmp X0 hx hby d9_2 k))) ?_
  show OGl _ _ _ _ s₁ (mkF m 3 #[jv q0, sc, jv 2305843009213693951, sc] [.int (lcmpW q0 (2305843009213693951 : Int64))])
  by_cases hc889 : (2305843009213693951 : Int64) < q0
  · refine gO (fun t k => iY X0 hx hby 10 d9_3 (own_tltL hc889).2.2.1 rfl (klN X0 hx hby d9_10 rfl k)) ?_
    show OGl _ _ _ _ s₁ (mkF m 11 #[jv q0, sc, jv 2305843009213693951, sc] [.long 2305843009213693951])
    obtain ⟨fs, hr, hrun, hended, hW, hsame⟩ := X0.leave (v := some (.long 2305843009213693951)) (fun h => by rw [Bd.returns] at h; cases h) (BodyLoose.notSynchronized Bd)
    refine ⟨_, _, X0.lreturnOut hx Bd.returns (hb hby d9_11) hr, hrun, hended, _, _, rfl, ?_, ⟨_, rfl⟩, hW, hsame.mono (by decide) (by decide)⟩
    have hv890 : (t9b_0 q0) = (2305843009213693951 : Int64) := by unfold t9b_0; rw [if_pos hc889]
    show Q9b Z q0 h0 n0 _ s₁.heap _
    rw [e0]
    exact ⟨(by rw [hv890]), N0, rfl⟩
  · refine gO (fun t k => iN X0 hx hby d9_3 (own_fltL hc889).2.2.1 (klN X0 hx hby d9_6 rfl (o_goto X0 hx hby 11 d9_7 rfl k))) ?_
    show OGl _ _ _ _ s₁ (mkF m 11 #[jv q0, sc, jv 2305843009213693951, sc] [.long q0])
    obtain ⟨fs, hr, hrun, hended, hW, hsame⟩ := X0.leave (v := some (.long q0)) (fun h => by rw [Bd.returns] at h; cases h) (BodyLoose.notSynchronized Bd)
    refine ⟨_, _, X0.lreturnOut hx Bd.returns (hb hby d9_11) hr, hrun, hended, _, _, rfl, ?_, ⟨_, rfl⟩, hW, hsame.mono (by decide) (by decide)⟩
    have hv891 : (t9b_0 q0) = q0 := by unfold t9b_0; rw [if_neg hc889]
    show Q9b Z q0 h0 n0 _ s₁.heap _
    rw [e0]
    exact ⟨(by rw [hv891]), N0, rfl⟩
def t9c_0 (q0 : Int64) (q1 : Int64) : Int64 := (if q1 < q0 then q1 else q0)
def Q9c (Z : State) (q0 : Int64) (q1 : Int64) (h0 : Heap) (n0 : Nat) (v : Option Value) (h : Heap) (L : List Loc) : Prop := v = some (.long (t9c_0 q0 q1)) ∧ Fr n0 L ∧ h = h0
set_option maxRecDepth 65536 in
set_option maxHeartbeats 40000000 in
theorem rm9c (l : Launch) (Z : State) (a0 : Array Value) (hw : ∀ d ∈ tables_1, d.before a0 Z = true) (ws : List Jvm.Cond) (q0 : Int64) (q1 : Int64) (h0 : Heap) (n0 : Nat) (Z0 : n0 ≤ h0.size) :
    MetFree l yy6 (head1 (Jvm.Cond.code yy6 bc7 4 (some .long) :: ws) rr1) (fun a U => a = #[.long q0, .long q1] ∧ Z.Warmed39 U.vm ∧ U.heap = h0) (fun _ _ _ _ _ => True) (fun _ U o U' => ∃ v L, o = .returned v ∧ Q9c Z q0 q1 h0 n0 v U'.heap L ∧ FrameEnd U o U' L rr1.cells rr1.slots) := by
  refine MetFree.of_bodySF (Jvm.Free.JP.mathPlain rfl (by decide +kernel)) hisR ?_
  intro p e s m args below meth c s₁ Bd hml0 hP hK
  obtain ⟨rfl, hZ, hh⟩ := hP
  have hx := Bd.exec
  have hby := Bd.bytes
  have hml : c.maxLocals = 4 := hml0
  have hown : s.vm.findClass "java/lang/Math" = some m.cls := findClass_of_methodNamed Bd.named
  have hnm := (name_of_methodNamed Bd.named Bd.method).1
  have X0 : Stand p l e rr1 s m #[.long q0, .long q1] below meth c s₁ [] 0 0 := Stand.of_body Bd
  have e0 : s₁.heap = h0 := by rw [← hh, Bd.state]; rfl
  have N0 := Fr.nil n0
  refine OGl.start (ef_9 m q0 q1) ?_
  show OGl _ _ _ _ s₁ (mkF m 0 #[jv q0, sc, jv q1, sc] [])
  refine gO (fun t k => klN X0 hx hby d9_0 rfl (klN X0 hx hby d9_1 rfl (o_lcmp X0 hx hby d9_2 k))) ?_
  show OGl _ _ _ _ s₁ (mkF m 3 #[jv q0, sc, jv q1, sc] [.int (lcmpW q0 q1)])
  by_cases hc895 : q1 < q0
  · refine gO (fun t k => iY X0 hx hby 10 d9_3 (own_tltL hc895).2.2.1 rfl (klN X0 hx hby d9_10 rfl k)) ?_
    show OGl _ _ _ _ s₁ (mkF m 11 #[jv q0, sc, jv q1, sc] [.long q1])
    obtain ⟨fs, hr, hrun, hended, hW, hsame⟩ := X0.leave (v := some (.long q1)) (fun h => by rw [Bd.returns] at h; cases h) (BodyLoose.notSynchronized Bd)
    refine ⟨_, _, X0.lreturnOut hx Bd.returns (hb hby d9_11) hr, hrun, hended, _, _, rfl, ?_, ⟨_, rfl⟩, hW, hsame.mono (by decide) (by decide)⟩
    have hv896 : (t9c_0 q0 q1) = q1 := by unfold t9c_0; rw [if_pos hc895]
    show Q9c Z q0 q1 h0 n0 _ s₁.heap _
    rw [e0]
    exact ⟨(by rw [hv896]), N0, rfl⟩
  · refine gO (fun t k => iN X0 hx hby d9_3 (own_fltL hc895).2.2.1 (klN X0 hx hby d9_6 rfl (o_goto X0 hx hby 11 d9_7 rfl k))) ?_
    show OGl _ _ _ _ s₁ (mkF m 11 #[jv q0, sc, jv q1, sc] [.long q0])
    obtain ⟨fs, hr, hrun, hended, hW, hsame⟩ := X0.leave (v := some (.long q0)) (fun h => by rw [Bd.returns] at h; cases h) (BodyLoose.notSynchronized Bd)
    refine ⟨_, _, X0.lreturnOut hx Bd.returns (hb hby d9_11) hr, hrun, hended, _, _, rfl, ?_, ⟨_, rfl⟩, hW, hsame.mono (by decide) (by decide)⟩
    have hv897 : (t9c_0 q0 q1) = q0 := by unfold t9c_0; rw [if_neg hc895]
    show Q9c Z q0 q1 h0 n0 _ s₁.heap _
    rw [e0]
    exact ⟨(by rw [hv897]), N0, rfl⟩
theorem d7_266 : decode bc5 266 = .ok (.iload 6, 2) := by decide +kernel
theorem d7_268 : decode bc5 268 = .ok (.istore 14, 2) := by decide +kernel
theorem d7_270 : decode bc5 270 = .ok (.iload 14, 2) := by decide +kernel
theorem d7_272 : decode bc5 272 = .ok (.iload 5, 2) := by decide +kernel
theorem d7_274 : decode bc5 274 = .ok (.if_icmp .eq 52, 3) := by decide +kernel
theorem d7_277 : decode bc5 277 = .ok (.aload_n 0, 1) := by decide +kernel
theorem d7_278 : decode bc5 278 = .ok (.getfield 21, 3) := by decide +kernel
theorem d7_281 : decode bc5 281 = .ok (.aload 7, 2) := by decide +kernel
theorem d7_283 : decode bc5 283 = .ok (.iload 14, 2) := by decide +kernel
theorem d7_285 : decode bc5 285 = .ok (.iaload, 1) := by decide +kernel
theorem d7_286 : decode bc5 286 = .ok (.dup2, 1) := by decide +kernel
theorem d7_287 : decode bc5 287 = .ok (.laload, 1) := by decide +kernel
theorem d7_288 : decode bc5 288 = .ok (.lload 12, 2) := by decide +kernel
theorem d7_290 : decode bc5 290 = .ok (.lsub, 1) := by decide +kernel
theorem d7_291 : decode bc5 291 = .ok (.lastore, 1) := by decide +kernel
theorem d7_292 : decode bc5 292 = .ok (.aload_n 0, 1) := by decide +kernel
theorem d7_293 : decode bc5 293 = .ok (.getfield 21, 3) := by decide +kernel
theorem d7_296 : decode bc5 296 = .ok (.aload 7, 2) := by decide +kernel
theorem d7_298 : decode bc5 298 = .ok (.iload 14, 2) := by decide +kernel
theorem d7_300 : decode bc5 300 = .ok (.iaload, 1) := by decide +kernel
theorem d7_301 : decode bc5 301 = .ok (.iconst 1, 1) := by decide +kernel
theorem d7_302 : decode bc5 302 = .ok (.ixor, 1) := by decide +kernel
theorem d7_303 : decode bc5 303 = .ok (.dup2, 1) := by decide +kernel
theorem d7_304 : decode bc5 304 = .ok (.laload, 1) := by decide +kernel
theorem d7_305 : decode bc5 305 = .ok (.lload 12, 2) := by decide +kernel
theorem d7_307 : decode bc5 307 = .ok (.ladd, 1) := by decide +kernel
theorem d7_308 : decode bc5 308 = .ok (.lastore, 1) := by decide +kernel
theorem d7_309 : decode bc5 309 = .ok (.aload_n 0, 1) := by decide +kernel
theorem d7_310 : decode bc5 310 = .ok (.getfield 15, 3) := by decide +kernel
theorem d7_313 : decode bc5 313 = .ok (.aload 7, 2) := by decide +kernel
theorem d7_315 : decode bc5 315 = .ok (.iload 14, 2) := by decide +kernel
theorem d7_317 : decode bc5 317 = .ok (.iaload, 1) := by decide +kernel
theorem d7_318 : decode bc5 318 = .ok (.iconst 1, 1) := by decide +kernel
theorem d7_319 : decode bc5 319 = .ok (.ixor, 1) := by decide +kernel
theorem d7_320 : decode bc5 320 = .ok (.iaload, 1) := by decide +kernel
theorem d7_321 : decode bc5 321 = .ok (.istore 14, 2) := by decide +kernel
theorem d7_323 : decode bc5 323 = .ok (.goto (-53), 3) := by decide +kernel
theorem d7_326 : decode bc5 326 = .ok (.lload 8, 2) := by decide +kernel
theorem d7_328 : decode bc5 328 = .ok (.lload 12, 2) := by decide +kernel
theorem d7_330 : decode bc5 330 = .ok (.ladd, 1) := by decide +kernel
theorem d7_331 : decode bc5 331 = .ok (.lstore 8, 2) := by decide +kernel
theorem d7_333 : decode bc5 333 = .ok (.goto (-310), 3) := by decide +kernel
def Q8a (Z : State) (o0 : Addr) (k1 : ClassId) (h0 : Heap) (n0 : Nat) (v : Option Value) (h : Heap) (L : List Loc) : Prop := v = none ∧ Fr n0 L ∧ Keep h0 h [o0] ∧ Arv Z h o0 k1 .int 8 [.int (-1), .int (-1), .int (-1), .int (-1), .int (-1), .int (-1), .int (-1), .int (-1)] (.int 0)
set_option maxRecDepth 65536 in
set_option maxHeartbeats 40000000 in
theorem rm8a (l : Launch) (Z : State) (a0 : Array Value) (hw : ∀ d ∈ tables_1, d.before a0 Z = true) (ws : List Jvm.Cond) (o0 : Addr) (k1 : ClassId) (h0 : Heap) (n0 : Nat) (Z0 : n0 ≤ h0.size) (V_o0 : Arv Z h0 o0 k1 .int 8 [.int (-1), .int 14, .int 8, .int 2, .int 10, .int 4, .int 12, .int (-1)] (.int 0)) (g_o0 : n0 ≤ o0) :
    MetFree l yy5 (head1 (Jvm.Cond.code yy5 bc6 4 none :: ws) rr1) (fun a U => a = #[.ref o0, .int (-1)] ∧ Z.Warmed39 U.vm ∧ U.heap = h0) (fun _ _ _ _ _ => True) (fun _ U o U' => ∃ v L, o = .returned v ∧ Q8a Z o0 k1 h0 n0 v U'.heap L ∧ FrameEnd U o U' L rr1.cells rr1.slots) := by
  refine MetFree.of_bodySF (plainFor_of_name pn_1) hisR ?_
  intro p e s m args below meth c s₁ Bd hml0 hP hK
  obtain ⟨rfl, hZ, hh⟩ := hP
  have hx := Bd.exec
  have hby := Bd.bytes
  have hml : c.maxLocals = 4 := hml0
  have hown : s.vm.findClass "java/util/Arrays" = some m.cls := findClass_of_methodNamed Bd.named
  have hnm := (name_of_methodNamed Bd.named Bd.method).1
  have X0 : Stand p l e rr1 s m #[.ref o0, .int (-1)] below meth c s₁ [] 0 0 := Stand.of_body Bd
  have e0 : s₁.heap = h0 := by rw [← hh, Bd.state]; rfl
  have N0 := Fr.nil n0
  refine OGl.start (ef_8 m o0 (-1 : Int32)) ?_
  show OGl _ _ _ _ s₁ (mkF m 0 #[rv o0, iv (-1), un, un] [])
  refine gO (fun t k => kc X0 hx hby d8_0 (siN X0 hx hby (L' := #[rv o0, iv (-1), iv 0, un]) d8_1 rfl (kaN X0 hx hby d8_2 rfl rfl (rL X0 hx hby hZ e0 V_o0 d8_3 (siN X0 hx hby (L' := #[rv o0, iv (-1), iv 0, iv 8]) d8_4 rfl (kiN X0 hx hby d8_5 rfl (kiN X0 hx hby d8_6 rfl (cN X0 hx hby d8_7 (tlt (by decide : (0 : Int32) < (8 : Int32))).2.1 (kaN X0 hx hby d8_10 rfl rfl (kiN X0 hx hby d8_11 rfl (kiN X0 hx hby d8_12 rfl k))))))))))) ?_
  show OGl _ _ _ _ s₁ (mkF m 13 #[rv o0, iv (-1), iv 0, iv 8] [.int (-1), .int 0, .ref o0])
  refine wI X0 hx hby hZ e0 V_o0 0 rfl (Nat.le_of_ble_eq_true rfl) d8_13 fun T957 h957 X957 e957 W957 V957 => ?_
  have N957 := Fr.snoc X957 N0 g_o0
  have KK957 := (Keep.refl h0 [o0]).wr W957 (Or.inl (List.mem_of_getElem? (i := 0) rfl))
  show OGl _ _ _ _ T957 (mkF m 14 #[rv o0, iv (-1), iv 0, iv 8] [])
  refine gO (fun t k => o_iinc X957 hx hby (L' := #[rv o0, iv (-1), iv 1, iv 8]) d8_14 rfl rfl (o_goto X957 hx hby 5 d8_17 rfl (kiN X957 hx hby d8_5 rfl (kiN X957 hx hby d8_6 rfl (cN X957 hx hby d8_7 (tlt (by decide : (1 : Int32) < (8 : Int32))).2.1 (kaN X957 hx hby d8_10 rfl rfl (kiN X957 hx hby d8_11 rfl (kiN X957 hx hby d8_12 rfl k)))))))) ?_
  show OGl _ _ _ _ T957 (mkF m 13 #[rv o0, iv (-1), iv 1, iv 8] [.int (-1), .int 1, .ref o0])
  refine wI X957 hx hby hZ e957 V957 1 rfl (Nat.le_of_ble_eq_true rfl) d8_13 fun T958 h958 X958 e958 W958 V958 => ?_
  have N958 := Fr.snoc X958 N957 g_o0
  have KK958 := KK957.wr W958 (Or.inl (List.mem_of_getElem? (i := 0) rfl))
  show OGl _ _ _ _ T958 (mkF m 14 #[rv o0, iv (-1), iv 1, iv 8] [])
  refine gO (fun t k => o_iinc X958 hx hby (L' := #[rv o0, iv (-1), iv 2, iv 8]) d8_14 rfl rfl (o_goto X958 hx hby 5 d8_17 rfl (kiN X958 hx hby d8_5 rfl (kiN X958 hx hby d8_6 rfl (cN X958 hx hby d8_7 (tlt (by decide : (2 : Int32) < (8 : Int32))).2.1 (kaN X958 hx hby d8_10 rfl rfl (kiN X958 hx hby d8_11 rfl (kiN X958 hx hby d8_12 rfl k)))))))) ?_
  show OGl _ _ _ _ T958 (mkF m 13 #[rv o0, iv (-1), iv 2, iv 8] [.int (-1), .int 2, .ref o0])
  refine wI X958 hx hby hZ e958 V958 2 rfl (Nat.le_of_ble_eq_true rfl) d8_13 fun T959 h959 X959 e959 W959 V959 => ?_
  have N959 := Fr.snoc X959 N958 g_o0
  have KK959 := KK958.wr W959 (Or.inl (List.mem_of_getElem? (i := 0) rfl))
  show OGl _ _ _ _ T959 (mkF m 14 #[rv o0, iv (-1), iv 2, iv 8] [])
  refine gO (fun t k => o_iinc X959 hx hby (L' := #[rv o0, iv (-1), iv 3, iv 8]) d8_14 rfl rfl (o_goto X959 hx hby 5 d8_17 rfl (kiN X959 hx hby d8_5 rfl (kiN X959 hx hby d8_6 rfl (cN X959 hx hby d8_7 (tlt (by decide : (3 : Int32) < (8 : Int32))).2.1 (kaN X959 hx hby d8_10 rfl rfl (kiN X959 hx hby d8_11 rfl (kiN X959 hx hby d8_12 rfl k)))))))) ?_
  show OGl _ _ _ _ T959 (mkF m 13 #[rv o0, iv (-1), iv 3, iv 8] [.int (-1), .int 3, .ref o0])
  refine wI X959 hx hby hZ e959 V959 3 rfl (Nat.le_of_ble_eq_true rfl) d8_13 fun T960 h960 X960 e960 W960 V960 => ?_
  have N960 := Fr.snoc X960 N959 g_o0
  have KK960 := KK959.wr W960 (Or.inl (List.mem_of_getElem? (i := 0) rfl))
  show OGl _ _ _ _ T960 (mkF m 14 #[rv o0, iv (-1), iv 3, iv 8] [])
  refine gO (fun t k => o_iinc X960 hx hby (L' := #[rv o0, iv (-1), iv 4, iv 8]) d8_14 rfl rfl (o_goto X960 hx hby 5 d8_17 rfl (kiN X960 hx hby d8_5 rfl (kiN X960 hx hby d8_6 rfl (cN X960 hx hby d8_7 (tlt (by decide : (4 : Int32) < (8 : Int32))).2.1 (kaN X960 hx hby d8_10 rfl rfl (kiN X960 hx hby d8_11 rfl (kiN X960 hx hby d8_12 rfl k)))))))) ?_
  show OGl _ _ _ _ T960 (mkF m 13 #[rv o0, iv (-1), iv 4, iv 8] [.int (-1), .int 4, .ref o0])
  refine wI X960 hx hby hZ e960 V960 4 rfl (Nat.le_of_ble_eq_true rfl) d8_13 fun T961 h961 X961 e961 W961 V961 => ?_
  have N961 := Fr.snoc X961 N960 g_o0
  have KK961 := KK960.wr W961 (Or.inl (List.mem_of_getElem? (i := 0) rfl))
  show OGl _ _ _ _ T961 (mkF m 14 #[rv o0, iv (-1), iv 4, iv 8] [])
  refine gO (fun t k => o_iinc X961 hx hby (L' := #[rv o0, iv (-1), iv 5, iv 8]) d8_14 rfl rfl (o_goto X961 hx hby 5 d8_17 rfl (kiN X961 hx hby d8_5 rfl (kiN X961 hx hby d8_6 rfl (cN X961 hx hby d8_7 (tlt (by decide : (5 : Int32) < (8 : Int32))).2.1 (kaN X961 hx hby d8_10 rfl rfl (kiN X961 hx hby d8_11 rfl (kiN X961 hx hby d8_12 rfl k)))))))) ?_
  show OGl _ _ _ _ T961 (mkF m 13 #[rv o0, iv (-1), iv 5, iv 8] [.int (-1), .int 5, .ref o0])
  refine wI X961 hx hby hZ e961 V961 5 rfl (Nat.le_of_ble_eq_true rfl) d8_13 fun T962 h962 X962 e962 W962 V962 => ?_
  have N962 := Fr.snoc X962 N961 g_o0
  have KK962 := KK961.wr W962 (Or.inl (List.mem_of_getElem? (i := 0) rfl))
  show OGl _ _ _ _ T962 (mkF m 14 #[rv o0, iv (-1), iv 5, iv 8] [])
  refine gO (fun t k => o_iinc X962 hx hby (L' := #[rv o0, iv (-1), iv 6, iv 8]) d8_14 rfl rfl (o_goto X962 hx hby 5 d8_17 rfl (kiN X962 hx hby d8_5 rfl (kiN X962 hx hby d8_6 rfl (cN X962 hx hby d8_7 (tlt (by decide : (6 : Int32) < (8 : Int32))).2.1 (kaN X962 hx hby d8_10 rfl rfl (kiN X962 hx hby d8_11 rfl (kiN X962 hx hby d8_12 rfl k)))))))) ?_
  show OGl _ _ _ _ T962 (mkF m 13 #[rv o0, iv (-1), iv 6, iv 8] [.int (-1), .int 6, .ref o0])
  refine wI X962 hx hby hZ e962 V962 6 rfl (Nat.le_of_ble_eq_true rfl) d8_13 fun T963 h963 X963 e963 W963 V963 => ?_
  have N963 := Fr.snoc X963 N962 g_o0
  have KK963 := KK962.wr W963 (Or.inl (List.mem_of_getElem? (i := 0) rfl))
  show OGl _ _ _ _ T963 (mkF m 14 #[rv o0, iv (-1), iv 6, iv 8] [])
  refine gO (fun t k => o_iinc X963 hx hby (L' := #[rv o0, iv (-1), iv 7, iv 8]) d8_14 rfl rfl (o_goto X963 hx hby 5 d8_17 rfl (kiN X963 hx hby d8_5 rfl (kiN X963 hx hby d8_6 rfl (cN X963 hx hby d8_7 (tlt (by decide : (7 : Int32) < (8 : Int32))).2.1 (kaN X963 hx hby d8_10 rfl rfl (kiN X963 hx hby d8_11 rfl (kiN X963 hx hby d8_12 rfl k)))))))) ?_
  show OGl _ _ _ _ T963 (mkF m 13 #[rv o0, iv (-1), iv 7, iv 8] [.int (-1), .int 7, .ref o0])
  refine wI X963 hx hby hZ e963 V963 7 rfl (Nat.le_of_ble_eq_true rfl) d8_13 fun T964 h964 X964 e964 W964 V964 => ?_
  have N964 := Fr.snoc X964 N963 g_o0
  have KK964 := KK963.wr W964 (Or.inl (List.mem_of_getElem? (i := 0) rfl))
  show OGl _ _ _ _ T964 (mkF m 14 #[rv o0, iv (-1), iv 7, iv 8] [])
  refine gO (fun t k => o_iinc X964 hx hby (L' := #[rv o0, iv (-1), iv 8, iv 8]) d8_14 rfl rfl (o_goto X964 hx hby 5 d8_17 rfl (kiN X964 hx hby d8_5 rfl (kiN X964 hx hby d8_6 rfl (cY X964 hx hby 20 d8_7 (flt (by decide : ¬ ((8 : Int32) < (8 : Int32)))).2.1 rfl k))))) ?_
  show OGl _ _ _ _ T964 (mkF m 20 #[rv o0, iv (-1), iv 8, iv 8] [])
  obtain ⟨fs, hr, hrun, hended, hW, hsame⟩ := X964.leave (v := none) (fun _ => rfl) (BodyLoose.notSynchronized Bd)
  refine ⟨_, _, X964.returnOut hx Bd.returns (hb hby d8_20) hr, hrun, hended, _, _, rfl, ?_, ⟨_, rfl⟩, hW, hsame.mono (by decide) (by decide)⟩
  show Q8a Z o0 k1 h0 n0 _ T964.heap _
  rw [e964]
  exact ⟨rfl, N964, KK964, V964⟩
theorem d7_175 : decode bc5 175 = .ok (.aload_n 0, 1) := by decide +kernel
theorem d7_176 : decode bc5 176 = .ok (.aload_n 0, 1) := by decide +kernel
theorem d7_177 : decode bc5 177 = .ok (.getfield 25, 3) := by decide +kernel
theorem d7_180 : decode bc5 180 = .ok (.newarray .boolean, 2) := by decide +kernel
theorem d7_182 : decode bc5 182 = .ok (.putfield 48, 3) := by decide +kernel
theorem d7_185 : decode bc5 185 = .ok (.iconst 0, 1) := by decide +kernel
theorem d7_186 : decode bc5 186 = .ok (.istore 12, 2) := by decide +kernel
theorem d7_188 : decode bc5 188 = .ok (.iload 12, 2) := by decide +kernel
theorem d7_190 : decode bc5 190 = .ok (.iload 11, 2) := by decide +kernel
theorem d7_192 : decode bc5 192 = .ok (.if_icmp .ge 20, 3) := by decide +kernel
theorem d7_195 : decode bc5 195 = .ok (.aload_n 0, 1) := by decide +kernel
theorem d7_196 : decode bc5 196 = .ok (.getfield 48, 3) := by decide +kernel
theorem d7_199 : decode bc5 199 = .ok (.aload 10, 2) := by decide +kernel
theorem d7_201 : decode bc5 201 = .ok (.iload 12, 2) := by decide +kernel
theorem d7_203 : decode bc5 203 = .ok (.iaload, 1) := by decide +kernel
theorem d7_204 : decode bc5 204 = .ok (.iconst 1, 1) := by decide +kernel
theorem d7_205 : decode bc5 205 = .ok (.bastore, 1) := by decide +kernel
theorem d7_206 : decode bc5 206 = .ok (.iinc 12 1, 3) := by decide +kernel
theorem d7_209 : decode bc5 209 = .ok (.goto (-21), 3) := by decide +kernel
theorem d7_212 : decode bc5 212 = .ok (.lload 8, 2) := by decide +kernel
theorem d7_214 : decode bc5 214 = .ok (.lreturn, 1) := by decide +kernel
def e7_0 (q6 : Int64) (q7 : Int64) : Int64 := (t9b_0 (t9c_0 (t9b_0 (t9a_0 q7)) q6))
def e7_1 (q6 : Int64) (q7 : Int64) : Int64 := ((2305843009213693951 : Int64) - (e7_0 q6 q7))
theorem ef_7 (m : MethodId) (x0 : Addr) (x1 : Int32) (x2 : Int32) (x3 : Int64) : entryFrame m #[.ref x0, .int x1, .int x2, .long x3] 15 = mkF m 0 #[rv x0, iv x1, iv x2, jv x3, sc, un, un, un, un, un, un, un, un, un, un] [] := by first | (simp [entryFrame, mkF, argsToLocals, Value.category]; done) | rfl
def Q7 (Z : State) (o0 : Addr) (o1 : Addr) (k2 : ClassId) (o3 : Addr) (k4 : ClassId) (q5 : Int64) (q6 : Int64) (q7 : Int64) (q8 : Int64) (o9 : Addr) (k10 : ClassId) (o11 : Addr) (k12 : ClassId) (h0 : Heap) (n0 : Nat) (v : Option Value) (h : Heap) (L : List Loc) : Prop := ∃ (nb0 : Addr), ∃ (nk0 : ClassId), v = some (.long ((0 : Int64) + (e7_0 q6 q7))) ∧ Fr n0 L ∧ Keep h0 h [o3, o0] ∧ h0.size ≤ nb0 ∧ Arv Z h o3 k4 .long 16 [.long q5, .long 0, .long (q6 - (e7_0 q6 q7)), .long ((0 : Int64) + (e7_0 q6 q7)), .long (q7 - (e7_0 q6 q7)), .long ((0 : Int64) + (e7_0 q6 q7)), .long q8, .long 0, .long (e7_1 q6 q7), .long ((0 : Int64) + (e7_0 q6 q7)), .long (e7_1 q6 q7), .long ((0 : Int64) + (e7_0 q6 q7)), .long (e7_1 q6 q7), .long ((0 : Int64) + (e7_0 q6 q7)), .long 0, .long 0] (.long 0) ∧ Fld Z h o0 cc0 "edges" "I" (.int 14) ∧ Fld Z h o0 cc0 "halves" "I" (.int 8) ∧ Fld Z h o0 cc0 "heads" "[I" (.ref o1) ∧ Fld Z h o0 cc0 "nexts" "[I" (.ref o11) ∧ Fld Z h o0 cc0 "residues" "[J" (.ref o3) ∧ Fld Z h o0 cc0 "sourceSide" "[Z" (.ref nb0) ∧ Fld Z h o0 cc0 "targets" "[I" (.ref o9) ∧ Arv Z h nb0 nk0 .boolean 8 (.int 0 :: .int 1 :: .int 1 :: zi5) (.int 0)
set_option maxRecDepth 65536 in
set_option maxHeartbeats 40000000 in
theorem rm7 (l : Launch) (Z : State) (a0 : Array Value) (hw : ∀ d ∈ tables_1, d.before a0 Z = true) (ws : List Jvm.Cond) (o0 : Addr) (o1 : Addr) (k2 : ClassId) (o3 : Addr) (k4 : ClassId) (q5 : Int64) (q6 : Int64) (q7 : Int64) (q8 : Int64) (o9 : Addr) (k10 : ClassId) (o11 : Addr) (k12 : ClassId) (h0 : Heap) (n0 : Nat) (Z0 : n0 ≤ h0.size) (F0_o0 : Fld Z h0 o0 cc0 "halves" "I" (.int 8)) (F1_o0 : Fld Z h0 o0 cc0 "edges" "I" (.int 14)) (F2_o0 : Fld Z h0 o0 cc0 "heads" "[I" (.ref o1)) (V_o1 : Arv Z h0 o1 k2 .int 16 (.int 0 :: .int 8 :: .int 9 :: .int 10 :: .int 11 :: .int 12 :: .int 13 :: .int 7 :: zi8) (.int 0)) (F4_o0 : Fld Z h0 o0 cc0 "residues" "[J" (.ref o3)) (V_o3 : Arv Z h0 o3 k4 .long 16 [.long q5, .long 0, .long q6, .long 0, .long q7, .long 0, .long q8, .long 0, .long 2305843009213693951, .long 0, .long 2305843009213693951, .long 0, .long 2305843009213693951, .long 0, .long 0, .long 0] (.long 0)) (F6_o0 : Fld Z h0 o0 cc0 "targets" "[I" (.ref o9)) (V_o9 : Arv Z h0 o9 k10 .int 16 [.int 1, .int 0, .int 3, .int 2, .int 5, .int 4, .int 7, .int 6, .int 2, .int 1, .int 4, .int 3, .int 6, .int 5, .int 0, .int 0] (.int 0)) (F8_o0 : Fld Z h0 o0 cc0 "nexts" "[I" (.ref o11)) (V_o11 : Arv Z h0 o11 k12 .int 16 [.int (-1), .int (-1), .int (-1), .int (-1), .int (-1), .int (-1), .int (-1), .int (-1), .int 1, .int 2, .int 3, .int 4, .int 5, .int 6, .int 0, .int 0] (.int 0)) (hp10_7 : (0 : Int64) < q6) (hp11_7 : (0 : Int64) < q7) (g_o3 : n0 ≤ o3) (ne_o0_o3 : o0 ≠ o3) (ne_o9_o3 : o9 ≠ o3) (hp15_7 : ((0 : Int64) + (e7_0 q6 q7)) < (2305843009213693950 : Int64)) (ne_o1_o3 : o1 ≠ o3) (ne_o11_o3 : o11 ≠ o3) (hp18_7 : (0 : Int64) < (e7_1 q6 q7)) (hp19_7 : (0 : Int64) < ((0 : Int64) + (e7_0 q6 q7))) (hp20_7 : ¬ ((0 : Int64) < (q6 - (e7_0 q6 q7)))) (E_o0 : Exa Z h0 o0 cc0) (F22_o0 : Fld Z h0 o0 cc0 "sourceSide" "[Z" (.null)) (g_o0 : n0 ≤ o0) :
    MetFree l yy7 (head1 (Jvm.Cond.code yy7 bc5 15 (some .long) :: ws) rr4) (fun a U => a = #[.ref o0, .int 0, .int 3, .long 2305843009213693950] ∧ Z.Warmed39 U.vm ∧ U.heap = h0) (fun _ _ _ _ _ => True) (fun _ U o U' => ∃ v L, o = .returned v ∧ Q7 Z o0 o1 k2 o3 k4 q5 q6 q7 q8 o9 k10 o11 k12 h0 n0 v U'.heap L ∧ FrameEnd U o U' L rr4.cells rr4.slots) := by
  refine MetFree.of_bodySF (plainFor_of_name pn_0) hisR ?_
  intro p e s m args below meth c s₁ Bd hml0 hP hK
  obtain ⟨rfl, hZ, hh⟩ := hP
  have hx := Bd.exec
  have hby := Bd.bytes
  have hml : c.maxLocals = 15 := hml0
  have hown : s.vm.findClass cc0 = some m.cls := findClass_of_methodNamed Bd.named
  have hnm := (name_of_methodNamed Bd.named Bd.method).1
  have X0 : Stand p l e rr4 s m #[.ref o0, .int 0, .int 3, .long 2305843009213693950] below meth c s₁ [] 0 0 := Stand.of_body Bd
  have e0 : s₁.heap = h0 := by rw [← hh, Bd.state]; rfl
  have N0 := Fr.nil n0
  refine OGl.start (ef_7 m o0 (0 : Int32) (3 : Int32) (2305843009213693950 : Int64)) ?_
  show OGl _ _ _ _ s₁ (mkF m 0 #[rv o0, iv 0, iv 3, jv 2305843009213693950, sc, un, un, un, un, un, un, un, un, un, un] [])
  refine gO (fun t k => kc X0 hx hby d7_0 (kiN X0 hx hby d7_1 rfl (o_imul X0 hx hby d7_2 (kc X0 hx hby d7_3 (o_iadd X0 hx hby d7_4 (si X0 hx hby (L' := #[rv o0, iv 0, iv 3, jv 2305843009213693950, sc, iv 1, un, un, un, un, un, un, un, un, un]) d7_5 rfl (kc X0 hx hby d7_7 (kiN X0 hx hby d7_8 rfl (o_imul X0 hx hby d7_9 (si X0 hx hby (L' := #[rv o0, iv 0, iv 3, jv 2305843009213693950, sc, iv 1, iv 6, un, un, un, un, un, un, un, un]) d7_10 rfl (kaN X0 hx hby d7_12 rfl rfl k))))))))))) (gG X0 hx hby hZ hown (w25 hw) e0 F0_o0 d7_13 fun T744 X744 e744 => ?_)
  show OGl _ _ _ _ T744 (mkF m 16 #[rv o0, iv 0, iv 3, jv 2305843009213693950, sc, iv 1, iv 6, un, un, un, un, un, un, un, un] [.int 8])
  obtain ⟨T745, h745, k745, X745, e745, E745, A745, st745⟩ := newP (aty := .int) X744 hx hZ (w10 hw) e744 (g := (mkF m 16 #[rv o0, iv 0, iv 3, jv 2305843009213693950, sc, iv 1, iv 6, un, un, un, un, un, un, un, un] [.int 8])) rfl (hb hby d7_16) rfl (by decide) (cap := 8) (by decide) (by decide) (by decide) (by decide)
  obtain ⟨b745, gb745⟩ : ∃ z, z = h0.size := ⟨_, rfl⟩
  rw [← gb745] at A745 st745
  have sz_b745 : h0.size ≤ b745 := Nat.le_trans (Keep.refl h0 [o3, o0]).1 (Nat.le_of_eq gb745.symm)
  have g_b745 : n0 ≤ b745 := Nat.le_trans Z0 sz_b745
  have V745 : Arv Z h745 b745 k745 .int (8 : Int32) [.int 0, .int 0, .int 0, .int 0, .int 0, .int 0, .int 0, .int 0] (.int 0) := (Arv.new A745 (by decide)).pad (pad_rep [] (.int 0) 8)
  have KK745 : Keep h0 h745 [o3, o0] := (Keep.refl h0 [o3, o0]).ext E745
  refine gO st745 ?_
  show OGl _ _ _ _ T745 (mkF m 18 #[rv o0, iv 0, iv 3, jv 2305843009213693950, sc, iv 1, iv 6, un, un, un, un, un, un, un, un] [.ref b745])
  refine gO (fun t k => sa X745 hx hby (L' := #[rv o0, iv 0, iv 3, jv 2305843009213693950, sc, iv 1, iv 6, rv b745, un, un, un, un, un, un, un]) d7_18 rfl rfl (kcl X745 hx hby d7_20 (sl X745 hx hby (L' := #[rv o0, iv 0, iv 3, jv 2305843009213693950, sc, iv 1, iv 6, rv b745, jv 0, sc, un, un, un, un, un]) d7_21 rfl (kl X745 hx hby d7_23 rfl (klN X745 hx hby d7_25 rfl (o_lcmp X745 hx hby d7_26 (iN X745 hx hby d7_27 (own_tltL (by decide : (0 : Int64) < (2305843009213693950 : Int64))).2.1 (ka X745 hx hby d7_30 rfl rfl (kc X745 hx hby d7_32 k))))))))) ?_
  show OGl _ _ _ _ T745 (mkF m 33 #[rv o0, iv 0, iv 3, jv 2305843009213693950, sc, iv 1, iv 6, rv b745, jv 0, sc, un, un, un, un, un] [.int (-1), .ref b745])
  obtain ⟨_, _, ⟨T746, L746, kk746, n746⟩, -, X746, ⟨Lc746, hQ746, l746, y746, z746⟩, st746⟩ := Jvm.LawKit.callS X745 hx (y := yy5) hown (mvT hZ (w49 hw)) (mvT hZ (w50 hw)) (mvT hZ (w51 hw)) (mvT hZ (w52 hw)) (by decide) (backOf (W := 0) (rm8 l Z a0 hw [] b745 k745 h745 n0 (Nat.le_trans Z0 KK745.1) V745 g_b745) hZ (w52 hw) (w51 hw) (by decide) (by decide)) (g := (mkF m 33 #[rv o0, iv 0, iv 3, jv 2305843009213693950, sc, iv 1, iv 6, rv b745, jv 0, sc, un, un, un, un, un] [.int (-1), .ref b745])) rfl (by rw [hml]; rfl) (argsL := [.ref b745, .int (-1)]) (rest := []) (lenOf pd_4 rfl) rfl (by show 2 * 0 + _ ≤ _; exact Nat.le_of_eq rfl) (hb hby d7_33) (fun _ _ => ⟨rfl, e745, (by decide : 1 + 0 ≤ _), (by decide : 8 + 0 ≤ _)⟩)
  dsimp only [Pt.U, Pt.locs, Pt.cells, Pt.slots] at X746 l746 y746 z746 st746 hQ746
  replace l746 := l746.symm
  subst l746 y746 z746
  obtain ⟨rfl, Nq746, K746, Fq746_0⟩ := hQ746
  have KK746 : Keep h0 T746.heap [o3, o0] := KK745.trans K746 (allS (Or.inr sz_b745) all0)
  have N746 := Fr.app N0 Nq746
  refine gO st746 ?_
  show OGl _ _ _ _ T746 (mkF m 36 #[rv o0, iv 0, iv 3, jv 2305843009213693950, sc, iv 1, iv 6, rv b745, jv 0, sc, un, un, un, un, un] [])
  have ne_o0_b745 := Nat.ne_of_lt (Nat.lt_of_lt_of_le F0_o0.lt sz_b745)
  have F755 := ((F0_o0.ext E745).keep K746 (ninS ne_o0_b745 nin0))
  refine gO (fun t k => kaN X746 hx hby d7_36 rfl rfl k) (gG X746 hx hby hZ hown (w25 hw) rfl F755 d7_37 fun T756 X756 e756 => ?_)
  show OGl _ _ _ _ T756 (mkF m 40 #[rv o0, iv 0, iv 3, jv 2305843009213693950, sc, iv 1, iv 6, rv b745, jv 0, sc, un, un, un, un, un] [.int 8])
  obtain ⟨T757, h757, k757, X757, e757, E757, A757, st757⟩ := newP (aty := .int) X756 hx hZ (w10 hw) e756 (g := (mkF m 40 #[rv o0, iv 0, iv 3, jv 2305843009213693950, sc, iv 1, iv 6, rv b745, jv 0, sc, un, un, un, un, un] [.int 8])) rfl (hb hby d7_40) rfl (by decide) (cap := 8) (by decide) (by decide) (by decide) (by decide)
  obtain ⟨b757, gb757⟩ : ∃ z, z = T746.heap.size := ⟨_, rfl⟩
  rw [← gb757] at A757 st757
  have ne_b745_b757 : b745 ≠ b757 := Nat.ne_of_lt (Nat.lt_of_lt_of_eq Fq746_0.lt gb757.symm)
  have ne_o0_b757 : o0 ≠ b757 := Nat.ne_of_lt (Nat.lt_of_lt_of_eq F755.lt gb757.symm)
  have sz_b757 : h0.size ≤ b757 := Nat.le_trans KK746.1 (Nat.le_of_eq gb757.symm)
  have g_b757 : n0 ≤ b757 := Nat.le_trans Z0 sz_b757
  have V757 : Arv Z h757 b757 k757 .int (8 : Int32) [.int 0, .int 0, .int 0, .int 0, .int 0, .int 0, .int 0, .int 0] (.int 0) := (Arv.new A757 (by decide)).pad (pad_rep [] (.int 0) 8)
  have KK757 : Keep h0 h757 [o3, o0] := KK746.ext E757
  refine gO st757 ?_
  show OGl _ _ _ _ T757 (mkF m 42 #[rv o0, iv 0, iv 3, jv 2305843009213693950, sc, iv 1, iv 6, rv b745, jv 0, sc, un, un, un, un, un] [.ref b757])
  refine gO (fun t k => sa X757 hx hby (L' := #[rv o0, iv 0, iv 3, jv 2305843009213693950, sc, iv 1, iv 6, rv b745, jv 0, sc, rv b757, un, un, un, un]) d7_42 rfl rfl (kc X757 hx hby d7_44 (si X757 hx hby (L' := #[rv o0, iv 0, iv 3, jv 2305843009213693950, sc, iv 1, iv 6, rv b745, jv 0, sc, rv b757, iv 1, un, un, un]) d7_45 rfl (ka X757 hx hby d7_47 rfl rfl (kc X757 hx hby d7_49 (ki X757 hx hby d7_50 rfl k)))))) ?_
  show OGl _ _ _ _ T757 (mkF m 52 #[rv o0, iv 0, iv 3, jv 2305843009213693950, sc, iv 1, iv 6, rv b745, jv 0, sc, rv b757, iv 1, un, un, un] [.int 1, .int 0, .ref b757])
  refine wI X757 hx hby hZ e757 V757 0 rfl (Nat.le_of_ble_eq_true rfl) d7_52 fun T758 h758 X758 e758 W758 V758 => ?_
  have N758 := Fr.snoc X758 N746 g_b757
  have KK758 := KK757.wr W758 (Or.inr sz_b757)
  show OGl _ _ _ _ T758 (mkF m 53 #[rv o0, iv 0, iv 3, jv 2305843009213693950, sc, iv 1, iv 6, rv b745, jv 0, sc, rv b757, iv 1, un, un, un] [])
  have F759 := ((((F1_o0.ext E745).keep K746 (ninS ne_o0_b745 nin0)).ext E757).other W758 (Or.inl ne_o0_b757))
  refine gO (fun t k => ka X758 hx hby d7_53 rfl rfl (ki X758 hx hby d7_55 rfl (kaN X758 hx hby d7_57 rfl rfl k))) (gG X758 hx hby hZ hown (w31 hw) e758 F759 d7_58 fun T760 X760 e760 => ?_)
  show OGl _ _ _ _ T760 (mkF m 61 #[rv o0, iv 0, iv 3, jv 2305843009213693950, sc, iv 1, iv 6, rv b745, jv 0, sc, rv b757, iv 1, un, un, un] [.int 14, .int 1, .ref b745])
  have F761 := ((Fq746_0.ext E757).other W758 ne_b745_b757)
  refine wI X760 hx hby hZ e760 F761 1 rfl (Nat.le_of_ble_eq_true rfl) d7_61 fun T762 h762 X762 e762 W762 V762 => ?_
  have N762 := Fr.snoc X762 N758 g_b745
  have KK762 := KK758.wr W762 (Or.inr sz_b745)
  show OGl _ _ _ _ T762 (mkF m 62 #[rv o0, iv 0, iv 3, jv 2305843009213693950, sc, iv 1, iv 6, rv b745, jv 0, sc, rv b757, iv 1, un, un, un] [])
  have F763 := (((((F2_o0.ext E745).keep K746 (ninS ne_o0_b745 nin0)).ext E757).other W758 (Or.inl ne_o0_b757)).other W762 (Or.inl ne_o0_b745))
  have F765 := (V758.other W762 (Ne.symm ne_b745_b757))
  have ne_o1_b745 := Nat.ne_of_lt (Nat.lt_of_lt_of_le V_o1.lt sz_b745)
  have ne_o1_b757 := Nat.ne_of_lt (Nat.lt_of_lt_of_le V_o1.lt sz_b757)
  have F766 := (((((V_o1.ext E745).keep K746 (ninS ne_o1_b745 nin0)).ext E757).other W758 ne_o1_b757).other W762 ne_o1_b745)
  have F767 := (((((F4_o0.ext E745).keep K746 (ninS ne_o0_b745 nin0)).ext E757).other W758 (Or.inl ne_o0_b757)).other W762 (Or.inl ne_o0_b745))
  have ne_o3_b745 := Nat.ne_of_lt (Nat.lt_of_lt_of_le V_o3.lt sz_b745)
  have ne_o3_b757 := Nat.ne_of_lt (Nat.lt_of_lt_of_le V_o3.lt sz_b757)
  have F769 := (((((V_o3.ext E745).keep K746 (ninS ne_o3_b745 nin0)).ext E757).other W758 ne_o3_b757).other W762 ne_o3_b745)
  have F770 := (((((F6_o0.ext E745).keep K746 (ninS ne_o0_b745 nin0)).ext E757).other W758 (Or.inl ne_o0_b757)).other W762 (Or.inl ne_o0_b745))
  have ne_o9_b745 := Nat.ne_of_lt (Nat.lt_of_lt_of_le V_o9.lt sz_b745)
  have ne_o9_b757 := Nat.ne_of_lt (Nat.lt_of_lt_of_le V_o9.lt sz_b757)
  have F772 := (((((V_o9.ext E745).keep K746 (ninS ne_o9_b745 nin0)).ext E757).other W758 ne_o9_b757).other W762 ne_o9_b745)
  refine gO (fun t k => kc X762 hx hby d7_62 (si X762 hx hby (L' := #[rv o0, iv 0, iv 3, jv 2305843009213693950, sc, iv 1, iv 6, rv b745, jv 0, sc, rv b757, iv 1, iv 0, un, un]) d7_63 rfl (ki X762 hx hby d7_65 rfl (ki X762 hx hby d7_67 rfl (cN X762 hx hby d7_69 (tlt (by decide : (0 : Int32) < (1 : Int32))).2.1 (ka X762 hx hby d7_72 rfl rfl (ki X762 hx hby d7_74 rfl (rI X762 hx hby hZ e762 V762 (.int (-1)) rfl rfl d7_76 (iN X762 hx hby d7_77 ((if0 _ _).trans (tlt (by decide : (-1 : Int32) < (0 : Int32))).2.1) (kaN X762 hx hby d7_80 rfl rfl k)))))))))) (gG X762 hx hby hZ hown (w11 hw) e762 F763 d7_81 fun T764 X764 e764 => gO (fun t k => ka X764 hx hby d7_84 rfl rfl (ki X764 hx hby d7_86 rfl (rI X764 hx hby hZ e764 F765 (.int 1) rfl rfl d7_88 (rI X764 hx hby hZ e764 F766 (.int 8) rfl rfl d7_89 (si X764 hx hby (L' := #[rv o0, iv 0, iv 3, jv 2305843009213693950, sc, iv 1, iv 6, rv b745, jv 0, sc, rv b757, iv 1, iv 0, iv 8, un]) d7_90 rfl (ki X764 hx hby d7_92 rfl (iN X764 hx hby d7_94 ((if0 _ _).trans (flt (by decide : ¬ ((8 : Int32) < (0 : Int32)))).1) (kaN X764 hx hby d7_97 rfl rfl k)))))))) (gG X764 hx hby hZ hown (w18 hw) e764 F767 d7_98 fun T768 X768 e768 => gO (fun t k => ki X768 hx hby d7_101 rfl (rJ X768 hx hby hZ e768 F769 (.long 2305843009213693951) rfl rfl d7_103 (kcl X768 hx hby d7_104 (o_lcmp X768 hx hby d7_105 (iN X768 hx hby d7_106 (own_tltL (by decide : (0 : Int64) < (2305843009213693951 : Int64))).2.2.2 (ka X768 hx hby d7_109 rfl rfl (kaN X768 hx hby d7_111 rfl rfl k))))))) (gG X768 hx hby hZ hown (w13 hw) e768 F770 d7_112 fun T771 X771 e771 => gO (fun t k => ki X771 hx hby d7_115 rfl (rI X771 hx hby hZ e771 F772 (.int 2) rfl rfl d7_117 (rI X771 hx hby hZ e771 V762 (.int (-1)) rfl rfl d7_118 (iN X771 hx hby d7_119 ((if0 _ _).trans (tlt (by decide : (-1 : Int32) < (0 : Int32))).2.1) (ka X771 hx hby d7_122 rfl rfl (kaN X771 hx hby d7_124 rfl rfl k)))))) (gG X771 hx hby hZ hown (w13 hw) e771 F770 d7_125 fun T773 X773 e773 => gO (fun t k => ki X773 hx hby d7_128 rfl (rI X773 hx hby hZ e773 F772 (.int 2) rfl rfl d7_130 (ki X773 hx hby d7_131 rfl k))) ?_))))
  show OGl _ _ _ _ T773 (mkF m 133 #[rv o0, iv 0, iv 3, jv 2305843009213693950, sc, iv 1, iv 6, rv b745, jv 0, sc, rv b757, iv 1, iv 0, iv 8, un] [.int 8, .int 2, .ref b745])
  refine wI X773 hx hby hZ e773 V762 2 rfl (Nat.le_of_ble_eq_true rfl) d7_133 fun T774 h774 X774 e774 W774 V774 => ?_
  have N774 := Fr.snoc X774 N762 g_b745
  have KK774 := KK762.wr W774 (Or.inr sz_b745)
  show OGl _ _ _ _ T774 (mkF m 134 #[rv o0, iv 0, iv 3, jv 2305843009213693950, sc, iv 1, iv 6, rv b745, jv 0, sc, rv b757, iv 1, iv 0, iv 8, un] [])
  have F775 := (F770.other W774 (Or.inl ne_o0_b745))
  have F777 := (F772.other W774 ne_o9_b745)
  refine gO (fun t k => ka X774 hx hby d7_134 rfl rfl (ki X774 hx hby d7_136 rfl (o_iinc X774 hx hby (L' := #[rv o0, iv 0, iv 3, jv 2305843009213693950, sc, iv 1, iv 6, rv b745, jv 0, sc, rv b757, iv 2, iv 0, iv 8, un]) d7_138 rfl rfl (kaN X774 hx hby d7_141 rfl rfl k)))) (gG X774 hx hby hZ hown (w13 hw) e774 F775 d7_142 fun T776 X776 e776 => gO (fun t k => ki X776 hx hby d7_145 rfl (rI X776 hx hby hZ e776 F777 (.int 2) rfl rfl d7_147 k)) ?_)
  show OGl _ _ _ _ T776 (mkF m 148 #[rv o0, iv 0, iv 3, jv 2305843009213693950, sc, iv 1, iv 6, rv b745, jv 0, sc, rv b757, iv 2, iv 0, iv 8, un] [.int 2, .int 1, .ref b757])
  have F778 := (F765.other W774 (Ne.symm ne_b745_b757))
  refine wI X776 hx hby hZ e776 F778 1 rfl (Nat.le_of_ble_eq_true rfl) d7_148 fun T779 h779 X779 e779 W779 V779 => ?_
  have N779 := Fr.snoc X779 N774 g_b757
  have KK779 := KK774.wr W779 (Or.inr sz_b757)
  show OGl _ _ _ _ T779 (mkF m 149 #[rv o0, iv 0, iv 3, jv 2305843009213693950, sc, iv 1, iv 6, rv b745, jv 0, sc, rv b757, iv 2, iv 0, iv 8, un] [])
  have F780 := (((((((F8_o0.ext E745).keep K746 (ninS ne_o0_b745 nin0)).ext E757).other W758 (Or.inl ne_o0_b757)).other W762 (Or.inl ne_o0_b745)).other W774 (Or.inl ne_o0_b745)).other W779 (Or.inl ne_o0_b757))
  have ne_o11_b745 := Nat.ne_of_lt (Nat.lt_of_lt_of_le V_o11.lt sz_b745)
  have ne_o11_b757 := Nat.ne_of_lt (Nat.lt_of_lt_of_le V_o11.lt sz_b757)
  have F782 := (((((((V_o11.ext E745).keep K746 (ninS ne_o11_b745 nin0)).ext E757).other W758 ne_o11_b757).other W762 ne_o11_b745).other W774 ne_o11_b745).other W779 ne_o11_b757)
  have F783 := ((F767.other W774 (Or.inl ne_o0_b745)).other W779 (Or.inl ne_o0_b757))
  have F785 := ((F769.other W774 ne_o3_b745).other W779 ne_o3_b757)
  have F787 := (V774.other W779 ne_b745_b757)
  have F788 := ((F763.other W774 (Or.inl ne_o0_b745)).other W779 (Or.inl ne_o0_b757))
  have F790 := ((F766.other W774 ne_o1_b745).other W779 ne_o1_b757)
  refine gO (fun t k => kaN X779 hx hby d7_149 rfl rfl k) (gG X779 hx hby hZ hown (w15 hw) e779 F780 d7_150 fun T781 X781 e781 => gO (fun t k => ki X781 hx hby d7_153 rfl (rI X781 hx hby hZ e781 F782 (.int 1) rfl rfl d7_155 (si X781 hx hby (L' := #[rv o0, iv 0, iv 3, jv 2305843009213693950, sc, iv 1, iv 6, rv b745, jv 0, sc, rv b757, iv 2, iv 0, iv 1, un]) d7_156 rfl (o_goto X781 hx hby 92 d7_158 rfl (ki X781 hx hby d7_92 rfl (iN X781 hx hby d7_94 ((if0 _ _).trans (flt (by decide : ¬ ((1 : Int32) < (0 : Int32)))).1) (kaN X781 hx hby d7_97 rfl rfl k))))))) (gG X781 hx hby hZ hown (w18 hw) e781 F783 d7_98 fun T784 X784 e784 => gO (fun t k => ki X784 hx hby d7_101 rfl (rJ X784 hx hby hZ e784 F785 (.long 0) rfl rfl d7_103 (kcl X784 hx hby d7_104 (o_lcmp X784 hx hby d7_105 (iY X784 hx hby 149 d7_106 (own_fltL (by decide : ¬ ((0 : Int64) < (0 : Int64)))).2.2.2 rfl (kaN X784 hx hby d7_149 rfl rfl k)))))) (gG X784 hx hby hZ hown (w15 hw) e784 F780 d7_150 fun T786 X786 e786 => gO (fun t k => ki X786 hx hby d7_153 rfl (rI X786 hx hby hZ e786 F782 (.int (-1)) rfl rfl d7_155 (si X786 hx hby (L' := #[rv o0, iv 0, iv 3, jv 2305843009213693950, sc, iv 1, iv 6, rv b745, jv 0, sc, rv b757, iv 2, iv 0, iv (-1), un]) d7_156 rfl (o_goto X786 hx hby 92 d7_158 rfl (ki X786 hx hby d7_92 rfl (iY X786 hx hby 161 d7_94 ((if0 _ _).trans (tlt (by decide : (-1 : Int32) < (0 : Int32))).1) rfl (o_iinc X786 hx hby (L' := #[rv o0, iv 0, iv 3, jv 2305843009213693950, sc, iv 1, iv 6, rv b745, jv 0, sc, rv b757, iv 2, iv 1, iv (-1), un]) d7_161 rfl rfl (o_goto X786 hx hby 65 d7_164 rfl (ki X786 hx hby d7_65 rfl (ki X786 hx hby d7_67 rfl (cN X786 hx hby d7_69 (tlt (by decide : (1 : Int32) < (2 : Int32))).2.1 (ka X786 hx hby d7_72 rfl rfl (ki X786 hx hby d7_74 rfl (rI X786 hx hby hZ e786 F787 (.int (-1)) rfl rfl d7_76 (iN X786 hx hby d7_77 ((if0 _ _).trans (tlt (by decide : (-1 : Int32) < (0 : Int32))).2.1) (kaN X786 hx hby d7_80 rfl rfl k)))))))))))))))) (gG X786 hx hby hZ hown (w11 hw) e786 F788 d7_81 fun T789 X789 e789 => gO (fun t k => ka X789 hx hby d7_84 rfl rfl (ki X789 hx hby d7_86 rfl (rI X789 hx hby hZ e789 V779 (.int 2) rfl rfl d7_88 (rI X789 hx hby hZ e789 F790 (.int 9) rfl rfl d7_89 (si X789 hx hby (L' := #[rv o0, iv 0, iv 3, jv 2305843009213693950, sc, iv 1, iv 6, rv b745, jv 0, sc, rv b757, iv 2, iv 1, iv 9, un]) d7_90 rfl (ki X789 hx hby d7_92 rfl k)))))) ?_))))
  show OGl _ _ _ _ T789 (mkF m 94 #[rv o0, iv 0, iv 3, jv 2305843009213693950, sc, iv 1, iv 6, rv b745, jv 0, sc, rv b757, iv 2, iv 1, iv 9, un] [.int 9])
  have F794 := (F775.other W779 (Or.inl ne_o0_b757))
  have F796 := (F777.other W779 ne_o9_b757)
  refine gO (fun t k => iN X789 hx hby d7_94 ((if0 _ _).trans (flt (by decide : ¬ ((9 : Int32) < (0 : Int32)))).1) (kaN X789 hx hby d7_97 rfl rfl k)) (gG X789 hx hby hZ hown (w18 hw) e789 F783 d7_98 fun T791 X791 e791 => gO (fun t k => ki X791 hx hby d7_101 rfl (rJ X791 hx hby hZ e791 F785 (.long 0) rfl rfl d7_103 (kcl X791 hx hby d7_104 (o_lcmp X791 hx hby d7_105 (iY X791 hx hby 149 d7_106 (own_fltL (by decide : ¬ ((0 : Int64) < (0 : Int64)))).2.2.2 rfl (kaN X791 hx hby d7_149 rfl rfl k)))))) (gG X791 hx hby hZ hown (w15 hw) e791 F780 d7_150 fun T792 X792 e792 => gO (fun t k => ki X792 hx hby d7_153 rfl (rI X792 hx hby hZ e792 F782 (.int 2) rfl rfl d7_155 (si X792 hx hby (L' := #[rv o0, iv 0, iv 3, jv 2305843009213693950, sc, iv 1, iv 6, rv b745, jv 0, sc, rv b757, iv 2, iv 1, iv 2, un]) d7_156 rfl (o_goto X792 hx hby 92 d7_158 rfl (ki X792 hx hby d7_92 rfl (iN X792 hx hby d7_94 ((if0 _ _).trans (flt (by decide : ¬ ((2 : Int32) < (0 : Int32)))).1) (kaN X792 hx hby d7_97 rfl rfl k))))))) (gG X792 hx hby hZ hown (w18 hw) e792 F783 d7_98 fun T793 X793 e793 => gO (fun t k => ki X793 hx hby d7_101 rfl (rJ X793 hx hby hZ e793 F785 (.long q6) rfl rfl d7_103 (kcl X793 hx hby d7_104 (o_lcmp X793 hx hby d7_105 (iN X793 hx hby d7_106 (own_tltL hp10_7).2.2.2 (ka X793 hx hby d7_109 rfl rfl (kaN X793 hx hby d7_111 rfl rfl k))))))) (gG X793 hx hby hZ hown (w13 hw) e793 F794 d7_112 fun T795 X795 e795 => gO (fun t k => ki X795 hx hby d7_115 rfl (rI X795 hx hby hZ e795 F796 (.int 3) rfl rfl d7_117 (rI X795 hx hby hZ e795 F787 (.int (-1)) rfl rfl d7_118 (iN X795 hx hby d7_119 ((if0 _ _).trans (tlt (by decide : (-1 : Int32) < (0 : Int32))).2.1) (ka X795 hx hby d7_122 rfl rfl (kaN X795 hx hby d7_124 rfl rfl k)))))) (gG X795 hx hby hZ hown (w13 hw) e795 F794 d7_125 fun T797 X797 e797 => gO (fun t k => ki X797 hx hby d7_128 rfl (rI X797 hx hby hZ e797 F796 (.int 3) rfl rfl d7_130 (ki X797 hx hby d7_131 rfl k))) ?_)))))
  show OGl _ _ _ _ T797 (mkF m 133 #[rv o0, iv 0, iv 3, jv 2305843009213693950, sc, iv 1, iv 6, rv b745, jv 0, sc, rv b757, iv 2, iv 1, iv 2, un] [.int 2, .int 3, .ref b745])
  refine wI X797 hx hby hZ e797 F787 3 rfl (Nat.le_of_ble_eq_true rfl) d7_133 fun T798 h798 X798 e798 W798 V798 => ?_
  have N798 := Fr.snoc X798 N779 g_b745
  have KK798 := KK779.wr W798 (Or.inr sz_b745)
  show OGl _ _ _ _ T798 (mkF m 134 #[rv o0, iv 0, iv 3, jv 2305843009213693950, sc, iv 1, iv 6, rv b745, jv 0, sc, rv b757, iv 2, iv 1, iv 2, un] [])
  have F799 := (F794.other W798 (Or.inl ne_o0_b745))
  have F801 := (F796.other W798 ne_o9_b745)
  refine gO (fun t k => ka X798 hx hby d7_134 rfl rfl (ki X798 hx hby d7_136 rfl (o_iinc X798 hx hby (L' := #[rv o0, iv 0, iv 3, jv 2305843009213693950, sc, iv 1, iv 6, rv b745, jv 0, sc, rv b757, iv 3, iv 1, iv 2, un]) d7_138 rfl rfl (kaN X798 hx hby d7_141 rfl rfl k)))) (gG X798 hx hby hZ hown (w13 hw) e798 F799 d7_142 fun T800 X800 e800 => gO (fun t k => ki X800 hx hby d7_145 rfl (rI X800 hx hby hZ e800 F801 (.int 3) rfl rfl d7_147 k)) ?_)
  show OGl _ _ _ _ T800 (mkF m 148 #[rv o0, iv 0, iv 3, jv 2305843009213693950, sc, iv 1, iv 6, rv b745, jv 0, sc, rv b757, iv 3, iv 1, iv 2, un] [.int 3, .int 2, .ref b757])
  have F802 := (V779.other W798 (Ne.symm ne_b745_b757))
  refine wI X800 hx hby hZ e800 F802 2 rfl (Nat.le_of_ble_eq_true rfl) d7_148 fun T803 h803 X803 e803 W803 V803 => ?_
  have N803 := Fr.snoc X803 N798 g_b757
  have KK803 := KK798.wr W803 (Or.inr sz_b757)
  show OGl _ _ _ _ T803 (mkF m 149 #[rv o0, iv 0, iv 3, jv 2305843009213693950, sc, iv 1, iv 6, rv b745, jv 0, sc, rv b757, iv 3, iv 1, iv 2, un] [])
  have F804 := ((F780.other W798 (Or.inl ne_o0_b745)).other W803 (Or.inl ne_o0_b757))
  have F806 := ((F782.other W798 ne_o11_b745).other W803 ne_o11_b757)
  have F807 := (V798.other W803 ne_b745_b757)
  have F808 := ((F788.other W798 (Or.inl ne_o0_b745)).other W803 (Or.inl ne_o0_b757))
  have F810 := ((F790.other W798 ne_o1_b745).other W803 ne_o1_b757)
  have F811 := ((F783.other W798 (Or.inl ne_o0_b745)).other W803 (Or.inl ne_o0_b757))
  have F813 := ((F785.other W798 ne_o3_b745).other W803 ne_o3_b757)
  have F814 := (F799.other W803 (Or.inl ne_o0_b757))
  have F816 := (F801.other W803 ne_o9_b757)
  refine gO (fun t k => kaN X803 hx hby d7_149 rfl rfl k) (gG X803 hx hby hZ hown (w15 hw) e803 F804 d7_150 fun T805 X805 e805 => gO (fun t k => ki X805 hx hby d7_153 rfl (rI X805 hx hby hZ e805 F806 (.int (-1)) rfl rfl d7_155 (si X805 hx hby (L' := #[rv o0, iv 0, iv 3, jv 2305843009213693950, sc, iv 1, iv 6, rv b745, jv 0, sc, rv b757, iv 3, iv 1, iv (-1), un]) d7_156 rfl (o_goto X805 hx hby 92 d7_158 rfl (ki X805 hx hby d7_92 rfl (iY X805 hx hby 161 d7_94 ((if0 _ _).trans (tlt (by decide : (-1 : Int32) < (0 : Int32))).1) rfl (o_iinc X805 hx hby (L' := #[rv o0, iv 0, iv 3, jv 2305843009213693950, sc, iv 1, iv 6, rv b745, jv 0, sc, rv b757, iv 3, iv 2, iv (-1), un]) d7_161 rfl rfl (o_goto X805 hx hby 65 d7_164 rfl (ki X805 hx hby d7_65 rfl (ki X805 hx hby d7_67 rfl (cN X805 hx hby d7_69 (tlt (by decide : (2 : Int32) < (3 : Int32))).2.1 (ka X805 hx hby d7_72 rfl rfl (ki X805 hx hby d7_74 rfl (rI X805 hx hby hZ e805 F807 (.int (-1)) rfl rfl d7_76 (iN X805 hx hby d7_77 ((if0 _ _).trans (tlt (by decide : (-1 : Int32) < (0 : Int32))).2.1) (kaN X805 hx hby d7_80 rfl rfl k)))))))))))))))) (gG X805 hx hby hZ hown (w11 hw) e805 F808 d7_81 fun T809 X809 e809 => gO (fun t k => ka X809 hx hby d7_84 rfl rfl (ki X809 hx hby d7_86 rfl (rI X809 hx hby hZ e809 V803 (.int 3) rfl rfl d7_88 (rI X809 hx hby hZ e809 F810 (.int 10) rfl rfl d7_89 (si X809 hx hby (L' := #[rv o0, iv 0, iv 3, jv 2305843009213693950, sc, iv 1, iv 6, rv b745, jv 0, sc, rv b757, iv 3, iv 2, iv 10, un]) d7_90 rfl (ki X809 hx hby d7_92 rfl (iN X809 hx hby d7_94 ((if0 _ _).trans (flt (by decide : ¬ ((10 : Int32) < (0 : Int32)))).1) (kaN X809 hx hby d7_97 rfl rfl k)))))))) (gG X809 hx hby hZ hown (w18 hw) e809 F811 d7_98 fun T812 X812 e812 => gO (fun t k => ki X812 hx hby d7_101 rfl (rJ X812 hx hby hZ e812 F813 (.long 2305843009213693951) rfl rfl d7_103 (kcl X812 hx hby d7_104 (o_lcmp X812 hx hby d7_105 (iN X812 hx hby d7_106 (own_tltL (by decide : (0 : Int64) < (2305843009213693951 : Int64))).2.2.2 (ka X812 hx hby d7_109 rfl rfl (kaN X812 hx hby d7_111 rfl rfl k))))))) (gG X812 hx hby hZ hown (w13 hw) e812 F814 d7_112 fun T815 X815 e815 => gO (fun t k => ki X815 hx hby d7_115 rfl (rI X815 hx hby hZ e815 F816 (.int 4) rfl rfl d7_117 (rI X815 hx hby hZ e815 F807 (.int (-1)) rfl rfl d7_118 (iN X815 hx hby d7_119 ((if0 _ _).trans (tlt (by decide : (-1 : Int32) < (0 : Int32))).2.1) k)))) ?_))))
  show OGl _ _ _ _ T815 (mkF m 122 #[rv o0, iv 0, iv 3, jv 2305843009213693950, sc, iv 1, iv 6, rv b745, jv 0, sc, rv b757, iv 3, iv 2, iv 10, un] [])
  refine gO (fun t k => ka X815 hx hby d7_122 rfl rfl (kaN X815 hx hby d7_124 rfl rfl k)) (gG X815 hx hby hZ hown (w13 hw) e815 F814 d7_125 fun T817 X817 e817 => gO (fun t k => ki X817 hx hby d7_128 rfl (rI X817 hx hby hZ e817 F816 (.int 4) rfl rfl d7_130 (ki X817 hx hby d7_131 rfl k))) ?_)
  show OGl _ _ _ _ T817 (mkF m 133 #[rv o0, iv 0, iv 3, jv 2305843009213693950, sc, iv 1, iv 6, rv b745, jv 0, sc, rv b757, iv 3, iv 2, iv 10, un] [.int 10, .int 4, .ref b745])
  refine wI X817 hx hby hZ e817 F807 4 rfl (Nat.le_of_ble_eq_true rfl) d7_133 fun T818 h818 X818 e818 W818 V818 => ?_
  have N818 := Fr.snoc X818 N803 g_b745
  have KK818 := KK803.wr W818 (Or.inr sz_b745)
  show OGl _ _ _ _ T818 (mkF m 134 #[rv o0, iv 0, iv 3, jv 2305843009213693950, sc, iv 1, iv 6, rv b745, jv 0, sc, rv b757, iv 3, iv 2, iv 10, un] [])
  have F819 := (F814.other W818 (Or.inl ne_o0_b745))
  have F821 := (F816.other W818 ne_o9_b745)
  refine gO (fun t k => ka X818 hx hby d7_134 rfl rfl (ki X818 hx hby d7_136 rfl (o_iinc X818 hx hby (L' := #[rv o0, iv 0, iv 3, jv 2305843009213693950, sc, iv 1, iv 6, rv b745, jv 0, sc, rv b757, iv 4, iv 2, iv 10, un]) d7_138 rfl rfl (kaN X818 hx hby d7_141 rfl rfl k)))) (gG X818 hx hby hZ hown (w13 hw) e818 F819 d7_142 fun T820 X820 e820 => gO (fun t k => ki X820 hx hby d7_145 rfl (rI X820 hx hby hZ e820 F821 (.int 4) rfl rfl d7_147 k)) ?_)
  show OGl _ _ _ _ T820 (mkF m 148 #[rv o0, iv 0, iv 3, jv 2305843009213693950, sc, iv 1, iv 6, rv b745, jv 0, sc, rv b757, iv 4, iv 2, iv 10, un] [.int 4, .int 3, .ref b757])
  have F822 := (V803.other W818 (Ne.symm ne_b745_b757))
  refine wI X820 hx hby hZ e820 F822 3 rfl (Nat.le_of_ble_eq_true rfl) d7_148 fun T823 h823 X823 e823 W823 V823 => ?_
  have N823 := Fr.snoc X823 N818 g_b757
  have KK823 := KK818.wr W823 (Or.inr sz_b757)
  show OGl _ _ _ _ T823 (mkF m 149 #[rv o0, iv 0, iv 3, jv 2305843009213693950, sc, iv 1, iv 6, rv b745, jv 0, sc, rv b757, iv 4, iv 2, iv 10, un] [])
  have F824 := ((F804.other W818 (Or.inl ne_o0_b745)).other W823 (Or.inl ne_o0_b757))
  have F826 := ((F806.other W818 ne_o11_b745).other W823 ne_o11_b757)
  have F827 := ((F811.other W818 (Or.inl ne_o0_b745)).other W823 (Or.inl ne_o0_b757))
  have F829 := ((F813.other W818 ne_o3_b745).other W823 ne_o3_b757)
  have F831 := (V818.other W823 ne_b745_b757)
  have F832 := ((F808.other W818 (Or.inl ne_o0_b745)).other W823 (Or.inl ne_o0_b757))
  have F834 := ((F810.other W818 ne_o1_b745).other W823 ne_o1_b757)
  refine gO (fun t k => kaN X823 hx hby d7_149 rfl rfl k) (gG X823 hx hby hZ hown (w15 hw) e823 F824 d7_150 fun T825 X825 e825 => gO (fun t k => ki X825 hx hby d7_153 rfl (rI X825 hx hby hZ e825 F826 (.int 3) rfl rfl d7_155 (si X825 hx hby (L' := #[rv o0, iv 0, iv 3, jv 2305843009213693950, sc, iv 1, iv 6, rv b745, jv 0, sc, rv b757, iv 4, iv 2, iv 3, un]) d7_156 rfl (o_goto X825 hx hby 92 d7_158 rfl (ki X825 hx hby d7_92 rfl (iN X825 hx hby d7_94 ((if0 _ _).trans (flt (by decide : ¬ ((3 : Int32) < (0 : Int32)))).1) (kaN X825 hx hby d7_97 rfl rfl k))))))) (gG X825 hx hby hZ hown (w18 hw) e825 F827 d7_98 fun T828 X828 e828 => gO (fun t k => ki X828 hx hby d7_101 rfl (rJ X828 hx hby hZ e828 F829 (.long 0) rfl rfl d7_103 (kcl X828 hx hby d7_104 (o_lcmp X828 hx hby d7_105 (iY X828 hx hby 149 d7_106 (own_fltL (by decide : ¬ ((0 : Int64) < (0 : Int64)))).2.2.2 rfl (kaN X828 hx hby d7_149 rfl rfl k)))))) (gG X828 hx hby hZ hown (w15 hw) e828 F824 d7_150 fun T830 X830 e830 => gO (fun t k => ki X830 hx hby d7_153 rfl (rI X830 hx hby hZ e830 F826 (.int (-1)) rfl rfl d7_155 (si X830 hx hby (L' := #[rv o0, iv 0, iv 3, jv 2305843009213693950, sc, iv 1, iv 6, rv b745, jv 0, sc, rv b757, iv 4, iv 2, iv (-1), un]) d7_156 rfl (o_goto X830 hx hby 92 d7_158 rfl (ki X830 hx hby d7_92 rfl (iY X830 hx hby 161 d7_94 ((if0 _ _).trans (tlt (by decide : (-1 : Int32) < (0 : Int32))).1) rfl (o_iinc X830 hx hby (L' := #[rv o0, iv 0, iv 3, jv 2305843009213693950, sc, iv 1, iv 6, rv b745, jv 0, sc, rv b757, iv 4, iv 3, iv (-1), un]) d7_161 rfl rfl (o_goto X830 hx hby 65 d7_164 rfl (ki X830 hx hby d7_65 rfl (ki X830 hx hby d7_67 rfl (cN X830 hx hby d7_69 (tlt (by decide : (3 : Int32) < (4 : Int32))).2.1 (ka X830 hx hby d7_72 rfl rfl (ki X830 hx hby d7_74 rfl (rI X830 hx hby hZ e830 F831 (.int (-1)) rfl rfl d7_76 (iN X830 hx hby d7_77 ((if0 _ _).trans (tlt (by decide : (-1 : Int32) < (0 : Int32))).2.1) (kaN X830 hx hby d7_80 rfl rfl k)))))))))))))))) (gG X830 hx hby hZ hown (w11 hw) e830 F832 d7_81 fun T833 X833 e833 => gO (fun t k => ka X833 hx hby d7_84 rfl rfl (ki X833 hx hby d7_86 rfl (rI X833 hx hby hZ e833 V823 (.int 4) rfl rfl d7_88 (rI X833 hx hby hZ e833 F834 (.int 11) rfl rfl d7_89 (si X833 hx hby (L' := #[rv o0, iv 0, iv 3, jv 2305843009213693950, sc, iv 1, iv 6, rv b745, jv 0, sc, rv b757, iv 4, iv 3, iv 11, un]) d7_90 rfl (ki X833 hx hby d7_92 rfl k)))))) ?_))))
  show OGl _ _ _ _ T833 (mkF m 94 #[rv o0, iv 0, iv 3, jv 2305843009213693950, sc, iv 1, iv 6, rv b745, jv 0, sc, rv b757, iv 4, iv 3, iv 11, un] [.int 11])
  have F838 := (F819.other W823 (Or.inl ne_o0_b757))
  have F840 := (F821.other W823 ne_o9_b757)
  refine gO (fun t k => iN X833 hx hby d7_94 ((if0 _ _).trans (flt (by decide : ¬ ((11 : Int32) < (0 : Int32)))).1) (kaN X833 hx hby d7_97 rfl rfl k)) (gG X833 hx hby hZ hown (w18 hw) e833 F827 d7_98 fun T835 X835 e835 => gO (fun t k => ki X835 hx hby d7_101 rfl (rJ X835 hx hby hZ e835 F829 (.long 0) rfl rfl d7_103 (kcl X835 hx hby d7_104 (o_lcmp X835 hx hby d7_105 (iY X835 hx hby 149 d7_106 (own_fltL (by decide : ¬ ((0 : Int64) < (0 : Int64)))).2.2.2 rfl (kaN X835 hx hby d7_149 rfl rfl k)))))) (gG X835 hx hby hZ hown (w15 hw) e835 F824 d7_150 fun T836 X836 e836 => gO (fun t k => ki X836 hx hby d7_153 rfl (rI X836 hx hby hZ e836 F826 (.int 4) rfl rfl d7_155 (si X836 hx hby (L' := #[rv o0, iv 0, iv 3, jv 2305843009213693950, sc, iv 1, iv 6, rv b745, jv 0, sc, rv b757, iv 4, iv 3, iv 4, un]) d7_156 rfl (o_goto X836 hx hby 92 d7_158 rfl (ki X836 hx hby d7_92 rfl (iN X836 hx hby d7_94 ((if0 _ _).trans (flt (by decide : ¬ ((4 : Int32) < (0 : Int32)))).1) (kaN X836 hx hby d7_97 rfl rfl k))))))) (gG X836 hx hby hZ hown (w18 hw) e836 F827 d7_98 fun T837 X837 e837 => gO (fun t k => ki X837 hx hby d7_101 rfl (rJ X837 hx hby hZ e837 F829 (.long q7) rfl rfl d7_103 (kcl X837 hx hby d7_104 (o_lcmp X837 hx hby d7_105 (iN X837 hx hby d7_106 (own_tltL hp11_7).2.2.2 (ka X837 hx hby d7_109 rfl rfl (kaN X837 hx hby d7_111 rfl rfl k))))))) (gG X837 hx hby hZ hown (w13 hw) e837 F838 d7_112 fun T839 X839 e839 => gO (fun t k => ki X839 hx hby d7_115 rfl (rI X839 hx hby hZ e839 F840 (.int 5) rfl rfl d7_117 (rI X839 hx hby hZ e839 F831 (.int (-1)) rfl rfl d7_118 (iN X839 hx hby d7_119 ((if0 _ _).trans (tlt (by decide : (-1 : Int32) < (0 : Int32))).2.1) (ka X839 hx hby d7_122 rfl rfl (kaN X839 hx hby d7_124 rfl rfl k)))))) (gG X839 hx hby hZ hown (w13 hw) e839 F838 d7_125 fun T841 X841 e841 => gO (fun t k => ki X841 hx hby d7_128 rfl (rI X841 hx hby hZ e841 F840 (.int 5) rfl rfl d7_130 (ki X841 hx hby d7_131 rfl k))) ?_)))))
  show OGl _ _ _ _ T841 (mkF m 133 #[rv o0, iv 0, iv 3, jv 2305843009213693950, sc, iv 1, iv 6, rv b745, jv 0, sc, rv b757, iv 4, iv 3, iv 4, un] [.int 4, .int 5, .ref b745])
  refine wI X841 hx hby hZ e841 F831 5 rfl (Nat.le_of_ble_eq_true rfl) d7_133 fun T842 h842 X842 e842 W842 V842 => ?_
  have N842 := Fr.snoc X842 N823 g_b745
  have KK842 := KK823.wr W842 (Or.inr sz_b745)
  show OGl _ _ _ _ T842 (mkF m 134 #[rv o0, iv 0, iv 3, jv 2305843009213693950, sc, iv 1, iv 6, rv b745, jv 0, sc, rv b757, iv 4, iv 3, iv 4, un] [])
  have F843 := (F838.other W842 (Or.inl ne_o0_b745))
  have F845 := (F840.other W842 ne_o9_b745)
  refine gO (fun t k => ka X842 hx hby d7_134 rfl rfl (ki X842 hx hby d7_136 rfl (o_iinc X842 hx hby (L' := #[rv o0, iv 0, iv 3, jv 2305843009213693950, sc, iv 1, iv 6, rv b745, jv 0, sc, rv b757, iv 5, iv 3, iv 4, un]) d7_138 rfl rfl (kaN X842 hx hby d7_141 rfl rfl k)))) (gG X842 hx hby hZ hown (w13 hw) e842 F843 d7_142 fun T844 X844 e844 => gO (fun t k => ki X844 hx hby d7_145 rfl (rI X844 hx hby hZ e844 F845 (.int 5) rfl rfl d7_147 k)) ?_)
  show OGl _ _ _ _ T844 (mkF m 148 #[rv o0, iv 0, iv 3, jv 2305843009213693950, sc, iv 1, iv 6, rv b745, jv 0, sc, rv b757, iv 5, iv 3, iv 4, un] [.int 5, .int 4, .ref b757])
  have F846 := (V823.other W842 (Ne.symm ne_b745_b757))
  refine wI X844 hx hby hZ e844 F846 4 rfl (Nat.le_of_ble_eq_true rfl) d7_148 fun T847 h847 X847 e847 W847 V847 => ?_
  have N847 := Fr.snoc X847 N842 g_b757
  have KK847 := KK842.wr W847 (Or.inr sz_b757)
  show OGl _ _ _ _ T847 (mkF m 149 #[rv o0, iv 0, iv 3, jv 2305843009213693950, sc, iv 1, iv 6, rv b745, jv 0, sc, rv b757, iv 5, iv 3, iv 4, un] [])
  have F848 := ((F824.other W842 (Or.inl ne_o0_b745)).other W847 (Or.inl ne_o0_b757))
  have F850 := ((F826.other W842 ne_o11_b745).other W847 ne_o11_b757)
  have F851 := (V842.other W847 ne_b745_b757)
  have F852 := ((F832.other W842 (Or.inl ne_o0_b745)).other W847 (Or.inl ne_o0_b757))
  have F854 := ((F834.other W842 ne_o1_b745).other W847 ne_o1_b757)
  have F855 := ((F827.other W842 (Or.inl ne_o0_b745)).other W847 (Or.inl ne_o0_b757))
  have F857 := ((F829.other W842 ne_o3_b745).other W847 ne_o3_b757)
  have F858 := (F843.other W847 (Or.inl ne_o0_b757))
  have F860 := (F845.other W847 ne_o9_b757)
  refine gO (fun t k => kaN X847 hx hby d7_149 rfl rfl k) (gG X847 hx hby hZ hown (w15 hw) e847 F848 d7_150 fun T849 X849 e849 => gO (fun t k => ki X849 hx hby d7_153 rfl (rI X849 hx hby hZ e849 F850 (.int (-1)) rfl rfl d7_155 (si X849 hx hby (L' := #[rv o0, iv 0, iv 3, jv 2305843009213693950, sc, iv 1, iv 6, rv b745, jv 0, sc, rv b757, iv 5, iv 3, iv (-1), un]) d7_156 rfl (o_goto X849 hx hby 92 d7_158 rfl (ki X849 hx hby d7_92 rfl (iY X849 hx hby 161 d7_94 ((if0 _ _).trans (tlt (by decide : (-1 : Int32) < (0 : Int32))).1) rfl (o_iinc X849 hx hby (L' := #[rv o0, iv 0, iv 3, jv 2305843009213693950, sc, iv 1, iv 6, rv b745, jv 0, sc, rv b757, iv 5, iv 4, iv (-1), un]) d7_161 rfl rfl (o_goto X849 hx hby 65 d7_164 rfl (ki X849 hx hby d7_65 rfl (ki X849 hx hby d7_67 rfl (cN X849 hx hby d7_69 (tlt (by decide : (4 : Int32) < (5 : Int32))).2.1 (ka X849 hx hby d7_72 rfl rfl (ki X849 hx hby d7_74 rfl (rI X849 hx hby hZ e849 F851 (.int (-1)) rfl rfl d7_76 (iN X849 hx hby d7_77 ((if0 _ _).trans (tlt (by decide : (-1 : Int32) < (0 : Int32))).2.1) (kaN X849 hx hby d7_80 rfl rfl k)))))))))))))))) (gG X849 hx hby hZ hown (w11 hw) e849 F852 d7_81 fun T853 X853 e853 => gO (fun t k => ka X853 hx hby d7_84 rfl rfl (ki X853 hx hby d7_86 rfl (rI X853 hx hby hZ e853 V847 (.int 5) rfl rfl d7_88 (rI X853 hx hby hZ e853 F854 (.int 12) rfl rfl d7_89 (si X853 hx hby (L' := #[rv o0, iv 0, iv 3, jv 2305843009213693950, sc, iv 1, iv 6, rv b745, jv 0, sc, rv b757, iv 5, iv 4, iv 12, un]) d7_90 rfl (ki X853 hx hby d7_92 rfl (iN X853 hx hby d7_94 ((if0 _ _).trans (flt (by decide : ¬ ((12 : Int32) < (0 : Int32)))).1) (kaN X853 hx hby d7_97 rfl rfl k)))))))) (gG X853 hx hby hZ hown (w18 hw) e853 F855 d7_98 fun T856 X856 e856 => gO (fun t k => ki X856 hx hby d7_101 rfl (rJ X856 hx hby hZ e856 F857 (.long 2305843009213693951) rfl rfl d7_103 (kcl X856 hx hby d7_104 (o_lcmp X856 hx hby d7_105 (iN X856 hx hby d7_106 (own_tltL (by decide : (0 : Int64) < (2305843009213693951 : Int64))).2.2.2 (ka X856 hx hby d7_109 rfl rfl (kaN X856 hx hby d7_111 rfl rfl k))))))) (gG X856 hx hby hZ hown (w13 hw) e856 F858 d7_112 fun T859 X859 e859 => gO (fun t k => ki X859 hx hby d7_115 rfl (rI X859 hx hby hZ e859 F860 (.int 6) rfl rfl d7_117 (rI X859 hx hby hZ e859 F851 (.int (-1)) rfl rfl d7_118 (iN X859 hx hby d7_119 ((if0 _ _).trans (tlt (by decide : (-1 : Int32) < (0 : Int32))).2.1) k)))) ?_))))
  show OGl _ _ _ _ T859 (mkF m 122 #[rv o0, iv 0, iv 3, jv 2305843009213693950, sc, iv 1, iv 6, rv b745, jv 0, sc, rv b757, iv 5, iv 4, iv 12, un] [])
  refine gO (fun t k => ka X859 hx hby d7_122 rfl rfl (kaN X859 hx hby d7_124 rfl rfl k)) (gG X859 hx hby hZ hown (w13 hw) e859 F858 d7_125 fun T861 X861 e861 => gO (fun t k => ki X861 hx hby d7_128 rfl (rI X861 hx hby hZ e861 F860 (.int 6) rfl rfl d7_130 (ki X861 hx hby d7_131 rfl k))) ?_)
  show OGl _ _ _ _ T861 (mkF m 133 #[rv o0, iv 0, iv 3, jv 2305843009213693950, sc, iv 1, iv 6, rv b745, jv 0, sc, rv b757, iv 5, iv 4, iv 12, un] [.int 12, .int 6, .ref b745])
  refine wI X861 hx hby hZ e861 F851 6 rfl (Nat.le_of_ble_eq_true rfl) d7_133 fun T862 h862 X862 e862 W862 V862 => ?_
  have N862 := Fr.snoc X862 N847 g_b745
  have KK862 := KK847.wr W862 (Or.inr sz_b745)
  show OGl _ _ _ _ T862 (mkF m 134 #[rv o0, iv 0, iv 3, jv 2305843009213693950, sc, iv 1, iv 6, rv b745, jv 0, sc, rv b757, iv 5, iv 4, iv 12, un] [])
  have F863 := (F858.other W862 (Or.inl ne_o0_b745))
  have F865 := (F860.other W862 ne_o9_b745)
  refine gO (fun t k => ka X862 hx hby d7_134 rfl rfl (ki X862 hx hby d7_136 rfl (o_iinc X862 hx hby (L' := #[rv o0, iv 0, iv 3, jv 2305843009213693950, sc, iv 1, iv 6, rv b745, jv 0, sc, rv b757, iv 6, iv 4, iv 12, un]) d7_138 rfl rfl (kaN X862 hx hby d7_141 rfl rfl k)))) (gG X862 hx hby hZ hown (w13 hw) e862 F863 d7_142 fun T864 X864 e864 => gO (fun t k => ki X864 hx hby d7_145 rfl (rI X864 hx hby hZ e864 F865 (.int 6) rfl rfl d7_147 k)) ?_)
  show OGl _ _ _ _ T864 (mkF m 148 #[rv o0, iv 0, iv 3, jv 2305843009213693950, sc, iv 1, iv 6, rv b745, jv 0, sc, rv b757, iv 6, iv 4, iv 12, un] [.int 6, .int 5, .ref b757])
  have F866 := (V847.other W862 (Ne.symm ne_b745_b757))
  refine wI X864 hx hby hZ e864 F866 5 rfl (Nat.le_of_ble_eq_true rfl) d7_148 fun T867 h867 X867 e867 W867 V867 => ?_
  have N867 := Fr.snoc X867 N862 g_b757
  have KK867 := KK862.wr W867 (Or.inr sz_b757)
  show OGl _ _ _ _ T867 (mkF m 149 #[rv o0, iv 0, iv 3, jv 2305843009213693950, sc, iv 1, iv 6, rv b745, jv 0, sc, rv b757, iv 6, iv 4, iv 12, un] [])
  have F868 := ((F848.other W862 (Or.inl ne_o0_b745)).other W867 (Or.inl ne_o0_b757))
  have F870 := ((F850.other W862 ne_o11_b745).other W867 ne_o11_b757)
  have F871 := ((F855.other W862 (Or.inl ne_o0_b745)).other W867 (Or.inl ne_o0_b757))
  have F873 := ((F857.other W862 ne_o3_b745).other W867 ne_o3_b757)
  have F875 := (V862.other W867 ne_b745_b757)
  refine gO (fun t k => kaN X867 hx hby d7_149 rfl rfl k) (gG X867 hx hby hZ hown (w15 hw) e867 F868 d7_150 fun T869 X869 e869 => gO (fun t k => ki X869 hx hby d7_153 rfl (rI X869 hx hby hZ e869 F870 (.int 5) rfl rfl d7_155 (si X869 hx hby (L' := #[rv o0, iv 0, iv 3, jv 2305843009213693950, sc, iv 1, iv 6, rv b745, jv 0, sc, rv b757, iv 6, iv 4, iv 5, un]) d7_156 rfl (o_goto X869 hx hby 92 d7_158 rfl (ki X869 hx hby d7_92 rfl (iN X869 hx hby d7_94 ((if0 _ _).trans (flt (by decide : ¬ ((5 : Int32) < (0 : Int32)))).1) (kaN X869 hx hby d7_97 rfl rfl k))))))) (gG X869 hx hby hZ hown (w18 hw) e869 F871 d7_98 fun T872 X872 e872 => gO (fun t k => ki X872 hx hby d7_101 rfl (rJ X872 hx hby hZ e872 F873 (.long 0) rfl rfl d7_103 (kcl X872 hx hby d7_104 (o_lcmp X872 hx hby d7_105 (iY X872 hx hby 149 d7_106 (own_fltL (by decide : ¬ ((0 : Int64) < (0 : Int64)))).2.2.2 rfl (kaN X872 hx hby d7_149 rfl rfl k)))))) (gG X872 hx hby hZ hown (w15 hw) e872 F868 d7_150 fun T874 X874 e874 => gO (fun t k => ki X874 hx hby d7_153 rfl (rI X874 hx hby hZ e874 F870 (.int (-1)) rfl rfl d7_155 (si X874 hx hby (L' := #[rv o0, iv 0, iv 3, jv 2305843009213693950, sc, iv 1, iv 6, rv b745, jv 0, sc, rv b757, iv 6, iv 4, iv (-1), un]) d7_156 rfl (o_goto X874 hx hby 92 d7_158 rfl (ki X874 hx hby d7_92 rfl (iY X874 hx hby 161 d7_94 ((if0 _ _).trans (tlt (by decide : (-1 : Int32) < (0 : Int32))).1) rfl (o_iinc X874 hx hby (L' := #[rv o0, iv 0, iv 3, jv 2305843009213693950, sc, iv 1, iv 6, rv b745, jv 0, sc, rv b757, iv 6, iv 5, iv (-1), un]) d7_161 rfl rfl (o_goto X874 hx hby 65 d7_164 rfl (ki X874 hx hby d7_65 rfl (ki X874 hx hby d7_67 rfl (cN X874 hx hby d7_69 (tlt (by decide : (5 : Int32) < (6 : Int32))).2.1 (ka X874 hx hby d7_72 rfl rfl (ki X874 hx hby d7_74 rfl (rI X874 hx hby hZ e874 F875 (.int 12) rfl rfl d7_76 (iY X874 hx hby 167 d7_77 ((if0 _ _).trans (flt (by decide : ¬ ((12 : Int32) < (0 : Int32)))).2.1) rfl (ka X874 hx hby d7_167 rfl rfl (ki X874 hx hby d7_169 rfl (rI X874 hx hby hZ e874 F875 (.int 12) rfl rfl d7_171 (iY X874 hx hby 215 d7_172 ((if0 _ _).trans (flt (by decide : ¬ ((12 : Int32) < (0 : Int32)))).2.1) rfl (klN X874 hx hby d7_215 rfl (kl X874 hx hby d7_216 rfl (o_lsub X874 hx hby d7_218 (sl X874 hx hby (L' := #[rv o0, iv 0, iv 3, jv 2305843009213693950, sc, iv 1, iv 6, rv b745, jv 0, sc, rv b757, iv 6, jv 2305843009213693950, sc, un]) d7_219 rfl k))))))))))))))))))))))) ?_)))
  show OGl _ _ _ _ T874 (mkF m 221 #[rv o0, iv 0, iv 3, jv 2305843009213693950, sc, iv 1, iv 6, rv b745, jv 0, sc, rv b757, iv 6, jv 2305843009213693950, sc, un] [])
  refine gO (fun t k => ki X874 hx hby d7_221 rfl (si X874 hx hby (L' := #[rv o0, iv 0, iv 3, jv 2305843009213693950, sc, iv 1, iv 6, rv b745, jv 0, sc, rv b757, iv 6, jv 2305843009213693950, sc, iv 6]) d7_223 rfl (ki X874 hx hby d7_225 rfl (ki X874 hx hby d7_227 rfl (cN X874 hx hby d7_229 (feq (by decide : ¬ ((6 : Int32) = (1 : Int32)))).1 (kl X874 hx hby d7_232 rfl (kaN X874 hx hby d7_234 rfl rfl k))))))) (gG X874 hx hby hZ hown (w18 hw) e874 F871 d7_235 fun T876 X876 e876 => gO (fun t k => ka X876 hx hby d7_238 rfl rfl (ki X876 hx hby d7_240 rfl (rI X876 hx hby hZ e876 F875 (.int 12) rfl rfl d7_242 (rJ X876 hx hby hZ e876 F873 (.long 2305843009213693951) rfl rfl d7_243 k)))) ?_)
  show OGl _ _ _ _ T876 (mkF m 244 #[rv o0, iv 0, iv 3, jv 2305843009213693950, sc, iv 1, iv 6, rv b745, jv 0, sc, rv b757, iv 6, jv 2305843009213693950, sc, iv 6] [.long 2305843009213693951, .long 2305843009213693950])
  obtain ⟨_, _, ⟨T877, L877, kk877, n877⟩, -, X877, ⟨Lc877, hQ877, l877, y877, z877⟩, st877⟩ := Jvm.LawKit.callS X876 hx (y := yy6) hown (mvT hZ (w53 hw)) (mvT hZ (w54 hw)) (mvT hZ (w55 hw)) (mvT hZ (w56 hw)) (by decide) (backOf (W := 0) (rm9 l Z a0 hw []  h867 n0 (Nat.le_trans Z0 KK867.1) ) hZ (w56 hw) (w55 hw) (by decide) (by decide)) (g := (mkF m 244 #[rv o0, iv 0, iv 3, jv 2305843009213693950, sc, iv 1, iv 6, rv b745, jv 0, sc, rv b757, iv 6, jv 2305843009213693950, sc, iv 6] [.long 2305843009213693951, .long 2305843009213693950])) rfl (by rw [hml]; rfl) (argsL := [.long 2305843009213693950, .long 2305843009213693951]) (rest := []) (lenOf pd_5 rfl) rfl (by show 2 * 0 + _ ≤ _; exact Nat.le_of_eq rfl) (hb hby d7_244) (fun _ _ => ⟨rfl, e876, (by decide : 2 + 0 ≤ _), (by decide : 16 + 0 ≤ _)⟩)
  dsimp only [Pt.U, Pt.locs, Pt.cells, Pt.slots] at X877 l877 y877 z877 st877 hQ877
  replace l877 := l877.symm
  subst l877 y877 z877
  obtain ⟨rfl, Nq877, e877⟩ := hQ877
  have N877 := Fr.app N867 Nq877
  refine gO st877 ?_
  show OGl _ _ _ _ T877 (mkF m 247 #[rv o0, iv 0, iv 3, jv 2305843009213693950, sc, iv 1, iv 6, rv b745, jv 0, sc, rv b757, iv 6, jv 2305843009213693950, sc, iv 6] [.long 2305843009213693950])
  have F878 := (F863.other W867 (Or.inl ne_o0_b757))
  have F880 := (F865.other W867 ne_o9_b757)
  refine gO (fun t k => sl X877 hx hby (L' := #[rv o0, iv 0, iv 3, jv 2305843009213693950, sc, iv 1, iv 6, rv b745, jv 0, sc, rv b757, iv 6, jv 2305843009213693950, sc, iv 6]) d7_247 rfl (kaN X877 hx hby d7_249 rfl rfl k)) (gG X877 hx hby hZ hown (w13 hw) e877 F878 d7_250 fun T879 X879 e879 => gO (fun t k => ka X879 hx hby d7_253 rfl rfl (ki X879 hx hby d7_255 rfl (rI X879 hx hby hZ e879 F875 (.int 12) rfl rfl d7_257 (kc X879 hx hby d7_258 (o_ixor X879 hx hby d7_259 (rI X879 hx hby hZ e879 F880 (.int 5) rfl rfl d7_260 (si X879 hx hby (L' := #[rv o0, iv 0, iv 3, jv 2305843009213693950, sc, iv 1, iv 6, rv b745, jv 0, sc, rv b757, iv 6, jv 2305843009213693950, sc, iv 5]) d7_261 rfl (o_goto X879 hx hby 225 d7_263 rfl (ki X879 hx hby d7_225 rfl (ki X879 hx hby d7_227 rfl (cN X879 hx hby d7_229 (feq (by decide : ¬ ((5 : Int32) = (1 : Int32)))).1 (kl X879 hx hby d7_232 rfl (kaN X879 hx hby d7_234 rfl rfl k))))))))))))) (gG X879 hx hby hZ hown (w18 hw) e879 F871 d7_235 fun T881 X881 e881 => gO (fun t k => ka X881 hx hby d7_238 rfl rfl (ki X881 hx hby d7_240 rfl (rI X881 hx hby hZ e881 F875 (.int 4) rfl rfl d7_242 (rJ X881 hx hby hZ e881 F873 (.long q7) rfl rfl d7_243 k)))) ?_))
  show OGl _ _ _ _ T881 (mkF m 244 #[rv o0, iv 0, iv 3, jv 2305843009213693950, sc, iv 1, iv 6, rv b745, jv 0, sc, rv b757, iv 6, jv 2305843009213693950, sc, iv 5] [.long q7, .long 2305843009213693950])
  obtain ⟨_, _, ⟨T882, L882, kk882, n882⟩, -, X882, ⟨Lc882, hQ882, l882, y882, z882⟩, st882⟩ := Jvm.LawKit.callS X881 hx (y := yy6) hown (mvT hZ (w53 hw)) (mvT hZ (w54 hw)) (mvT hZ (w55 hw)) (mvT hZ (w56 hw)) (by decide) (backOf (W := 0) (rm9a l Z a0 hw [] q7 h867 n0 (Nat.le_trans Z0 KK867.1) ) hZ (w56 hw) (w55 hw) (by decide) (by decide)) (g := (mkF m 244 #[rv o0, iv 0, iv 3, jv 2305843009213693950, sc, iv 1, iv 6, rv b745, jv 0, sc, rv b757, iv 6, jv 2305843009213693950, sc, iv 5] [.long q7, .long 2305843009213693950])) rfl (by rw [hml]; rfl) (argsL := [.long 2305843009213693950, .long q7]) (rest := []) (lenOf pd_5 rfl) rfl (by show 2 * 0 + _ ≤ _; exact Nat.le_of_eq rfl) (hb hby d7_244) (fun _ _ => ⟨rfl, e881, (by decide : 2 + 0 ≤ _), (by decide : 16 + 0 ≤ _)⟩)
  dsimp only [Pt.U, Pt.locs, Pt.cells, Pt.slots] at X882 l882 y882 z882 st882 hQ882
  replace l882 := l882.symm
  subst l882 y882 z882
  obtain ⟨rfl, Nq882, e882⟩ := hQ882
  have N882 := Fr.app N877 Nq882
  refine gO st882 ?_
  show OGl _ _ _ _ T882 (mkF m 247 #[rv o0, iv 0, iv 3, jv 2305843009213693950, sc, iv 1, iv 6, rv b745, jv 0, sc, rv b757, iv 6, jv 2305843009213693950, sc, iv 5] [.long (t9a_0 q7)])
  refine gO (fun t k => sl X882 hx hby (L' := #[rv o0, iv 0, iv 3, jv 2305843009213693950, sc, iv 1, iv 6, rv b745, jv 0, sc, rv b757, iv 6, jv (t9a_0 q7), sc, iv 5]) d7_247 rfl (kaN X882 hx hby d7_249 rfl rfl k)) (gG X882 hx hby hZ hown (w13 hw) e882 F878 d7_250 fun T886 X886 e886 => gO (fun t k => ka X886 hx hby d7_253 rfl rfl (ki X886 hx hby d7_255 rfl (rI X886 hx hby hZ e886 F875 (.int 4) rfl rfl d7_257 (kc X886 hx hby d7_258 (o_ixor X886 hx hby d7_259 (rI X886 hx hby hZ e886 F880 (.int 4) rfl rfl d7_260 (si X886 hx hby (L' := #[rv o0, iv 0, iv 3, jv 2305843009213693950, sc, iv 1, iv 6, rv b745, jv 0, sc, rv b757, iv 6, jv (t9a_0 q7), sc, iv 4]) d7_261 rfl (o_goto X886 hx hby 225 d7_263 rfl (ki X886 hx hby d7_225 rfl (ki X886 hx hby d7_227 rfl (cN X886 hx hby d7_229 (feq (by decide : ¬ ((4 : Int32) = (1 : Int32)))).1 (kl X886 hx hby d7_232 rfl (kaN X886 hx hby d7_234 rfl rfl k))))))))))))) (gG X886 hx hby hZ hown (w18 hw) e886 F871 d7_235 fun T887 X887 e887 => gO (fun t k => ka X887 hx hby d7_238 rfl rfl (ki X887 hx hby d7_240 rfl (rI X887 hx hby hZ e887 F875 (.int 10) rfl rfl d7_242 (rJ X887 hx hby hZ e887 F873 (.long 2305843009213693951) rfl rfl d7_243 k)))) ?_))
  show OGl _ _ _ _ T887 (mkF m 244 #[rv o0, iv 0, iv 3, jv 2305843009213693950, sc, iv 1, iv 6, rv b745, jv 0, sc, rv b757, iv 6, jv (t9a_0 q7), sc, iv 4] [.long 2305843009213693951, .long (t9a_0 q7)])
  obtain ⟨_, _, ⟨T888, L888, kk888, n888⟩, -, X888, ⟨Lc888, hQ888, l888, y888, z888⟩, st888⟩ := Jvm.LawKit.callS X887 hx (y := yy6) hown (mvT hZ (w53 hw)) (mvT hZ (w54 hw)) (mvT hZ (w55 hw)) (mvT hZ (w56 hw)) (by decide) (backOf (W := 0) (rm9b l Z a0 hw [] (t9a_0 q7) h867 n0 (Nat.le_trans Z0 KK867.1) ) hZ (w56 hw) (w55 hw) (by decide) (by decide)) (g := (mkF m 244 #[rv o0, iv 0, iv 3, jv 2305843009213693950, sc, iv 1, iv 6, rv b745, jv 0, sc, rv b757, iv 6, jv (t9a_0 q7), sc, iv 4] [.long 2305843009213693951, .long (t9a_0 q7)])) rfl (by rw [hml]; rfl) (argsL := [.long (t9a_0 q7), .long 2305843009213693951]) (rest := []) (lenOf pd_5 rfl) rfl (by show 2 * 0 + _ ≤ _; exact Nat.le_of_eq rfl) (hb hby d7_244) (fun _ _ => ⟨rfl, e887, (by decide : 2 + 0 ≤ _), (by decide : 16 + 0 ≤ _)⟩)
  dsimp only [Pt.U, Pt.locs, Pt.cells, Pt.slots] at X888 l888 y888 z888 st888 hQ888
  replace l888 := l888.symm
  subst l888 y888 z888
  obtain ⟨rfl, Nq888, e888⟩ := hQ888
  have N888 := Fr.app N882 Nq888
  refine gO st888 ?_
  show OGl _ _ _ _ T888 (mkF m 247 #[rv o0, iv 0, iv 3, jv 2305843009213693950, sc, iv 1, iv 6, rv b745, jv 0, sc, rv b757, iv 6, jv (t9a_0 q7), sc, iv 4] [.long (t9b_0 (t9a_0 q7))])
  refine gO (fun t k => sl X888 hx hby (L' := #[rv o0, iv 0, iv 3, jv 2305843009213693950, sc, iv 1, iv 6, rv b745, jv 0, sc, rv b757, iv 6, jv (t9b_0 (t9a_0 q7)), sc, iv 4]) d7_247 rfl (kaN X888 hx hby d7_249 rfl rfl k)) (gG X888 hx hby hZ hown (w13 hw) e888 F878 d7_250 fun T892 X892 e892 => gO (fun t k => ka X892 hx hby d7_253 rfl rfl (ki X892 hx hby d7_255 rfl (rI X892 hx hby hZ e892 F875 (.int 10) rfl rfl d7_257 (kc X892 hx hby d7_258 (o_ixor X892 hx hby d7_259 (rI X892 hx hby hZ e892 F880 (.int 3) rfl rfl d7_260 (si X892 hx hby (L' := #[rv o0, iv 0, iv 3, jv 2305843009213693950, sc, iv 1, iv 6, rv b745, jv 0, sc, rv b757, iv 6, jv (t9b_0 (t9a_0 q7)), sc, iv 3]) d7_261 rfl (o_goto X892 hx hby 225 d7_263 rfl (ki X892 hx hby d7_225 rfl (ki X892 hx hby d7_227 rfl (cN X892 hx hby d7_229 (feq (by decide : ¬ ((3 : Int32) = (1 : Int32)))).1 (kl X892 hx hby d7_232 rfl (kaN X892 hx hby d7_234 rfl rfl k))))))))))))) (gG X892 hx hby hZ hown (w18 hw) e892 F871 d7_235 fun T893 X893 e893 => gO (fun t k => ka X893 hx hby d7_238 rfl rfl (ki X893 hx hby d7_240 rfl (rI X893 hx hby hZ e893 F875 (.int 2) rfl rfl d7_242 (rJ X893 hx hby hZ e893 F873 (.long q6) rfl rfl d7_243 k)))) ?_))
  show OGl _ _ _ _ T893 (mkF m 244 #[rv o0, iv 0, iv 3, jv 2305843009213693950, sc, iv 1, iv 6, rv b745, jv 0, sc, rv b757, iv 6, jv (t9b_0 (t9a_0 q7)), sc, iv 3] [.long q6, .long (t9b_0 (t9a_0 q7))])
  obtain ⟨_, _, ⟨T894, L894, kk894, n894⟩, -, X894, ⟨Lc894, hQ894, l894, y894, z894⟩, st894⟩ := Jvm.LawKit.callS X893 hx (y := yy6) hown (mvT hZ (w53 hw)) (mvT hZ (w54 hw)) (mvT hZ (w55 hw)) (mvT hZ (w56 hw)) (by decide) (backOf (W := 0) (rm9c l Z a0 hw [] (t9b_0 (t9a_0 q7)) q6 h867 n0 (Nat.le_trans Z0 KK867.1) ) hZ (w56 hw) (w55 hw) (by decide) (by decide)) (g := (mkF m 244 #[rv o0, iv 0, iv 3, jv 2305843009213693950, sc, iv 1, iv 6, rv b745, jv 0, sc, rv b757, iv 6, jv (t9b_0 (t9a_0 q7)), sc, iv 3] [.long q6, .long (t9b_0 (t9a_0 q7))])) rfl (by rw [hml]; rfl) (argsL := [.long (t9b_0 (t9a_0 q7)), .long q6]) (rest := []) (lenOf pd_5 rfl) rfl (by show 2 * 0 + _ ≤ _; exact Nat.le_of_eq rfl) (hb hby d7_244) (fun _ _ => ⟨rfl, e893, (by decide : 2 + 0 ≤ _), (by decide : 16 + 0 ≤ _)⟩)
  dsimp only [Pt.U, Pt.locs, Pt.cells, Pt.slots] at X894 l894 y894 z894 st894 hQ894
  replace l894 := l894.symm
  subst l894 y894 z894
  obtain ⟨rfl, Nq894, e894⟩ := hQ894
  have N894 := Fr.app N888 Nq894
  refine gO st894 ?_
  show OGl _ _ _ _ T894 (mkF m 247 #[rv o0, iv 0, iv 3, jv 2305843009213693950, sc, iv 1, iv 6, rv b745, jv 0, sc, rv b757, iv 6, jv (t9b_0 (t9a_0 q7)), sc, iv 3] [.long (t9c_0 (t9b_0 (t9a_0 q7)) q6)])
  refine gO (fun t k => sl X894 hx hby (L' := #[rv o0, iv 0, iv 3, jv 2305843009213693950, sc, iv 1, iv 6, rv b745, jv 0, sc, rv b757, iv 6, jv (t9c_0 (t9b_0 (t9a_0 q7)) q6), sc, iv 3]) d7_247 rfl (kaN X894 hx hby d7_249 rfl rfl k)) (gG X894 hx hby hZ hown (w13 hw) e894 F878 d7_250 fun T898 X898 e898 => gO (fun t k => ka X898 hx hby d7_253 rfl rfl (ki X898 hx hby d7_255 rfl (rI X898 hx hby hZ e898 F875 (.int 2) rfl rfl d7_257 (kc X898 hx hby d7_258 (o_ixor X898 hx hby d7_259 (rI X898 hx hby hZ e898 F880 (.int 2) rfl rfl d7_260 (si X898 hx hby (L' := #[rv o0, iv 0, iv 3, jv 2305843009213693950, sc, iv 1, iv 6, rv b745, jv 0, sc, rv b757, iv 6, jv (t9c_0 (t9b_0 (t9a_0 q7)) q6), sc, iv 2]) d7_261 rfl (o_goto X898 hx hby 225 d7_263 rfl (ki X898 hx hby d7_225 rfl (ki X898 hx hby d7_227 rfl (cN X898 hx hby d7_229 (feq (by decide : ¬ ((2 : Int32) = (1 : Int32)))).1 (kl X898 hx hby d7_232 rfl (kaN X898 hx hby d7_234 rfl rfl k))))))))))))) (gG X898 hx hby hZ hown (w18 hw) e898 F871 d7_235 fun T899 X899 e899 => gO (fun t k => ka X899 hx hby d7_238 rfl rfl (ki X899 hx hby d7_240 rfl (rI X899 hx hby hZ e899 F875 (.int 8) rfl rfl d7_242 (rJ X899 hx hby hZ e899 F873 (.long 2305843009213693951) rfl rfl d7_243 k)))) ?_))
  show OGl _ _ _ _ T899 (mkF m 244 #[rv o0, iv 0, iv 3, jv 2305843009213693950, sc, iv 1, iv 6, rv b745, jv 0, sc, rv b757, iv 6, jv (t9c_0 (t9b_0 (t9a_0 q7)) q6), sc, iv 2] [.long 2305843009213693951, .long (t9c_0 (t9b_0 (t9a_0 q7)) q6)])
  obtain ⟨_, _, ⟨T900, L900, kk900, n900⟩, -, X900, ⟨Lc900, hQ900, l900, y900, z900⟩, st900⟩ := Jvm.LawKit.callS X899 hx (y := yy6) hown (mvT hZ (w53 hw)) (mvT hZ (w54 hw)) (mvT hZ (w55 hw)) (mvT hZ (w56 hw)) (by decide) (backOf (W := 0) (rm9b l Z a0 hw [] (t9c_0 (t9b_0 (t9a_0 q7)) q6) h867 n0 (Nat.le_trans Z0 KK867.1) ) hZ (w56 hw) (w55 hw) (by decide) (by decide)) (g := (mkF m 244 #[rv o0, iv 0, iv 3, jv 2305843009213693950, sc, iv 1, iv 6, rv b745, jv 0, sc, rv b757, iv 6, jv (t9c_0 (t9b_0 (t9a_0 q7)) q6), sc, iv 2] [.long 2305843009213693951, .long (t9c_0 (t9b_0 (t9a_0 q7)) q6)])) rfl (by rw [hml]; rfl) (argsL := [.long (t9c_0 (t9b_0 (t9a_0 q7)) q6), .long 2305843009213693951]) (rest := []) (lenOf pd_5 rfl) rfl (by show 2 * 0 + _ ≤ _; exact Nat.le_of_eq rfl) (hb hby d7_244) (fun _ _ => ⟨rfl, e899, (by decide : 2 + 0 ≤ _), (by decide : 16 + 0 ≤ _)⟩)
  dsimp only [Pt.U, Pt.locs, Pt.cells, Pt.slots] at X900 l900 y900 z900 st900 hQ900
  replace l900 := l900.symm
  subst l900 y900 z900
  obtain ⟨rfl, Nq900, e900⟩ := hQ900
  have N900 := Fr.app N894 Nq900
  refine gO st900 ?_
  show OGl _ _ _ _ T900 (mkF m 247 #[rv o0, iv 0, iv 3, jv 2305843009213693950, sc, iv 1, iv 6, rv b745, jv 0, sc, rv b757, iv 6, jv (t9c_0 (t9b_0 (t9a_0 q7)) q6), sc, iv 2] [.long (e7_0 q6 q7)])
  refine gO (fun t k => sl X900 hx hby (L' := #[rv o0, iv 0, iv 3, jv 2305843009213693950, sc, iv 1, iv 6, rv b745, jv 0, sc, rv b757, iv 6, jv (e7_0 q6 q7), sc, iv 2]) d7_247 rfl (kaN X900 hx hby d7_249 rfl rfl k)) (gG X900 hx hby hZ hown (w13 hw) e900 F878 d7_250 fun T901 X901 e901 => gO (fun t k => ka X901 hx hby d7_253 rfl rfl (ki X901 hx hby d7_255 rfl (rI X901 hx hby hZ e901 F875 (.int 8) rfl rfl d7_257 (kc X901 hx hby d7_258 (o_ixor X901 hx hby d7_259 (rI X901 hx hby hZ e901 F880 (.int 1) rfl rfl d7_260 (si X901 hx hby (L' := #[rv o0, iv 0, iv 3, jv 2305843009213693950, sc, iv 1, iv 6, rv b745, jv 0, sc, rv b757, iv 6, jv (e7_0 q6 q7), sc, iv 1]) d7_261 rfl (o_goto X901 hx hby 225 d7_263 rfl (ki X901 hx hby d7_225 rfl (ki X901 hx hby d7_227 rfl (cY X901 hx hby 266 d7_229 (teq (by decide : (1 : Int32) = (1 : Int32))).1 rfl (ki X901 hx hby d7_266 rfl (si X901 hx hby (L' := #[rv o0, iv 0, iv 3, jv 2305843009213693950, sc, iv 1, iv 6, rv b745, jv 0, sc, rv b757, iv 6, jv (e7_0 q6 q7), sc, iv 6]) d7_268 rfl (ki X901 hx hby d7_270 rfl (ki X901 hx hby d7_272 rfl (cN X901 hx hby d7_274 (feq (by decide : ¬ ((6 : Int32) = (1 : Int32)))).1 (kaN X901 hx hby d7_277 rfl rfl k))))))))))))))))) (gG X901 hx hby hZ hown (w18 hw) e901 F871 d7_278 fun T902 X902 e902 => gO (fun t k => ka X902 hx hby d7_281 rfl rfl (ki X902 hx hby d7_283 rfl (rI X902 hx hby hZ e902 F875 (.int 12) rfl rfl d7_285 (Jvm.Free.XT.dup2 X902.here hx rfl (hb hby d7_286) rfl rfl rfl (rJ X902 hx hby hZ e902 F873 (.long 2305843009213693951) rfl rfl d7_287 (kl X902 hx hby d7_288 rfl (o_lsub X902 hx hby d7_290 k))))))) ?_))
  show OGl _ _ _ _ T902 (mkF m 291 #[rv o0, iv 0, iv 3, jv 2305843009213693950, sc, iv 1, iv 6, rv b745, jv 0, sc, rv b757, iv 6, jv (e7_0 q6 q7), sc, iv 6] [.long (e7_1 q6 q7), .int 12, .ref o3])
  refine wJ X902 hx hby hZ e902 F873 12 rfl (Nat.le_of_ble_eq_true rfl) d7_291 fun T903 h903 X903 e903 W903 V903 => ?_
  have N903 := Fr.snoc X903 N900 g_o3
  have KK903 := KK867.wr W903 (Or.inl (List.mem_of_getElem? (i := 0) rfl))
  show OGl _ _ _ _ T903 (mkF m 292 #[rv o0, iv 0, iv 3, jv 2305843009213693950, sc, iv 1, iv 6, rv b745, jv 0, sc, rv b757, iv 6, jv (e7_0 q6 q7), sc, iv 6] [])
  have F904 := (F871.other W903 (Or.inl ne_o0_o3))
  have F906 := (F875.other W903 (Ne.symm ne_o3_b745))
  refine gO (fun t k => kaN X903 hx hby d7_292 rfl rfl k) (gG X903 hx hby hZ hown (w18 hw) e903 F904 d7_293 fun T905 X905 e905 => gO (fun t k => ka X905 hx hby d7_296 rfl rfl (ki X905 hx hby d7_298 rfl (rI X905 hx hby hZ e905 F906 (.int 12) rfl rfl d7_300 (kc X905 hx hby d7_301 (o_ixor X905 hx hby d7_302 (Jvm.Free.XT.dup2 X905.here hx rfl (hb hby d7_303) rfl rfl rfl (rJ X905 hx hby hZ e905 V903 (.long 0) rfl rfl d7_304 (kl X905 hx hby d7_305 rfl (o_ladd X905 hx hby d7_307 k))))))))) ?_)
  show OGl _ _ _ _ T905 (mkF m 308 #[rv o0, iv 0, iv 3, jv 2305843009213693950, sc, iv 1, iv 6, rv b745, jv 0, sc, rv b757, iv 6, jv (e7_0 q6 q7), sc, iv 6] [.long ((0 : Int64) + (e7_0 q6 q7)), .int 13, .ref o3])
  refine wJ X905 hx hby hZ e905 V903 13 rfl (Nat.le_of_ble_eq_true rfl) d7_308 fun T907 h907 X907 e907 W907 V907 => ?_
  have N907 := Fr.snoc X907 N903 g_o3
  have KK907 := KK903.wr W907 (Or.inl (List.mem_of_getElem? (i := 0) rfl))
  show OGl _ _ _ _ T907 (mkF m 309 #[rv o0, iv 0, iv 3, jv 2305843009213693950, sc, iv 1, iv 6, rv b745, jv 0, sc, rv b757, iv 6, jv (e7_0 q6 q7), sc, iv 6] [])
  have F908 := ((F878.other W903 (Or.inl ne_o0_o3)).other W907 (Or.inl ne_o0_o3))
  have F910 := (F906.other W907 (Ne.symm ne_o3_b745))
  have F911 := ((F880.other W903 ne_o9_o3).other W907 ne_o9_o3)
  have F912 := (F904.other W907 (Or.inl ne_o0_o3))
  refine gO (fun t k => kaN X907 hx hby d7_309 rfl rfl k) (gG X907 hx hby hZ hown (w13 hw) e907 F908 d7_310 fun T909 X909 e909 => gO (fun t k => ka X909 hx hby d7_313 rfl rfl (ki X909 hx hby d7_315 rfl (rI X909 hx hby hZ e909 F910 (.int 12) rfl rfl d7_317 (kc X909 hx hby d7_318 (o_ixor X909 hx hby d7_319 (rI X909 hx hby hZ e909 F911 (.int 5) rfl rfl d7_320 (si X909 hx hby (L' := #[rv o0, iv 0, iv 3, jv 2305843009213693950, sc, iv 1, iv 6, rv b745, jv 0, sc, rv b757, iv 6, jv (e7_0 q6 q7), sc, iv 5]) d7_321 rfl (o_goto X909 hx hby 270 d7_323 rfl (ki X909 hx hby d7_270 rfl (ki X909 hx hby d7_272 rfl (cN X909 hx hby d7_274 (feq (by decide : ¬ ((5 : Int32) = (1 : Int32)))).1 (kaN X909 hx hby d7_277 rfl rfl k)))))))))))) (gG X909 hx hby hZ hown (w18 hw) e909 F912 d7_278 fun T913 X913 e913 => gO (fun t k => ka X913 hx hby d7_281 rfl rfl (ki X913 hx hby d7_283 rfl (rI X913 hx hby hZ e913 F910 (.int 4) rfl rfl d7_285 (Jvm.Free.XT.dup2 X913.here hx rfl (hb hby d7_286) rfl rfl rfl (rJ X913 hx hby hZ e913 V907 (.long q7) rfl rfl d7_287 (kl X913 hx hby d7_288 rfl (o_lsub X913 hx hby d7_290 k))))))) ?_))
  show OGl _ _ _ _ T913 (mkF m 291 #[rv o0, iv 0, iv 3, jv 2305843009213693950, sc, iv 1, iv 6, rv b745, jv 0, sc, rv b757, iv 6, jv (e7_0 q6 q7), sc, iv 5] [.long (q7 - (e7_0 q6 q7)), .int 4, .ref o3])
  refine wJ X913 hx hby hZ e913 V907 4 rfl (Nat.le_of_ble_eq_true rfl) d7_291 fun T914 h914 X914 e914 W914 V914 => ?_
  have N914 := Fr.snoc X914 N907 g_o3
  have KK914 := KK907.wr W914 (Or.inl (List.mem_of_getElem? (i := 0) rfl))
  show OGl _ _ _ _ T914 (mkF m 292 #[rv o0, iv 0, iv 3, jv 2305843009213693950, sc, iv 1, iv 6, rv b745, jv 0, sc, rv b757, iv 6, jv (e7_0 q6 q7), sc, iv 5] [])
  have F915 := (F912.other W914 (Or.inl ne_o0_o3))
  have F917 := (F910.other W914 (Ne.symm ne_o3_b745))
  refine gO (fun t k => kaN X914 hx hby d7_292 rfl rfl k) (gG X914 hx hby hZ hown (w18 hw) e914 F915 d7_293 fun T916 X916 e916 => gO (fun t k => ka X916 hx hby d7_296 rfl rfl (ki X916 hx hby d7_298 rfl (rI X916 hx hby hZ e916 F917 (.int 4) rfl rfl d7_300 (kc X916 hx hby d7_301 (o_ixor X916 hx hby d7_302 (Jvm.Free.XT.dup2 X916.here hx rfl (hb hby d7_303) rfl rfl rfl (rJ X916 hx hby hZ e916 V914 (.long 0) rfl rfl d7_304 (kl X916 hx hby d7_305 rfl (o_ladd X916 hx hby d7_307 k))))))))) ?_)
  show OGl _ _ _ _ T916 (mkF m 308 #[rv o0, iv 0, iv 3, jv 2305843009213693950, sc, iv 1, iv 6, rv b745, jv 0, sc, rv b757, iv 6, jv (e7_0 q6 q7), sc, iv 5] [.long ((0 : Int64) + (e7_0 q6 q7)), .int 5, .ref o3])
  refine wJ X916 hx hby hZ e916 V914 5 rfl (Nat.le_of_ble_eq_true rfl) d7_308 fun T918 h918 X918 e918 W918 V918 => ?_
  have N918 := Fr.snoc X918 N914 g_o3
  have KK918 := KK914.wr W918 (Or.inl (List.mem_of_getElem? (i := 0) rfl))
  show OGl _ _ _ _ T918 (mkF m 309 #[rv o0, iv 0, iv 3, jv 2305843009213693950, sc, iv 1, iv 6, rv b745, jv 0, sc, rv b757, iv 6, jv (e7_0 q6 q7), sc, iv 5] [])
  have F919 := ((F908.other W914 (Or.inl ne_o0_o3)).other W918 (Or.inl ne_o0_o3))
  have F921 := (F917.other W918 (Ne.symm ne_o3_b745))
  have F922 := ((F911.other W914 ne_o9_o3).other W918 ne_o9_o3)
  have F923 := (F915.other W918 (Or.inl ne_o0_o3))
  refine gO (fun t k => kaN X918 hx hby d7_309 rfl rfl k) (gG X918 hx hby hZ hown (w13 hw) e918 F919 d7_310 fun T920 X920 e920 => gO (fun t k => ka X920 hx hby d7_313 rfl rfl (ki X920 hx hby d7_315 rfl (rI X920 hx hby hZ e920 F921 (.int 4) rfl rfl d7_317 (kc X920 hx hby d7_318 (o_ixor X920 hx hby d7_319 (rI X920 hx hby hZ e920 F922 (.int 4) rfl rfl d7_320 (si X920 hx hby (L' := #[rv o0, iv 0, iv 3, jv 2305843009213693950, sc, iv 1, iv 6, rv b745, jv 0, sc, rv b757, iv 6, jv (e7_0 q6 q7), sc, iv 4]) d7_321 rfl (o_goto X920 hx hby 270 d7_323 rfl (ki X920 hx hby d7_270 rfl (ki X920 hx hby d7_272 rfl (cN X920 hx hby d7_274 (feq (by decide : ¬ ((4 : Int32) = (1 : Int32)))).1 (kaN X920 hx hby d7_277 rfl rfl k)))))))))))) (gG X920 hx hby hZ hown (w18 hw) e920 F923 d7_278 fun T924 X924 e924 => gO (fun t k => ka X924 hx hby d7_281 rfl rfl (ki X924 hx hby d7_283 rfl (rI X924 hx hby hZ e924 F921 (.int 10) rfl rfl d7_285 (Jvm.Free.XT.dup2 X924.here hx rfl (hb hby d7_286) rfl rfl rfl (rJ X924 hx hby hZ e924 V918 (.long 2305843009213693951) rfl rfl d7_287 (kl X924 hx hby d7_288 rfl (o_lsub X924 hx hby d7_290 k))))))) ?_))
  show OGl _ _ _ _ T924 (mkF m 291 #[rv o0, iv 0, iv 3, jv 2305843009213693950, sc, iv 1, iv 6, rv b745, jv 0, sc, rv b757, iv 6, jv (e7_0 q6 q7), sc, iv 4] [.long (e7_1 q6 q7), .int 10, .ref o3])
  refine wJ X924 hx hby hZ e924 V918 10 rfl (Nat.le_of_ble_eq_true rfl) d7_291 fun T925 h925 X925 e925 W925 V925 => ?_
  have N925 := Fr.snoc X925 N918 g_o3
  have KK925 := KK918.wr W925 (Or.inl (List.mem_of_getElem? (i := 0) rfl))
  show OGl _ _ _ _ T925 (mkF m 292 #[rv o0, iv 0, iv 3, jv 2305843009213693950, sc, iv 1, iv 6, rv b745, jv 0, sc, rv b757, iv 6, jv (e7_0 q6 q7), sc, iv 4] [])
  have F926 := (F923.other W925 (Or.inl ne_o0_o3))
  have F928 := (F921.other W925 (Ne.symm ne_o3_b745))
  refine gO (fun t k => kaN X925 hx hby d7_292 rfl rfl k) (gG X925 hx hby hZ hown (w18 hw) e925 F926 d7_293 fun T927 X927 e927 => gO (fun t k => ka X927 hx hby d7_296 rfl rfl (ki X927 hx hby d7_298 rfl (rI X927 hx hby hZ e927 F928 (.int 10) rfl rfl d7_300 (kc X927 hx hby d7_301 (o_ixor X927 hx hby d7_302 (Jvm.Free.XT.dup2 X927.here hx rfl (hb hby d7_303) rfl rfl rfl (rJ X927 hx hby hZ e927 V925 (.long 0) rfl rfl d7_304 (kl X927 hx hby d7_305 rfl (o_ladd X927 hx hby d7_307 k))))))))) ?_)
  show OGl _ _ _ _ T927 (mkF m 308 #[rv o0, iv 0, iv 3, jv 2305843009213693950, sc, iv 1, iv 6, rv b745, jv 0, sc, rv b757, iv 6, jv (e7_0 q6 q7), sc, iv 4] [.long ((0 : Int64) + (e7_0 q6 q7)), .int 11, .ref o3])
  refine wJ X927 hx hby hZ e927 V925 11 rfl (Nat.le_of_ble_eq_true rfl) d7_308 fun T929 h929 X929 e929 W929 V929 => ?_
  have N929 := Fr.snoc X929 N925 g_o3
  have KK929 := KK925.wr W929 (Or.inl (List.mem_of_getElem? (i := 0) rfl))
  show OGl _ _ _ _ T929 (mkF m 309 #[rv o0, iv 0, iv 3, jv 2305843009213693950, sc, iv 1, iv 6, rv b745, jv 0, sc, rv b757, iv 6, jv (e7_0 q6 q7), sc, iv 4] [])
  have F930 := ((F919.other W925 (Or.inl ne_o0_o3)).other W929 (Or.inl ne_o0_o3))
  have F932 := (F928.other W929 (Ne.symm ne_o3_b745))
  have F933 := ((F922.other W925 ne_o9_o3).other W929 ne_o9_o3)
  have F934 := (F926.other W929 (Or.inl ne_o0_o3))
  refine gO (fun t k => kaN X929 hx hby d7_309 rfl rfl k) (gG X929 hx hby hZ hown (w13 hw) e929 F930 d7_310 fun T931 X931 e931 => gO (fun t k => ka X931 hx hby d7_313 rfl rfl (ki X931 hx hby d7_315 rfl (rI X931 hx hby hZ e931 F932 (.int 10) rfl rfl d7_317 (kc X931 hx hby d7_318 (o_ixor X931 hx hby d7_319 (rI X931 hx hby hZ e931 F933 (.int 3) rfl rfl d7_320 (si X931 hx hby (L' := #[rv o0, iv 0, iv 3, jv 2305843009213693950, sc, iv 1, iv 6, rv b745, jv 0, sc, rv b757, iv 6, jv (e7_0 q6 q7), sc, iv 3]) d7_321 rfl (o_goto X931 hx hby 270 d7_323 rfl (ki X931 hx hby d7_270 rfl (ki X931 hx hby d7_272 rfl (cN X931 hx hby d7_274 (feq (by decide : ¬ ((3 : Int32) = (1 : Int32)))).1 (kaN X931 hx hby d7_277 rfl rfl k)))))))))))) (gG X931 hx hby hZ hown (w18 hw) e931 F934 d7_278 fun T935 X935 e935 => gO (fun t k => ka X935 hx hby d7_281 rfl rfl (ki X935 hx hby d7_283 rfl (rI X935 hx hby hZ e935 F932 (.int 2) rfl rfl d7_285 (Jvm.Free.XT.dup2 X935.here hx rfl (hb hby d7_286) rfl rfl rfl (rJ X935 hx hby hZ e935 V929 (.long q6) rfl rfl d7_287 (kl X935 hx hby d7_288 rfl (o_lsub X935 hx hby d7_290 k))))))) ?_))
  show OGl _ _ _ _ T935 (mkF m 291 #[rv o0, iv 0, iv 3, jv 2305843009213693950, sc, iv 1, iv 6, rv b745, jv 0, sc, rv b757, iv 6, jv (e7_0 q6 q7), sc, iv 3] [.long (q6 - (e7_0 q6 q7)), .int 2, .ref o3])
  refine wJ X935 hx hby hZ e935 V929 2 rfl (Nat.le_of_ble_eq_true rfl) d7_291 fun T936 h936 X936 e936 W936 V936 => ?_
  have N936 := Fr.snoc X936 N929 g_o3
  have KK936 := KK929.wr W936 (Or.inl (List.mem_of_getElem? (i := 0) rfl))
  show OGl _ _ _ _ T936 (mkF m 292 #[rv o0, iv 0, iv 3, jv 2305843009213693950, sc, iv 1, iv 6, rv b745, jv 0, sc, rv b757, iv 6, jv (e7_0 q6 q7), sc, iv 3] [])
  have F937 := (F934.other W936 (Or.inl ne_o0_o3))
  have F939 := (F932.other W936 (Ne.symm ne_o3_b745))
  refine gO (fun t k => kaN X936 hx hby d7_292 rfl rfl k) (gG X936 hx hby hZ hown (w18 hw) e936 F937 d7_293 fun T938 X938 e938 => gO (fun t k => ka X938 hx hby d7_296 rfl rfl (ki X938 hx hby d7_298 rfl (rI X938 hx hby hZ e938 F939 (.int 2) rfl rfl d7_300 (kc X938 hx hby d7_301 (o_ixor X938 hx hby d7_302 (Jvm.Free.XT.dup2 X938.here hx rfl (hb hby d7_303) rfl rfl rfl (rJ X938 hx hby hZ e938 V936 (.long 0) rfl rfl d7_304 (kl X938 hx hby d7_305 rfl (o_ladd X938 hx hby d7_307 k))))))))) ?_)
  show OGl _ _ _ _ T938 (mkF m 308 #[rv o0, iv 0, iv 3, jv 2305843009213693950, sc, iv 1, iv 6, rv b745, jv 0, sc, rv b757, iv 6, jv (e7_0 q6 q7), sc, iv 3] [.long ((0 : Int64) + (e7_0 q6 q7)), .int 3, .ref o3])
  refine wJ X938 hx hby hZ e938 V936 3 rfl (Nat.le_of_ble_eq_true rfl) d7_308 fun T940 h940 X940 e940 W940 V940 => ?_
  have N940 := Fr.snoc X940 N936 g_o3
  have KK940 := KK936.wr W940 (Or.inl (List.mem_of_getElem? (i := 0) rfl))
  show OGl _ _ _ _ T940 (mkF m 309 #[rv o0, iv 0, iv 3, jv 2305843009213693950, sc, iv 1, iv 6, rv b745, jv 0, sc, rv b757, iv 6, jv (e7_0 q6 q7), sc, iv 3] [])
  have F941 := ((F930.other W936 (Or.inl ne_o0_o3)).other W940 (Or.inl ne_o0_o3))
  have F943 := (F939.other W940 (Ne.symm ne_o3_b745))
  have F944 := ((F933.other W936 ne_o9_o3).other W940 ne_o9_o3)
  have F945 := (F937.other W940 (Or.inl ne_o0_o3))
  refine gO (fun t k => kaN X940 hx hby d7_309 rfl rfl k) (gG X940 hx hby hZ hown (w13 hw) e940 F941 d7_310 fun T942 X942 e942 => gO (fun t k => ka X942 hx hby d7_313 rfl rfl (ki X942 hx hby d7_315 rfl (rI X942 hx hby hZ e942 F943 (.int 2) rfl rfl d7_317 (kc X942 hx hby d7_318 (o_ixor X942 hx hby d7_319 (rI X942 hx hby hZ e942 F944 (.int 2) rfl rfl d7_320 (si X942 hx hby (L' := #[rv o0, iv 0, iv 3, jv 2305843009213693950, sc, iv 1, iv 6, rv b745, jv 0, sc, rv b757, iv 6, jv (e7_0 q6 q7), sc, iv 2]) d7_321 rfl (o_goto X942 hx hby 270 d7_323 rfl (ki X942 hx hby d7_270 rfl (ki X942 hx hby d7_272 rfl (cN X942 hx hby d7_274 (feq (by decide : ¬ ((2 : Int32) = (1 : Int32)))).1 (kaN X942 hx hby d7_277 rfl rfl k)))))))))))) (gG X942 hx hby hZ hown (w18 hw) e942 F945 d7_278 fun T946 X946 e946 => gO (fun t k => ka X946 hx hby d7_281 rfl rfl (ki X946 hx hby d7_283 rfl (rI X946 hx hby hZ e946 F943 (.int 8) rfl rfl d7_285 (Jvm.Free.XT.dup2 X946.here hx rfl (hb hby d7_286) rfl rfl rfl (rJ X946 hx hby hZ e946 V940 (.long 2305843009213693951) rfl rfl d7_287 (kl X946 hx hby d7_288 rfl (o_lsub X946 hx hby d7_290 k))))))) ?_))
  show OGl _ _ _ _ T946 (mkF m 291 #[rv o0, iv 0, iv 3, jv 2305843009213693950, sc, iv 1, iv 6, rv b745, jv 0, sc, rv b757, iv 6, jv (e7_0 q6 q7), sc, iv 2] [.long (e7_1 q6 q7), .int 8, .ref o3])
  refine wJ X946 hx hby hZ e946 V940 8 rfl (Nat.le_of_ble_eq_true rfl) d7_291 fun T947 h947 X947 e947 W947 V947 => ?_
  have N947 := Fr.snoc X947 N940 g_o3
  have KK947 := KK940.wr W947 (Or.inl (List.mem_of_getElem? (i := 0) rfl))
  show OGl _ _ _ _ T947 (mkF m 292 #[rv o0, iv 0, iv 3, jv 2305843009213693950, sc, iv 1, iv 6, rv b745, jv 0, sc, rv b757, iv 6, jv (e7_0 q6 q7), sc, iv 2] [])
  have F948 := (F945.other W947 (Or.inl ne_o0_o3))
  have F950 := (F943.other W947 (Ne.symm ne_o3_b745))
  refine gO (fun t k => kaN X947 hx hby d7_292 rfl rfl k) (gG X947 hx hby hZ hown (w18 hw) e947 F948 d7_293 fun T949 X949 e949 => gO (fun t k => ka X949 hx hby d7_296 rfl rfl (ki X949 hx hby d7_298 rfl (rI X949 hx hby hZ e949 F950 (.int 8) rfl rfl d7_300 (kc X949 hx hby d7_301 (o_ixor X949 hx hby d7_302 (Jvm.Free.XT.dup2 X949.here hx rfl (hb hby d7_303) rfl rfl rfl (rJ X949 hx hby hZ e949 V947 (.long 0) rfl rfl d7_304 (kl X949 hx hby d7_305 rfl (o_ladd X949 hx hby d7_307 k))))))))) ?_)
  show OGl _ _ _ _ T949 (mkF m 308 #[rv o0, iv 0, iv 3, jv 2305843009213693950, sc, iv 1, iv 6, rv b745, jv 0, sc, rv b757, iv 6, jv (e7_0 q6 q7), sc, iv 2] [.long ((0 : Int64) + (e7_0 q6 q7)), .int 9, .ref o3])
  refine wJ X949 hx hby hZ e949 V947 9 rfl (Nat.le_of_ble_eq_true rfl) d7_308 fun T951 h951 X951 e951 W951 V951 => ?_
  have N951 := Fr.snoc X951 N947 g_o3
  have KK951 := KK947.wr W951 (Or.inl (List.mem_of_getElem? (i := 0) rfl))
  show OGl _ _ _ _ T951 (mkF m 309 #[rv o0, iv 0, iv 3, jv 2305843009213693950, sc, iv 1, iv 6, rv b745, jv 0, sc, rv b757, iv 6, jv (e7_0 q6 q7), sc, iv 2] [])
  have F952 := ((F941.other W947 (Or.inl ne_o0_o3)).other W951 (Or.inl ne_o0_o3))
  have F954 := (F950.other W951 (Ne.symm ne_o3_b745))
  have F955 := ((F944.other W947 ne_o9_o3).other W951 ne_o9_o3)
  refine gO (fun t k => kaN X951 hx hby d7_309 rfl rfl k) (gG X951 hx hby hZ hown (w13 hw) e951 F952 d7_310 fun T953 X953 e953 => gO (fun t k => ka X953 hx hby d7_313 rfl rfl (ki X953 hx hby d7_315 rfl (rI X953 hx hby hZ e953 F954 (.int 8) rfl rfl d7_317 (kc X953 hx hby d7_318 (o_ixor X953 hx hby d7_319 (rI X953 hx hby hZ e953 F955 (.int 1) rfl rfl d7_320 (si X953 hx hby (L' := #[rv o0, iv 0, iv 3, jv 2305843009213693950, sc, iv 1, iv 6, rv b745, jv 0, sc, rv b757, iv 6, jv (e7_0 q6 q7), sc, iv 1]) d7_321 rfl (o_goto X953 hx hby 270 d7_323 rfl (ki X953 hx hby d7_270 rfl (ki X953 hx hby d7_272 rfl (cY X953 hx hby 326 d7_274 (teq (by decide : (1 : Int32) = (1 : Int32))).1 rfl (kl X953 hx hby d7_326 rfl (kl X953 hx hby d7_328 rfl (o_ladd X953 hx hby d7_330 (sl X953 hx hby (L' := #[rv o0, iv 0, iv 3, jv 2305843009213693950, sc, iv 1, iv 6, rv b745, jv ((0 : Int64) + (e7_0 q6 q7)), sc, rv b757, iv 6, jv (e7_0 q6 q7), sc, iv 1]) d7_331 rfl (o_goto X953 hx hby 23 d7_333 rfl (kl X953 hx hby d7_23 rfl (klN X953 hx hby d7_25 rfl (o_lcmp X953 hx hby d7_26 (iN X953 hx hby d7_27 (own_tltL hp15_7).2.1 (ka X953 hx hby d7_30 rfl rfl (kc X953 hx hby d7_32 k)))))))))))))))))))))) ?_)
  show OGl _ _ _ _ T953 (mkF m 33 #[rv o0, iv 0, iv 3, jv 2305843009213693950, sc, iv 1, iv 6, rv b745, jv ((0 : Int64) + (e7_0 q6 q7)), sc, rv b757, iv 6, jv (e7_0 q6 q7), sc, iv 1] [.int (-1), .ref b745])
  have F965 : Arv Z h951 b745 k745 .int 8 [.int (-1), .int 14, .int 8, .int 2, .int 10, .int 4, .int 12, .int (-1)] (.int 0) := F954
  obtain ⟨_, _, ⟨T956, L956, kk956, n956⟩, -, X956, ⟨Lc956, hQ956, l956, y956, z956⟩, st956⟩ := Jvm.LawKit.callS X953 hx (y := yy5) hown (mvT hZ (w49 hw)) (mvT hZ (w50 hw)) (mvT hZ (w51 hw)) (mvT hZ (w52 hw)) (by decide) (backOf (W := 0) (rm8a l Z a0 hw [] b745 k745 h951 n0 (Nat.le_trans Z0 KK951.1) F965 g_b745) hZ (w52 hw) (w51 hw) (by decide) (by decide)) (g := (mkF m 33 #[rv o0, iv 0, iv 3, jv 2305843009213693950, sc, iv 1, iv 6, rv b745, jv ((0 : Int64) + (e7_0 q6 q7)), sc, rv b757, iv 6, jv (e7_0 q6 q7), sc, iv 1] [.int (-1), .ref b745])) rfl (by rw [hml]; rfl) (argsL := [.ref b745, .int (-1)]) (rest := []) (lenOf pd_4 rfl) rfl (by show 2 * 0 + _ ≤ _; exact Nat.le_of_eq rfl) (hb hby d7_33) (fun _ _ => ⟨rfl, e953, (by decide : 2 + 0 ≤ _), (by decide : 16 + 0 ≤ _)⟩)
  dsimp only [Pt.U, Pt.locs, Pt.cells, Pt.slots] at X956 l956 y956 z956 st956 hQ956
  replace l956 := l956.symm
  subst l956 y956 z956
  obtain ⟨rfl, Nq956, K956, Fq956_0⟩ := hQ956
  have KK956 : Keep h0 T956.heap [o3, o0] := KK951.trans K956 (allS (Or.inr sz_b745) all0)
  have N956 := Fr.app N951 Nq956
  refine gO st956 ?_
  show OGl _ _ _ _ T956 (mkF m 36 #[rv o0, iv 0, iv 3, jv 2305843009213693950, sc, iv 1, iv 6, rv b745, jv ((0 : Int64) + (e7_0 q6 q7)), sc, rv b757, iv 6, jv (e7_0 q6 q7), sc, iv 1] [])
  have F966 := ((((((((((((((((((((((((F755.ext E757).other W758 (Or.inl ne_o0_b757)).other W762 (Or.inl ne_o0_b745)).other W774 (Or.inl ne_o0_b745)).other W779 (Or.inl ne_o0_b757)).other W798 (Or.inl ne_o0_b745)).other W803 (Or.inl ne_o0_b757)).other W818 (Or.inl ne_o0_b745)).other W823 (Or.inl ne_o0_b757)).other W842 (Or.inl ne_o0_b745)).other W847 (Or.inl ne_o0_b757)).other W862 (Or.inl ne_o0_b745)).other W867 (Or.inl ne_o0_b757)).other W903 (Or.inl ne_o0_o3)).other W907 (Or.inl ne_o0_o3)).other W914 (Or.inl ne_o0_o3)).other W918 (Or.inl ne_o0_o3)).other W925 (Or.inl ne_o0_o3)).other W929 (Or.inl ne_o0_o3)).other W936 (Or.inl ne_o0_o3)).other W940 (Or.inl ne_o0_o3)).other W947 (Or.inl ne_o0_o3)).other W951 (Or.inl ne_o0_o3)).keep K956 (ninS ne_o0_b745 nin0))
  refine gO (fun t k => kaN X956 hx hby d7_36 rfl rfl k) (gG X956 hx hby hZ hown (w25 hw) rfl F966 d7_37 fun T967 X967 e967 => ?_)
  show OGl _ _ _ _ T967 (mkF m 40 #[rv o0, iv 0, iv 3, jv 2305843009213693950, sc, iv 1, iv 6, rv b745, jv ((0 : Int64) + (e7_0 q6 q7)), sc, rv b757, iv 6, jv (e7_0 q6 q7), sc, iv 1] [.int 8])
  obtain ⟨T968, h968, k968, X968, e968, E968, A968, st968⟩ := newP (aty := .int) X967 hx hZ (w10 hw) e967 (g := (mkF m 40 #[rv o0, iv 0, iv 3, jv 2305843009213693950, sc, iv 1, iv 6, rv b745, jv ((0 : Int64) + (e7_0 q6 q7)), sc, rv b757, iv 6, jv (e7_0 q6 q7), sc, iv 1] [.int 8])) rfl (hb hby d7_40) rfl (by decide) (cap := 8) (by decide) (by decide) (by decide) (by decide)
  obtain ⟨b968, gb968⟩ : ∃ z, z = T956.heap.size := ⟨_, rfl⟩
  rw [← gb968] at A968 st968
  have ne_b745_b968 : b745 ≠ b968 := Nat.ne_of_lt (Nat.lt_of_lt_of_eq Fq956_0.lt gb968.symm)
  have F969 := (((((((((((V867.other W903 (Ne.symm ne_o3_b757)).other W907 (Ne.symm ne_o3_b757)).other W914 (Ne.symm ne_o3_b757)).other W918 (Ne.symm ne_o3_b757)).other W925 (Ne.symm ne_o3_b757)).other W929 (Ne.symm ne_o3_b757)).other W936 (Ne.symm ne_o3_b757)).other W940 (Ne.symm ne_o3_b757)).other W947 (Ne.symm ne_o3_b757)).other W951 (Ne.symm ne_o3_b757)).keep K956 (ninS (Ne.symm ne_b745_b757) nin0))
  have ne_b757_b968 : b757 ≠ b968 := Nat.ne_of_lt (Nat.lt_of_lt_of_eq F969.lt gb968.symm)
  have ne_o0_b968 : o0 ≠ b968 := Nat.ne_of_lt (Nat.lt_of_lt_of_eq F966.lt gb968.symm)
  have F970 := (((((((((((((F854.other W862 ne_o1_b745).other W867 ne_o1_b757).other W903 ne_o1_o3).other W907 ne_o1_o3).other W914 ne_o1_o3).other W918 ne_o1_o3).other W925 ne_o1_o3).other W929 ne_o1_o3).other W936 ne_o1_o3).other W940 ne_o1_o3).other W947 ne_o1_o3).other W951 ne_o1_o3).keep K956 (ninS ne_o1_b745 nin0))
  have ne_o1_b968 : o1 ≠ b968 := Nat.ne_of_lt (Nat.lt_of_lt_of_eq F970.lt gb968.symm)
  have F971 := (((((((((((F870.other W903 ne_o11_o3).other W907 ne_o11_o3).other W914 ne_o11_o3).other W918 ne_o11_o3).other W925 ne_o11_o3).other W929 ne_o11_o3).other W936 ne_o11_o3).other W940 ne_o11_o3).other W947 ne_o11_o3).other W951 ne_o11_o3).keep K956 (ninS ne_o11_b745 nin0))
  have ne_o11_b968 : o11 ≠ b968 := Nat.ne_of_lt (Nat.lt_of_lt_of_eq F971.lt gb968.symm)
  have F972 := (V951.keep K956 (ninS ne_o3_b745 nin0))
  have ne_o3_b968 : o3 ≠ b968 := Nat.ne_of_lt (Nat.lt_of_lt_of_eq F972.lt gb968.symm)
  have F973 := (F955.keep K956 (ninS ne_o9_b745 nin0))
  have ne_o9_b968 : o9 ≠ b968 := Nat.ne_of_lt (Nat.lt_of_lt_of_eq F973.lt gb968.symm)
  have sz_b968 : h0.size ≤ b968 := Nat.le_trans KK956.1 (Nat.le_of_eq gb968.symm)
  have g_b968 : n0 ≤ b968 := Nat.le_trans Z0 sz_b968
  have V968 : Arv Z h968 b968 k968 .int (8 : Int32) [.int 0, .int 0, .int 0, .int 0, .int 0, .int 0, .int 0, .int 0] (.int 0) := (Arv.new A968 (by decide)).pad (pad_rep [] (.int 0) 8)
  have KK968 : Keep h0 h968 [o3, o0] := KK956.ext E968
  refine gO st968 ?_
  show OGl _ _ _ _ T968 (mkF m 42 #[rv o0, iv 0, iv 3, jv 2305843009213693950, sc, iv 1, iv 6, rv b745, jv ((0 : Int64) + (e7_0 q6 q7)), sc, rv b757, iv 6, jv (e7_0 q6 q7), sc, iv 1] [.ref b968])
  refine gO (fun t k => sa X968 hx hby (L' := #[rv o0, iv 0, iv 3, jv 2305843009213693950, sc, iv 1, iv 6, rv b745, jv ((0 : Int64) + (e7_0 q6 q7)), sc, rv b968, iv 6, jv (e7_0 q6 q7), sc, iv 1]) d7_42 rfl rfl (kc X968 hx hby d7_44 (si X968 hx hby (L' := #[rv o0, iv 0, iv 3, jv 2305843009213693950, sc, iv 1, iv 6, rv b745, jv ((0 : Int64) + (e7_0 q6 q7)), sc, rv b968, iv 1, jv (e7_0 q6 q7), sc, iv 1]) d7_45 rfl (ka X968 hx hby d7_47 rfl rfl (kc X968 hx hby d7_49 (ki X968 hx hby d7_50 rfl k)))))) ?_
  show OGl _ _ _ _ T968 (mkF m 52 #[rv o0, iv 0, iv 3, jv 2305843009213693950, sc, iv 1, iv 6, rv b745, jv ((0 : Int64) + (e7_0 q6 q7)), sc, rv b968, iv 1, jv (e7_0 q6 q7), sc, iv 1] [.int 1, .int 0, .ref b968])
  refine wI X968 hx hby hZ e968 V968 0 rfl (Nat.le_of_ble_eq_true rfl) d7_52 fun T974 h974 X974 e974 W974 V974 => ?_
  have N974 := Fr.snoc X974 N956 g_b968
  have KK974 := KK968.wr W974 (Or.inr sz_b968)
  show OGl _ _ _ _ T974 (mkF m 53 #[rv o0, iv 0, iv 3, jv 2305843009213693950, sc, iv 1, iv 6, rv b745, jv ((0 : Int64) + (e7_0 q6 q7)), sc, rv b968, iv 1, jv (e7_0 q6 q7), sc, iv 1] [])
  have F975 := ((((((((((((((((((((((((F759.other W762 (Or.inl ne_o0_b745)).other W774 (Or.inl ne_o0_b745)).other W779 (Or.inl ne_o0_b757)).other W798 (Or.inl ne_o0_b745)).other W803 (Or.inl ne_o0_b757)).other W818 (Or.inl ne_o0_b745)).other W823 (Or.inl ne_o0_b757)).other W842 (Or.inl ne_o0_b745)).other W847 (Or.inl ne_o0_b757)).other W862 (Or.inl ne_o0_b745)).other W867 (Or.inl ne_o0_b757)).other W903 (Or.inl ne_o0_o3)).other W907 (Or.inl ne_o0_o3)).other W914 (Or.inl ne_o0_o3)).other W918 (Or.inl ne_o0_o3)).other W925 (Or.inl ne_o0_o3)).other W929 (Or.inl ne_o0_o3)).other W936 (Or.inl ne_o0_o3)).other W940 (Or.inl ne_o0_o3)).other W947 (Or.inl ne_o0_o3)).other W951 (Or.inl ne_o0_o3)).keep K956 (ninS ne_o0_b745 nin0)).ext E968).other W974 (Or.inl ne_o0_b968))
  refine gO (fun t k => ka X974 hx hby d7_53 rfl rfl (ki X974 hx hby d7_55 rfl (kaN X974 hx hby d7_57 rfl rfl k))) (gG X974 hx hby hZ hown (w31 hw) e974 F975 d7_58 fun T976 X976 e976 => ?_)
  show OGl _ _ _ _ T976 (mkF m 61 #[rv o0, iv 0, iv 3, jv 2305843009213693950, sc, iv 1, iv 6, rv b745, jv ((0 : Int64) + (e7_0 q6 q7)), sc, rv b968, iv 1, jv (e7_0 q6 q7), sc, iv 1] [.int 14, .int 1, .ref b745])
  have F977 := ((Fq956_0.ext E968).other W974 ne_b745_b968)
  refine wI X976 hx hby hZ e976 F977 1 rfl (Nat.le_of_ble_eq_true rfl) d7_61 fun T978 h978 X978 e978 W978 V978 => ?_
  have N978 := Fr.snoc X978 N974 g_b745
  have KK978 := KK974.wr W978 (Or.inr sz_b745)
  show OGl _ _ _ _ T978 (mkF m 62 #[rv o0, iv 0, iv 3, jv 2305843009213693950, sc, iv 1, iv 6, rv b745, jv ((0 : Int64) + (e7_0 q6 q7)), sc, rv b968, iv 1, jv (e7_0 q6 q7), sc, iv 1] [])
  have F979 := ((((((((((((((((F852.other W862 (Or.inl ne_o0_b745)).other W867 (Or.inl ne_o0_b757)).other W903 (Or.inl ne_o0_o3)).other W907 (Or.inl ne_o0_o3)).other W914 (Or.inl ne_o0_o3)).other W918 (Or.inl ne_o0_o3)).other W925 (Or.inl ne_o0_o3)).other W929 (Or.inl ne_o0_o3)).other W936 (Or.inl ne_o0_o3)).other W940 (Or.inl ne_o0_o3)).other W947 (Or.inl ne_o0_o3)).other W951 (Or.inl ne_o0_o3)).keep K956 (ninS ne_o0_b745 nin0)).ext E968).other W974 (Or.inl ne_o0_b968)).other W978 (Or.inl ne_o0_b745))
  have F981 := (V974.other W978 (Ne.symm ne_b745_b968))
  have F982 := (((F970.ext E968).other W974 ne_o1_b968).other W978 ne_o1_b745)
  have F983 := (((((F948.other W951 (Or.inl ne_o0_o3)).keep K956 (ninS ne_o0_b745 nin0)).ext E968).other W974 (Or.inl ne_o0_b968)).other W978 (Or.inl ne_o0_b745))
  have F985 := (((F972.ext E968).other W974 ne_o3_b968).other W978 ne_o3_b745)
  have F986 := ((((F952.keep K956 (ninS ne_o0_b745 nin0)).ext E968).other W974 (Or.inl ne_o0_b968)).other W978 (Or.inl ne_o0_b745))
  have F988 := (((F973.ext E968).other W974 ne_o9_b968).other W978 ne_o9_b745)
  refine gO (fun t k => kc X978 hx hby d7_62 (si X978 hx hby (L' := #[rv o0, iv 0, iv 3, jv 2305843009213693950, sc, iv 1, iv 6, rv b745, jv ((0 : Int64) + (e7_0 q6 q7)), sc, rv b968, iv 1, iv 0, un, iv 1]) d7_63 rfl (ki X978 hx hby d7_65 rfl (ki X978 hx hby d7_67 rfl (cN X978 hx hby d7_69 (tlt (by decide : (0 : Int32) < (1 : Int32))).2.1 (ka X978 hx hby d7_72 rfl rfl (ki X978 hx hby d7_74 rfl (rI X978 hx hby hZ e978 V978 (.int (-1)) rfl rfl d7_76 (iN X978 hx hby d7_77 ((if0 _ _).trans (tlt (by decide : (-1 : Int32) < (0 : Int32))).2.1) (kaN X978 hx hby d7_80 rfl rfl k)))))))))) (gG X978 hx hby hZ hown (w11 hw) e978 F979 d7_81 fun T980 X980 e980 => gO (fun t k => ka X980 hx hby d7_84 rfl rfl (ki X980 hx hby d7_86 rfl (rI X980 hx hby hZ e980 F981 (.int 1) rfl rfl d7_88 (rI X980 hx hby hZ e980 F982 (.int 8) rfl rfl d7_89 (si X980 hx hby (L' := #[rv o0, iv 0, iv 3, jv 2305843009213693950, sc, iv 1, iv 6, rv b745, jv ((0 : Int64) + (e7_0 q6 q7)), sc, rv b968, iv 1, iv 0, iv 8, iv 1]) d7_90 rfl (ki X980 hx hby d7_92 rfl (iN X980 hx hby d7_94 ((if0 _ _).trans (flt (by decide : ¬ ((8 : Int32) < (0 : Int32)))).1) (kaN X980 hx hby d7_97 rfl rfl k)))))))) (gG X980 hx hby hZ hown (w18 hw) e980 F983 d7_98 fun T984 X984 e984 => gO (fun t k => ki X984 hx hby d7_101 rfl (rJ X984 hx hby hZ e984 F985 (.long (e7_1 q6 q7)) rfl rfl d7_103 (kcl X984 hx hby d7_104 (o_lcmp X984 hx hby d7_105 (iN X984 hx hby d7_106 (own_tltL hp18_7).2.2.2 (ka X984 hx hby d7_109 rfl rfl (kaN X984 hx hby d7_111 rfl rfl k))))))) (gG X984 hx hby hZ hown (w13 hw) e984 F986 d7_112 fun T987 X987 e987 => gO (fun t k => ki X987 hx hby d7_115 rfl (rI X987 hx hby hZ e987 F988 (.int 2) rfl rfl d7_117 (rI X987 hx hby hZ e987 V978 (.int (-1)) rfl rfl d7_118 (iN X987 hx hby d7_119 ((if0 _ _).trans (tlt (by decide : (-1 : Int32) < (0 : Int32))).2.1) (ka X987 hx hby d7_122 rfl rfl (kaN X987 hx hby d7_124 rfl rfl k)))))) (gG X987 hx hby hZ hown (w13 hw) e987 F986 d7_125 fun T989 X989 e989 => gO (fun t k => ki X989 hx hby d7_128 rfl (rI X989 hx hby hZ e989 F988 (.int 2) rfl rfl d7_130 (ki X989 hx hby d7_131 rfl k))) ?_))))
  show OGl _ _ _ _ T989 (mkF m 133 #[rv o0, iv 0, iv 3, jv 2305843009213693950, sc, iv 1, iv 6, rv b745, jv ((0 : Int64) + (e7_0 q6 q7)), sc, rv b968, iv 1, iv 0, iv 8, iv 1] [.int 8, .int 2, .ref b745])
  refine wI X989 hx hby hZ e989 V978 2 rfl (Nat.le_of_ble_eq_true rfl) d7_133 fun T990 h990 X990 e990 W990 V990 => ?_
  have N990 := Fr.snoc X990 N978 g_b745
  have KK990 := KK978.wr W990 (Or.inr sz_b745)
  show OGl _ _ _ _ T990 (mkF m 134 #[rv o0, iv 0, iv 3, jv 2305843009213693950, sc, iv 1, iv 6, rv b745, jv ((0 : Int64) + (e7_0 q6 q7)), sc, rv b968, iv 1, iv 0, iv 8, iv 1] [])
  have F991 := (F986.other W990 (Or.inl ne_o0_b745))
  have F993 := (F988.other W990 ne_o9_b745)
  refine gO (fun t k => ka X990 hx hby d7_134 rfl rfl (ki X990 hx hby d7_136 rfl (o_iinc X990 hx hby (L' := #[rv o0, iv 0, iv 3, jv 2305843009213693950, sc, iv 1, iv 6, rv b745, jv ((0 : Int64) + (e7_0 q6 q7)), sc, rv b968, iv 2, iv 0, iv 8, iv 1]) d7_138 rfl rfl (kaN X990 hx hby d7_141 rfl rfl k)))) (gG X990 hx hby hZ hown (w13 hw) e990 F991 d7_142 fun T992 X992 e992 => gO (fun t k => ki X992 hx hby d7_145 rfl (rI X992 hx hby hZ e992 F993 (.int 2) rfl rfl d7_147 k)) ?_)
  show OGl _ _ _ _ T992 (mkF m 148 #[rv o0, iv 0, iv 3, jv 2305843009213693950, sc, iv 1, iv 6, rv b745, jv ((0 : Int64) + (e7_0 q6 q7)), sc, rv b968, iv 2, iv 0, iv 8, iv 1] [.int 2, .int 1, .ref b968])
  have F994 := (F981.other W990 (Ne.symm ne_b745_b968))
  refine wI X992 hx hby hZ e992 F994 1 rfl (Nat.le_of_ble_eq_true rfl) d7_148 fun T995 h995 X995 e995 W995 V995 => ?_
  have N995 := Fr.snoc X995 N990 g_b968
  have KK995 := KK990.wr W995 (Or.inr sz_b968)
  show OGl _ _ _ _ T995 (mkF m 149 #[rv o0, iv 0, iv 3, jv 2305843009213693950, sc, iv 1, iv 6, rv b745, jv ((0 : Int64) + (e7_0 q6 q7)), sc, rv b968, iv 2, iv 0, iv 8, iv 1] [])
  have F996 := ((((((((((((((((F868.other W903 (Or.inl ne_o0_o3)).other W907 (Or.inl ne_o0_o3)).other W914 (Or.inl ne_o0_o3)).other W918 (Or.inl ne_o0_o3)).other W925 (Or.inl ne_o0_o3)).other W929 (Or.inl ne_o0_o3)).other W936 (Or.inl ne_o0_o3)).other W940 (Or.inl ne_o0_o3)).other W947 (Or.inl ne_o0_o3)).other W951 (Or.inl ne_o0_o3)).keep K956 (ninS ne_o0_b745 nin0)).ext E968).other W974 (Or.inl ne_o0_b968)).other W978 (Or.inl ne_o0_b745)).other W990 (Or.inl ne_o0_b745)).other W995 (Or.inl ne_o0_b968))
  have F998 := (((((F971.ext E968).other W974 ne_o11_b968).other W978 ne_o11_b745).other W990 ne_o11_b745).other W995 ne_o11_b968)
  have F999 := ((F983.other W990 (Or.inl ne_o0_b745)).other W995 (Or.inl ne_o0_b968))
  have F1001 := ((F985.other W990 ne_o3_b745).other W995 ne_o3_b968)
  have F1003 := (V990.other W995 ne_b745_b968)
  have F1004 := ((F979.other W990 (Or.inl ne_o0_b745)).other W995 (Or.inl ne_o0_b968))
  have F1006 := ((F982.other W990 ne_o1_b745).other W995 ne_o1_b968)
  refine gO (fun t k => kaN X995 hx hby d7_149 rfl rfl k) (gG X995 hx hby hZ hown (w15 hw) e995 F996 d7_150 fun T997 X997 e997 => gO (fun t k => ki X997 hx hby d7_153 rfl (rI X997 hx hby hZ e997 F998 (.int 1) rfl rfl d7_155 (si X997 hx hby (L' := #[rv o0, iv 0, iv 3, jv 2305843009213693950, sc, iv 1, iv 6, rv b745, jv ((0 : Int64) + (e7_0 q6 q7)), sc, rv b968, iv 2, iv 0, iv 1, iv 1]) d7_156 rfl (o_goto X997 hx hby 92 d7_158 rfl (ki X997 hx hby d7_92 rfl (iN X997 hx hby d7_94 ((if0 _ _).trans (flt (by decide : ¬ ((1 : Int32) < (0 : Int32)))).1) (kaN X997 hx hby d7_97 rfl rfl k))))))) (gG X997 hx hby hZ hown (w18 hw) e997 F999 d7_98 fun T1000 X1000 e1000 => gO (fun t k => ki X1000 hx hby d7_101 rfl (rJ X1000 hx hby hZ e1000 F1001 (.long 0) rfl rfl d7_103 (kcl X1000 hx hby d7_104 (o_lcmp X1000 hx hby d7_105 (iY X1000 hx hby 149 d7_106 (own_fltL (by decide : ¬ ((0 : Int64) < (0 : Int64)))).2.2.2 rfl (kaN X1000 hx hby d7_149 rfl rfl k)))))) (gG X1000 hx hby hZ hown (w15 hw) e1000 F996 d7_150 fun T1002 X1002 e1002 => gO (fun t k => ki X1002 hx hby d7_153 rfl (rI X1002 hx hby hZ e1002 F998 (.int (-1)) rfl rfl d7_155 (si X1002 hx hby (L' := #[rv o0, iv 0, iv 3, jv 2305843009213693950, sc, iv 1, iv 6, rv b745, jv ((0 : Int64) + (e7_0 q6 q7)), sc, rv b968, iv 2, iv 0, iv (-1), iv 1]) d7_156 rfl (o_goto X1002 hx hby 92 d7_158 rfl (ki X1002 hx hby d7_92 rfl (iY X1002 hx hby 161 d7_94 ((if0 _ _).trans (tlt (by decide : (-1 : Int32) < (0 : Int32))).1) rfl (o_iinc X1002 hx hby (L' := #[rv o0, iv 0, iv 3, jv 2305843009213693950, sc, iv 1, iv 6, rv b745, jv ((0 : Int64) + (e7_0 q6 q7)), sc, rv b968, iv 2, iv 1, iv (-1), iv 1]) d7_161 rfl rfl (o_goto X1002 hx hby 65 d7_164 rfl (ki X1002 hx hby d7_65 rfl (ki X1002 hx hby d7_67 rfl (cN X1002 hx hby d7_69 (tlt (by decide : (1 : Int32) < (2 : Int32))).2.1 (ka X1002 hx hby d7_72 rfl rfl (ki X1002 hx hby d7_74 rfl (rI X1002 hx hby hZ e1002 F1003 (.int (-1)) rfl rfl d7_76 (iN X1002 hx hby d7_77 ((if0 _ _).trans (tlt (by decide : (-1 : Int32) < (0 : Int32))).2.1) (kaN X1002 hx hby d7_80 rfl rfl k)))))))))))))))) (gG X1002 hx hby hZ hown (w11 hw) e1002 F1004 d7_81 fun T1005 X1005 e1005 => gO (fun t k => ka X1005 hx hby d7_84 rfl rfl (ki X1005 hx hby d7_86 rfl (rI X1005 hx hby hZ e1005 V995 (.int 2) rfl rfl d7_88 (rI X1005 hx hby hZ e1005 F1006 (.int 9) rfl rfl d7_89 (si X1005 hx hby (L' := #[rv o0, iv 0, iv 3, jv 2305843009213693950, sc, iv 1, iv 6, rv b745, jv ((0 : Int64) + (e7_0 q6 q7)), sc, rv b968, iv 2, iv 1, iv 9, iv 1]) d7_90 rfl (ki X1005 hx hby d7_92 rfl k)))))) ?_))))
  show OGl _ _ _ _ T1005 (mkF m 94 #[rv o0, iv 0, iv 3, jv 2305843009213693950, sc, iv 1, iv 6, rv b745, jv ((0 : Int64) + (e7_0 q6 q7)), sc, rv b968, iv 2, iv 1, iv 9, iv 1] [.int 9])
  have F1008 := (F991.other W995 (Or.inl ne_o0_b968))
  have F1010 := (F993.other W995 ne_o9_b968)
  refine gO (fun t k => iN X1005 hx hby d7_94 ((if0 _ _).trans (flt (by decide : ¬ ((9 : Int32) < (0 : Int32)))).1) (kaN X1005 hx hby d7_97 rfl rfl k)) (gG X1005 hx hby hZ hown (w18 hw) e1005 F999 d7_98 fun T1007 X1007 e1007 => gO (fun t k => ki X1007 hx hby d7_101 rfl (rJ X1007 hx hby hZ e1007 F1001 (.long ((0 : Int64) + (e7_0 q6 q7))) rfl rfl d7_103 (kcl X1007 hx hby d7_104 (o_lcmp X1007 hx hby d7_105 (iN X1007 hx hby d7_106 (own_tltL hp19_7).2.2.2 (ka X1007 hx hby d7_109 rfl rfl (kaN X1007 hx hby d7_111 rfl rfl k))))))) (gG X1007 hx hby hZ hown (w13 hw) e1007 F1008 d7_112 fun T1009 X1009 e1009 => gO (fun t k => ki X1009 hx hby d7_115 rfl (rI X1009 hx hby hZ e1009 F1010 (.int 1) rfl rfl d7_117 (rI X1009 hx hby hZ e1009 F1003 (.int 14) rfl rfl d7_118 (iY X1009 hx hby 149 d7_119 ((if0 _ _).trans (flt (by decide : ¬ ((14 : Int32) < (0 : Int32)))).2.1) rfl (kaN X1009 hx hby d7_149 rfl rfl k))))) (gG X1009 hx hby hZ hown (w15 hw) e1009 F996 d7_150 fun T1011 X1011 e1011 => gO (fun t k => ki X1011 hx hby d7_153 rfl (rI X1011 hx hby hZ e1011 F998 (.int 2) rfl rfl d7_155 (si X1011 hx hby (L' := #[rv o0, iv 0, iv 3, jv 2305843009213693950, sc, iv 1, iv 6, rv b745, jv ((0 : Int64) + (e7_0 q6 q7)), sc, rv b968, iv 2, iv 1, iv 2, iv 1]) d7_156 rfl (o_goto X1011 hx hby 92 d7_158 rfl (ki X1011 hx hby d7_92 rfl (iN X1011 hx hby d7_94 ((if0 _ _).trans (flt (by decide : ¬ ((2 : Int32) < (0 : Int32)))).1) (kaN X1011 hx hby d7_97 rfl rfl k))))))) (gG X1011 hx hby hZ hown (w18 hw) e1011 F999 d7_98 fun T1012 X1012 e1012 => gO (fun t k => ki X1012 hx hby d7_101 rfl (rJ X1012 hx hby hZ e1012 F1001 (.long (q6 - (e7_0 q6 q7))) rfl rfl d7_103 (kcl X1012 hx hby d7_104 (o_lcmp X1012 hx hby d7_105 (iY X1012 hx hby 149 d7_106 (own_fltL hp20_7).2.2.2 rfl (kaN X1012 hx hby d7_149 rfl rfl k)))))) (gG X1012 hx hby hZ hown (w15 hw) e1012 F996 d7_150 fun T1013 X1013 e1013 => gO (fun t k => ki X1013 hx hby d7_153 rfl (rI X1013 hx hby hZ e1013 F998 (.int (-1)) rfl rfl d7_155 (si X1013 hx hby (L' := #[rv o0, iv 0, iv 3, jv 2305843009213693950, sc, iv 1, iv 6, rv b745, jv ((0 : Int64) + (e7_0 q6 q7)), sc, rv b968, iv 2, iv 1, iv (-1), iv 1]) d7_156 rfl (o_goto X1013 hx hby 92 d7_158 rfl (ki X1013 hx hby d7_92 rfl (iY X1013 hx hby 161 d7_94 ((if0 _ _).trans (tlt (by decide : (-1 : Int32) < (0 : Int32))).1) rfl (o_iinc X1013 hx hby (L' := #[rv o0, iv 0, iv 3, jv 2305843009213693950, sc, iv 1, iv 6, rv b745, jv ((0 : Int64) + (e7_0 q6 q7)), sc, rv b968, iv 2, iv 2, iv (-1), iv 1]) d7_161 rfl rfl (o_goto X1013 hx hby 65 d7_164 rfl k)))))))) ?_)))))
  show OGl _ _ _ _ T1013 (mkF m 65 #[rv o0, iv 0, iv 3, jv 2305843009213693950, sc, iv 1, iv 6, rv b745, jv ((0 : Int64) + (e7_0 q6 q7)), sc, rv b968, iv 2, iv 2, iv (-1), iv 1] [])
  have F1014 := (((((F966.ext E968).other W974 (Or.inl ne_o0_b968)).other W978 (Or.inl ne_o0_b745)).other W990 (Or.inl ne_o0_b745)).other W995 (Or.inl ne_o0_b968))
  refine gO (fun t k => ki X1013 hx hby d7_65 rfl (ki X1013 hx hby d7_67 rfl (cY X1013 hx hby 167 d7_69 (flt (by decide : ¬ ((2 : Int32) < (2 : Int32)))).2.1 rfl (ka X1013 hx hby d7_167 rfl rfl (ki X1013 hx hby d7_169 rfl (rI X1013 hx hby hZ e1013 F1003 (.int (-1)) rfl rfl d7_171 (iN X1013 hx hby d7_172 ((if0 _ _).trans (tlt (by decide : (-1 : Int32) < (0 : Int32))).2.1) (kaN X1013 hx hby d7_175 rfl rfl (kaN X1013 hx hby d7_176 rfl rfl k))))))))) (gG X1013 hx hby hZ hown (w25 hw) e1013 F1014 d7_177 fun T1015 X1015 e1015 => ?_)
  show OGl _ _ _ _ T1015 (mkF m 180 #[rv o0, iv 0, iv 3, jv 2305843009213693950, sc, iv 1, iv 6, rv b745, jv ((0 : Int64) + (e7_0 q6 q7)), sc, rv b968, iv 2, iv 2, iv (-1), iv 1] [.int 8, .ref o0])
  obtain ⟨T1016, h1016, k1016, X1016, e1016, E1016, A1016, st1016⟩ := newP (aty := .boolean) X1015 hx hZ (w57 hw) e1015 (g := (mkF m 180 #[rv o0, iv 0, iv 3, jv 2305843009213693950, sc, iv 1, iv 6, rv b745, jv ((0 : Int64) + (e7_0 q6 q7)), sc, rv b968, iv 2, iv 2, iv (-1), iv 1] [.int 8, .ref o0])) rfl (hb hby d7_180) rfl (by decide) (cap := 8) (by decide) (by decide) (by decide) (by decide)
  obtain ⟨b1016, gb1016⟩ : ∃ z, z = h995.size := ⟨_, rfl⟩
  rw [← gb1016] at A1016 st1016
  have ne_b745_b1016 : b745 ≠ b1016 := Nat.ne_of_lt (Nat.lt_of_lt_of_eq F1003.lt gb1016.symm)
  have F1017 := (((((F969.ext E968).other W974 ne_b757_b968).other W978 (Ne.symm ne_b745_b757)).other W990 (Ne.symm ne_b745_b757)).other W995 ne_b757_b968)
  have ne_b757_b1016 : b757 ≠ b1016 := Nat.ne_of_lt (Nat.lt_of_lt_of_eq F1017.lt gb1016.symm)
  have ne_b968_b1016 : b968 ≠ b1016 := Nat.ne_of_lt (Nat.lt_of_lt_of_eq V995.lt gb1016.symm)
  have ne_o0_b1016 : o0 ≠ b1016 := Nat.ne_of_lt (Nat.lt_of_lt_of_eq F1014.lt gb1016.symm)
  have ne_o1_b1016 : o1 ≠ b1016 := Nat.ne_of_lt (Nat.lt_of_lt_of_eq F1006.lt gb1016.symm)
  have ne_o11_b1016 : o11 ≠ b1016 := Nat.ne_of_lt (Nat.lt_of_lt_of_eq F998.lt gb1016.symm)
  have ne_o3_b1016 : o3 ≠ b1016 := Nat.ne_of_lt (Nat.lt_of_lt_of_eq F1001.lt gb1016.symm)
  have ne_o9_b1016 : o9 ≠ b1016 := Nat.ne_of_lt (Nat.lt_of_lt_of_eq F1010.lt gb1016.symm)
  have sz_b1016 : h0.size ≤ b1016 := Nat.le_trans KK995.1 (Nat.le_of_eq gb1016.symm)
  have g_b1016 : n0 ≤ b1016 := Nat.le_trans Z0 sz_b1016
  have V1016 : Arv Z h1016 b1016 k1016 .boolean (8 : Int32) [.int 0, .int 0, .int 0, .int 0, .int 0, .int 0, .int 0, .int 0] (.int 0) := (Arv.new A1016 (by decide)).pad (pad_rep [] (.int 0) 8)
  have KK1016 : Keep h0 h1016 [o3, o0] := KK995.ext E1016
  refine gO st1016 ?_
  show OGl _ _ _ _ T1016 (mkF m 182 #[rv o0, iv 0, iv 3, jv 2305843009213693950, sc, iv 1, iv 6, rv b745, jv ((0 : Int64) + (e7_0 q6 q7)), sc, rv b968, iv 2, iv 2, iv (-1), iv 1] [.ref b1016, .ref o0])
  have F1018 := ((((((((((((((((((((((((((((((((F22_o0.ext E745).keep K746 (ninS ne_o0_b745 nin0)).ext E757).other W758 (Or.inl ne_o0_b757)).other W762 (Or.inl ne_o0_b745)).other W774 (Or.inl ne_o0_b745)).other W779 (Or.inl ne_o0_b757)).other W798 (Or.inl ne_o0_b745)).other W803 (Or.inl ne_o0_b757)).other W818 (Or.inl ne_o0_b745)).other W823 (Or.inl ne_o0_b757)).other W842 (Or.inl ne_o0_b745)).other W847 (Or.inl ne_o0_b757)).other W862 (Or.inl ne_o0_b745)).other W867 (Or.inl ne_o0_b757)).other W903 (Or.inl ne_o0_o3)).other W907 (Or.inl ne_o0_o3)).other W914 (Or.inl ne_o0_o3)).other W918 (Or.inl ne_o0_o3)).other W925 (Or.inl ne_o0_o3)).other W929 (Or.inl ne_o0_o3)).other W936 (Or.inl ne_o0_o3)).other W940 (Or.inl ne_o0_o3)).other W947 (Or.inl ne_o0_o3)).other W951 (Or.inl ne_o0_o3)).keep K956 (ninS ne_o0_b745 nin0)).ext E968).other W974 (Or.inl ne_o0_b968)).other W978 (Or.inl ne_o0_b745)).other W990 (Or.inl ne_o0_b745)).other W995 (Or.inl ne_o0_b968)).ext E1016)
  have F1019 := ((((((((((((((((((((((((((((((((E_o0.ext E745).keep K746).ext E757).wr W758).wr W762).wr W774).wr W779).wr W798).wr W803).wr W818).wr W823).wr W842).wr W847).wr W862).wr W867).wr W903).wr W907).wr W914).wr W918).wr W925).wr W929).wr W936).wr W940).wr W947).wr W951).keep K956).ext E968).wr W974).wr W978).wr W990).wr W995).ext E1016)
  obtain ⟨T1020, h1020, X1020, e1020, W1020, st1020⟩ := putF X1016 hx hZ hown (host := "") (Or.inl (w58 hw)) Via.refl e1016 F1018 F1019 (Or.inl (w59 hw)) (w2 hw) (ty := (.array .boolean)) (by decide) rfl rfl (g := (mkF m 182 #[rv o0, iv 0, iv 3, jv 2305843009213693950, sc, iv 1, iv 6, rv b745, jv ((0 : Int64) + (e7_0 q6 q7)), sc, rv b968, iv 2, iv 2, iv (-1), iv 1] [.ref b1016, .ref o0])) rfl rfl (hb hby d7_182)
  refine gO st1020 ?_
  have N1020 := Fr.snoc X1020 N995 g_o0
  have Fw1020 := F1018.same W1020
  have KK1020 := KK1016.wr W1020 (Or.inl (List.mem_of_getElem? (i := 1) rfl))
  show OGl _ _ _ _ T1020 (mkF m 185 #[rv o0, iv 0, iv 3, jv 2305843009213693950, sc, iv 1, iv 6, rv b745, jv ((0 : Int64) + (e7_0 q6 q7)), sc, rv b968, iv 2, iv 2, iv (-1), iv 1] [])
  have F1022 := ((V995.ext E1016).other W1020 (Ne.symm ne_o0_b968))
  refine gO (fun t k => kc X1020 hx hby d7_185 (si X1020 hx hby (L' := #[rv o0, iv 0, iv 3, jv 2305843009213693950, sc, iv 1, iv 6, rv b745, jv ((0 : Int64) + (e7_0 q6 q7)), sc, rv b968, iv 2, iv 0, iv (-1), iv 1]) d7_186 rfl (ki X1020 hx hby d7_188 rfl (ki X1020 hx hby d7_190 rfl (cN X1020 hx hby d7_192 (tlt (by decide : (0 : Int32) < (2 : Int32))).2.1 (kaN X1020 hx hby d7_195 rfl rfl k)))))) (gG X1020 hx hby hZ hown (w58 hw) e1020 Fw1020 d7_196 fun T1021 X1021 e1021 => gO (fun t k => ka X1021 hx hby d7_199 rfl rfl (ki X1021 hx hby d7_201 rfl (rI X1021 hx hby hZ e1021 F1022 (.int 1) rfl rfl d7_203 (kc X1021 hx hby d7_204 k)))) ?_)
  show OGl _ _ _ _ T1021 (mkF m 205 #[rv o0, iv 0, iv 3, jv 2305843009213693950, sc, iv 1, iv 6, rv b745, jv ((0 : Int64) + (e7_0 q6 q7)), sc, rv b968, iv 2, iv 0, iv (-1), iv 1] [.int 1, .int 1, .ref b1016])
  have F1023 := (V1016.other W1020 (Ne.symm ne_o0_b1016))
  refine wZ X1021 hx hby hZ e1021 F1023 1 rfl (Nat.le_of_ble_eq_true rfl) d7_205 fun T1024 h1024 X1024 e1024 W1024 V1024 => ?_
  have N1024 := Fr.snoc X1024 N1020 g_b1016
  have KK1024 := KK1020.wr W1024 (Or.inr sz_b1016)
  show OGl _ _ _ _ T1024 (mkF m 206 #[rv o0, iv 0, iv 3, jv 2305843009213693950, sc, iv 1, iv 6, rv b745, jv ((0 : Int64) + (e7_0 q6 q7)), sc, rv b968, iv 2, iv 0, iv (-1), iv 1] [])
  have F1025 := (Fw1020.other W1024 (Or.inl ne_o0_b1016))
  have F1027 := (F1022.other W1024 ne_b968_b1016)
  refine gO (fun t k => o_iinc X1024 hx hby (L' := #[rv o0, iv 0, iv 3, jv 2305843009213693950, sc, iv 1, iv 6, rv b745, jv ((0 : Int64) + (e7_0 q6 q7)), sc, rv b968, iv 2, iv 1, iv (-1), iv 1]) d7_206 rfl rfl (o_goto X1024 hx hby 188 d7_209 rfl (ki X1024 hx hby d7_188 rfl (ki X1024 hx hby d7_190 rfl (cN X1024 hx hby d7_192 (tlt (by decide : (1 : Int32) < (2 : Int32))).2.1 (kaN X1024 hx hby d7_195 rfl rfl k)))))) (gG X1024 hx hby hZ hown (w58 hw) e1024 F1025 d7_196 fun T1026 X1026 e1026 => gO (fun t k => ka X1026 hx hby d7_199 rfl rfl (ki X1026 hx hby d7_201 rfl (rI X1026 hx hby hZ e1026 F1027 (.int 2) rfl rfl d7_203 (kc X1026 hx hby d7_204 k)))) ?_)
  show OGl _ _ _ _ T1026 (mkF m 205 #[rv o0, iv 0, iv 3, jv 2305843009213693950, sc, iv 1, iv 6, rv b745, jv ((0 : Int64) + (e7_0 q6 q7)), sc, rv b968, iv 2, iv 1, iv (-1), iv 1] [.int 1, .int 2, .ref b1016])
  refine wZ X1026 hx hby hZ e1026 V1024 2 rfl (Nat.le_of_ble_eq_true rfl) d7_205 fun T1028 h1028 X1028 e1028 W1028 V1028 => ?_
  have N1028 := Fr.snoc X1028 N1024 g_b1016
  have KK1028 := KK1024.wr W1028 (Or.inr sz_b1016)
  show OGl _ _ _ _ T1028 (mkF m 206 #[rv o0, iv 0, iv 3, jv 2305843009213693950, sc, iv 1, iv 6, rv b745, jv ((0 : Int64) + (e7_0 q6 q7)), sc, rv b968, iv 2, iv 1, iv (-1), iv 1] [])
  refine gO (fun t k => o_iinc X1028 hx hby (L' := #[rv o0, iv 0, iv 3, jv 2305843009213693950, sc, iv 1, iv 6, rv b745, jv ((0 : Int64) + (e7_0 q6 q7)), sc, rv b968, iv 2, iv 2, iv (-1), iv 1]) d7_206 rfl rfl (o_goto X1028 hx hby 188 d7_209 rfl (ki X1028 hx hby d7_188 rfl (ki X1028 hx hby d7_190 rfl (cY X1028 hx hby 212 d7_192 (flt (by decide : ¬ ((2 : Int32) < (2 : Int32)))).2.1 rfl (kl X1028 hx hby d7_212 rfl k)))))) ?_
  show OGl _ _ _ _ T1028 (mkF m 214 #[rv o0, iv 0, iv 3, jv 2305843009213693950, sc, iv 1, iv 6, rv b745, jv ((0 : Int64) + (e7_0 q6 q7)), sc, rv b968, iv 2, iv 2, iv (-1), iv 1] [.long ((0 : Int64) + (e7_0 q6 q7))])
  obtain ⟨fs, hr, hrun, hended, hW, hsame⟩ := X1028.leave (v := some (.long ((0 : Int64) + (e7_0 q6 q7)))) (fun h => by rw [Bd.returns] at h; cases h) (BodyLoose.notSynchronized Bd)
  refine ⟨_, _, X1028.lreturnOut hx Bd.returns (hb hby d7_214) hr, hrun, hended, _, _, rfl, ?_, ⟨_, rfl⟩, hW, hsame.mono (by decide) (by decide)⟩
  show Q7 Z o0 o1 k2 o3 k4 q5 q6 q7 q8 o9 k10 o11 k12 h0 n0 _ T1028.heap _
  rw [e1028]
  have F1029 := ((((F1001.ext E1016).other W1020 (Ne.symm ne_o0_o3)).other W1024 ne_o3_b1016).other W1028 ne_o3_b1016)
  have F1030 := (((((((F975.other W978 (Or.inl ne_o0_b745)).other W990 (Or.inl ne_o0_b745)).other W995 (Or.inl ne_o0_b968)).ext E1016).other W1020 (Or.inr (sn32_59 hw))).other W1024 (Or.inl ne_o0_b1016)).other W1028 (Or.inl ne_o0_b1016))
  have F1031 := ((((F1014.ext E1016).other W1020 (Or.inr (sn26_59 hw))).other W1024 (Or.inl ne_o0_b1016)).other W1028 (Or.inl ne_o0_b1016))
  have F1032 := ((((F1004.ext E1016).other W1020 (Or.inr (sn12_59 hw))).other W1024 (Or.inl ne_o0_b1016)).other W1028 (Or.inl ne_o0_b1016))
  have F1033 := ((((F996.ext E1016).other W1020 (Or.inr (sn16_59 hw))).other W1024 (Or.inl ne_o0_b1016)).other W1028 (Or.inl ne_o0_b1016))
  have F1034 := ((((F999.ext E1016).other W1020 (Or.inr (sn19_59 hw))).other W1024 (Or.inl ne_o0_b1016)).other W1028 (Or.inl ne_o0_b1016))
  have F1035 := (F1025.other W1028 (Or.inl ne_o0_b1016))
  have F1036 := ((((F1008.ext E1016).other W1020 (Or.inr (sn14_59 hw))).other W1024 (Or.inl ne_o0_b1016)).other W1028 (Or.inl ne_o0_b1016))
  exact ⟨b1016, k1016, rfl, N1028, KK1028, sz_b1016, F1029, F1030, F1031, F1032, F1033, F1034, F1035, F1036, V1028⟩
theorem pd_6 : parseMethodDescriptor "(IIJ)J" = some ⟨[.int, .int, .long], some .long⟩ := by decide +kernel
theorem d10_0 : decode bc8 0 = .ok (.aload_n 0, 1) := by decide +kernel
theorem d10_1 : decode bc8 1 = .ok (.getfield 48, 3) := by decide +kernel
theorem d10_4 : decode bc8 4 = .ok (.iconst 2, 1) := by decide +kernel
theorem d10_5 : decode bc8 5 = .ok (.iload_n 1, 1) := by decide +kernel
theorem d10_6 : decode bc8 6 = .ok (.imul, 1) := by decide +kernel
theorem d10_7 : decode bc8 7 = .ok (.baload, 1) := by decide +kernel
theorem d10_8 : decode bc8 8 = .ok (.ifCond .eq 20, 3) := by decide +kernel
theorem d10_11 : decode bc8 11 = .ok (.aload_n 0, 1) := by decide +kernel
theorem d10_12 : decode bc8 12 = .ok (.getfield 48, 3) := by decide +kernel
theorem d10_15 : decode bc8 15 = .ok (.iconst 2, 1) := by decide +kernel
theorem d10_16 : decode bc8 16 = .ok (.iload_n 1, 1) := by decide +kernel
theorem d10_17 : decode bc8 17 = .ok (.imul, 1) := by decide +kernel
theorem d10_18 : decode bc8 18 = .ok (.iconst 1, 1) := by decide +kernel
theorem d10_19 : decode bc8 19 = .ok (.iadd, 1) := by decide +kernel
theorem d10_20 : decode bc8 20 = .ok (.baload, 1) := by decide +kernel
theorem d10_21 : decode bc8 21 = .ok (.ifCond .ne 7, 3) := by decide +kernel
theorem d10_24 : decode bc8 24 = .ok (.iconst 1, 1) := by decide +kernel
theorem d10_25 : decode bc8 25 = .ok (.goto 4, 3) := by decide +kernel
theorem d10_29 : decode bc8 29 = .ok (.ireturn, 1) := by decide +kernel
theorem ef_10 (m : MethodId) (x0 : Addr) (x1 : Int32) : entryFrame m #[.ref x0, .int x1] 2 = mkF m 0 #[rv x0, iv x1] [] := by first | (simp [entryFrame, mkF, argsToLocals, Value.category]; done) | rfl
def Q10 (Z : State) (o0 : Addr) (o1 : Addr) (k2 : ClassId) (h0 : Heap) (n0 : Nat) (v : Option Value) (h : Heap) (L : List Loc) : Prop := v = some (.int 1) ∧ Fr n0 L ∧ h = h0
set_option maxRecDepth 65536 in
set_option maxHeartbeats 40000000 in
theorem rm10 (l : Launch) (Z : State) (a0 : Array Value) (hw : ∀ d ∈ tables_1, d.before a0 Z = true) (ws : List Jvm.Cond) (o0 : Addr) (o1 : Addr) (k2 : ClassId) (h0 : Heap) (n0 : Nat) (Z0 : n0 ≤ h0.size) (F0_o0 : Fld Z h0 o0 cc0 "sourceSide" "[Z" (.ref o1)) (V_o1 : Arv Z h0 o1 k2 .boolean 8 (.int 0 :: .int 1 :: .int 1 :: zi5) (.int 0)) :
    MetFree l yy8 (head1 (Jvm.Cond.code yy8 bc8 2 (some .boolean) :: ws) rr1) (fun a U => a = #[.ref o0, .int 1] ∧ Z.Warmed39 U.vm ∧ U.heap = h0) (fun _ _ _ _ _ => True) (fun _ U o U' => ∃ v L, o = .returned v ∧ Q10 Z o0 o1 k2 h0 n0 v U'.heap L ∧ FrameEnd U o U' L rr1.cells rr1.slots) := by
  refine MetFree.of_bodySF (plainFor_of_name pn_0) hisR ?_
  intro p e s m args below meth c s₁ Bd hml0 hP hK
  obtain ⟨rfl, hZ, hh⟩ := hP
  have hx := Bd.exec
  have hby := Bd.bytes
  have hml : c.maxLocals = 2 := hml0
  have hown : s.vm.findClass cc0 = some m.cls := findClass_of_methodNamed Bd.named
  have hnm := (name_of_methodNamed Bd.named Bd.method).1
  have X0 : Stand p l e rr1 s m #[.ref o0, .int 1] below meth c s₁ [] 0 0 := Stand.of_body Bd
  have e0 : s₁.heap = h0 := by rw [← hh, Bd.state]; rfl
  have N0 := Fr.nil n0
  refine OGl.start (ef_10 m o0 (1 : Int32)) ?_
  show OGl _ _ _ _ s₁ (mkF m 0 #[rv o0, iv 1] [])
  refine gO (fun t k => kaN X0 hx hby d10_0 rfl rfl k) (gG X0 hx hby hZ hown (w58 hw) e0 F0_o0 d10_1 fun T1041 X1041 e1041 => gO (fun t k => kc X1041 hx hby d10_4 (kiN X1041 hx hby d10_5 rfl (o_imul X1041 hx hby d10_6 (rZ X1041 hx hby hZ e1041 V_o1 (.int 1) rfl rfl d10_7 (iN X1041 hx hby d10_8 ((if0 _ _).trans (feq (by decide : ¬ ((1 : Int32) = (0 : Int32)))).1) (kaN X1041 hx hby d10_11 rfl rfl k)))))) (gG X1041 hx hby hZ hown (w58 hw) e1041 F0_o0 d10_12 fun T1042 X1042 e1042 => gO (fun t k => kc X1042 hx hby d10_15 (kiN X1042 hx hby d10_16 rfl (o_imul X1042 hx hby d10_17 (kc X1042 hx hby d10_18 (o_iadd X1042 hx hby d10_19 (rZ X1042 hx hby hZ e1042 V_o1 (.int 0) rfl rfl d10_20 (iN X1042 hx hby d10_21 ((if0 _ _).trans (teq (by decide : (0 : Int32) = (0 : Int32))).2) (kc X1042 hx hby d10_24 (o_goto X1042 hx hby 29 d10_25 rfl k))))))))) ?_))
  show OGl _ _ _ _ T1042 (mkF m 29 #[rv o0, iv 1] [.int 1])
  obtain ⟨fs, hr, hrun, hended, hW, hsame⟩ := X1042.leave (v := some (.int 1)) (fun h => by rw [Bd.returns] at h; cases h) (BodyLoose.notSynchronized Bd)
  refine ⟨_, _, retN X1042 hx (t := .boolean) Bd.returns (by simp) (hb hby d10_29) hr, hrun, hended, _, _, rfl, ?_, ⟨_, rfl⟩, hW, hsame.mono (by decide) (by decide)⟩
  show Q10 Z o0 o1 k2 h0 n0 _ T1042.heap _
  rw [e1042]
  exact ⟨rfl, N0, rfl⟩
theorem pd_7 : parseMethodDescriptor "(I)Z" = some ⟨[.int], some .boolean⟩ := by decide +kernel
theorem d10_28 : decode bc8 28 = .ok (.iconst 0, 1) := by decide +kernel
def Q10a (Z : State) (o0 : Addr) (o1 : Addr) (k2 : ClassId) (h0 : Heap) (n0 : Nat) (v : Option Value) (h : Heap) (L : List Loc) : Prop := v = some (.int 0) ∧ Fr n0 L ∧ h = h0
set_option maxRecDepth 65536 in
set_option maxHeartbeats 40000000 in
theorem rm10a (l : Launch) (Z : State) (a0 : Array Value) (hw : ∀ d ∈ tables_1, d.before a0 Z = true) (ws : List Jvm.Cond) (o0 : Addr) (o1 : Addr) (k2 : ClassId) (h0 : Heap) (n0 : Nat) (Z0 : n0 ≤ h0.size) (F0_o0 : Fld Z h0 o0 cc0 "sourceSide" "[Z" (.ref o1)) (V_o1 : Arv Z h0 o1 k2 .boolean 8 (.int 0 :: .int 1 :: .int 1 :: zi5) (.int 0)) :
    MetFree l yy8 (head1 (Jvm.Cond.code yy8 bc8 2 (some .boolean) :: ws) rr1) (fun a U => a = #[.ref o0, .int 2] ∧ Z.Warmed39 U.vm ∧ U.heap = h0) (fun _ _ _ _ _ => True) (fun _ U o U' => ∃ v L, o = .returned v ∧ Q10a Z o0 o1 k2 h0 n0 v U'.heap L ∧ FrameEnd U o U' L rr1.cells rr1.slots) := by
  refine MetFree.of_bodySF (plainFor_of_name pn_0) hisR ?_
  intro p e s m args below meth c s₁ Bd hml0 hP hK
  obtain ⟨rfl, hZ, hh⟩ := hP
  have hx := Bd.exec
  have hby := Bd.bytes
  have hml : c.maxLocals = 2 := hml0
  have hown : s.vm.findClass cc0 = some m.cls := findClass_of_methodNamed Bd.named
  have hnm := (name_of_methodNamed Bd.named Bd.method).1
  have X0 : Stand p l e rr1 s m #[.ref o0, .int 2] below meth c s₁ [] 0 0 := Stand.of_body Bd
  have e0 : s₁.heap = h0 := by rw [← hh, Bd.state]; rfl
  have N0 := Fr.nil n0
  refine OGl.start (ef_10 m o0 (2 : Int32)) ?_
  show OGl _ _ _ _ s₁ (mkF m 0 #[rv o0, iv 2] [])
  refine gO (fun t k => kaN X0 hx hby d10_0 rfl rfl k) (gG X0 hx hby hZ hown (w58 hw) e0 F0_o0 d10_1 fun T1045 X1045 e1045 => gO (fun t k => kc X1045 hx hby d10_4 (kiN X1045 hx hby d10_5 rfl (o_imul X1045 hx hby d10_6 (rZ X1045 hx hby hZ e1045 V_o1 (.int 0) rfl rfl d10_7 (iY X1045 hx hby 28 d10_8 ((if0 _ _).trans (teq (by decide : (0 : Int32) = (0 : Int32))).1) rfl (kc X1045 hx hby d10_28 k)))))) ?_)
  show OGl _ _ _ _ T1045 (mkF m 29 #[rv o0, iv 2] [.int 0])
  obtain ⟨fs, hr, hrun, hended, hW, hsame⟩ := X1045.leave (v := some (.int 0)) (fun h => by rw [Bd.returns] at h; cases h) (BodyLoose.notSynchronized Bd)
  refine ⟨_, _, retN X1045 hx (t := .boolean) Bd.returns (by simp) (hb hby d10_29) hr, hrun, hended, _, _, rfl, ?_, ⟨_, rfl⟩, hW, hsame.mono (by decide) (by decide)⟩
  show Q10a Z o0 o1 k2 h0 n0 _ T1045.heap _
  rw [e1045]
  exact ⟨rfl, N0, rfl⟩
def Q10b (Z : State) (o0 : Addr) (o1 : Addr) (k2 : ClassId) (h0 : Heap) (n0 : Nat) (v : Option Value) (h : Heap) (L : List Loc) : Prop := v = some (.int 0) ∧ Fr n0 L ∧ h = h0
set_option maxRecDepth 65536 in
set_option maxHeartbeats 40000000 in
theorem rm10b (l : Launch) (Z : State) (a0 : Array Value) (hw : ∀ d ∈ tables_1, d.before a0 Z = true) (ws : List Jvm.Cond) (o0 : Addr) (o1 : Addr) (k2 : ClassId) (h0 : Heap) (n0 : Nat) (Z0 : n0 ≤ h0.size) (F0_o0 : Fld Z h0 o0 cc0 "sourceSide" "[Z" (.ref o1)) (V_o1 : Arv Z h0 o1 k2 .boolean 8 (.int 0 :: .int 1 :: .int 1 :: zi5) (.int 0)) :
    MetFree l yy8 (head1 (Jvm.Cond.code yy8 bc8 2 (some .boolean) :: ws) rr1) (fun a U => a = #[.ref o0, .int 0] ∧ Z.Warmed39 U.vm ∧ U.heap = h0) (fun _ _ _ _ _ => True) (fun _ U o U' => ∃ v L, o = .returned v ∧ Q10b Z o0 o1 k2 h0 n0 v U'.heap L ∧ FrameEnd U o U' L rr1.cells rr1.slots) := by
  refine MetFree.of_bodySF (plainFor_of_name pn_0) hisR ?_
  intro p e s m args below meth c s₁ Bd hml0 hP hK
  obtain ⟨rfl, hZ, hh⟩ := hP
  have hx := Bd.exec
  have hby := Bd.bytes
  have hml : c.maxLocals = 2 := hml0
  have hown : s.vm.findClass cc0 = some m.cls := findClass_of_methodNamed Bd.named
  have hnm := (name_of_methodNamed Bd.named Bd.method).1
  have X0 : Stand p l e rr1 s m #[.ref o0, .int 0] below meth c s₁ [] 0 0 := Stand.of_body Bd
  have e0 : s₁.heap = h0 := by rw [← hh, Bd.state]; rfl
  have N0 := Fr.nil n0
  refine OGl.start (ef_10 m o0 (0 : Int32)) ?_
  show OGl _ _ _ _ s₁ (mkF m 0 #[rv o0, iv 0] [])
  refine gO (fun t k => kaN X0 hx hby d10_0 rfl rfl k) (gG X0 hx hby hZ hown (w58 hw) e0 F0_o0 d10_1 fun T1047 X1047 e1047 => gO (fun t k => kc X1047 hx hby d10_4 (kiN X1047 hx hby d10_5 rfl (o_imul X1047 hx hby d10_6 (rZ X1047 hx hby hZ e1047 V_o1 (.int 0) rfl rfl d10_7 (iY X1047 hx hby 28 d10_8 ((if0 _ _).trans (teq (by decide : (0 : Int32) = (0 : Int32))).1) rfl (kc X1047 hx hby d10_28 k)))))) ?_)
  show OGl _ _ _ _ T1047 (mkF m 29 #[rv o0, iv 0] [.int 0])
  obtain ⟨fs, hr, hrun, hended, hW, hsame⟩ := X1047.leave (v := some (.int 0)) (fun h => by rw [Bd.returns] at h; cases h) (BodyLoose.notSynchronized Bd)
  refine ⟨_, _, retN X1047 hx (t := .boolean) Bd.returns (by simp) (hb hby d10_29) hr, hrun, hended, _, _, rfl, ?_, ⟨_, rfl⟩, hW, hsame.mono (by decide) (by decide)⟩
  show Q10b Z o0 o1 k2 h0 n0 _ T1047.heap _
  rw [e1047]
  exact ⟨rfl, N0, rfl⟩
def Q10c (Z : State) (o0 : Addr) (o1 : Addr) (k2 : ClassId) (h0 : Heap) (n0 : Nat) (v : Option Value) (h : Heap) (L : List Loc) : Prop := v = some (.int 0) ∧ Fr n0 L ∧ h = h0
set_option maxRecDepth 65536 in
set_option maxHeartbeats 40000000 in
theorem rm10c (l : Launch) (Z : State) (a0 : Array Value) (hw : ∀ d ∈ tables_1, d.before a0 Z = true) (ws : List Jvm.Cond) (o0 : Addr) (o1 : Addr) (k2 : ClassId) (h0 : Heap) (n0 : Nat) (Z0 : n0 ≤ h0.size) (F0_o0 : Fld Z h0 o0 cc0 "sourceSide" "[Z" (.ref o1)) (V_o1 : Arv Z h0 o1 k2 .boolean 8 (.int 0 :: .int 1 :: .int 1 :: zi5) (.int 0)) :
    MetFree l yy8 (head1 (Jvm.Cond.code yy8 bc8 2 (some .boolean) :: ws) rr1) (fun a U => a = #[.ref o0, .int 3] ∧ Z.Warmed39 U.vm ∧ U.heap = h0) (fun _ _ _ _ _ => True) (fun _ U o U' => ∃ v L, o = .returned v ∧ Q10c Z o0 o1 k2 h0 n0 v U'.heap L ∧ FrameEnd U o U' L rr1.cells rr1.slots) := by
  refine MetFree.of_bodySF (plainFor_of_name pn_0) hisR ?_
  intro p e s m args below meth c s₁ Bd hml0 hP hK
  obtain ⟨rfl, hZ, hh⟩ := hP
  have hx := Bd.exec
  have hby := Bd.bytes
  have hml : c.maxLocals = 2 := hml0
  have hown : s.vm.findClass cc0 = some m.cls := findClass_of_methodNamed Bd.named
  have hnm := (name_of_methodNamed Bd.named Bd.method).1
  have X0 : Stand p l e rr1 s m #[.ref o0, .int 3] below meth c s₁ [] 0 0 := Stand.of_body Bd
  have e0 : s₁.heap = h0 := by rw [← hh, Bd.state]; rfl
  have N0 := Fr.nil n0
  refine OGl.start (ef_10 m o0 (3 : Int32)) ?_
  show OGl _ _ _ _ s₁ (mkF m 0 #[rv o0, iv 3] [])
  refine gO (fun t k => kaN X0 hx hby d10_0 rfl rfl k) (gG X0 hx hby hZ hown (w58 hw) e0 F0_o0 d10_1 fun T1049 X1049 e1049 => gO (fun t k => kc X1049 hx hby d10_4 (kiN X1049 hx hby d10_5 rfl (o_imul X1049 hx hby d10_6 (rZ X1049 hx hby hZ e1049 V_o1 (.int 0) rfl rfl d10_7 (iY X1049 hx hby 28 d10_8 ((if0 _ _).trans (teq (by decide : (0 : Int32) = (0 : Int32))).1) rfl (kc X1049 hx hby d10_28 k)))))) ?_)
  show OGl _ _ _ _ T1049 (mkF m 29 #[rv o0, iv 3] [.int 0])
  obtain ⟨fs, hr, hrun, hended, hW, hsame⟩ := X1049.leave (v := some (.int 0)) (fun h => by rw [Bd.returns] at h; cases h) (BodyLoose.notSynchronized Bd)
  refine ⟨_, _, retN X1049 hx (t := .boolean) Bd.returns (by simp) (hb hby d10_29) hr, hrun, hended, _, _, rfl, ?_, ⟨_, rfl⟩, hW, hsame.mono (by decide) (by decide)⟩
  show Q10c Z o0 o1 k2 h0 n0 _ T1049.heap _
  rw [e1049]
  exact ⟨rfl, N0, rfl⟩
def e7a_0 (q6 : Int64) (q7 : Int64) : Int64 := (t9b_0 (t9c_0 (t9b_0 (t9a_0 q7)) q6))
def e7a_1 (q6 : Int64) (q7 : Int64) : Int64 := ((2305843009213693951 : Int64) - (e7a_0 q6 q7))
def Q7a (Z : State) (o0 : Addr) (o1 : Addr) (k2 : ClassId) (o3 : Addr) (k4 : ClassId) (q5 : Int64) (q6 : Int64) (q7 : Int64) (q8 : Int64) (o9 : Addr) (k10 : ClassId) (o11 : Addr) (k12 : ClassId) (h0 : Heap) (n0 : Nat) (v : Option Value) (h : Heap) (L : List Loc) : Prop := ∃ (nb0 : Addr), ∃ (nk0 : ClassId), v = some (.long ((0 : Int64) + (e7a_0 q6 q7))) ∧ Fr n0 L ∧ Keep h0 h [o3, o0] ∧ h0.size ≤ nb0 ∧ Arv Z h o3 k4 .long 16 [.long q5, .long 0, .long (q6 - (e7a_0 q6 q7)), .long ((0 : Int64) + (e7a_0 q6 q7)), .long (q7 - (e7a_0 q6 q7)), .long ((0 : Int64) + (e7a_0 q6 q7)), .long q8, .long 0, .long (e7a_1 q6 q7), .long ((0 : Int64) + (e7a_0 q6 q7)), .long (e7a_1 q6 q7), .long ((0 : Int64) + (e7a_0 q6 q7)), .long (e7a_1 q6 q7), .long ((0 : Int64) + (e7a_0 q6 q7)), .long 0, .long 0] (.long 0) ∧ Fld Z h o0 cc0 "edges" "I" (.int 14) ∧ Fld Z h o0 cc0 "halves" "I" (.int 8) ∧ Fld Z h o0 cc0 "heads" "[I" (.ref o1) ∧ Fld Z h o0 cc0 "nexts" "[I" (.ref o11) ∧ Fld Z h o0 cc0 "residues" "[J" (.ref o3) ∧ Fld Z h o0 cc0 "sourceSide" "[Z" (.ref nb0) ∧ Fld Z h o0 cc0 "targets" "[I" (.ref o9) ∧ Arv Z h nb0 nk0 .boolean 8 [.int 0, .int 1, .int 1, .int 1, .int 1, .int 0, .int 0, .int 0] (.int 0)
set_option maxRecDepth 65536 in
set_option maxHeartbeats 40000000 in
theorem rm7a (l : Launch) (Z : State) (a0 : Array Value) (hw : ∀ d ∈ tables_1, d.before a0 Z = true) (ws : List Jvm.Cond) (o0 : Addr) (o1 : Addr) (k2 : ClassId) (o3 : Addr) (k4 : ClassId) (q5 : Int64) (q6 : Int64) (q7 : Int64) (q8 : Int64) (o9 : Addr) (k10 : ClassId) (o11 : Addr) (k12 : ClassId) (h0 : Heap) (n0 : Nat) (Z0 : n0 ≤ h0.size) (F0_o0 : Fld Z h0 o0 cc0 "halves" "I" (.int 8)) (F1_o0 : Fld Z h0 o0 cc0 "edges" "I" (.int 14)) (F2_o0 : Fld Z h0 o0 cc0 "heads" "[I" (.ref o1)) (V_o1 : Arv Z h0 o1 k2 .int 16 (.int 0 :: .int 8 :: .int 9 :: .int 10 :: .int 11 :: .int 12 :: .int 13 :: .int 7 :: zi8) (.int 0)) (F4_o0 : Fld Z h0 o0 cc0 "residues" "[J" (.ref o3)) (V_o3 : Arv Z h0 o3 k4 .long 16 [.long q5, .long 0, .long q6, .long 0, .long q7, .long 0, .long q8, .long 0, .long 2305843009213693951, .long 0, .long 2305843009213693951, .long 0, .long 2305843009213693951, .long 0, .long 0, .long 0] (.long 0)) (F6_o0 : Fld Z h0 o0 cc0 "targets" "[I" (.ref o9)) (V_o9 : Arv Z h0 o9 k10 .int 16 [.int 1, .int 0, .int 3, .int 2, .int 5, .int 4, .int 7, .int 6, .int 2, .int 1, .int 4, .int 3, .int 6, .int 5, .int 0, .int 0] (.int 0)) (F8_o0 : Fld Z h0 o0 cc0 "nexts" "[I" (.ref o11)) (V_o11 : Arv Z h0 o11 k12 .int 16 [.int (-1), .int (-1), .int (-1), .int (-1), .int (-1), .int (-1), .int (-1), .int (-1), .int 1, .int 2, .int 3, .int 4, .int 5, .int 6, .int 0, .int 0] (.int 0)) (hp10_7a : (0 : Int64) < q6) (hp11_7a : (0 : Int64) < q7) (g_o3 : n0 ≤ o3) (ne_o0_o3 : o0 ≠ o3) (ne_o9_o3 : o9 ≠ o3) (hp15_7a : ((0 : Int64) + (e7a_0 q6 q7)) < (2305843009213693950 : Int64)) (ne_o1_o3 : o1 ≠ o3) (ne_o11_o3 : o11 ≠ o3) (hp18_7a : (0 : Int64) < (e7a_1 q6 q7)) (hp19_7a : (0 : Int64) < ((0 : Int64) + (e7a_0 q6 q7))) (hp20_7a : (0 : Int64) < (q6 - (e7a_0 q6 q7))) (hp21_7a : ¬ ((0 : Int64) < (q7 - (e7a_0 q6 q7)))) (E_o0 : Exa Z h0 o0 cc0) (F23_o0 : Fld Z h0 o0 cc0 "sourceSide" "[Z" (.null)) (g_o0 : n0 ≤ o0) :
    MetFree l yy7 (head1 (Jvm.Cond.code yy7 bc5 15 (some .long) :: ws) rr4) (fun a U => a = #[.ref o0, .int 0, .int 3, .long 2305843009213693950] ∧ Z.Warmed39 U.vm ∧ U.heap = h0) (fun _ _ _ _ _ => True) (fun _ U o U' => ∃ v L, o = .returned v ∧ Q7a Z o0 o1 k2 o3 k4 q5 q6 q7 q8 o9 k10 o11 k12 h0 n0 v U'.heap L ∧ FrameEnd U o U' L rr4.cells rr4.slots) := by
  refine MetFree.of_bodySF (plainFor_of_name pn_0) hisR ?_
  intro p e s m args below meth c s₁ Bd hml0 hP hK
  obtain ⟨rfl, hZ, hh⟩ := hP
  have hx := Bd.exec
  have hby := Bd.bytes
  have hml : c.maxLocals = 15 := hml0
  have hown : s.vm.findClass cc0 = some m.cls := findClass_of_methodNamed Bd.named
  have hnm := (name_of_methodNamed Bd.named Bd.method).1
  have X0 : Stand p l e rr4 s m #[.ref o0, .int 0, .int 3, .long 2305843009213693950] below meth c s₁ [] 0 0 := Stand.of_body Bd
  have e0 : s₁.heap = h0 := by rw [← hh, Bd.state]; rfl
  have N0 := Fr.nil n0
  refine OGl.start (ef_7 m o0 (0 : Int32) (3 : Int32) (2305843009213693950 : Int64)) ?_
  show OGl _ _ _ _ s₁ (mkF m 0 #[rv o0, iv 0, iv 3, jv 2305843009213693950, sc, un, un, un, un, un, un, un, un, un, un] [])
  refine gO (fun t k => kc X0 hx hby d7_0 (kiN X0 hx hby d7_1 rfl (o_imul X0 hx hby d7_2 (kc X0 hx hby d7_3 (o_iadd X0 hx hby d7_4 (si X0 hx hby (L' := #[rv o0, iv 0, iv 3, jv 2305843009213693950, sc, iv 1, un, un, un, un, un, un, un, un, un]) d7_5 rfl (kc X0 hx hby d7_7 (kiN X0 hx hby d7_8 rfl (o_imul X0 hx hby d7_9 (si X0 hx hby (L' := #[rv o0, iv 0, iv 3, jv 2305843009213693950, sc, iv 1, iv 6, un, un, un, un, un, un, un, un]) d7_10 rfl (kaN X0 hx hby d7_12 rfl rfl k))))))))))) (gG X0 hx hby hZ hown (w25 hw) e0 F0_o0 d7_13 fun T1052 X1052 e1052 => ?_)
  show OGl _ _ _ _ T1052 (mkF m 16 #[rv o0, iv 0, iv 3, jv 2305843009213693950, sc, iv 1, iv 6, un, un, un, un, un, un, un, un] [.int 8])
  obtain ⟨T1053, h1053, k1053, X1053, e1053, E1053, A1053, st1053⟩ := newP (aty := .int) X1052 hx hZ (w10 hw) e1052 (g := (mkF m 16 #[rv o0, iv 0, iv 3, jv 2305843009213693950, sc, iv 1, iv 6, un, un, un, un, un, un, un, un] [.int 8])) rfl (hb hby d7_16) rfl (by decide) (cap := 8) (by decide) (by decide) (by decide) (by decide)
  obtain ⟨b1053, gb1053⟩ : ∃ z, z = h0.size := ⟨_, rfl⟩
  rw [← gb1053] at A1053 st1053
  have sz_b1053 : h0.size ≤ b1053 := Nat.le_trans (Keep.refl h0 [o3, o0]).1 (Nat.le_of_eq gb1053.symm)
  have g_b1053 : n0 ≤ b1053 := Nat.le_trans Z0 sz_b1053
  have V1053 : Arv Z h1053 b1053 k1053 .int (8 : Int32) [.int 0, .int 0, .int 0, .int 0, .int 0, .int 0, .int 0, .int 0] (.int 0) := (Arv.new A1053 (by decide)).pad (pad_rep [] (.int 0) 8)
  have KK1053 : Keep h0 h1053 [o3, o0] := (Keep.refl h0 [o3, o0]).ext E1053
  refine gO st1053 ?_
  show OGl _ _ _ _ T1053 (mkF m 18 #[rv o0, iv 0, iv 3, jv 2305843009213693950, sc, iv 1, iv 6, un, un, un, un, un, un, un, un] [.ref b1053])
  refine gO (fun t k => sa X1053 hx hby (L' := #[rv o0, iv 0, iv 3, jv 2305843009213693950, sc, iv 1, iv 6, rv b1053, un, un, un, un, un, un, un]) d7_18 rfl rfl (kcl X1053 hx hby d7_20 (sl X1053 hx hby (L' := #[rv o0, iv 0, iv 3, jv 2305843009213693950, sc, iv 1, iv 6, rv b1053, jv 0, sc, un, un, un, un, un]) d7_21 rfl (kl X1053 hx hby d7_23 rfl (klN X1053 hx hby d7_25 rfl (o_lcmp X1053 hx hby d7_26 (iN X1053 hx hby d7_27 (own_tltL (by decide : (0 : Int64) < (2305843009213693950 : Int64))).2.1 (ka X1053 hx hby d7_30 rfl rfl (kc X1053 hx hby d7_32 k))))))))) ?_
  show OGl _ _ _ _ T1053 (mkF m 33 #[rv o0, iv 0, iv 3, jv 2305843009213693950, sc, iv 1, iv 6, rv b1053, jv 0, sc, un, un, un, un, un] [.int (-1), .ref b1053])
  obtain ⟨_, _, ⟨T1054, L1054, kk1054, n1054⟩, -, X1054, ⟨Lc1054, hQ1054, l1054, y1054, z1054⟩, st1054⟩ := Jvm.LawKit.callS X1053 hx (y := yy5) hown (mvT hZ (w49 hw)) (mvT hZ (w50 hw)) (mvT hZ (w51 hw)) (mvT hZ (w52 hw)) (by decide) (backOf (W := 0) (rm8 l Z a0 hw [] b1053 k1053 h1053 n0 (Nat.le_trans Z0 KK1053.1) V1053 g_b1053) hZ (w52 hw) (w51 hw) (by decide) (by decide)) (g := (mkF m 33 #[rv o0, iv 0, iv 3, jv 2305843009213693950, sc, iv 1, iv 6, rv b1053, jv 0, sc, un, un, un, un, un] [.int (-1), .ref b1053])) rfl (by rw [hml]; rfl) (argsL := [.ref b1053, .int (-1)]) (rest := []) (lenOf pd_4 rfl) rfl (by show 2 * 0 + _ ≤ _; exact Nat.le_of_eq rfl) (hb hby d7_33) (fun _ _ => ⟨rfl, e1053, (by decide : 1 + 0 ≤ _), (by decide : 8 + 0 ≤ _)⟩)
  dsimp only [Pt.U, Pt.locs, Pt.cells, Pt.slots] at X1054 l1054 y1054 z1054 st1054 hQ1054
  replace l1054 := l1054.symm
  subst l1054 y1054 z1054
  obtain ⟨rfl, Nq1054, K1054, Fq1054_0⟩ := hQ1054
  have KK1054 : Keep h0 T1054.heap [o3, o0] := KK1053.trans K1054 (allS (Or.inr sz_b1053) all0)
  have N1054 := Fr.app N0 Nq1054
  refine gO st1054 ?_
  show OGl _ _ _ _ T1054 (mkF m 36 #[rv o0, iv 0, iv 3, jv 2305843009213693950, sc, iv 1, iv 6, rv b1053, jv 0, sc, un, un, un, un, un] [])
  have ne_o0_b1053 := Nat.ne_of_lt (Nat.lt_of_lt_of_le F0_o0.lt sz_b1053)
  have F1055 := ((F0_o0.ext E1053).keep K1054 (ninS ne_o0_b1053 nin0))
  refine gO (fun t k => kaN X1054 hx hby d7_36 rfl rfl k) (gG X1054 hx hby hZ hown (w25 hw) rfl F1055 d7_37 fun T1056 X1056 e1056 => ?_)
  show OGl _ _ _ _ T1056 (mkF m 40 #[rv o0, iv 0, iv 3, jv 2305843009213693950, sc, iv 1, iv 6, rv b1053, jv 0, sc, un, un, un, un, un] [.int 8])
  obtain ⟨T1057, h1057, k1057, X1057, e1057, E1057, A1057, st1057⟩ := newP (aty := .int) X1056 hx hZ (w10 hw) e1056 (g := (mkF m 40 #[rv o0, iv 0, iv 3, jv 2305843009213693950, sc, iv 1, iv 6, rv b1053, jv 0, sc, un, un, un, un, un] [.int 8])) rfl (hb hby d7_40) rfl (by decide) (cap := 8) (by decide) (by decide) (by decide) (by decide)
  obtain ⟨b1057, gb1057⟩ : ∃ z, z = T1054.heap.size := ⟨_, rfl⟩
  rw [← gb1057] at A1057 st1057
  have ne_b1053_b1057 : b1053 ≠ b1057 := Nat.ne_of_lt (Nat.lt_of_lt_of_eq Fq1054_0.lt gb1057.symm)
  have ne_o0_b1057 : o0 ≠ b1057 := Nat.ne_of_lt (Nat.lt_of_lt_of_eq F1055.lt gb1057.symm)
  have sz_b1057 : h0.size ≤ b1057 := Nat.le_trans KK1054.1 (Nat.le_of_eq gb1057.symm)
  have g_b1057 : n0 ≤ b1057 := Nat.le_trans Z0 sz_b1057
  have V1057 : Arv Z h1057 b1057 k1057 .int (8 : Int32) [.int 0, .int 0, .int 0, .int 0, .int 0, .int 0, .int 0, .int 0] (.int 0) := (Arv.new A1057 (by decide)).pad (pad_rep [] (.int 0) 8)
  have KK1057 : Keep h0 h1057 [o3, o0] := KK1054.ext E1057
  refine gO st1057 ?_
  show OGl _ _ _ _ T1057 (mkF m 42 #[rv o0, iv 0, iv 3, jv 2305843009213693950, sc, iv 1, iv 6, rv b1053, jv 0, sc, un, un, un, un, un] [.ref b1057])
  refine gO (fun t k => sa X1057 hx hby (L' := #[rv o0, iv 0, iv 3, jv 2305843009213693950, sc, iv 1, iv 6, rv b1053, jv 0, sc, rv b1057, un, un, un, un]) d7_42 rfl rfl (kc X1057 hx hby d7_44 (si X1057 hx hby (L' := #[rv o0, iv 0, iv 3, jv 2305843009213693950, sc, iv 1, iv 6, rv b1053, jv 0, sc, rv b1057, iv 1, un, un, un]) d7_45 rfl (ka X1057 hx hby d7_47 rfl rfl (kc X1057 hx hby d7_49 (ki X1057 hx hby d7_50 rfl k)))))) ?_
  show OGl _ _ _ _ T1057 (mkF m 52 #[rv o0, iv 0, iv 3, jv 2305843009213693950, sc, iv 1, iv 6, rv b1053, jv 0, sc, rv b1057, iv 1, un, un, un] [.int 1, .int 0, .ref b1057])
  refine wI X1057 hx hby hZ e1057 V1057 0 rfl (Nat.le_of_ble_eq_true rfl) d7_52 fun T1058 h1058 X1058 e1058 W1058 V1058 => ?_
  have N1058 := Fr.snoc X1058 N1054 g_b1057
  have KK1058 := KK1057.wr W1058 (Or.inr sz_b1057)
  show OGl _ _ _ _ T1058 (mkF m 53 #[rv o0, iv 0, iv 3, jv 2305843009213693950, sc, iv 1, iv 6, rv b1053, jv 0, sc, rv b1057, iv 1, un, un, un] [])
  have F1059 := ((((F1_o0.ext E1053).keep K1054 (ninS ne_o0_b1053 nin0)).ext E1057).other W1058 (Or.inl ne_o0_b1057))
  refine gO (fun t k => ka X1058 hx hby d7_53 rfl rfl (ki X1058 hx hby d7_55 rfl (kaN X1058 hx hby d7_57 rfl rfl k))) (gG X1058 hx hby hZ hown (w31 hw) e1058 F1059 d7_58 fun T1060 X1060 e1060 => ?_)
  show OGl _ _ _ _ T1060 (mkF m 61 #[rv o0, iv 0, iv 3, jv 2305843009213693950, sc, iv 1, iv 6, rv b1053, jv 0, sc, rv b1057, iv 1, un, un, un] [.int 14, .int 1, .ref b1053])
  have F1061 := ((Fq1054_0.ext E1057).other W1058 ne_b1053_b1057)
  refine wI X1060 hx hby hZ e1060 F1061 1 rfl (Nat.le_of_ble_eq_true rfl) d7_61 fun T1062 h1062 X1062 e1062 W1062 V1062 => ?_
  have N1062 := Fr.snoc X1062 N1058 g_b1053
  have KK1062 := KK1058.wr W1062 (Or.inr sz_b1053)
  show OGl _ _ _ _ T1062 (mkF m 62 #[rv o0, iv 0, iv 3, jv 2305843009213693950, sc, iv 1, iv 6, rv b1053, jv 0, sc, rv b1057, iv 1, un, un, un] [])
  have F1063 := (((((F2_o0.ext E1053).keep K1054 (ninS ne_o0_b1053 nin0)).ext E1057).other W1058 (Or.inl ne_o0_b1057)).other W1062 (Or.inl ne_o0_b1053))
  have F1065 := (V1058.other W1062 (Ne.symm ne_b1053_b1057))
  have ne_o1_b1053 := Nat.ne_of_lt (Nat.lt_of_lt_of_le V_o1.lt sz_b1053)
  have ne_o1_b1057 := Nat.ne_of_lt (Nat.lt_of_lt_of_le V_o1.lt sz_b1057)
  have F1066 := (((((V_o1.ext E1053).keep K1054 (ninS ne_o1_b1053 nin0)).ext E1057).other W1058 ne_o1_b1057).other W1062 ne_o1_b1053)
  have F1067 := (((((F4_o0.ext E1053).keep K1054 (ninS ne_o0_b1053 nin0)).ext E1057).other W1058 (Or.inl ne_o0_b1057)).other W1062 (Or.inl ne_o0_b1053))
  have ne_o3_b1053 := Nat.ne_of_lt (Nat.lt_of_lt_of_le V_o3.lt sz_b1053)
  have ne_o3_b1057 := Nat.ne_of_lt (Nat.lt_of_lt_of_le V_o3.lt sz_b1057)
  have F1069 := (((((V_o3.ext E1053).keep K1054 (ninS ne_o3_b1053 nin0)).ext E1057).other W1058 ne_o3_b1057).other W1062 ne_o3_b1053)
  have F1070 := (((((F6_o0.ext E1053).keep K1054 (ninS ne_o0_b1053 nin0)).ext E1057).other W1058 (Or.inl ne_o0_b1057)).other W1062 (Or.inl ne_o0_b1053))
  have ne_o9_b1053 := Nat.ne_of_lt (Nat.lt_of_lt_of_le V_o9.lt sz_b1053)
  have ne_o9_b1057 := Nat.ne_of_lt (Nat.lt_of_lt_of_le V_o9.lt sz_b1057)
  have F1072 := (((((V_o9.ext E1053).keep K1054 (ninS ne_o9_b1053 nin0)).ext E1057).other W1058 ne_o9_b1057).other W1062 ne_o9_b1053)
  refine gO (fun t k => kc X1062 hx hby d7_62 (si X1062 hx hby (L' := #[rv o0, iv 0, iv 3, jv 2305843009213693950, sc, iv 1, iv 6, rv b1053, jv 0, sc, rv b1057, iv 1, iv 0, un, un]) d7_63 rfl (ki X1062 hx hby d7_65 rfl (ki X1062 hx hby d7_67 rfl (cN X1062 hx hby d7_69 (tlt (by decide : (0 : Int32) < (1 : Int32))).2.1 (ka X1062 hx hby d7_72 rfl rfl (ki X1062 hx hby d7_74 rfl (rI X1062 hx hby hZ e1062 V1062 (.int (-1)) rfl rfl d7_76 (iN X1062 hx hby d7_77 ((if0 _ _).trans (tlt (by decide : (-1 : Int32) < (0 : Int32))).2.1) (kaN X1062 hx hby d7_80 rfl rfl k)))))))))) (gG X1062 hx hby hZ hown (w11 hw) e1062 F1063 d7_81 fun T1064 X1064 e1064 => gO (fun t k => ka X1064 hx hby d7_84 rfl rfl (ki X1064 hx hby d7_86 rfl (rI X1064 hx hby hZ e1064 F1065 (.int 1) rfl rfl d7_88 (rI X1064 hx hby hZ e1064 F1066 (.int 8) rfl rfl d7_89 (si X1064 hx hby (L' := #[rv o0, iv 0, iv 3, jv 2305843009213693950, sc, iv 1, iv 6, rv b1053, jv 0, sc, rv b1057, iv 1, iv 0, iv 8, un]) d7_90 rfl (ki X1064 hx hby d7_92 rfl (iN X1064 hx hby d7_94 ((if0 _ _).trans (flt (by decide : ¬ ((8 : Int32) < (0 : Int32)))).1) (kaN X1064 hx hby d7_97 rfl rfl k)))))))) (gG X1064 hx hby hZ hown (w18 hw) e1064 F1067 d7_98 fun T1068 X1068 e1068 => gO (fun t k => ki X1068 hx hby d7_101 rfl (rJ X1068 hx hby hZ e1068 F1069 (.long 2305843009213693951) rfl rfl d7_103 (kcl X1068 hx hby d7_104 (o_lcmp X1068 hx hby d7_105 (iN X1068 hx hby d7_106 (own_tltL (by decide : (0 : Int64) < (2305843009213693951 : Int64))).2.2.2 (ka X1068 hx hby d7_109 rfl rfl (kaN X1068 hx hby d7_111 rfl rfl k))))))) (gG X1068 hx hby hZ hown (w13 hw) e1068 F1070 d7_112 fun T1071 X1071 e1071 => gO (fun t k => ki X1071 hx hby d7_115 rfl (rI X1071 hx hby hZ e1071 F1072 (.int 2) rfl rfl d7_117 (rI X1071 hx hby hZ e1071 V1062 (.int (-1)) rfl rfl d7_118 (iN X1071 hx hby d7_119 ((if0 _ _).trans (tlt (by decide : (-1 : Int32) < (0 : Int32))).2.1) (ka X1071 hx hby d7_122 rfl rfl (kaN X1071 hx hby d7_124 rfl rfl k)))))) (gG X1071 hx hby hZ hown (w13 hw) e1071 F1070 d7_125 fun T1073 X1073 e1073 => gO (fun t k => ki X1073 hx hby d7_128 rfl (rI X1073 hx hby hZ e1073 F1072 (.int 2) rfl rfl d7_130 (ki X1073 hx hby d7_131 rfl k))) ?_))))
  show OGl _ _ _ _ T1073 (mkF m 133 #[rv o0, iv 0, iv 3, jv 2305843009213693950, sc, iv 1, iv 6, rv b1053, jv 0, sc, rv b1057, iv 1, iv 0, iv 8, un] [.int 8, .int 2, .ref b1053])
  refine wI X1073 hx hby hZ e1073 V1062 2 rfl (Nat.le_of_ble_eq_true rfl) d7_133 fun T1074 h1074 X1074 e1074 W1074 V1074 => ?_
  have N1074 := Fr.snoc X1074 N1062 g_b1053
  have KK1074 := KK1062.wr W1074 (Or.inr sz_b1053)
  show OGl _ _ _ _ T1074 (mkF m 134 #[rv o0, iv 0, iv 3, jv 2305843009213693950, sc, iv 1, iv 6, rv b1053, jv 0, sc, rv b1057, iv 1, iv 0, iv 8, un] [])
  have F1075 := (F1070.other W1074 (Or.inl ne_o0_b1053))
  have F1077 := (F1072.other W1074 ne_o9_b1053)
  refine gO (fun t k => ka X1074 hx hby d7_134 rfl rfl (ki X1074 hx hby d7_136 rfl (o_iinc X1074 hx hby (L' := #[rv o0, iv 0, iv 3, jv 2305843009213693950, sc, iv 1, iv 6, rv b1053, jv 0, sc, rv b1057, iv 2, iv 0, iv 8, un]) d7_138 rfl rfl (kaN X1074 hx hby d7_141 rfl rfl k)))) (gG X1074 hx hby hZ hown (w13 hw) e1074 F1075 d7_142 fun T1076 X1076 e1076 => gO (fun t k => ki X1076 hx hby d7_145 rfl (rI X1076 hx hby hZ e1076 F1077 (.int 2) rfl rfl d7_147 k)) ?_)
  show OGl _ _ _ _ T1076 (mkF m 148 #[rv o0, iv 0, iv 3, jv 2305843009213693950, sc, iv 1, iv 6, rv b1053, jv 0, sc, rv b1057, iv 2, iv 0, iv 8, un] [.int 2, .int 1, .ref b1057])
  have F1078 := (F1065.other W1074 (Ne.symm ne_b1053_b1057))
  refine wI X1076 hx hby hZ e1076 F1078 1 rfl (Nat.le_of_ble_eq_true rfl) d7_148 fun T1079 h1079 X1079 e1079 W1079 V1079 => ?_
  have N1079 := Fr.snoc X1079 N1074 g_b1057
  have KK1079 := KK1074.wr W1079 (Or.inr sz_b1057)
  show OGl _ _ _ _ T1079 (mkF m 149 #[rv o0, iv 0, iv 3, jv 2305843009213693950, sc, iv 1, iv 6, rv b1053, jv 0, sc, rv b1057, iv 2, iv 0, iv 8, un] [])
  have F1080 := (((((((F8_o0.ext E1053).keep K1054 (ninS ne_o0_b1053 nin0)).ext E1057).other W1058 (Or.inl ne_o0_b1057)).other W1062 (Or.inl ne_o0_b1053)).other W1074 (Or.inl ne_o0_b1053)).other W1079 (Or.inl ne_o0_b1057))
  have ne_o11_b1053 := Nat.ne_of_lt (Nat.lt_of_lt_of_le V_o11.lt sz_b1053)
  have ne_o11_b1057 := Nat.ne_of_lt (Nat.lt_of_lt_of_le V_o11.lt sz_b1057)
  have F1082 := (((((((V_o11.ext E1053).keep K1054 (ninS ne_o11_b1053 nin0)).ext E1057).other W1058 ne_o11_b1057).other W1062 ne_o11_b1053).other W1074 ne_o11_b1053).other W1079 ne_o11_b1057)
  have F1083 := ((F1067.other W1074 (Or.inl ne_o0_b1053)).other W1079 (Or.inl ne_o0_b1057))
  have F1085 := ((F1069.other W1074 ne_o3_b1053).other W1079 ne_o3_b1057)
  have F1087 := (V1074.other W1079 ne_b1053_b1057)
  have F1088 := ((F1063.other W1074 (Or.inl ne_o0_b1053)).other W1079 (Or.inl ne_o0_b1057))
  have F1090 := ((F1066.other W1074 ne_o1_b1053).other W1079 ne_o1_b1057)
  refine gO (fun t k => kaN X1079 hx hby d7_149 rfl rfl k) (gG X1079 hx hby hZ hown (w15 hw) e1079 F1080 d7_150 fun T1081 X1081 e1081 => gO (fun t k => ki X1081 hx hby d7_153 rfl (rI X1081 hx hby hZ e1081 F1082 (.int 1) rfl rfl d7_155 (si X1081 hx hby (L' := #[rv o0, iv 0, iv 3, jv 2305843009213693950, sc, iv 1, iv 6, rv b1053, jv 0, sc, rv b1057, iv 2, iv 0, iv 1, un]) d7_156 rfl (o_goto X1081 hx hby 92 d7_158 rfl (ki X1081 hx hby d7_92 rfl (iN X1081 hx hby d7_94 ((if0 _ _).trans (flt (by decide : ¬ ((1 : Int32) < (0 : Int32)))).1) (kaN X1081 hx hby d7_97 rfl rfl k))))))) (gG X1081 hx hby hZ hown (w18 hw) e1081 F1083 d7_98 fun T1084 X1084 e1084 => gO (fun t k => ki X1084 hx hby d7_101 rfl (rJ X1084 hx hby hZ e1084 F1085 (.long 0) rfl rfl d7_103 (kcl X1084 hx hby d7_104 (o_lcmp X1084 hx hby d7_105 (iY X1084 hx hby 149 d7_106 (own_fltL (by decide : ¬ ((0 : Int64) < (0 : Int64)))).2.2.2 rfl (kaN X1084 hx hby d7_149 rfl rfl k)))))) (gG X1084 hx hby hZ hown (w15 hw) e1084 F1080 d7_150 fun T1086 X1086 e1086 => gO (fun t k => ki X1086 hx hby d7_153 rfl (rI X1086 hx hby hZ e1086 F1082 (.int (-1)) rfl rfl d7_155 (si X1086 hx hby (L' := #[rv o0, iv 0, iv 3, jv 2305843009213693950, sc, iv 1, iv 6, rv b1053, jv 0, sc, rv b1057, iv 2, iv 0, iv (-1), un]) d7_156 rfl (o_goto X1086 hx hby 92 d7_158 rfl (ki X1086 hx hby d7_92 rfl (iY X1086 hx hby 161 d7_94 ((if0 _ _).trans (tlt (by decide : (-1 : Int32) < (0 : Int32))).1) rfl (o_iinc X1086 hx hby (L' := #[rv o0, iv 0, iv 3, jv 2305843009213693950, sc, iv 1, iv 6, rv b1053, jv 0, sc, rv b1057, iv 2, iv 1, iv (-1), un]) d7_161 rfl rfl (o_goto X1086 hx hby 65 d7_164 rfl (ki X1086 hx hby d7_65 rfl (ki X1086 hx hby d7_67 rfl (cN X1086 hx hby d7_69 (tlt (by decide : (1 : Int32) < (2 : Int32))).2.1 (ka X1086 hx hby d7_72 rfl rfl (ki X1086 hx hby d7_74 rfl (rI X1086 hx hby hZ e1086 F1087 (.int (-1)) rfl rfl d7_76 (iN X1086 hx hby d7_77 ((if0 _ _).trans (tlt (by decide : (-1 : Int32) < (0 : Int32))).2.1) (kaN X1086 hx hby d7_80 rfl rfl k)))))))))))))))) (gG X1086 hx hby hZ hown (w11 hw) e1086 F1088 d7_81 fun T1089 X1089 e1089 => gO (fun t k => ka X1089 hx hby d7_84 rfl rfl (ki X1089 hx hby d7_86 rfl (rI X1089 hx hby hZ e1089 V1079 (.int 2) rfl rfl d7_88 (rI X1089 hx hby hZ e1089 F1090 (.int 9) rfl rfl d7_89 (si X1089 hx hby (L' := #[rv o0, iv 0, iv 3, jv 2305843009213693950, sc, iv 1, iv 6, rv b1053, jv 0, sc, rv b1057, iv 2, iv 1, iv 9, un]) d7_90 rfl (ki X1089 hx hby d7_92 rfl k)))))) ?_))))
  show OGl _ _ _ _ T1089 (mkF m 94 #[rv o0, iv 0, iv 3, jv 2305843009213693950, sc, iv 1, iv 6, rv b1053, jv 0, sc, rv b1057, iv 2, iv 1, iv 9, un] [.int 9])
  have F1094 := (F1075.other W1079 (Or.inl ne_o0_b1057))
  have F1096 := (F1077.other W1079 ne_o9_b1057)
  refine gO (fun t k => iN X1089 hx hby d7_94 ((if0 _ _).trans (flt (by decide : ¬ ((9 : Int32) < (0 : Int32)))).1) (kaN X1089 hx hby d7_97 rfl rfl k)) (gG X1089 hx hby hZ hown (w18 hw) e1089 F1083 d7_98 fun T1091 X1091 e1091 => gO (fun t k => ki X1091 hx hby d7_101 rfl (rJ X1091 hx hby hZ e1091 F1085 (.long 0) rfl rfl d7_103 (kcl X1091 hx hby d7_104 (o_lcmp X1091 hx hby d7_105 (iY X1091 hx hby 149 d7_106 (own_fltL (by decide : ¬ ((0 : Int64) < (0 : Int64)))).2.2.2 rfl (kaN X1091 hx hby d7_149 rfl rfl k)))))) (gG X1091 hx hby hZ hown (w15 hw) e1091 F1080 d7_150 fun T1092 X1092 e1092 => gO (fun t k => ki X1092 hx hby d7_153 rfl (rI X1092 hx hby hZ e1092 F1082 (.int 2) rfl rfl d7_155 (si X1092 hx hby (L' := #[rv o0, iv 0, iv 3, jv 2305843009213693950, sc, iv 1, iv 6, rv b1053, jv 0, sc, rv b1057, iv 2, iv 1, iv 2, un]) d7_156 rfl (o_goto X1092 hx hby 92 d7_158 rfl (ki X1092 hx hby d7_92 rfl (iN X1092 hx hby d7_94 ((if0 _ _).trans (flt (by decide : ¬ ((2 : Int32) < (0 : Int32)))).1) (kaN X1092 hx hby d7_97 rfl rfl k))))))) (gG X1092 hx hby hZ hown (w18 hw) e1092 F1083 d7_98 fun T1093 X1093 e1093 => gO (fun t k => ki X1093 hx hby d7_101 rfl (rJ X1093 hx hby hZ e1093 F1085 (.long q6) rfl rfl d7_103 (kcl X1093 hx hby d7_104 (o_lcmp X1093 hx hby d7_105 (iN X1093 hx hby d7_106 (own_tltL hp10_7a).2.2.2 (ka X1093 hx hby d7_109 rfl rfl (kaN X1093 hx hby d7_111 rfl rfl k))))))) (gG X1093 hx hby hZ hown (w13 hw) e1093 F1094 d7_112 fun T1095 X1095 e1095 => gO (fun t k => ki X1095 hx hby d7_115 rfl (rI X1095 hx hby hZ e1095 F1096 (.int 3) rfl rfl d7_117 (rI X1095 hx hby hZ e1095 F1087 (.int (-1)) rfl rfl d7_118 (iN X1095 hx hby d7_119 ((if0 _ _).trans (tlt (by decide : (-1 : Int32) < (0 : Int32))).2.1) (ka X1095 hx hby d7_122 rfl rfl (kaN X1095 hx hby d7_124 rfl rfl k)))))) (gG X1095 hx hby hZ hown (w13 hw) e1095 F1094 d7_125 fun T1097 X1097 e1097 => gO (fun t k => ki X1097 hx hby d7_128 rfl (rI X1097 hx hby hZ e1097 F1096 (.int 3) rfl rfl d7_130 (ki X1097 hx hby d7_131 rfl k))) ?_)))))
  show OGl _ _ _ _ T1097 (mkF m 133 #[rv o0, iv 0, iv 3, jv 2305843009213693950, sc, iv 1, iv 6, rv b1053, jv 0, sc, rv b1057, iv 2, iv 1, iv 2, un] [.int 2, .int 3, .ref b1053])
  refine wI X1097 hx hby hZ e1097 F1087 3 rfl (Nat.le_of_ble_eq_true rfl) d7_133 fun T1098 h1098 X1098 e1098 W1098 V1098 => ?_
  have N1098 := Fr.snoc X1098 N1079 g_b1053
  have KK1098 := KK1079.wr W1098 (Or.inr sz_b1053)
  show OGl _ _ _ _ T1098 (mkF m 134 #[rv o0, iv 0, iv 3, jv 2305843009213693950, sc, iv 1, iv 6, rv b1053, jv 0, sc, rv b1057, iv 2, iv 1, iv 2, un] [])
  have F1099 := (F1094.other W1098 (Or.inl ne_o0_b1053))
  have F1101 := (F1096.other W1098 ne_o9_b1053)
  refine gO (fun t k => ka X1098 hx hby d7_134 rfl rfl (ki X1098 hx hby d7_136 rfl (o_iinc X1098 hx hby (L' := #[rv o0, iv 0, iv 3, jv 2305843009213693950, sc, iv 1, iv 6, rv b1053, jv 0, sc, rv b1057, iv 3, iv 1, iv 2, un]) d7_138 rfl rfl (kaN X1098 hx hby d7_141 rfl rfl k)))) (gG X1098 hx hby hZ hown (w13 hw) e1098 F1099 d7_142 fun T1100 X1100 e1100 => gO (fun t k => ki X1100 hx hby d7_145 rfl (rI X1100 hx hby hZ e1100 F1101 (.int 3) rfl rfl d7_147 k)) ?_)
  show OGl _ _ _ _ T1100 (mkF m 148 #[rv o0, iv 0, iv 3, jv 2305843009213693950, sc, iv 1, iv 6, rv b1053, jv 0, sc, rv b1057, iv 3, iv 1, iv 2, un] [.int 3, .int 2, .ref b1057])
  have F1102 := (V1079.other W1098 (Ne.symm ne_b1053_b1057))
  refine wI X1100 hx hby hZ e1100 F1102 2 rfl (Nat.le_of_ble_eq_true rfl) d7_148 fun T1103 h1103 X1103 e1103 W1103 V1103 => ?_
  have N1103 := Fr.snoc X1103 N1098 g_b1057
  have KK1103 := KK1098.wr W1103 (Or.inr sz_b1057)
  show OGl _ _ _ _ T1103 (mkF m 149 #[rv o0, iv 0, iv 3, jv 2305843009213693950, sc, iv 1, iv 6, rv b1053, jv 0, sc, rv b1057, iv 3, iv 1, iv 2, un] [])
  have F1104 := ((F1080.other W1098 (Or.inl ne_o0_b1053)).other W1103 (Or.inl ne_o0_b1057))
  have F1106 := ((F1082.other W1098 ne_o11_b1053).other W1103 ne_o11_b1057)
  have F1107 := (V1098.other W1103 ne_b1053_b1057)
  have F1108 := ((F1088.other W1098 (Or.inl ne_o0_b1053)).other W1103 (Or.inl ne_o0_b1057))
  have F1110 := ((F1090.other W1098 ne_o1_b1053).other W1103 ne_o1_b1057)
  have F1111 := ((F1083.other W1098 (Or.inl ne_o0_b1053)).other W1103 (Or.inl ne_o0_b1057))
  have F1113 := ((F1085.other W1098 ne_o3_b1053).other W1103 ne_o3_b1057)
  have F1114 := (F1099.other W1103 (Or.inl ne_o0_b1057))
  have F1116 := (F1101.other W1103 ne_o9_b1057)
  refine gO (fun t k => kaN X1103 hx hby d7_149 rfl rfl k) (gG X1103 hx hby hZ hown (w15 hw) e1103 F1104 d7_150 fun T1105 X1105 e1105 => gO (fun t k => ki X1105 hx hby d7_153 rfl (rI X1105 hx hby hZ e1105 F1106 (.int (-1)) rfl rfl d7_155 (si X1105 hx hby (L' := #[rv o0, iv 0, iv 3, jv 2305843009213693950, sc, iv 1, iv 6, rv b1053, jv 0, sc, rv b1057, iv 3, iv 1, iv (-1), un]) d7_156 rfl (o_goto X1105 hx hby 92 d7_158 rfl (ki X1105 hx hby d7_92 rfl (iY X1105 hx hby 161 d7_94 ((if0 _ _).trans (tlt (by decide : (-1 : Int32) < (0 : Int32))).1) rfl (o_iinc X1105 hx hby (L' := #[rv o0, iv 0, iv 3, jv 2305843009213693950, sc, iv 1, iv 6, rv b1053, jv 0, sc, rv b1057, iv 3, iv 2, iv (-1), un]) d7_161 rfl rfl (o_goto X1105 hx hby 65 d7_164 rfl (ki X1105 hx hby d7_65 rfl (ki X1105 hx hby d7_67 rfl (cN X1105 hx hby d7_69 (tlt (by decide : (2 : Int32) < (3 : Int32))).2.1 (ka X1105 hx hby d7_72 rfl rfl (ki X1105 hx hby d7_74 rfl (rI X1105 hx hby hZ e1105 F1107 (.int (-1)) rfl rfl d7_76 (iN X1105 hx hby d7_77 ((if0 _ _).trans (tlt (by decide : (-1 : Int32) < (0 : Int32))).2.1) (kaN X1105 hx hby d7_80 rfl rfl k)))))))))))))))) (gG X1105 hx hby hZ hown (w11 hw) e1105 F1108 d7_81 fun T1109 X1109 e1109 => gO (fun t k => ka X1109 hx hby d7_84 rfl rfl (ki X1109 hx hby d7_86 rfl (rI X1109 hx hby hZ e1109 V1103 (.int 3) rfl rfl d7_88 (rI X1109 hx hby hZ e1109 F1110 (.int 10) rfl rfl d7_89 (si X1109 hx hby (L' := #[rv o0, iv 0, iv 3, jv 2305843009213693950, sc, iv 1, iv 6, rv b1053, jv 0, sc, rv b1057, iv 3, iv 2, iv 10, un]) d7_90 rfl (ki X1109 hx hby d7_92 rfl (iN X1109 hx hby d7_94 ((if0 _ _).trans (flt (by decide : ¬ ((10 : Int32) < (0 : Int32)))).1) (kaN X1109 hx hby d7_97 rfl rfl k)))))))) (gG X1109 hx hby hZ hown (w18 hw) e1109 F1111 d7_98 fun T1112 X1112 e1112 => gO (fun t k => ki X1112 hx hby d7_101 rfl (rJ X1112 hx hby hZ e1112 F1113 (.long 2305843009213693951) rfl rfl d7_103 (kcl X1112 hx hby d7_104 (o_lcmp X1112 hx hby d7_105 (iN X1112 hx hby d7_106 (own_tltL (by decide : (0 : Int64) < (2305843009213693951 : Int64))).2.2.2 (ka X1112 hx hby d7_109 rfl rfl (kaN X1112 hx hby d7_111 rfl rfl k))))))) (gG X1112 hx hby hZ hown (w13 hw) e1112 F1114 d7_112 fun T1115 X1115 e1115 => gO (fun t k => ki X1115 hx hby d7_115 rfl (rI X1115 hx hby hZ e1115 F1116 (.int 4) rfl rfl d7_117 (rI X1115 hx hby hZ e1115 F1107 (.int (-1)) rfl rfl d7_118 (iN X1115 hx hby d7_119 ((if0 _ _).trans (tlt (by decide : (-1 : Int32) < (0 : Int32))).2.1) k)))) ?_))))
  show OGl _ _ _ _ T1115 (mkF m 122 #[rv o0, iv 0, iv 3, jv 2305843009213693950, sc, iv 1, iv 6, rv b1053, jv 0, sc, rv b1057, iv 3, iv 2, iv 10, un] [])
  refine gO (fun t k => ka X1115 hx hby d7_122 rfl rfl (kaN X1115 hx hby d7_124 rfl rfl k)) (gG X1115 hx hby hZ hown (w13 hw) e1115 F1114 d7_125 fun T1117 X1117 e1117 => gO (fun t k => ki X1117 hx hby d7_128 rfl (rI X1117 hx hby hZ e1117 F1116 (.int 4) rfl rfl d7_130 (ki X1117 hx hby d7_131 rfl k))) ?_)
  show OGl _ _ _ _ T1117 (mkF m 133 #[rv o0, iv 0, iv 3, jv 2305843009213693950, sc, iv 1, iv 6, rv b1053, jv 0, sc, rv b1057, iv 3, iv 2, iv 10, un] [.int 10, .int 4, .ref b1053])
  refine wI X1117 hx hby hZ e1117 F1107 4 rfl (Nat.le_of_ble_eq_true rfl) d7_133 fun T1118 h1118 X1118 e1118 W1118 V1118 => ?_
  have N1118 := Fr.snoc X1118 N1103 g_b1053
  have KK1118 := KK1103.wr W1118 (Or.inr sz_b1053)
  show OGl _ _ _ _ T1118 (mkF m 134 #[rv o0, iv 0, iv 3, jv 2305843009213693950, sc, iv 1, iv 6, rv b1053, jv 0, sc, rv b1057, iv 3, iv 2, iv 10, un] [])
  have F1119 := (F1114.other W1118 (Or.inl ne_o0_b1053))
  have F1121 := (F1116.other W1118 ne_o9_b1053)
  refine gO (fun t k => ka X1118 hx hby d7_134 rfl rfl (ki X1118 hx hby d7_136 rfl (o_iinc X1118 hx hby (L' := #[rv o0, iv 0, iv 3, jv 2305843009213693950, sc, iv 1, iv 6, rv b1053, jv 0, sc, rv b1057, iv 4, iv 2, iv 10, un]) d7_138 rfl rfl (kaN X1118 hx hby d7_141 rfl rfl k)))) (gG X1118 hx hby hZ hown (w13 hw) e1118 F1119 d7_142 fun T1120 X1120 e1120 => gO (fun t k => ki X1120 hx hby d7_145 rfl (rI X1120 hx hby hZ e1120 F1121 (.int 4) rfl rfl d7_147 k)) ?_)
  show OGl _ _ _ _ T1120 (mkF m 148 #[rv o0, iv 0, iv 3, jv 2305843009213693950, sc, iv 1, iv 6, rv b1053, jv 0, sc, rv b1057, iv 4, iv 2, iv 10, un] [.int 4, .int 3, .ref b1057])
  have F1122 := (V1103.other W1118 (Ne.symm ne_b1053_b1057))
  refine wI X1120 hx hby hZ e1120 F1122 3 rfl (Nat.le_of_ble_eq_true rfl) d7_148 fun T1123 h1123 X1123 e1123 W1123 V1123 => ?_
  have N1123 := Fr.snoc X1123 N1118 g_b1057
  have KK1123 := KK1118.wr W1123 (Or.inr sz_b1057)
  show OGl _ _ _ _ T1123 (mkF m 149 #[rv o0, iv 0, iv 3, jv 2305843009213693950, sc, iv 1, iv 6, rv b1053, jv 0, sc, rv b1057, iv 4, iv 2, iv 10, un] [])
  have F1124 := ((F1104.other W1118 (Or.inl ne_o0_b1053)).other W1123 (Or.inl ne_o0_b1057))
  have F1126 := ((F1106.other W1118 ne_o11_b1053).other W1123 ne_o11_b1057)
  have F1127 := ((F1111.other W1118 (Or.inl ne_o0_b1053)).other W1123 (Or.inl ne_o0_b1057))
  have F1129 := ((F1113.other W1118 ne_o3_b1053).other W1123 ne_o3_b1057)
  have F1131 := (V1118.other W1123 ne_b1053_b1057)
  have F1132 := ((F1108.other W1118 (Or.inl ne_o0_b1053)).other W1123 (Or.inl ne_o0_b1057))
  have F1134 := ((F1110.other W1118 ne_o1_b1053).other W1123 ne_o1_b1057)
  refine gO (fun t k => kaN X1123 hx hby d7_149 rfl rfl k) (gG X1123 hx hby hZ hown (w15 hw) e1123 F1124 d7_150 fun T1125 X1125 e1125 => gO (fun t k => ki X1125 hx hby d7_153 rfl (rI X1125 hx hby hZ e1125 F1126 (.int 3) rfl rfl d7_155 (si X1125 hx hby (L' := #[rv o0, iv 0, iv 3, jv 2305843009213693950, sc, iv 1, iv 6, rv b1053, jv 0, sc, rv b1057, iv 4, iv 2, iv 3, un]) d7_156 rfl (o_goto X1125 hx hby 92 d7_158 rfl (ki X1125 hx hby d7_92 rfl (iN X1125 hx hby d7_94 ((if0 _ _).trans (flt (by decide : ¬ ((3 : Int32) < (0 : Int32)))).1) (kaN X1125 hx hby d7_97 rfl rfl k))))))) (gG X1125 hx hby hZ hown (w18 hw) e1125 F1127 d7_98 fun T1128 X1128 e1128 => gO (fun t k => ki X1128 hx hby d7_101 rfl (rJ X1128 hx hby hZ e1128 F1129 (.long 0) rfl rfl d7_103 (kcl X1128 hx hby d7_104 (o_lcmp X1128 hx hby d7_105 (iY X1128 hx hby 149 d7_106 (own_fltL (by decide : ¬ ((0 : Int64) < (0 : Int64)))).2.2.2 rfl (kaN X1128 hx hby d7_149 rfl rfl k)))))) (gG X1128 hx hby hZ hown (w15 hw) e1128 F1124 d7_150 fun T1130 X1130 e1130 => gO (fun t k => ki X1130 hx hby d7_153 rfl (rI X1130 hx hby hZ e1130 F1126 (.int (-1)) rfl rfl d7_155 (si X1130 hx hby (L' := #[rv o0, iv 0, iv 3, jv 2305843009213693950, sc, iv 1, iv 6, rv b1053, jv 0, sc, rv b1057, iv 4, iv 2, iv (-1), un]) d7_156 rfl (o_goto X1130 hx hby 92 d7_158 rfl (ki X1130 hx hby d7_92 rfl (iY X1130 hx hby 161 d7_94 ((if0 _ _).trans (tlt (by decide : (-1 : Int32) < (0 : Int32))).1) rfl (o_iinc X1130 hx hby (L' := #[rv o0, iv 0, iv 3, jv 2305843009213693950, sc, iv 1, iv 6, rv b1053, jv 0, sc, rv b1057, iv 4, iv 3, iv (-1), un]) d7_161 rfl rfl (o_goto X1130 hx hby 65 d7_164 rfl (ki X1130 hx hby d7_65 rfl (ki X1130 hx hby d7_67 rfl (cN X1130 hx hby d7_69 (tlt (by decide : (3 : Int32) < (4 : Int32))).2.1 (ka X1130 hx hby d7_72 rfl rfl (ki X1130 hx hby d7_74 rfl (rI X1130 hx hby hZ e1130 F1131 (.int (-1)) rfl rfl d7_76 (iN X1130 hx hby d7_77 ((if0 _ _).trans (tlt (by decide : (-1 : Int32) < (0 : Int32))).2.1) (kaN X1130 hx hby d7_80 rfl rfl k)))))))))))))))) (gG X1130 hx hby hZ hown (w11 hw) e1130 F1132 d7_81 fun T1133 X1133 e1133 => gO (fun t k => ka X1133 hx hby d7_84 rfl rfl (ki X1133 hx hby d7_86 rfl (rI X1133 hx hby hZ e1133 V1123 (.int 4) rfl rfl d7_88 (rI X1133 hx hby hZ e1133 F1134 (.int 11) rfl rfl d7_89 (si X1133 hx hby (L' := #[rv o0, iv 0, iv 3, jv 2305843009213693950, sc, iv 1, iv 6, rv b1053, jv 0, sc, rv b1057, iv 4, iv 3, iv 11, un]) d7_90 rfl (ki X1133 hx hby d7_92 rfl k)))))) ?_))))
  show OGl _ _ _ _ T1133 (mkF m 94 #[rv o0, iv 0, iv 3, jv 2305843009213693950, sc, iv 1, iv 6, rv b1053, jv 0, sc, rv b1057, iv 4, iv 3, iv 11, un] [.int 11])
  have F1138 := (F1119.other W1123 (Or.inl ne_o0_b1057))
  have F1140 := (F1121.other W1123 ne_o9_b1057)
  refine gO (fun t k => iN X1133 hx hby d7_94 ((if0 _ _).trans (flt (by decide : ¬ ((11 : Int32) < (0 : Int32)))).1) (kaN X1133 hx hby d7_97 rfl rfl k)) (gG X1133 hx hby hZ hown (w18 hw) e1133 F1127 d7_98 fun T1135 X1135 e1135 => gO (fun t k => ki X1135 hx hby d7_101 rfl (rJ X1135 hx hby hZ e1135 F1129 (.long 0) rfl rfl d7_103 (kcl X1135 hx hby d7_104 (o_lcmp X1135 hx hby d7_105 (iY X1135 hx hby 149 d7_106 (own_fltL (by decide : ¬ ((0 : Int64) < (0 : Int64)))).2.2.2 rfl (kaN X1135 hx hby d7_149 rfl rfl k)))))) (gG X1135 hx hby hZ hown (w15 hw) e1135 F1124 d7_150 fun T1136 X1136 e1136 => gO (fun t k => ki X1136 hx hby d7_153 rfl (rI X1136 hx hby hZ e1136 F1126 (.int 4) rfl rfl d7_155 (si X1136 hx hby (L' := #[rv o0, iv 0, iv 3, jv 2305843009213693950, sc, iv 1, iv 6, rv b1053, jv 0, sc, rv b1057, iv 4, iv 3, iv 4, un]) d7_156 rfl (o_goto X1136 hx hby 92 d7_158 rfl (ki X1136 hx hby d7_92 rfl (iN X1136 hx hby d7_94 ((if0 _ _).trans (flt (by decide : ¬ ((4 : Int32) < (0 : Int32)))).1) (kaN X1136 hx hby d7_97 rfl rfl k))))))) (gG X1136 hx hby hZ hown (w18 hw) e1136 F1127 d7_98 fun T1137 X1137 e1137 => gO (fun t k => ki X1137 hx hby d7_101 rfl (rJ X1137 hx hby hZ e1137 F1129 (.long q7) rfl rfl d7_103 (kcl X1137 hx hby d7_104 (o_lcmp X1137 hx hby d7_105 (iN X1137 hx hby d7_106 (own_tltL hp11_7a).2.2.2 (ka X1137 hx hby d7_109 rfl rfl (kaN X1137 hx hby d7_111 rfl rfl k))))))) (gG X1137 hx hby hZ hown (w13 hw) e1137 F1138 d7_112 fun T1139 X1139 e1139 => gO (fun t k => ki X1139 hx hby d7_115 rfl (rI X1139 hx hby hZ e1139 F1140 (.int 5) rfl rfl d7_117 (rI X1139 hx hby hZ e1139 F1131 (.int (-1)) rfl rfl d7_118 (iN X1139 hx hby d7_119 ((if0 _ _).trans (tlt (by decide : (-1 : Int32) < (0 : Int32))).2.1) (ka X1139 hx hby d7_122 rfl rfl (kaN X1139 hx hby d7_124 rfl rfl k)))))) (gG X1139 hx hby hZ hown (w13 hw) e1139 F1138 d7_125 fun T1141 X1141 e1141 => gO (fun t k => ki X1141 hx hby d7_128 rfl (rI X1141 hx hby hZ e1141 F1140 (.int 5) rfl rfl d7_130 (ki X1141 hx hby d7_131 rfl k))) ?_)))))
  show OGl _ _ _ _ T1141 (mkF m 133 #[rv o0, iv 0, iv 3, jv 2305843009213693950, sc, iv 1, iv 6, rv b1053, jv 0, sc, rv b1057, iv 4, iv 3, iv 4, un] [.int 4, .int 5, .ref b1053])
  refine wI X1141 hx hby hZ e1141 F1131 5 rfl (Nat.le_of_ble_eq_true rfl) d7_133 fun T1142 h1142 X1142 e1142 W1142 V1142 => ?_
  have N1142 := Fr.snoc X1142 N1123 g_b1053
  have KK1142 := KK1123.wr W1142 (Or.inr sz_b1053)
  show OGl _ _ _ _ T1142 (mkF m 134 #[rv o0, iv 0, iv 3, jv 2305843009213693950, sc, iv 1, iv 6, rv b1053, jv 0, sc, rv b1057, iv 4, iv 3, iv 4, un] [])
  have F1143 := (F1138.other W1142 (Or.inl ne_o0_b1053))
  have F1145 := (F1140.other W1142 ne_o9_b1053)
  refine gO (fun t k => ka X1142 hx hby d7_134 rfl rfl (ki X1142 hx hby d7_136 rfl (o_iinc X1142 hx hby (L' := #[rv o0, iv 0, iv 3, jv 2305843009213693950, sc, iv 1, iv 6, rv b1053, jv 0, sc, rv b1057, iv 5, iv 3, iv 4, un]) d7_138 rfl rfl (kaN X1142 hx hby d7_141 rfl rfl k)))) (gG X1142 hx hby hZ hown (w13 hw) e1142 F1143 d7_142 fun T1144 X1144 e1144 => gO (fun t k => ki X1144 hx hby d7_145 rfl (rI X1144 hx hby hZ e1144 F1145 (.int 5) rfl rfl d7_147 k)) ?_)
  show OGl _ _ _ _ T1144 (mkF m 148 #[rv o0, iv 0, iv 3, jv 2305843009213693950, sc, iv 1, iv 6, rv b1053, jv 0, sc, rv b1057, iv 5, iv 3, iv 4, un] [.int 5, .int 4, .ref b1057])
  have F1146 := (V1123.other W1142 (Ne.symm ne_b1053_b1057))
  refine wI X1144 hx hby hZ e1144 F1146 4 rfl (Nat.le_of_ble_eq_true rfl) d7_148 fun T1147 h1147 X1147 e1147 W1147 V1147 => ?_
  have N1147 := Fr.snoc X1147 N1142 g_b1057
  have KK1147 := KK1142.wr W1147 (Or.inr sz_b1057)
  show OGl _ _ _ _ T1147 (mkF m 149 #[rv o0, iv 0, iv 3, jv 2305843009213693950, sc, iv 1, iv 6, rv b1053, jv 0, sc, rv b1057, iv 5, iv 3, iv 4, un] [])
  have F1148 := ((F1124.other W1142 (Or.inl ne_o0_b1053)).other W1147 (Or.inl ne_o0_b1057))
  have F1150 := ((F1126.other W1142 ne_o11_b1053).other W1147 ne_o11_b1057)
  have F1151 := (V1142.other W1147 ne_b1053_b1057)
  have F1152 := ((F1132.other W1142 (Or.inl ne_o0_b1053)).other W1147 (Or.inl ne_o0_b1057))
  have F1154 := ((F1134.other W1142 ne_o1_b1053).other W1147 ne_o1_b1057)
  have F1155 := ((F1127.other W1142 (Or.inl ne_o0_b1053)).other W1147 (Or.inl ne_o0_b1057))
  have F1157 := ((F1129.other W1142 ne_o3_b1053).other W1147 ne_o3_b1057)
  have F1158 := (F1143.other W1147 (Or.inl ne_o0_b1057))
  have F1160 := (F1145.other W1147 ne_o9_b1057)
  refine gO (fun t k => kaN X1147 hx hby d7_149 rfl rfl k) (gG X1147 hx hby hZ hown (w15 hw) e1147 F1148 d7_150 fun T1149 X1149 e1149 => gO (fun t k => ki X1149 hx hby d7_153 rfl (rI X1149 hx hby hZ e1149 F1150 (.int (-1)) rfl rfl d7_155 (si X1149 hx hby (L' := #[rv o0, iv 0, iv 3, jv 2305843009213693950, sc, iv 1, iv 6, rv b1053, jv 0, sc, rv b1057, iv 5, iv 3, iv (-1), un]) d7_156 rfl (o_goto X1149 hx hby 92 d7_158 rfl (ki X1149 hx hby d7_92 rfl (iY X1149 hx hby 161 d7_94 ((if0 _ _).trans (tlt (by decide : (-1 : Int32) < (0 : Int32))).1) rfl (o_iinc X1149 hx hby (L' := #[rv o0, iv 0, iv 3, jv 2305843009213693950, sc, iv 1, iv 6, rv b1053, jv 0, sc, rv b1057, iv 5, iv 4, iv (-1), un]) d7_161 rfl rfl (o_goto X1149 hx hby 65 d7_164 rfl (ki X1149 hx hby d7_65 rfl (ki X1149 hx hby d7_67 rfl (cN X1149 hx hby d7_69 (tlt (by decide : (4 : Int32) < (5 : Int32))).2.1 (ka X1149 hx hby d7_72 rfl rfl (ki X1149 hx hby d7_74 rfl (rI X1149 hx hby hZ e1149 F1151 (.int (-1)) rfl rfl d7_76 (iN X1149 hx hby d7_77 ((if0 _ _).trans (tlt (by decide : (-1 : Int32) < (0 : Int32))).2.1) (kaN X1149 hx hby d7_80 rfl rfl k)))))))))))))))) (gG X1149 hx hby hZ hown (w11 hw) e1149 F1152 d7_81 fun T1153 X1153 e1153 => gO (fun t k => ka X1153 hx hby d7_84 rfl rfl (ki X1153 hx hby d7_86 rfl (rI X1153 hx hby hZ e1153 V1147 (.int 5) rfl rfl d7_88 (rI X1153 hx hby hZ e1153 F1154 (.int 12) rfl rfl d7_89 (si X1153 hx hby (L' := #[rv o0, iv 0, iv 3, jv 2305843009213693950, sc, iv 1, iv 6, rv b1053, jv 0, sc, rv b1057, iv 5, iv 4, iv 12, un]) d7_90 rfl (ki X1153 hx hby d7_92 rfl (iN X1153 hx hby d7_94 ((if0 _ _).trans (flt (by decide : ¬ ((12 : Int32) < (0 : Int32)))).1) (kaN X1153 hx hby d7_97 rfl rfl k)))))))) (gG X1153 hx hby hZ hown (w18 hw) e1153 F1155 d7_98 fun T1156 X1156 e1156 => gO (fun t k => ki X1156 hx hby d7_101 rfl (rJ X1156 hx hby hZ e1156 F1157 (.long 2305843009213693951) rfl rfl d7_103 (kcl X1156 hx hby d7_104 (o_lcmp X1156 hx hby d7_105 (iN X1156 hx hby d7_106 (own_tltL (by decide : (0 : Int64) < (2305843009213693951 : Int64))).2.2.2 (ka X1156 hx hby d7_109 rfl rfl (kaN X1156 hx hby d7_111 rfl rfl k))))))) (gG X1156 hx hby hZ hown (w13 hw) e1156 F1158 d7_112 fun T1159 X1159 e1159 => gO (fun t k => ki X1159 hx hby d7_115 rfl (rI X1159 hx hby hZ e1159 F1160 (.int 6) rfl rfl d7_117 (rI X1159 hx hby hZ e1159 F1151 (.int (-1)) rfl rfl d7_118 (iN X1159 hx hby d7_119 ((if0 _ _).trans (tlt (by decide : (-1 : Int32) < (0 : Int32))).2.1) k)))) ?_))))
  show OGl _ _ _ _ T1159 (mkF m 122 #[rv o0, iv 0, iv 3, jv 2305843009213693950, sc, iv 1, iv 6, rv b1053, jv 0, sc, rv b1057, iv 5, iv 4, iv 12, un] [])
  refine gO (fun t k => ka X1159 hx hby d7_122 rfl rfl (kaN X1159 hx hby d7_124 rfl rfl k)) (gG X1159 hx hby hZ hown (w13 hw) e1159 F1158 d7_125 fun T1161 X1161 e1161 => gO (fun t k => ki X1161 hx hby d7_128 rfl (rI X1161 hx hby hZ e1161 F1160 (.int 6) rfl rfl d7_130 (ki X1161 hx hby d7_131 rfl k))) ?_)
  show OGl _ _ _ _ T1161 (mkF m 133 #[rv o0, iv 0, iv 3, jv 2305843009213693950, sc, iv 1, iv 6, rv b1053, jv 0, sc, rv b1057, iv 5, iv 4, iv 12, un] [.int 12, .int 6, .ref b1053])
  refine wI X1161 hx hby hZ e1161 F1151 6 rfl (Nat.le_of_ble_eq_true rfl) d7_133 fun T1162 h1162 X1162 e1162 W1162 V1162 => ?_
  have N1162 := Fr.snoc X1162 N1147 g_b1053
  have KK1162 := KK1147.wr W1162 (Or.inr sz_b1053)
  show OGl _ _ _ _ T1162 (mkF m 134 #[rv o0, iv 0, iv 3, jv 2305843009213693950, sc, iv 1, iv 6, rv b1053, jv 0, sc, rv b1057, iv 5, iv 4, iv 12, un] [])
  have F1163 := (F1158.other W1162 (Or.inl ne_o0_b1053))
  have F1165 := (F1160.other W1162 ne_o9_b1053)
  refine gO (fun t k => ka X1162 hx hby d7_134 rfl rfl (ki X1162 hx hby d7_136 rfl (o_iinc X1162 hx hby (L' := #[rv o0, iv 0, iv 3, jv 2305843009213693950, sc, iv 1, iv 6, rv b1053, jv 0, sc, rv b1057, iv 6, iv 4, iv 12, un]) d7_138 rfl rfl (kaN X1162 hx hby d7_141 rfl rfl k)))) (gG X1162 hx hby hZ hown (w13 hw) e1162 F1163 d7_142 fun T1164 X1164 e1164 => gO (fun t k => ki X1164 hx hby d7_145 rfl (rI X1164 hx hby hZ e1164 F1165 (.int 6) rfl rfl d7_147 k)) ?_)
  show OGl _ _ _ _ T1164 (mkF m 148 #[rv o0, iv 0, iv 3, jv 2305843009213693950, sc, iv 1, iv 6, rv b1053, jv 0, sc, rv b1057, iv 6, iv 4, iv 12, un] [.int 6, .int 5, .ref b1057])
  have F1166 := (V1147.other W1162 (Ne.symm ne_b1053_b1057))
  refine wI X1164 hx hby hZ e1164 F1166 5 rfl (Nat.le_of_ble_eq_true rfl) d7_148 fun T1167 h1167 X1167 e1167 W1167 V1167 => ?_
  have N1167 := Fr.snoc X1167 N1162 g_b1057
  have KK1167 := KK1162.wr W1167 (Or.inr sz_b1057)
  show OGl _ _ _ _ T1167 (mkF m 149 #[rv o0, iv 0, iv 3, jv 2305843009213693950, sc, iv 1, iv 6, rv b1053, jv 0, sc, rv b1057, iv 6, iv 4, iv 12, un] [])
  have F1168 := ((F1148.other W1162 (Or.inl ne_o0_b1053)).other W1167 (Or.inl ne_o0_b1057))
  have F1170 := ((F1150.other W1162 ne_o11_b1053).other W1167 ne_o11_b1057)
  have F1171 := ((F1155.other W1162 (Or.inl ne_o0_b1053)).other W1167 (Or.inl ne_o0_b1057))
  have F1173 := ((F1157.other W1162 ne_o3_b1053).other W1167 ne_o3_b1057)
  have F1175 := (V1162.other W1167 ne_b1053_b1057)
  refine gO (fun t k => kaN X1167 hx hby d7_149 rfl rfl k) (gG X1167 hx hby hZ hown (w15 hw) e1167 F1168 d7_150 fun T1169 X1169 e1169 => gO (fun t k => ki X1169 hx hby d7_153 rfl (rI X1169 hx hby hZ e1169 F1170 (.int 5) rfl rfl d7_155 (si X1169 hx hby (L' := #[rv o0, iv 0, iv 3, jv 2305843009213693950, sc, iv 1, iv 6, rv b1053, jv 0, sc, rv b1057, iv 6, iv 4, iv 5, un]) d7_156 rfl (o_goto X1169 hx hby 92 d7_158 rfl (ki X1169 hx hby d7_92 rfl (iN X1169 hx hby d7_94 ((if0 _ _).trans (flt (by decide : ¬ ((5 : Int32) < (0 : Int32)))).1) (kaN X1169 hx hby d7_97 rfl rfl k))))))) (gG X1169 hx hby hZ hown (w18 hw) e1169 F1171 d7_98 fun T1172 X1172 e1172 => gO (fun t k => ki X1172 hx hby d7_101 rfl (rJ X1172 hx hby hZ e1172 F1173 (.long 0) rfl rfl d7_103 (kcl X1172 hx hby d7_104 (o_lcmp X1172 hx hby d7_105 (iY X1172 hx hby 149 d7_106 (own_fltL (by decide : ¬ ((0 : Int64) < (0 : Int64)))).2.2.2 rfl (kaN X1172 hx hby d7_149 rfl rfl k)))))) (gG X1172 hx hby hZ hown (w15 hw) e1172 F1168 d7_150 fun T1174 X1174 e1174 => gO (fun t k => ki X1174 hx hby d7_153 rfl (rI X1174 hx hby hZ e1174 F1170 (.int (-1)) rfl rfl d7_155 (si X1174 hx hby (L' := #[rv o0, iv 0, iv 3, jv 2305843009213693950, sc, iv 1, iv 6, rv b1053, jv 0, sc, rv b1057, iv 6, iv 4, iv (-1), un]) d7_156 rfl (o_goto X1174 hx hby 92 d7_158 rfl (ki X1174 hx hby d7_92 rfl (iY X1174 hx hby 161 d7_94 ((if0 _ _).trans (tlt (by decide : (-1 : Int32) < (0 : Int32))).1) rfl (o_iinc X1174 hx hby (L' := #[rv o0, iv 0, iv 3, jv 2305843009213693950, sc, iv 1, iv 6, rv b1053, jv 0, sc, rv b1057, iv 6, iv 5, iv (-1), un]) d7_161 rfl rfl (o_goto X1174 hx hby 65 d7_164 rfl (ki X1174 hx hby d7_65 rfl (ki X1174 hx hby d7_67 rfl (cN X1174 hx hby d7_69 (tlt (by decide : (5 : Int32) < (6 : Int32))).2.1 (ka X1174 hx hby d7_72 rfl rfl (ki X1174 hx hby d7_74 rfl (rI X1174 hx hby hZ e1174 F1175 (.int 12) rfl rfl d7_76 (iY X1174 hx hby 167 d7_77 ((if0 _ _).trans (flt (by decide : ¬ ((12 : Int32) < (0 : Int32)))).2.1) rfl (ka X1174 hx hby d7_167 rfl rfl (ki X1174 hx hby d7_169 rfl (rI X1174 hx hby hZ e1174 F1175 (.int 12) rfl rfl d7_171 (iY X1174 hx hby 215 d7_172 ((if0 _ _).trans (flt (by decide : ¬ ((12 : Int32) < (0 : Int32)))).2.1) rfl (klN X1174 hx hby d7_215 rfl (kl X1174 hx hby d7_216 rfl (o_lsub X1174 hx hby d7_218 (sl X1174 hx hby (L' := #[rv o0, iv 0, iv 3, jv 2305843009213693950, sc, iv 1, iv 6, rv b1053, jv 0, sc, rv b1057, iv 6, jv 2305843009213693950, sc, un]) d7_219 rfl k))))))))))))))))))))))) ?_)))
  show OGl _ _ _ _ T1174 (mkF m 221 #[rv o0, iv 0, iv 3, jv 2305843009213693950, sc, iv 1, iv 6, rv b1053, jv 0, sc, rv b1057, iv 6, jv 2305843009213693950, sc, un] [])
  refine gO (fun t k => ki X1174 hx hby d7_221 rfl (si X1174 hx hby (L' := #[rv o0, iv 0, iv 3, jv 2305843009213693950, sc, iv 1, iv 6, rv b1053, jv 0, sc, rv b1057, iv 6, jv 2305843009213693950, sc, iv 6]) d7_223 rfl (ki X1174 hx hby d7_225 rfl (ki X1174 hx hby d7_227 rfl (cN X1174 hx hby d7_229 (feq (by decide : ¬ ((6 : Int32) = (1 : Int32)))).1 (kl X1174 hx hby d7_232 rfl (kaN X1174 hx hby d7_234 rfl rfl k))))))) (gG X1174 hx hby hZ hown (w18 hw) e1174 F1171 d7_235 fun T1176 X1176 e1176 => gO (fun t k => ka X1176 hx hby d7_238 rfl rfl (ki X1176 hx hby d7_240 rfl (rI X1176 hx hby hZ e1176 F1175 (.int 12) rfl rfl d7_242 (rJ X1176 hx hby hZ e1176 F1173 (.long 2305843009213693951) rfl rfl d7_243 k)))) ?_)
  show OGl _ _ _ _ T1176 (mkF m 244 #[rv o0, iv 0, iv 3, jv 2305843009213693950, sc, iv 1, iv 6, rv b1053, jv 0, sc, rv b1057, iv 6, jv 2305843009213693950, sc, iv 6] [.long 2305843009213693951, .long 2305843009213693950])
  obtain ⟨_, _, ⟨T1177, L1177, kk1177, n1177⟩, -, X1177, ⟨Lc1177, hQ1177, l1177, y1177, z1177⟩, st1177⟩ := Jvm.LawKit.callS X1176 hx (y := yy6) hown (mvT hZ (w53 hw)) (mvT hZ (w54 hw)) (mvT hZ (w55 hw)) (mvT hZ (w56 hw)) (by decide) (backOf (W := 0) (rm9 l Z a0 hw []  h1167 n0 (Nat.le_trans Z0 KK1167.1) ) hZ (w56 hw) (w55 hw) (by decide) (by decide)) (g := (mkF m 244 #[rv o0, iv 0, iv 3, jv 2305843009213693950, sc, iv 1, iv 6, rv b1053, jv 0, sc, rv b1057, iv 6, jv 2305843009213693950, sc, iv 6] [.long 2305843009213693951, .long 2305843009213693950])) rfl (by rw [hml]; rfl) (argsL := [.long 2305843009213693950, .long 2305843009213693951]) (rest := []) (lenOf pd_5 rfl) rfl (by show 2 * 0 + _ ≤ _; exact Nat.le_of_eq rfl) (hb hby d7_244) (fun _ _ => ⟨rfl, e1176, (by decide : 2 + 0 ≤ _), (by decide : 16 + 0 ≤ _)⟩)
  dsimp only [Pt.U, Pt.locs, Pt.cells, Pt.slots] at X1177 l1177 y1177 z1177 st1177 hQ1177
  replace l1177 := l1177.symm
  subst l1177 y1177 z1177
  obtain ⟨rfl, Nq1177, e1177⟩ := hQ1177
  have N1177 := Fr.app N1167 Nq1177
  refine gO st1177 ?_
  show OGl _ _ _ _ T1177 (mkF m 247 #[rv o0, iv 0, iv 3, jv 2305843009213693950, sc, iv 1, iv 6, rv b1053, jv 0, sc, rv b1057, iv 6, jv 2305843009213693950, sc, iv 6] [.long 2305843009213693950])
  have F1178 := (F1163.other W1167 (Or.inl ne_o0_b1057))
  have F1180 := (F1165.other W1167 ne_o9_b1057)
  refine gO (fun t k => sl X1177 hx hby (L' := #[rv o0, iv 0, iv 3, jv 2305843009213693950, sc, iv 1, iv 6, rv b1053, jv 0, sc, rv b1057, iv 6, jv 2305843009213693950, sc, iv 6]) d7_247 rfl (kaN X1177 hx hby d7_249 rfl rfl k)) (gG X1177 hx hby hZ hown (w13 hw) e1177 F1178 d7_250 fun T1179 X1179 e1179 => gO (fun t k => ka X1179 hx hby d7_253 rfl rfl (ki X1179 hx hby d7_255 rfl (rI X1179 hx hby hZ e1179 F1175 (.int 12) rfl rfl d7_257 (kc X1179 hx hby d7_258 (o_ixor X1179 hx hby d7_259 (rI X1179 hx hby hZ e1179 F1180 (.int 5) rfl rfl d7_260 (si X1179 hx hby (L' := #[rv o0, iv 0, iv 3, jv 2305843009213693950, sc, iv 1, iv 6, rv b1053, jv 0, sc, rv b1057, iv 6, jv 2305843009213693950, sc, iv 5]) d7_261 rfl (o_goto X1179 hx hby 225 d7_263 rfl (ki X1179 hx hby d7_225 rfl (ki X1179 hx hby d7_227 rfl (cN X1179 hx hby d7_229 (feq (by decide : ¬ ((5 : Int32) = (1 : Int32)))).1 (kl X1179 hx hby d7_232 rfl (kaN X1179 hx hby d7_234 rfl rfl k))))))))))))) (gG X1179 hx hby hZ hown (w18 hw) e1179 F1171 d7_235 fun T1181 X1181 e1181 => gO (fun t k => ka X1181 hx hby d7_238 rfl rfl (ki X1181 hx hby d7_240 rfl (rI X1181 hx hby hZ e1181 F1175 (.int 4) rfl rfl d7_242 (rJ X1181 hx hby hZ e1181 F1173 (.long q7) rfl rfl d7_243 k)))) ?_))
  show OGl _ _ _ _ T1181 (mkF m 244 #[rv o0, iv 0, iv 3, jv 2305843009213693950, sc, iv 1, iv 6, rv b1053, jv 0, sc, rv b1057, iv 6, jv 2305843009213693950, sc, iv 5] [.long q7, .long 2305843009213693950])
  obtain ⟨_, _, ⟨T1182, L1182, kk1182, n1182⟩, -, X1182, ⟨Lc1182, hQ1182, l1182, y1182, z1182⟩, st1182⟩ := Jvm.LawKit.callS X1181 hx (y := yy6) hown (mvT hZ (w53 hw)) (mvT hZ (w54 hw)) (mvT hZ (w55 hw)) (mvT hZ (w56 hw)) (by decide) (backOf (W := 0) (rm9a l Z a0 hw [] q7 h1167 n0 (Nat.le_trans Z0 KK1167.1) ) hZ (w56 hw) (w55 hw) (by decide) (by decide)) (g := (mkF m 244 #[rv o0, iv 0, iv 3, jv 2305843009213693950, sc, iv 1, iv 6, rv b1053, jv 0, sc, rv b1057, iv 6, jv 2305843009213693950, sc, iv 5] [.long q7, .long 2305843009213693950])) rfl (by rw [hml]; rfl) (argsL := [.long 2305843009213693950, .long q7]) (rest := []) (lenOf pd_5 rfl) rfl (by show 2 * 0 + _ ≤ _; exact Nat.le_of_eq rfl) (hb hby d7_244) (fun _ _ => ⟨rfl, e1181, (by decide : 2 + 0 ≤ _), (by decide : 16 + 0 ≤ _)⟩)
  dsimp only [Pt.U, Pt.locs, Pt.cells, Pt.slots] at X1182 l1182 y1182 z1182 st1182 hQ1182
  replace l1182 := l1182.symm
  subst l1182 y1182 z1182
  obtain ⟨rfl, Nq1182, e1182⟩ := hQ1182
  have N1182 := Fr.app N1177 Nq1182
  refine gO st1182 ?_
  show OGl _ _ _ _ T1182 (mkF m 247 #[rv o0, iv 0, iv 3, jv 2305843009213693950, sc, iv 1, iv 6, rv b1053, jv 0, sc, rv b1057, iv 6, jv 2305843009213693950, sc, iv 5] [.long (t9a_0 q7)])
  refine gO (fun t k => sl X1182 hx hby (L' := #[rv o0, iv 0, iv 3, jv 2305843009213693950, sc, iv 1, iv 6, rv b1053, jv 0, sc, rv b1057, iv 6, jv (t9a_0 q7), sc, iv 5]) d7_247 rfl (kaN X1182 hx hby d7_249 rfl rfl k)) (gG X1182 hx hby hZ hown (w13 hw) e1182 F1178 d7_250 fun T1183 X1183 e1183 => gO (fun t k => ka X1183 hx hby d7_253 rfl rfl (ki X1183 hx hby d7_255 rfl (rI X1183 hx hby hZ e1183 F1175 (.int 4) rfl rfl d7_257 (kc X1183 hx hby d7_258 (o_ixor X1183 hx hby d7_259 (rI X1183 hx hby hZ e1183 F1180 (.int 4) rfl rfl d7_260 (si X1183 hx hby (L' := #[rv o0, iv 0, iv 3, jv 2305843009213693950, sc, iv 1, iv 6, rv b1053, jv 0, sc, rv b1057, iv 6, jv (t9a_0 q7), sc, iv 4]) d7_261 rfl (o_goto X1183 hx hby 225 d7_263 rfl (ki X1183 hx hby d7_225 rfl (ki X1183 hx hby d7_227 rfl (cN X1183 hx hby d7_229 (feq (by decide : ¬ ((4 : Int32) = (1 : Int32)))).1 (kl X1183 hx hby d7_232 rfl (kaN X1183 hx hby d7_234 rfl rfl k))))))))))))) (gG X1183 hx hby hZ hown (w18 hw) e1183 F1171 d7_235 fun T1184 X1184 e1184 => gO (fun t k => ka X1184 hx hby d7_238 rfl rfl (ki X1184 hx hby d7_240 rfl (rI X1184 hx hby hZ e1184 F1175 (.int 10) rfl rfl d7_242 (rJ X1184 hx hby hZ e1184 F1173 (.long 2305843009213693951) rfl rfl d7_243 k)))) ?_))
  show OGl _ _ _ _ T1184 (mkF m 244 #[rv o0, iv 0, iv 3, jv 2305843009213693950, sc, iv 1, iv 6, rv b1053, jv 0, sc, rv b1057, iv 6, jv (t9a_0 q7), sc, iv 4] [.long 2305843009213693951, .long (t9a_0 q7)])
  obtain ⟨_, _, ⟨T1185, L1185, kk1185, n1185⟩, -, X1185, ⟨Lc1185, hQ1185, l1185, y1185, z1185⟩, st1185⟩ := Jvm.LawKit.callS X1184 hx (y := yy6) hown (mvT hZ (w53 hw)) (mvT hZ (w54 hw)) (mvT hZ (w55 hw)) (mvT hZ (w56 hw)) (by decide) (backOf (W := 0) (rm9b l Z a0 hw [] (t9a_0 q7) h1167 n0 (Nat.le_trans Z0 KK1167.1) ) hZ (w56 hw) (w55 hw) (by decide) (by decide)) (g := (mkF m 244 #[rv o0, iv 0, iv 3, jv 2305843009213693950, sc, iv 1, iv 6, rv b1053, jv 0, sc, rv b1057, iv 6, jv (t9a_0 q7), sc, iv 4] [.long 2305843009213693951, .long (t9a_0 q7)])) rfl (by rw [hml]; rfl) (argsL := [.long (t9a_0 q7), .long 2305843009213693951]) (rest := []) (lenOf pd_5 rfl) rfl (by show 2 * 0 + _ ≤ _; exact Nat.le_of_eq rfl) (hb hby d7_244) (fun _ _ => ⟨rfl, e1184, (by decide : 2 + 0 ≤ _), (by decide : 16 + 0 ≤ _)⟩)
  dsimp only [Pt.U, Pt.locs, Pt.cells, Pt.slots] at X1185 l1185 y1185 z1185 st1185 hQ1185
  replace l1185 := l1185.symm
  subst l1185 y1185 z1185
  obtain ⟨rfl, Nq1185, e1185⟩ := hQ1185
  have N1185 := Fr.app N1182 Nq1185
  refine gO st1185 ?_
  show OGl _ _ _ _ T1185 (mkF m 247 #[rv o0, iv 0, iv 3, jv 2305843009213693950, sc, iv 1, iv 6, rv b1053, jv 0, sc, rv b1057, iv 6, jv (t9a_0 q7), sc, iv 4] [.long (t9b_0 (t9a_0 q7))])
  refine gO (fun t k => sl X1185 hx hby (L' := #[rv o0, iv 0, iv 3, jv 2305843009213693950, sc, iv 1, iv 6, rv b1053, jv 0, sc, rv b1057, iv 6, jv (t9b_0 (t9a_0 q7)), sc, iv 4]) d7_247 rfl (kaN X1185 hx hby d7_249 rfl rfl k)) (gG X1185 hx hby hZ hown (w13 hw) e1185 F1178 d7_250 fun T1186 X1186 e1186 => gO (fun t k => ka X1186 hx hby d7_253 rfl rfl (ki X1186 hx hby d7_255 rfl (rI X1186 hx hby hZ e1186 F1175 (.int 10) rfl rfl d7_257 (kc X1186 hx hby d7_258 (o_ixor X1186 hx hby d7_259 (rI X1186 hx hby hZ e1186 F1180 (.int 3) rfl rfl d7_260 (si X1186 hx hby (L' := #[rv o0, iv 0, iv 3, jv 2305843009213693950, sc, iv 1, iv 6, rv b1053, jv 0, sc, rv b1057, iv 6, jv (t9b_0 (t9a_0 q7)), sc, iv 3]) d7_261 rfl (o_goto X1186 hx hby 225 d7_263 rfl (ki X1186 hx hby d7_225 rfl (ki X1186 hx hby d7_227 rfl (cN X1186 hx hby d7_229 (feq (by decide : ¬ ((3 : Int32) = (1 : Int32)))).1 (kl X1186 hx hby d7_232 rfl (kaN X1186 hx hby d7_234 rfl rfl k))))))))))))) (gG X1186 hx hby hZ hown (w18 hw) e1186 F1171 d7_235 fun T1187 X1187 e1187 => gO (fun t k => ka X1187 hx hby d7_238 rfl rfl (ki X1187 hx hby d7_240 rfl (rI X1187 hx hby hZ e1187 F1175 (.int 2) rfl rfl d7_242 (rJ X1187 hx hby hZ e1187 F1173 (.long q6) rfl rfl d7_243 k)))) ?_))
  show OGl _ _ _ _ T1187 (mkF m 244 #[rv o0, iv 0, iv 3, jv 2305843009213693950, sc, iv 1, iv 6, rv b1053, jv 0, sc, rv b1057, iv 6, jv (t9b_0 (t9a_0 q7)), sc, iv 3] [.long q6, .long (t9b_0 (t9a_0 q7))])
  obtain ⟨_, _, ⟨T1188, L1188, kk1188, n1188⟩, -, X1188, ⟨Lc1188, hQ1188, l1188, y1188, z1188⟩, st1188⟩ := Jvm.LawKit.callS X1187 hx (y := yy6) hown (mvT hZ (w53 hw)) (mvT hZ (w54 hw)) (mvT hZ (w55 hw)) (mvT hZ (w56 hw)) (by decide) (backOf (W := 0) (rm9c l Z a0 hw [] (t9b_0 (t9a_0 q7)) q6 h1167 n0 (Nat.le_trans Z0 KK1167.1) ) hZ (w56 hw) (w55 hw) (by decide) (by decide)) (g := (mkF m 244 #[rv o0, iv 0, iv 3, jv 2305843009213693950, sc, iv 1, iv 6, rv b1053, jv 0, sc, rv b1057, iv 6, jv (t9b_0 (t9a_0 q7)), sc, iv 3] [.long q6, .long (t9b_0 (t9a_0 q7))])) rfl (by rw [hml]; rfl) (argsL := [.long (t9b_0 (t9a_0 q7)), .long q6]) (rest := []) (lenOf pd_5 rfl) rfl (by show 2 * 0 + _ ≤ _; exact Nat.le_of_eq rfl) (hb hby d7_244) (fun _ _ => ⟨rfl, e1187, (by decide : 2 + 0 ≤ _), (by decide : 16 + 0 ≤ _)⟩)
  dsimp only [Pt.U, Pt.locs, Pt.cells, Pt.slots] at X1188 l1188 y1188 z1188 st1188 hQ1188
  replace l1188 := l1188.symm
  subst l1188 y1188 z1188
  obtain ⟨rfl, Nq1188, e1188⟩ := hQ1188
  have N1188 := Fr.app N1185 Nq1188
  refine gO st1188 ?_
  show OGl _ _ _ _ T1188 (mkF m 247 #[rv o0, iv 0, iv 3, jv 2305843009213693950, sc, iv 1, iv 6, rv b1053, jv 0, sc, rv b1057, iv 6, jv (t9b_0 (t9a_0 q7)), sc, iv 3] [.long (t9c_0 (t9b_0 (t9a_0 q7)) q6)])
  refine gO (fun t k => sl X1188 hx hby (L' := #[rv o0, iv 0, iv 3, jv 2305843009213693950, sc, iv 1, iv 6, rv b1053, jv 0, sc, rv b1057, iv 6, jv (t9c_0 (t9b_0 (t9a_0 q7)) q6), sc, iv 3]) d7_247 rfl (kaN X1188 hx hby d7_249 rfl rfl k)) (gG X1188 hx hby hZ hown (w13 hw) e1188 F1178 d7_250 fun T1189 X1189 e1189 => gO (fun t k => ka X1189 hx hby d7_253 rfl rfl (ki X1189 hx hby d7_255 rfl (rI X1189 hx hby hZ e1189 F1175 (.int 2) rfl rfl d7_257 (kc X1189 hx hby d7_258 (o_ixor X1189 hx hby d7_259 (rI X1189 hx hby hZ e1189 F1180 (.int 2) rfl rfl d7_260 (si X1189 hx hby (L' := #[rv o0, iv 0, iv 3, jv 2305843009213693950, sc, iv 1, iv 6, rv b1053, jv 0, sc, rv b1057, iv 6, jv (t9c_0 (t9b_0 (t9a_0 q7)) q6), sc, iv 2]) d7_261 rfl (o_goto X1189 hx hby 225 d7_263 rfl (ki X1189 hx hby d7_225 rfl (ki X1189 hx hby d7_227 rfl (cN X1189 hx hby d7_229 (feq (by decide : ¬ ((2 : Int32) = (1 : Int32)))).1 (kl X1189 hx hby d7_232 rfl (kaN X1189 hx hby d7_234 rfl rfl k))))))))))))) (gG X1189 hx hby hZ hown (w18 hw) e1189 F1171 d7_235 fun T1190 X1190 e1190 => gO (fun t k => ka X1190 hx hby d7_238 rfl rfl (ki X1190 hx hby d7_240 rfl (rI X1190 hx hby hZ e1190 F1175 (.int 8) rfl rfl d7_242 (rJ X1190 hx hby hZ e1190 F1173 (.long 2305843009213693951) rfl rfl d7_243 k)))) ?_))
  show OGl _ _ _ _ T1190 (mkF m 244 #[rv o0, iv 0, iv 3, jv 2305843009213693950, sc, iv 1, iv 6, rv b1053, jv 0, sc, rv b1057, iv 6, jv (t9c_0 (t9b_0 (t9a_0 q7)) q6), sc, iv 2] [.long 2305843009213693951, .long (t9c_0 (t9b_0 (t9a_0 q7)) q6)])
  obtain ⟨_, _, ⟨T1191, L1191, kk1191, n1191⟩, -, X1191, ⟨Lc1191, hQ1191, l1191, y1191, z1191⟩, st1191⟩ := Jvm.LawKit.callS X1190 hx (y := yy6) hown (mvT hZ (w53 hw)) (mvT hZ (w54 hw)) (mvT hZ (w55 hw)) (mvT hZ (w56 hw)) (by decide) (backOf (W := 0) (rm9b l Z a0 hw [] (t9c_0 (t9b_0 (t9a_0 q7)) q6) h1167 n0 (Nat.le_trans Z0 KK1167.1) ) hZ (w56 hw) (w55 hw) (by decide) (by decide)) (g := (mkF m 244 #[rv o0, iv 0, iv 3, jv 2305843009213693950, sc, iv 1, iv 6, rv b1053, jv 0, sc, rv b1057, iv 6, jv (t9c_0 (t9b_0 (t9a_0 q7)) q6), sc, iv 2] [.long 2305843009213693951, .long (t9c_0 (t9b_0 (t9a_0 q7)) q6)])) rfl (by rw [hml]; rfl) (argsL := [.long (t9c_0 (t9b_0 (t9a_0 q7)) q6), .long 2305843009213693951]) (rest := []) (lenOf pd_5 rfl) rfl (by show 2 * 0 + _ ≤ _; exact Nat.le_of_eq rfl) (hb hby d7_244) (fun _ _ => ⟨rfl, e1190, (by decide : 2 + 0 ≤ _), (by decide : 16 + 0 ≤ _)⟩)
  dsimp only [Pt.U, Pt.locs, Pt.cells, Pt.slots] at X1191 l1191 y1191 z1191 st1191 hQ1191
  replace l1191 := l1191.symm
  subst l1191 y1191 z1191
  obtain ⟨rfl, Nq1191, e1191⟩ := hQ1191
  have N1191 := Fr.app N1188 Nq1191
  refine gO st1191 ?_
  show OGl _ _ _ _ T1191 (mkF m 247 #[rv o0, iv 0, iv 3, jv 2305843009213693950, sc, iv 1, iv 6, rv b1053, jv 0, sc, rv b1057, iv 6, jv (t9c_0 (t9b_0 (t9a_0 q7)) q6), sc, iv 2] [.long (e7a_0 q6 q7)])
  refine gO (fun t k => sl X1191 hx hby (L' := #[rv o0, iv 0, iv 3, jv 2305843009213693950, sc, iv 1, iv 6, rv b1053, jv 0, sc, rv b1057, iv 6, jv (e7a_0 q6 q7), sc, iv 2]) d7_247 rfl (kaN X1191 hx hby d7_249 rfl rfl k)) (gG X1191 hx hby hZ hown (w13 hw) e1191 F1178 d7_250 fun T1192 X1192 e1192 => gO (fun t k => ka X1192 hx hby d7_253 rfl rfl (ki X1192 hx hby d7_255 rfl (rI X1192 hx hby hZ e1192 F1175 (.int 8) rfl rfl d7_257 (kc X1192 hx hby d7_258 (o_ixor X1192 hx hby d7_259 (rI X1192 hx hby hZ e1192 F1180 (.int 1) rfl rfl d7_260 (si X1192 hx hby (L' := #[rv o0, iv 0, iv 3, jv 2305843009213693950, sc, iv 1, iv 6, rv b1053, jv 0, sc, rv b1057, iv 6, jv (e7a_0 q6 q7), sc, iv 1]) d7_261 rfl (o_goto X1192 hx hby 225 d7_263 rfl (ki X1192 hx hby d7_225 rfl (ki X1192 hx hby d7_227 rfl (cY X1192 hx hby 266 d7_229 (teq (by decide : (1 : Int32) = (1 : Int32))).1 rfl (ki X1192 hx hby d7_266 rfl (si X1192 hx hby (L' := #[rv o0, iv 0, iv 3, jv 2305843009213693950, sc, iv 1, iv 6, rv b1053, jv 0, sc, rv b1057, iv 6, jv (e7a_0 q6 q7), sc, iv 6]) d7_268 rfl (ki X1192 hx hby d7_270 rfl (ki X1192 hx hby d7_272 rfl (cN X1192 hx hby d7_274 (feq (by decide : ¬ ((6 : Int32) = (1 : Int32)))).1 (kaN X1192 hx hby d7_277 rfl rfl k))))))))))))))))) (gG X1192 hx hby hZ hown (w18 hw) e1192 F1171 d7_278 fun T1193 X1193 e1193 => gO (fun t k => ka X1193 hx hby d7_281 rfl rfl (ki X1193 hx hby d7_283 rfl (rI X1193 hx hby hZ e1193 F1175 (.int 12) rfl rfl d7_285 (Jvm.Free.XT.dup2 X1193.here hx rfl (hb hby d7_286) rfl rfl rfl (rJ X1193 hx hby hZ e1193 F1173 (.long 2305843009213693951) rfl rfl d7_287 (kl X1193 hx hby d7_288 rfl (o_lsub X1193 hx hby d7_290 k))))))) ?_))
  show OGl _ _ _ _ T1193 (mkF m 291 #[rv o0, iv 0, iv 3, jv 2305843009213693950, sc, iv 1, iv 6, rv b1053, jv 0, sc, rv b1057, iv 6, jv (e7a_0 q6 q7), sc, iv 6] [.long (e7a_1 q6 q7), .int 12, .ref o3])
  refine wJ X1193 hx hby hZ e1193 F1173 12 rfl (Nat.le_of_ble_eq_true rfl) d7_291 fun T1194 h1194 X1194 e1194 W1194 V1194 => ?_
  have N1194 := Fr.snoc X1194 N1191 g_o3
  have KK1194 := KK1167.wr W1194 (Or.inl (List.mem_of_getElem? (i := 0) rfl))
  show OGl _ _ _ _ T1194 (mkF m 292 #[rv o0, iv 0, iv 3, jv 2305843009213693950, sc, iv 1, iv 6, rv b1053, jv 0, sc, rv b1057, iv 6, jv (e7a_0 q6 q7), sc, iv 6] [])
  have F1195 := (F1171.other W1194 (Or.inl ne_o0_o3))
  have F1197 := (F1175.other W1194 (Ne.symm ne_o3_b1053))
  refine gO (fun t k => kaN X1194 hx hby d7_292 rfl rfl k) (gG X1194 hx hby hZ hown (w18 hw) e1194 F1195 d7_293 fun T1196 X1196 e1196 => gO (fun t k => ka X1196 hx hby d7_296 rfl rfl (ki X1196 hx hby d7_298 rfl (rI X1196 hx hby hZ e1196 F1197 (.int 12) rfl rfl d7_300 (kc X1196 hx hby d7_301 (o_ixor X1196 hx hby d7_302 (Jvm.Free.XT.dup2 X1196.here hx rfl (hb hby d7_303) rfl rfl rfl (rJ X1196 hx hby hZ e1196 V1194 (.long 0) rfl rfl d7_304 (kl X1196 hx hby d7_305 rfl (o_ladd X1196 hx hby d7_307 k))))))))) ?_)
  show OGl _ _ _ _ T1196 (mkF m 308 #[rv o0, iv 0, iv 3, jv 2305843009213693950, sc, iv 1, iv 6, rv b1053, jv 0, sc, rv b1057, iv 6, jv (e7a_0 q6 q7), sc, iv 6] [.long ((0 : Int64) + (e7a_0 q6 q7)), .int 13, .ref o3])
  refine wJ X1196 hx hby hZ e1196 V1194 13 rfl (Nat.le_of_ble_eq_true rfl) d7_308 fun T1198 h1198 X1198 e1198 W1198 V1198 => ?_
  have N1198 := Fr.snoc X1198 N1194 g_o3
  have KK1198 := KK1194.wr W1198 (Or.inl (List.mem_of_getElem? (i := 0) rfl))
  show OGl _ _ _ _ T1198 (mkF m 309 #[rv o0, iv 0, iv 3, jv 2305843009213693950, sc, iv 1, iv 6, rv b1053, jv 0, sc, rv b1057, iv 6, jv (e7a_0 q6 q7), sc, iv 6] [])
  have F1199 := ((F1178.other W1194 (Or.inl ne_o0_o3)).other W1198 (Or.inl ne_o0_o3))
  have F1201 := (F1197.other W1198 (Ne.symm ne_o3_b1053))
  have F1202 := ((F1180.other W1194 ne_o9_o3).other W1198 ne_o9_o3)
  have F1203 := (F1195.other W1198 (Or.inl ne_o0_o3))
  refine gO (fun t k => kaN X1198 hx hby d7_309 rfl rfl k) (gG X1198 hx hby hZ hown (w13 hw) e1198 F1199 d7_310 fun T1200 X1200 e1200 => gO (fun t k => ka X1200 hx hby d7_313 rfl rfl (ki X1200 hx hby d7_315 rfl (rI X1200 hx hby hZ e1200 F1201 (.int 12) rfl rfl d7_317 (kc X1200 hx hby d7_318 (o_ixor X1200 hx hby d7_319 (rI X1200 hx hby hZ e1200 F1202 (.int 5) rfl rfl d7_320 (si X1200 hx hby (L' := #[rv o0, iv 0, iv 3, jv 2305843009213693950, sc, iv 1, iv 6, rv b1053, jv 0, sc, rv b1057, iv 6, jv (e7a_0 q6 q7), sc, iv 5]) d7_321 rfl (o_goto X1200 hx hby 270 d7_323 rfl (ki X1200 hx hby d7_270 rfl (ki X1200 hx hby d7_272 rfl (cN X1200 hx hby d7_274 (feq (by decide : ¬ ((5 : Int32) = (1 : Int32)))).1 (kaN X1200 hx hby d7_277 rfl rfl k)))))))))))) (gG X1200 hx hby hZ hown (w18 hw) e1200 F1203 d7_278 fun T1204 X1204 e1204 => gO (fun t k => ka X1204 hx hby d7_281 rfl rfl (ki X1204 hx hby d7_283 rfl (rI X1204 hx hby hZ e1204 F1201 (.int 4) rfl rfl d7_285 (Jvm.Free.XT.dup2 X1204.here hx rfl (hb hby d7_286) rfl rfl rfl (rJ X1204 hx hby hZ e1204 V1198 (.long q7) rfl rfl d7_287 (kl X1204 hx hby d7_288 rfl (o_lsub X1204 hx hby d7_290 k))))))) ?_))
  show OGl _ _ _ _ T1204 (mkF m 291 #[rv o0, iv 0, iv 3, jv 2305843009213693950, sc, iv 1, iv 6, rv b1053, jv 0, sc, rv b1057, iv 6, jv (e7a_0 q6 q7), sc, iv 5] [.long (q7 - (e7a_0 q6 q7)), .int 4, .ref o3])
  refine wJ X1204 hx hby hZ e1204 V1198 4 rfl (Nat.le_of_ble_eq_true rfl) d7_291 fun T1205 h1205 X1205 e1205 W1205 V1205 => ?_
  have N1205 := Fr.snoc X1205 N1198 g_o3
  have KK1205 := KK1198.wr W1205 (Or.inl (List.mem_of_getElem? (i := 0) rfl))
  show OGl _ _ _ _ T1205 (mkF m 292 #[rv o0, iv 0, iv 3, jv 2305843009213693950, sc, iv 1, iv 6, rv b1053, jv 0, sc, rv b1057, iv 6, jv (e7a_0 q6 q7), sc, iv 5] [])
  have F1206 := (F1203.other W1205 (Or.inl ne_o0_o3))
  have F1208 := (F1201.other W1205 (Ne.symm ne_o3_b1053))
  refine gO (fun t k => kaN X1205 hx hby d7_292 rfl rfl k) (gG X1205 hx hby hZ hown (w18 hw) e1205 F1206 d7_293 fun T1207 X1207 e1207 => gO (fun t k => ka X1207 hx hby d7_296 rfl rfl (ki X1207 hx hby d7_298 rfl (rI X1207 hx hby hZ e1207 F1208 (.int 4) rfl rfl d7_300 (kc X1207 hx hby d7_301 (o_ixor X1207 hx hby d7_302 (Jvm.Free.XT.dup2 X1207.here hx rfl (hb hby d7_303) rfl rfl rfl (rJ X1207 hx hby hZ e1207 V1205 (.long 0) rfl rfl d7_304 (kl X1207 hx hby d7_305 rfl (o_ladd X1207 hx hby d7_307 k))))))))) ?_)
  show OGl _ _ _ _ T1207 (mkF m 308 #[rv o0, iv 0, iv 3, jv 2305843009213693950, sc, iv 1, iv 6, rv b1053, jv 0, sc, rv b1057, iv 6, jv (e7a_0 q6 q7), sc, iv 5] [.long ((0 : Int64) + (e7a_0 q6 q7)), .int 5, .ref o3])
  refine wJ X1207 hx hby hZ e1207 V1205 5 rfl (Nat.le_of_ble_eq_true rfl) d7_308 fun T1209 h1209 X1209 e1209 W1209 V1209 => ?_
  have N1209 := Fr.snoc X1209 N1205 g_o3
  have KK1209 := KK1205.wr W1209 (Or.inl (List.mem_of_getElem? (i := 0) rfl))
  show OGl _ _ _ _ T1209 (mkF m 309 #[rv o0, iv 0, iv 3, jv 2305843009213693950, sc, iv 1, iv 6, rv b1053, jv 0, sc, rv b1057, iv 6, jv (e7a_0 q6 q7), sc, iv 5] [])
  have F1210 := ((F1199.other W1205 (Or.inl ne_o0_o3)).other W1209 (Or.inl ne_o0_o3))
  have F1212 := (F1208.other W1209 (Ne.symm ne_o3_b1053))
  have F1213 := ((F1202.other W1205 ne_o9_o3).other W1209 ne_o9_o3)
  have F1214 := (F1206.other W1209 (Or.inl ne_o0_o3))
  refine gO (fun t k => kaN X1209 hx hby d7_309 rfl rfl k) (gG X1209 hx hby hZ hown (w13 hw) e1209 F1210 d7_310 fun T1211 X1211 e1211 => gO (fun t k => ka X1211 hx hby d7_313 rfl rfl (ki X1211 hx hby d7_315 rfl (rI X1211 hx hby hZ e1211 F1212 (.int 4) rfl rfl d7_317 (kc X1211 hx hby d7_318 (o_ixor X1211 hx hby d7_319 (rI X1211 hx hby hZ e1211 F1213 (.int 4) rfl rfl d7_320 (si X1211 hx hby (L' := #[rv o0, iv 0, iv 3, jv 2305843009213693950, sc, iv 1, iv 6, rv b1053, jv 0, sc, rv b1057, iv 6, jv (e7a_0 q6 q7), sc, iv 4]) d7_321 rfl (o_goto X1211 hx hby 270 d7_323 rfl (ki X1211 hx hby d7_270 rfl (ki X1211 hx hby d7_272 rfl (cN X1211 hx hby d7_274 (feq (by decide : ¬ ((4 : Int32) = (1 : Int32)))).1 (kaN X1211 hx hby d7_277 rfl rfl k)))))))))))) (gG X1211 hx hby hZ hown (w18 hw) e1211 F1214 d7_278 fun T1215 X1215 e1215 => gO (fun t k => ka X1215 hx hby d7_281 rfl rfl (ki X1215 hx hby d7_283 rfl (rI X1215 hx hby hZ e1215 F1212 (.int 10) rfl rfl d7_285 (Jvm.Free.XT.dup2 X1215.here hx rfl (hb hby d7_286) rfl rfl rfl (rJ X1215 hx hby hZ e1215 V1209 (.long 2305843009213693951) rfl rfl d7_287 (kl X1215 hx hby d7_288 rfl (o_lsub X1215 hx hby d7_290 k))))))) ?_))
  show OGl _ _ _ _ T1215 (mkF m 291 #[rv o0, iv 0, iv 3, jv 2305843009213693950, sc, iv 1, iv 6, rv b1053, jv 0, sc, rv b1057, iv 6, jv (e7a_0 q6 q7), sc, iv 4] [.long (e7a_1 q6 q7), .int 10, .ref o3])
  refine wJ X1215 hx hby hZ e1215 V1209 10 rfl (Nat.le_of_ble_eq_true rfl) d7_291 fun T1216 h1216 X1216 e1216 W1216 V1216 => ?_
  have N1216 := Fr.snoc X1216 N1209 g_o3
  have KK1216 := KK1209.wr W1216 (Or.inl (List.mem_of_getElem? (i := 0) rfl))
  show OGl _ _ _ _ T1216 (mkF m 292 #[rv o0, iv 0, iv 3, jv 2305843009213693950, sc, iv 1, iv 6, rv b1053, jv 0, sc, rv b1057, iv 6, jv (e7a_0 q6 q7), sc, iv 4] [])
  have F1217 := (F1214.other W1216 (Or.inl ne_o0_o3))
  have F1219 := (F1212.other W1216 (Ne.symm ne_o3_b1053))
  refine gO (fun t k => kaN X1216 hx hby d7_292 rfl rfl k) (gG X1216 hx hby hZ hown (w18 hw) e1216 F1217 d7_293 fun T1218 X1218 e1218 => gO (fun t k => ka X1218 hx hby d7_296 rfl rfl (ki X1218 hx hby d7_298 rfl (rI X1218 hx hby hZ e1218 F1219 (.int 10) rfl rfl d7_300 (kc X1218 hx hby d7_301 (o_ixor X1218 hx hby d7_302 (Jvm.Free.XT.dup2 X1218.here hx rfl (hb hby d7_303) rfl rfl rfl (rJ X1218 hx hby hZ e1218 V1216 (.long 0) rfl rfl d7_304 (kl X1218 hx hby d7_305 rfl (o_ladd X1218 hx hby d7_307 k))))))))) ?_)
  show OGl _ _ _ _ T1218 (mkF m 308 #[rv o0, iv 0, iv 3, jv 2305843009213693950, sc, iv 1, iv 6, rv b1053, jv 0, sc, rv b1057, iv 6, jv (e7a_0 q6 q7), sc, iv 4] [.long ((0 : Int64) + (e7a_0 q6 q7)), .int 11, .ref o3])
  refine wJ X1218 hx hby hZ e1218 V1216 11 rfl (Nat.le_of_ble_eq_true rfl) d7_308 fun T1220 h1220 X1220 e1220 W1220 V1220 => ?_
  have N1220 := Fr.snoc X1220 N1216 g_o3
  have KK1220 := KK1216.wr W1220 (Or.inl (List.mem_of_getElem? (i := 0) rfl))
  show OGl _ _ _ _ T1220 (mkF m 309 #[rv o0, iv 0, iv 3, jv 2305843009213693950, sc, iv 1, iv 6, rv b1053, jv 0, sc, rv b1057, iv 6, jv (e7a_0 q6 q7), sc, iv 4] [])
  have F1221 := ((F1210.other W1216 (Or.inl ne_o0_o3)).other W1220 (Or.inl ne_o0_o3))
  have F1223 := (F1219.other W1220 (Ne.symm ne_o3_b1053))
  have F1224 := ((F1213.other W1216 ne_o9_o3).other W1220 ne_o9_o3)
  have F1225 := (F1217.other W1220 (Or.inl ne_o0_o3))
  refine gO (fun t k => kaN X1220 hx hby d7_309 rfl rfl k) (gG X1220 hx hby hZ hown (w13 hw) e1220 F1221 d7_310 fun T1222 X1222 e1222 => gO (fun t k => ka X1222 hx hby d7_313 rfl rfl (ki X1222 hx hby d7_315 rfl (rI X1222 hx hby hZ e1222 F1223 (.int 10) rfl rfl d7_317 (kc X1222 hx hby d7_318 (o_ixor X1222 hx hby d7_319 (rI X1222 hx hby hZ e1222 F1224 (.int 3) rfl rfl d7_320 (si X1222 hx hby (L' := #[rv o0, iv 0, iv 3, jv 2305843009213693950, sc, iv 1, iv 6, rv b1053, jv 0, sc, rv b1057, iv 6, jv (e7a_0 q6 q7), sc, iv 3]) d7_321 rfl (o_goto X1222 hx hby 270 d7_323 rfl (ki X1222 hx hby d7_270 rfl (ki X1222 hx hby d7_272 rfl (cN X1222 hx hby d7_274 (feq (by decide : ¬ ((3 : Int32) = (1 : Int32)))).1 (kaN X1222 hx hby d7_277 rfl rfl k)))))))))))) (gG X1222 hx hby hZ hown (w18 hw) e1222 F1225 d7_278 fun T1226 X1226 e1226 => gO (fun t k => ka X1226 hx hby d7_281 rfl rfl (ki X1226 hx hby d7_283 rfl (rI X1226 hx hby hZ e1226 F1223 (.int 2) rfl rfl d7_285 (Jvm.Free.XT.dup2 X1226.here hx rfl (hb hby d7_286) rfl rfl rfl (rJ X1226 hx hby hZ e1226 V1220 (.long q6) rfl rfl d7_287 (kl X1226 hx hby d7_288 rfl (o_lsub X1226 hx hby d7_290 k))))))) ?_))
  show OGl _ _ _ _ T1226 (mkF m 291 #[rv o0, iv 0, iv 3, jv 2305843009213693950, sc, iv 1, iv 6, rv b1053, jv 0, sc, rv b1057, iv 6, jv (e7a_0 q6 q7), sc, iv 3] [.long (q6 - (e7a_0 q6 q7)), .int 2, .ref o3])
  refine wJ X1226 hx hby hZ e1226 V1220 2 rfl (Nat.le_of_ble_eq_true rfl) d7_291 fun T1227 h1227 X1227 e1227 W1227 V1227 => ?_
  have N1227 := Fr.snoc X1227 N1220 g_o3
  have KK1227 := KK1220.wr W1227 (Or.inl (List.mem_of_getElem? (i := 0) rfl))
  show OGl _ _ _ _ T1227 (mkF m 292 #[rv o0, iv 0, iv 3, jv 2305843009213693950, sc, iv 1, iv 6, rv b1053, jv 0, sc, rv b1057, iv 6, jv (e7a_0 q6 q7), sc, iv 3] [])
  have F1228 := (F1225.other W1227 (Or.inl ne_o0_o3))
  have F1230 := (F1223.other W1227 (Ne.symm ne_o3_b1053))
  refine gO (fun t k => kaN X1227 hx hby d7_292 rfl rfl k) (gG X1227 hx hby hZ hown (w18 hw) e1227 F1228 d7_293 fun T1229 X1229 e1229 => gO (fun t k => ka X1229 hx hby d7_296 rfl rfl (ki X1229 hx hby d7_298 rfl (rI X1229 hx hby hZ e1229 F1230 (.int 2) rfl rfl d7_300 (kc X1229 hx hby d7_301 (o_ixor X1229 hx hby d7_302 (Jvm.Free.XT.dup2 X1229.here hx rfl (hb hby d7_303) rfl rfl rfl (rJ X1229 hx hby hZ e1229 V1227 (.long 0) rfl rfl d7_304 (kl X1229 hx hby d7_305 rfl (o_ladd X1229 hx hby d7_307 k))))))))) ?_)
  show OGl _ _ _ _ T1229 (mkF m 308 #[rv o0, iv 0, iv 3, jv 2305843009213693950, sc, iv 1, iv 6, rv b1053, jv 0, sc, rv b1057, iv 6, jv (e7a_0 q6 q7), sc, iv 3] [.long ((0 : Int64) + (e7a_0 q6 q7)), .int 3, .ref o3])
  refine wJ X1229 hx hby hZ e1229 V1227 3 rfl (Nat.le_of_ble_eq_true rfl) d7_308 fun T1231 h1231 X1231 e1231 W1231 V1231 => ?_
  have N1231 := Fr.snoc X1231 N1227 g_o3
  have KK1231 := KK1227.wr W1231 (Or.inl (List.mem_of_getElem? (i := 0) rfl))
  show OGl _ _ _ _ T1231 (mkF m 309 #[rv o0, iv 0, iv 3, jv 2305843009213693950, sc, iv 1, iv 6, rv b1053, jv 0, sc, rv b1057, iv 6, jv (e7a_0 q6 q7), sc, iv 3] [])
  have F1232 := ((F1221.other W1227 (Or.inl ne_o0_o3)).other W1231 (Or.inl ne_o0_o3))
  have F1234 := (F1230.other W1231 (Ne.symm ne_o3_b1053))
  have F1235 := ((F1224.other W1227 ne_o9_o3).other W1231 ne_o9_o3)
  have F1236 := (F1228.other W1231 (Or.inl ne_o0_o3))
  refine gO (fun t k => kaN X1231 hx hby d7_309 rfl rfl k) (gG X1231 hx hby hZ hown (w13 hw) e1231 F1232 d7_310 fun T1233 X1233 e1233 => gO (fun t k => ka X1233 hx hby d7_313 rfl rfl (ki X1233 hx hby d7_315 rfl (rI X1233 hx hby hZ e1233 F1234 (.int 2) rfl rfl d7_317 (kc X1233 hx hby d7_318 (o_ixor X1233 hx hby d7_319 (rI X1233 hx hby hZ e1233 F1235 (.int 2) rfl rfl d7_320 (si X1233 hx hby (L' := #[rv o0, iv 0, iv 3, jv 2305843009213693950, sc, iv 1, iv 6, rv b1053, jv 0, sc, rv b1057, iv 6, jv (e7a_0 q6 q7), sc, iv 2]) d7_321 rfl (o_goto X1233 hx hby 270 d7_323 rfl (ki X1233 hx hby d7_270 rfl (ki X1233 hx hby d7_272 rfl (cN X1233 hx hby d7_274 (feq (by decide : ¬ ((2 : Int32) = (1 : Int32)))).1 (kaN X1233 hx hby d7_277 rfl rfl k)))))))))))) (gG X1233 hx hby hZ hown (w18 hw) e1233 F1236 d7_278 fun T1237 X1237 e1237 => gO (fun t k => ka X1237 hx hby d7_281 rfl rfl (ki X1237 hx hby d7_283 rfl (rI X1237 hx hby hZ e1237 F1234 (.int 8) rfl rfl d7_285 (Jvm.Free.XT.dup2 X1237.here hx rfl (hb hby d7_286) rfl rfl rfl (rJ X1237 hx hby hZ e1237 V1231 (.long 2305843009213693951) rfl rfl d7_287 (kl X1237 hx hby d7_288 rfl (o_lsub X1237 hx hby d7_290 k))))))) ?_))
  show OGl _ _ _ _ T1237 (mkF m 291 #[rv o0, iv 0, iv 3, jv 2305843009213693950, sc, iv 1, iv 6, rv b1053, jv 0, sc, rv b1057, iv 6, jv (e7a_0 q6 q7), sc, iv 2] [.long (e7a_1 q6 q7), .int 8, .ref o3])
  refine wJ X1237 hx hby hZ e1237 V1231 8 rfl (Nat.le_of_ble_eq_true rfl) d7_291 fun T1238 h1238 X1238 e1238 W1238 V1238 => ?_
  have N1238 := Fr.snoc X1238 N1231 g_o3
  have KK1238 := KK1231.wr W1238 (Or.inl (List.mem_of_getElem? (i := 0) rfl))
  show OGl _ _ _ _ T1238 (mkF m 292 #[rv o0, iv 0, iv 3, jv 2305843009213693950, sc, iv 1, iv 6, rv b1053, jv 0, sc, rv b1057, iv 6, jv (e7a_0 q6 q7), sc, iv 2] [])
  have F1239 := (F1236.other W1238 (Or.inl ne_o0_o3))
  have F1241 := (F1234.other W1238 (Ne.symm ne_o3_b1053))
  refine gO (fun t k => kaN X1238 hx hby d7_292 rfl rfl k) (gG X1238 hx hby hZ hown (w18 hw) e1238 F1239 d7_293 fun T1240 X1240 e1240 => gO (fun t k => ka X1240 hx hby d7_296 rfl rfl (ki X1240 hx hby d7_298 rfl (rI X1240 hx hby hZ e1240 F1241 (.int 8) rfl rfl d7_300 (kc X1240 hx hby d7_301 (o_ixor X1240 hx hby d7_302 (Jvm.Free.XT.dup2 X1240.here hx rfl (hb hby d7_303) rfl rfl rfl (rJ X1240 hx hby hZ e1240 V1238 (.long 0) rfl rfl d7_304 (kl X1240 hx hby d7_305 rfl (o_ladd X1240 hx hby d7_307 k))))))))) ?_)
  show OGl _ _ _ _ T1240 (mkF m 308 #[rv o0, iv 0, iv 3, jv 2305843009213693950, sc, iv 1, iv 6, rv b1053, jv 0, sc, rv b1057, iv 6, jv (e7a_0 q6 q7), sc, iv 2] [.long ((0 : Int64) + (e7a_0 q6 q7)), .int 9, .ref o3])
  refine wJ X1240 hx hby hZ e1240 V1238 9 rfl (Nat.le_of_ble_eq_true rfl) d7_308 fun T1242 h1242 X1242 e1242 W1242 V1242 => ?_
  have N1242 := Fr.snoc X1242 N1238 g_o3
  have KK1242 := KK1238.wr W1242 (Or.inl (List.mem_of_getElem? (i := 0) rfl))
  show OGl _ _ _ _ T1242 (mkF m 309 #[rv o0, iv 0, iv 3, jv 2305843009213693950, sc, iv 1, iv 6, rv b1053, jv 0, sc, rv b1057, iv 6, jv (e7a_0 q6 q7), sc, iv 2] [])
  have F1243 := ((F1232.other W1238 (Or.inl ne_o0_o3)).other W1242 (Or.inl ne_o0_o3))
  have F1245 := (F1241.other W1242 (Ne.symm ne_o3_b1053))
  have F1246 := ((F1235.other W1238 ne_o9_o3).other W1242 ne_o9_o3)
  refine gO (fun t k => kaN X1242 hx hby d7_309 rfl rfl k) (gG X1242 hx hby hZ hown (w13 hw) e1242 F1243 d7_310 fun T1244 X1244 e1244 => gO (fun t k => ka X1244 hx hby d7_313 rfl rfl (ki X1244 hx hby d7_315 rfl (rI X1244 hx hby hZ e1244 F1245 (.int 8) rfl rfl d7_317 (kc X1244 hx hby d7_318 (o_ixor X1244 hx hby d7_319 (rI X1244 hx hby hZ e1244 F1246 (.int 1) rfl rfl d7_320 (si X1244 hx hby (L' := #[rv o0, iv 0, iv 3, jv 2305843009213693950, sc, iv 1, iv 6, rv b1053, jv 0, sc, rv b1057, iv 6, jv (e7a_0 q6 q7), sc, iv 1]) d7_321 rfl (o_goto X1244 hx hby 270 d7_323 rfl (ki X1244 hx hby d7_270 rfl (ki X1244 hx hby d7_272 rfl (cY X1244 hx hby 326 d7_274 (teq (by decide : (1 : Int32) = (1 : Int32))).1 rfl (kl X1244 hx hby d7_326 rfl (kl X1244 hx hby d7_328 rfl (o_ladd X1244 hx hby d7_330 (sl X1244 hx hby (L' := #[rv o0, iv 0, iv 3, jv 2305843009213693950, sc, iv 1, iv 6, rv b1053, jv ((0 : Int64) + (e7a_0 q6 q7)), sc, rv b1057, iv 6, jv (e7a_0 q6 q7), sc, iv 1]) d7_331 rfl (o_goto X1244 hx hby 23 d7_333 rfl (kl X1244 hx hby d7_23 rfl (klN X1244 hx hby d7_25 rfl (o_lcmp X1244 hx hby d7_26 (iN X1244 hx hby d7_27 (own_tltL hp15_7a).2.1 (ka X1244 hx hby d7_30 rfl rfl (kc X1244 hx hby d7_32 k)))))))))))))))))))))) ?_)
  show OGl _ _ _ _ T1244 (mkF m 33 #[rv o0, iv 0, iv 3, jv 2305843009213693950, sc, iv 1, iv 6, rv b1053, jv ((0 : Int64) + (e7a_0 q6 q7)), sc, rv b1057, iv 6, jv (e7a_0 q6 q7), sc, iv 1] [.int (-1), .ref b1053])
  have F1248 : Arv Z h1242 b1053 k1053 .int 8 [.int (-1), .int 14, .int 8, .int 2, .int 10, .int 4, .int 12, .int (-1)] (.int 0) := F1245
  obtain ⟨_, _, ⟨T1247, L1247, kk1247, n1247⟩, -, X1247, ⟨Lc1247, hQ1247, l1247, y1247, z1247⟩, st1247⟩ := Jvm.LawKit.callS X1244 hx (y := yy5) hown (mvT hZ (w49 hw)) (mvT hZ (w50 hw)) (mvT hZ (w51 hw)) (mvT hZ (w52 hw)) (by decide) (backOf (W := 0) (rm8a l Z a0 hw [] b1053 k1053 h1242 n0 (Nat.le_trans Z0 KK1242.1) F1248 g_b1053) hZ (w52 hw) (w51 hw) (by decide) (by decide)) (g := (mkF m 33 #[rv o0, iv 0, iv 3, jv 2305843009213693950, sc, iv 1, iv 6, rv b1053, jv ((0 : Int64) + (e7a_0 q6 q7)), sc, rv b1057, iv 6, jv (e7a_0 q6 q7), sc, iv 1] [.int (-1), .ref b1053])) rfl (by rw [hml]; rfl) (argsL := [.ref b1053, .int (-1)]) (rest := []) (lenOf pd_4 rfl) rfl (by show 2 * 0 + _ ≤ _; exact Nat.le_of_eq rfl) (hb hby d7_33) (fun _ _ => ⟨rfl, e1244, (by decide : 2 + 0 ≤ _), (by decide : 16 + 0 ≤ _)⟩)
  dsimp only [Pt.U, Pt.locs, Pt.cells, Pt.slots] at X1247 l1247 y1247 z1247 st1247 hQ1247
  replace l1247 := l1247.symm
  subst l1247 y1247 z1247
  obtain ⟨rfl, Nq1247, K1247, Fq1247_0⟩ := hQ1247
  have KK1247 : Keep h0 T1247.heap [o3, o0] := KK1242.trans K1247 (allS (Or.inr sz_b1053) all0)
  have N1247 := Fr.app N1242 Nq1247
  refine gO st1247 ?_
  show OGl _ _ _ _ T1247 (mkF m 36 #[rv o0, iv 0, iv 3, jv 2305843009213693950, sc, iv 1, iv 6, rv b1053, jv ((0 : Int64) + (e7a_0 q6 q7)), sc, rv b1057, iv 6, jv (e7a_0 q6 q7), sc, iv 1] [])
  have F1249 := ((((((((((((((((((((((((F1055.ext E1057).other W1058 (Or.inl ne_o0_b1057)).other W1062 (Or.inl ne_o0_b1053)).other W1074 (Or.inl ne_o0_b1053)).other W1079 (Or.inl ne_o0_b1057)).other W1098 (Or.inl ne_o0_b1053)).other W1103 (Or.inl ne_o0_b1057)).other W1118 (Or.inl ne_o0_b1053)).other W1123 (Or.inl ne_o0_b1057)).other W1142 (Or.inl ne_o0_b1053)).other W1147 (Or.inl ne_o0_b1057)).other W1162 (Or.inl ne_o0_b1053)).other W1167 (Or.inl ne_o0_b1057)).other W1194 (Or.inl ne_o0_o3)).other W1198 (Or.inl ne_o0_o3)).other W1205 (Or.inl ne_o0_o3)).other W1209 (Or.inl ne_o0_o3)).other W1216 (Or.inl ne_o0_o3)).other W1220 (Or.inl ne_o0_o3)).other W1227 (Or.inl ne_o0_o3)).other W1231 (Or.inl ne_o0_o3)).other W1238 (Or.inl ne_o0_o3)).other W1242 (Or.inl ne_o0_o3)).keep K1247 (ninS ne_o0_b1053 nin0))
  refine gO (fun t k => kaN X1247 hx hby d7_36 rfl rfl k) (gG X1247 hx hby hZ hown (w25 hw) rfl F1249 d7_37 fun T1250 X1250 e1250 => ?_)
  show OGl _ _ _ _ T1250 (mkF m 40 #[rv o0, iv 0, iv 3, jv 2305843009213693950, sc, iv 1, iv 6, rv b1053, jv ((0 : Int64) + (e7a_0 q6 q7)), sc, rv b1057, iv 6, jv (e7a_0 q6 q7), sc, iv 1] [.int 8])
  obtain ⟨T1251, h1251, k1251, X1251, e1251, E1251, A1251, st1251⟩ := newP (aty := .int) X1250 hx hZ (w10 hw) e1250 (g := (mkF m 40 #[rv o0, iv 0, iv 3, jv 2305843009213693950, sc, iv 1, iv 6, rv b1053, jv ((0 : Int64) + (e7a_0 q6 q7)), sc, rv b1057, iv 6, jv (e7a_0 q6 q7), sc, iv 1] [.int 8])) rfl (hb hby d7_40) rfl (by decide) (cap := 8) (by decide) (by decide) (by decide) (by decide)
  obtain ⟨b1251, gb1251⟩ : ∃ z, z = T1247.heap.size := ⟨_, rfl⟩
  rw [← gb1251] at A1251 st1251
  have ne_b1053_b1251 : b1053 ≠ b1251 := Nat.ne_of_lt (Nat.lt_of_lt_of_eq Fq1247_0.lt gb1251.symm)
  have F1252 := (((((((((((V1167.other W1194 (Ne.symm ne_o3_b1057)).other W1198 (Ne.symm ne_o3_b1057)).other W1205 (Ne.symm ne_o3_b1057)).other W1209 (Ne.symm ne_o3_b1057)).other W1216 (Ne.symm ne_o3_b1057)).other W1220 (Ne.symm ne_o3_b1057)).other W1227 (Ne.symm ne_o3_b1057)).other W1231 (Ne.symm ne_o3_b1057)).other W1238 (Ne.symm ne_o3_b1057)).other W1242 (Ne.symm ne_o3_b1057)).keep K1247 (ninS (Ne.symm ne_b1053_b1057) nin0))
  have ne_b1057_b1251 : b1057 ≠ b1251 := Nat.ne_of_lt (Nat.lt_of_lt_of_eq F1252.lt gb1251.symm)
  have ne_o0_b1251 : o0 ≠ b1251 := Nat.ne_of_lt (Nat.lt_of_lt_of_eq F1249.lt gb1251.symm)
  have F1253 := (((((((((((((F1154.other W1162 ne_o1_b1053).other W1167 ne_o1_b1057).other W1194 ne_o1_o3).other W1198 ne_o1_o3).other W1205 ne_o1_o3).other W1209 ne_o1_o3).other W1216 ne_o1_o3).other W1220 ne_o1_o3).other W1227 ne_o1_o3).other W1231 ne_o1_o3).other W1238 ne_o1_o3).other W1242 ne_o1_o3).keep K1247 (ninS ne_o1_b1053 nin0))
  have ne_o1_b1251 : o1 ≠ b1251 := Nat.ne_of_lt (Nat.lt_of_lt_of_eq F1253.lt gb1251.symm)
  have F1254 := (((((((((((F1170.other W1194 ne_o11_o3).other W1198 ne_o11_o3).other W1205 ne_o11_o3).other W1209 ne_o11_o3).other W1216 ne_o11_o3).other W1220 ne_o11_o3).other W1227 ne_o11_o3).other W1231 ne_o11_o3).other W1238 ne_o11_o3).other W1242 ne_o11_o3).keep K1247 (ninS ne_o11_b1053 nin0))
  have ne_o11_b1251 : o11 ≠ b1251 := Nat.ne_of_lt (Nat.lt_of_lt_of_eq F1254.lt gb1251.symm)
  have F1255 := (V1242.keep K1247 (ninS ne_o3_b1053 nin0))
  have ne_o3_b1251 : o3 ≠ b1251 := Nat.ne_of_lt (Nat.lt_of_lt_of_eq F1255.lt gb1251.symm)
  have F1256 := (F1246.keep K1247 (ninS ne_o9_b1053 nin0))
  have ne_o9_b1251 : o9 ≠ b1251 := Nat.ne_of_lt (Nat.lt_of_lt_of_eq F1256.lt gb1251.symm)
  have sz_b1251 : h0.size ≤ b1251 := Nat.le_trans KK1247.1 (Nat.le_of_eq gb1251.symm)
  have g_b1251 : n0 ≤ b1251 := Nat.le_trans Z0 sz_b1251
  have V1251 : Arv Z h1251 b1251 k1251 .int (8 : Int32) [.int 0, .int 0, .int 0, .int 0, .int 0, .int 0, .int 0, .int 0] (.int 0) := (Arv.new A1251 (by decide)).pad (pad_rep [] (.int 0) 8)
  have KK1251 : Keep h0 h1251 [o3, o0] := KK1247.ext E1251
  refine gO st1251 ?_
  show OGl _ _ _ _ T1251 (mkF m 42 #[rv o0, iv 0, iv 3, jv 2305843009213693950, sc, iv 1, iv 6, rv b1053, jv ((0 : Int64) + (e7a_0 q6 q7)), sc, rv b1057, iv 6, jv (e7a_0 q6 q7), sc, iv 1] [.ref b1251])
  refine gO (fun t k => sa X1251 hx hby (L' := #[rv o0, iv 0, iv 3, jv 2305843009213693950, sc, iv 1, iv 6, rv b1053, jv ((0 : Int64) + (e7a_0 q6 q7)), sc, rv b1251, iv 6, jv (e7a_0 q6 q7), sc, iv 1]) d7_42 rfl rfl (kc X1251 hx hby d7_44 (si X1251 hx hby (L' := #[rv o0, iv 0, iv 3, jv 2305843009213693950, sc, iv 1, iv 6, rv b1053, jv ((0 : Int64) + (e7a_0 q6 q7)), sc, rv b1251, iv 1, jv (e7a_0 q6 q7), sc, iv 1]) d7_45 rfl (ka X1251 hx hby d7_47 rfl rfl (kc X1251 hx hby d7_49 (ki X1251 hx hby d7_50 rfl k)))))) ?_
  show OGl _ _ _ _ T1251 (mkF m 52 #[rv o0, iv 0, iv 3, jv 2305843009213693950, sc, iv 1, iv 6, rv b1053, jv ((0 : Int64) + (e7a_0 q6 q7)), sc, rv b1251, iv 1, jv (e7a_0 q6 q7), sc, iv 1] [.int 1, .int 0, .ref b1251])
  refine wI X1251 hx hby hZ e1251 V1251 0 rfl (Nat.le_of_ble_eq_true rfl) d7_52 fun T1257 h1257 X1257 e1257 W1257 V1257 => ?_
  have N1257 := Fr.snoc X1257 N1247 g_b1251
  have KK1257 := KK1251.wr W1257 (Or.inr sz_b1251)
  show OGl _ _ _ _ T1257 (mkF m 53 #[rv o0, iv 0, iv 3, jv 2305843009213693950, sc, iv 1, iv 6, rv b1053, jv ((0 : Int64) + (e7a_0 q6 q7)), sc, rv b1251, iv 1, jv (e7a_0 q6 q7), sc, iv 1] [])
  have F1258 := ((((((((((((((((((((((((F1059.other W1062 (Or.inl ne_o0_b1053)).other W1074 (Or.inl ne_o0_b1053)).other W1079 (Or.inl ne_o0_b1057)).other W1098 (Or.inl ne_o0_b1053)).other W1103 (Or.inl ne_o0_b1057)).other W1118 (Or.inl ne_o0_b1053)).other W1123 (Or.inl ne_o0_b1057)).other W1142 (Or.inl ne_o0_b1053)).other W1147 (Or.inl ne_o0_b1057)).other W1162 (Or.inl ne_o0_b1053)).other W1167 (Or.inl ne_o0_b1057)).other W1194 (Or.inl ne_o0_o3)).other W1198 (Or.inl ne_o0_o3)).other W1205 (Or.inl ne_o0_o3)).other W1209 (Or.inl ne_o0_o3)).other W1216 (Or.inl ne_o0_o3)).other W1220 (Or.inl ne_o0_o3)).other W1227 (Or.inl ne_o0_o3)).other W1231 (Or.inl ne_o0_o3)).other W1238 (Or.inl ne_o0_o3)).other W1242 (Or.inl ne_o0_o3)).keep K1247 (ninS ne_o0_b1053 nin0)).ext E1251).other W1257 (Or.inl ne_o0_b1251))
  refine gO (fun t k => ka X1257 hx hby d7_53 rfl rfl (ki X1257 hx hby d7_55 rfl (kaN X1257 hx hby d7_57 rfl rfl k))) (gG X1257 hx hby hZ hown (w31 hw) e1257 F1258 d7_58 fun T1259 X1259 e1259 => ?_)
  show OGl _ _ _ _ T1259 (mkF m 61 #[rv o0, iv 0, iv 3, jv 2305843009213693950, sc, iv 1, iv 6, rv b1053, jv ((0 : Int64) + (e7a_0 q6 q7)), sc, rv b1251, iv 1, jv (e7a_0 q6 q7), sc, iv 1] [.int 14, .int 1, .ref b1053])
  have F1260 := ((Fq1247_0.ext E1251).other W1257 ne_b1053_b1251)
  refine wI X1259 hx hby hZ e1259 F1260 1 rfl (Nat.le_of_ble_eq_true rfl) d7_61 fun T1261 h1261 X1261 e1261 W1261 V1261 => ?_
  have N1261 := Fr.snoc X1261 N1257 g_b1053
  have KK1261 := KK1257.wr W1261 (Or.inr sz_b1053)
  show OGl _ _ _ _ T1261 (mkF m 62 #[rv o0, iv 0, iv 3, jv 2305843009213693950, sc, iv 1, iv 6, rv b1053, jv ((0 : Int64) + (e7a_0 q6 q7)), sc, rv b1251, iv 1, jv (e7a_0 q6 q7), sc, iv 1] [])
  have F1262 := ((((((((((((((((F1152.other W1162 (Or.inl ne_o0_b1053)).other W1167 (Or.inl ne_o0_b1057)).other W1194 (Or.inl ne_o0_o3)).other W1198 (Or.inl ne_o0_o3)).other W1205 (Or.inl ne_o0_o3)).other W1209 (Or.inl ne_o0_o3)).other W1216 (Or.inl ne_o0_o3)).other W1220 (Or.inl ne_o0_o3)).other W1227 (Or.inl ne_o0_o3)).other W1231 (Or.inl ne_o0_o3)).other W1238 (Or.inl ne_o0_o3)).other W1242 (Or.inl ne_o0_o3)).keep K1247 (ninS ne_o0_b1053 nin0)).ext E1251).other W1257 (Or.inl ne_o0_b1251)).other W1261 (Or.inl ne_o0_b1053))
  have F1264 := (V1257.other W1261 (Ne.symm ne_b1053_b1251))
  have F1265 := (((F1253.ext E1251).other W1257 ne_o1_b1251).other W1261 ne_o1_b1053)
  have F1266 := (((((F1239.other W1242 (Or.inl ne_o0_o3)).keep K1247 (ninS ne_o0_b1053 nin0)).ext E1251).other W1257 (Or.inl ne_o0_b1251)).other W1261 (Or.inl ne_o0_b1053))
  have F1268 := (((F1255.ext E1251).other W1257 ne_o3_b1251).other W1261 ne_o3_b1053)
  have F1269 := ((((F1243.keep K1247 (ninS ne_o0_b1053 nin0)).ext E1251).other W1257 (Or.inl ne_o0_b1251)).other W1261 (Or.inl ne_o0_b1053))
  have F1271 := (((F1256.ext E1251).other W1257 ne_o9_b1251).other W1261 ne_o9_b1053)
  refine gO (fun t k => kc X1261 hx hby d7_62 (si X1261 hx hby (L' := #[rv o0, iv 0, iv 3, jv 2305843009213693950, sc, iv 1, iv 6, rv b1053, jv ((0 : Int64) + (e7a_0 q6 q7)), sc, rv b1251, iv 1, iv 0, un, iv 1]) d7_63 rfl (ki X1261 hx hby d7_65 rfl (ki X1261 hx hby d7_67 rfl (cN X1261 hx hby d7_69 (tlt (by decide : (0 : Int32) < (1 : Int32))).2.1 (ka X1261 hx hby d7_72 rfl rfl (ki X1261 hx hby d7_74 rfl (rI X1261 hx hby hZ e1261 V1261 (.int (-1)) rfl rfl d7_76 (iN X1261 hx hby d7_77 ((if0 _ _).trans (tlt (by decide : (-1 : Int32) < (0 : Int32))).2.1) (kaN X1261 hx hby d7_80 rfl rfl k)))))))))) (gG X1261 hx hby hZ hown (w11 hw) e1261 F1262 d7_81 fun T1263 X1263 e1263 => gO (fun t k => ka X1263 hx hby d7_84 rfl rfl (ki X1263 hx hby d7_86 rfl (rI X1263 hx hby hZ e1263 F1264 (.int 1) rfl rfl d7_88 (rI X1263 hx hby hZ e1263 F1265 (.int 8) rfl rfl d7_89 (si X1263 hx hby (L' := #[rv o0, iv 0, iv 3, jv 2305843009213693950, sc, iv 1, iv 6, rv b1053, jv ((0 : Int64) + (e7a_0 q6 q7)), sc, rv b1251, iv 1, iv 0, iv 8, iv 1]) d7_90 rfl (ki X1263 hx hby d7_92 rfl (iN X1263 hx hby d7_94 ((if0 _ _).trans (flt (by decide : ¬ ((8 : Int32) < (0 : Int32)))).1) (kaN X1263 hx hby d7_97 rfl rfl k)))))))) (gG X1263 hx hby hZ hown (w18 hw) e1263 F1266 d7_98 fun T1267 X1267 e1267 => gO (fun t k => ki X1267 hx hby d7_101 rfl (rJ X1267 hx hby hZ e1267 F1268 (.long (e7a_1 q6 q7)) rfl rfl d7_103 (kcl X1267 hx hby d7_104 (o_lcmp X1267 hx hby d7_105 (iN X1267 hx hby d7_106 (own_tltL hp18_7a).2.2.2 (ka X1267 hx hby d7_109 rfl rfl (kaN X1267 hx hby d7_111 rfl rfl k))))))) (gG X1267 hx hby hZ hown (w13 hw) e1267 F1269 d7_112 fun T1270 X1270 e1270 => gO (fun t k => ki X1270 hx hby d7_115 rfl (rI X1270 hx hby hZ e1270 F1271 (.int 2) rfl rfl d7_117 (rI X1270 hx hby hZ e1270 V1261 (.int (-1)) rfl rfl d7_118 (iN X1270 hx hby d7_119 ((if0 _ _).trans (tlt (by decide : (-1 : Int32) < (0 : Int32))).2.1) (ka X1270 hx hby d7_122 rfl rfl (kaN X1270 hx hby d7_124 rfl rfl k)))))) (gG X1270 hx hby hZ hown (w13 hw) e1270 F1269 d7_125 fun T1272 X1272 e1272 => gO (fun t k => ki X1272 hx hby d7_128 rfl (rI X1272 hx hby hZ e1272 F1271 (.int 2) rfl rfl d7_130 (ki X1272 hx hby d7_131 rfl k))) ?_))))
  show OGl _ _ _ _ T1272 (mkF m 133 #[rv o0, iv 0, iv 3, jv 2305843009213693950, sc, iv 1, iv 6, rv b1053, jv ((0 : Int64) + (e7a_0 q6 q7)), sc, rv b1251, iv 1, iv 0, iv 8, iv 1] [.int 8, .int 2, .ref b1053])
  refine wI X1272 hx hby hZ e1272 V1261 2 rfl (Nat.le_of_ble_eq_true rfl) d7_133 fun T1273 h1273 X1273 e1273 W1273 V1273 => ?_
  have N1273 := Fr.snoc X1273 N1261 g_b1053
  have KK1273 := KK1261.wr W1273 (Or.inr sz_b1053)
  show OGl _ _ _ _ T1273 (mkF m 134 #[rv o0, iv 0, iv 3, jv 2305843009213693950, sc, iv 1, iv 6, rv b1053, jv ((0 : Int64) + (e7a_0 q6 q7)), sc, rv b1251, iv 1, iv 0, iv 8, iv 1] [])
  have F1274 := (F1269.other W1273 (Or.inl ne_o0_b1053))
  have F1276 := (F1271.other W1273 ne_o9_b1053)
  refine gO (fun t k => ka X1273 hx hby d7_134 rfl rfl (ki X1273 hx hby d7_136 rfl (o_iinc X1273 hx hby (L' := #[rv o0, iv 0, iv 3, jv 2305843009213693950, sc, iv 1, iv 6, rv b1053, jv ((0 : Int64) + (e7a_0 q6 q7)), sc, rv b1251, iv 2, iv 0, iv 8, iv 1]) d7_138 rfl rfl (kaN X1273 hx hby d7_141 rfl rfl k)))) (gG X1273 hx hby hZ hown (w13 hw) e1273 F1274 d7_142 fun T1275 X1275 e1275 => gO (fun t k => ki X1275 hx hby d7_145 rfl (rI X1275 hx hby hZ e1275 F1276 (.int 2) rfl rfl d7_147 k)) ?_)
  show OGl _ _ _ _ T1275 (mkF m 148 #[rv o0, iv 0, iv 3, jv 2305843009213693950, sc, iv 1, iv 6, rv b1053, jv ((0 : Int64) + (e7a_0 q6 q7)), sc, rv b1251, iv 2, iv 0, iv 8, iv 1] [.int 2, .int 1, .ref b1251])
  have F1277 := (F1264.other W1273 (Ne.symm ne_b1053_b1251))
  refine wI X1275 hx hby hZ e1275 F1277 1 rfl (Nat.le_of_ble_eq_true rfl) d7_148 fun T1278 h1278 X1278 e1278 W1278 V1278 => ?_
  have N1278 := Fr.snoc X1278 N1273 g_b1251
  have KK1278 := KK1273.wr W1278 (Or.inr sz_b1251)
  show OGl _ _ _ _ T1278 (mkF m 149 #[rv o0, iv 0, iv 3, jv 2305843009213693950, sc, iv 1, iv 6, rv b1053, jv ((0 : Int64) + (e7a_0 q6 q7)), sc, rv b1251, iv 2, iv 0, iv 8, iv 1] [])
  have F1279 := ((((((((((((((((F1168.other W1194 (Or.inl ne_o0_o3)).other W1198 (Or.inl ne_o0_o3)).other W1205 (Or.inl ne_o0_o3)).other W1209 (Or.inl ne_o0_o3)).other W1216 (Or.inl ne_o0_o3)).other W1220 (Or.inl ne_o0_o3)).other W1227 (Or.inl ne_o0_o3)).other W1231 (Or.inl ne_o0_o3)).other W1238 (Or.inl ne_o0_o3)).other W1242 (Or.inl ne_o0_o3)).keep K1247 (ninS ne_o0_b1053 nin0)).ext E1251).other W1257 (Or.inl ne_o0_b1251)).other W1261 (Or.inl ne_o0_b1053)).other W1273 (Or.inl ne_o0_b1053)).other W1278 (Or.inl ne_o0_b1251))
  have F1281 := (((((F1254.ext E1251).other W1257 ne_o11_b1251).other W1261 ne_o11_b1053).other W1273 ne_o11_b1053).other W1278 ne_o11_b1251)
  have F1282 := ((F1266.other W1273 (Or.inl ne_o0_b1053)).other W1278 (Or.inl ne_o0_b1251))
  have F1284 := ((F1268.other W1273 ne_o3_b1053).other W1278 ne_o3_b1251)
  have F1286 := (V1273.other W1278 ne_b1053_b1251)
  have F1287 := ((F1262.other W1273 (Or.inl ne_o0_b1053)).other W1278 (Or.inl ne_o0_b1251))
  have F1289 := ((F1265.other W1273 ne_o1_b1053).other W1278 ne_o1_b1251)
  refine gO (fun t k => kaN X1278 hx hby d7_149 rfl rfl k) (gG X1278 hx hby hZ hown (w15 hw) e1278 F1279 d7_150 fun T1280 X1280 e1280 => gO (fun t k => ki X1280 hx hby d7_153 rfl (rI X1280 hx hby hZ e1280 F1281 (.int 1) rfl rfl d7_155 (si X1280 hx hby (L' := #[rv o0, iv 0, iv 3, jv 2305843009213693950, sc, iv 1, iv 6, rv b1053, jv ((0 : Int64) + (e7a_0 q6 q7)), sc, rv b1251, iv 2, iv 0, iv 1, iv 1]) d7_156 rfl (o_goto X1280 hx hby 92 d7_158 rfl (ki X1280 hx hby d7_92 rfl (iN X1280 hx hby d7_94 ((if0 _ _).trans (flt (by decide : ¬ ((1 : Int32) < (0 : Int32)))).1) (kaN X1280 hx hby d7_97 rfl rfl k))))))) (gG X1280 hx hby hZ hown (w18 hw) e1280 F1282 d7_98 fun T1283 X1283 e1283 => gO (fun t k => ki X1283 hx hby d7_101 rfl (rJ X1283 hx hby hZ e1283 F1284 (.long 0) rfl rfl d7_103 (kcl X1283 hx hby d7_104 (o_lcmp X1283 hx hby d7_105 (iY X1283 hx hby 149 d7_106 (own_fltL (by decide : ¬ ((0 : Int64) < (0 : Int64)))).2.2.2 rfl (kaN X1283 hx hby d7_149 rfl rfl k)))))) (gG X1283 hx hby hZ hown (w15 hw) e1283 F1279 d7_150 fun T1285 X1285 e1285 => gO (fun t k => ki X1285 hx hby d7_153 rfl (rI X1285 hx hby hZ e1285 F1281 (.int (-1)) rfl rfl d7_155 (si X1285 hx hby (L' := #[rv o0, iv 0, iv 3, jv 2305843009213693950, sc, iv 1, iv 6, rv b1053, jv ((0 : Int64) + (e7a_0 q6 q7)), sc, rv b1251, iv 2, iv 0, iv (-1), iv 1]) d7_156 rfl (o_goto X1285 hx hby 92 d7_158 rfl (ki X1285 hx hby d7_92 rfl (iY X1285 hx hby 161 d7_94 ((if0 _ _).trans (tlt (by decide : (-1 : Int32) < (0 : Int32))).1) rfl (o_iinc X1285 hx hby (L' := #[rv o0, iv 0, iv 3, jv 2305843009213693950, sc, iv 1, iv 6, rv b1053, jv ((0 : Int64) + (e7a_0 q6 q7)), sc, rv b1251, iv 2, iv 1, iv (-1), iv 1]) d7_161 rfl rfl (o_goto X1285 hx hby 65 d7_164 rfl (ki X1285 hx hby d7_65 rfl (ki X1285 hx hby d7_67 rfl (cN X1285 hx hby d7_69 (tlt (by decide : (1 : Int32) < (2 : Int32))).2.1 (ka X1285 hx hby d7_72 rfl rfl (ki X1285 hx hby d7_74 rfl (rI X1285 hx hby hZ e1285 F1286 (.int (-1)) rfl rfl d7_76 (iN X1285 hx hby d7_77 ((if0 _ _).trans (tlt (by decide : (-1 : Int32) < (0 : Int32))).2.1) (kaN X1285 hx hby d7_80 rfl rfl k)))))))))))))))) (gG X1285 hx hby hZ hown (w11 hw) e1285 F1287 d7_81 fun T1288 X1288 e1288 => gO (fun t k => ka X1288 hx hby d7_84 rfl rfl (ki X1288 hx hby d7_86 rfl (rI X1288 hx hby hZ e1288 V1278 (.int 2) rfl rfl d7_88 (rI X1288 hx hby hZ e1288 F1289 (.int 9) rfl rfl d7_89 (si X1288 hx hby (L' := #[rv o0, iv 0, iv 3, jv 2305843009213693950, sc, iv 1, iv 6, rv b1053, jv ((0 : Int64) + (e7a_0 q6 q7)), sc, rv b1251, iv 2, iv 1, iv 9, iv 1]) d7_90 rfl (ki X1288 hx hby d7_92 rfl k)))))) ?_))))
  show OGl _ _ _ _ T1288 (mkF m 94 #[rv o0, iv 0, iv 3, jv 2305843009213693950, sc, iv 1, iv 6, rv b1053, jv ((0 : Int64) + (e7a_0 q6 q7)), sc, rv b1251, iv 2, iv 1, iv 9, iv 1] [.int 9])
  have F1291 := (F1274.other W1278 (Or.inl ne_o0_b1251))
  have F1293 := (F1276.other W1278 ne_o9_b1251)
  refine gO (fun t k => iN X1288 hx hby d7_94 ((if0 _ _).trans (flt (by decide : ¬ ((9 : Int32) < (0 : Int32)))).1) (kaN X1288 hx hby d7_97 rfl rfl k)) (gG X1288 hx hby hZ hown (w18 hw) e1288 F1282 d7_98 fun T1290 X1290 e1290 => gO (fun t k => ki X1290 hx hby d7_101 rfl (rJ X1290 hx hby hZ e1290 F1284 (.long ((0 : Int64) + (e7a_0 q6 q7))) rfl rfl d7_103 (kcl X1290 hx hby d7_104 (o_lcmp X1290 hx hby d7_105 (iN X1290 hx hby d7_106 (own_tltL hp19_7a).2.2.2 (ka X1290 hx hby d7_109 rfl rfl (kaN X1290 hx hby d7_111 rfl rfl k))))))) (gG X1290 hx hby hZ hown (w13 hw) e1290 F1291 d7_112 fun T1292 X1292 e1292 => gO (fun t k => ki X1292 hx hby d7_115 rfl (rI X1292 hx hby hZ e1292 F1293 (.int 1) rfl rfl d7_117 (rI X1292 hx hby hZ e1292 F1286 (.int 14) rfl rfl d7_118 (iY X1292 hx hby 149 d7_119 ((if0 _ _).trans (flt (by decide : ¬ ((14 : Int32) < (0 : Int32)))).2.1) rfl (kaN X1292 hx hby d7_149 rfl rfl k))))) (gG X1292 hx hby hZ hown (w15 hw) e1292 F1279 d7_150 fun T1294 X1294 e1294 => gO (fun t k => ki X1294 hx hby d7_153 rfl (rI X1294 hx hby hZ e1294 F1281 (.int 2) rfl rfl d7_155 (si X1294 hx hby (L' := #[rv o0, iv 0, iv 3, jv 2305843009213693950, sc, iv 1, iv 6, rv b1053, jv ((0 : Int64) + (e7a_0 q6 q7)), sc, rv b1251, iv 2, iv 1, iv 2, iv 1]) d7_156 rfl (o_goto X1294 hx hby 92 d7_158 rfl (ki X1294 hx hby d7_92 rfl (iN X1294 hx hby d7_94 ((if0 _ _).trans (flt (by decide : ¬ ((2 : Int32) < (0 : Int32)))).1) (kaN X1294 hx hby d7_97 rfl rfl k))))))) (gG X1294 hx hby hZ hown (w18 hw) e1294 F1282 d7_98 fun T1295 X1295 e1295 => gO (fun t k => ki X1295 hx hby d7_101 rfl (rJ X1295 hx hby hZ e1295 F1284 (.long (q6 - (e7a_0 q6 q7))) rfl rfl d7_103 (kcl X1295 hx hby d7_104 (o_lcmp X1295 hx hby d7_105 (iN X1295 hx hby d7_106 (own_tltL hp20_7a).2.2.2 (ka X1295 hx hby d7_109 rfl rfl (kaN X1295 hx hby d7_111 rfl rfl k))))))) (gG X1295 hx hby hZ hown (w13 hw) e1295 F1291 d7_112 fun T1296 X1296 e1296 => gO (fun t k => ki X1296 hx hby d7_115 rfl (rI X1296 hx hby hZ e1296 F1293 (.int 3) rfl rfl d7_117 (rI X1296 hx hby hZ e1296 F1286 (.int (-1)) rfl rfl d7_118 (iN X1296 hx hby d7_119 ((if0 _ _).trans (tlt (by decide : (-1 : Int32) < (0 : Int32))).2.1) (ka X1296 hx hby d7_122 rfl rfl (kaN X1296 hx hby d7_124 rfl rfl k)))))) (gG X1296 hx hby hZ hown (w13 hw) e1296 F1291 d7_125 fun T1297 X1297 e1297 => ?_))))))
  show OGl _ _ _ _ T1297 (mkF m 128 #[rv o0, iv 0, iv 3, jv 2305843009213693950, sc, iv 1, iv 6, rv b1053, jv ((0 : Int64) + (e7a_0 q6 q7)), sc, rv b1251, iv 2, iv 1, iv 2, iv 1] [.ref o9, .ref b1053])
  refine gO (fun t k => ki X1297 hx hby d7_128 rfl (rI X1297 hx hby hZ e1297 F1293 (.int 3) rfl rfl d7_130 (ki X1297 hx hby d7_131 rfl k))) ?_
  show OGl _ _ _ _ T1297 (mkF m 133 #[rv o0, iv 0, iv 3, jv 2305843009213693950, sc, iv 1, iv 6, rv b1053, jv ((0 : Int64) + (e7a_0 q6 q7)), sc, rv b1251, iv 2, iv 1, iv 2, iv 1] [.int 2, .int 3, .ref b1053])
  refine wI X1297 hx hby hZ e1297 F1286 3 rfl (Nat.le_of_ble_eq_true rfl) d7_133 fun T1298 h1298 X1298 e1298 W1298 V1298 => ?_
  have N1298 := Fr.snoc X1298 N1278 g_b1053
  have KK1298 := KK1278.wr W1298 (Or.inr sz_b1053)
  show OGl _ _ _ _ T1298 (mkF m 134 #[rv o0, iv 0, iv 3, jv 2305843009213693950, sc, iv 1, iv 6, rv b1053, jv ((0 : Int64) + (e7a_0 q6 q7)), sc, rv b1251, iv 2, iv 1, iv 2, iv 1] [])
  have F1299 := (F1291.other W1298 (Or.inl ne_o0_b1053))
  have F1301 := (F1293.other W1298 ne_o9_b1053)
  refine gO (fun t k => ka X1298 hx hby d7_134 rfl rfl (ki X1298 hx hby d7_136 rfl (o_iinc X1298 hx hby (L' := #[rv o0, iv 0, iv 3, jv 2305843009213693950, sc, iv 1, iv 6, rv b1053, jv ((0 : Int64) + (e7a_0 q6 q7)), sc, rv b1251, iv 3, iv 1, iv 2, iv 1]) d7_138 rfl rfl (kaN X1298 hx hby d7_141 rfl rfl k)))) (gG X1298 hx hby hZ hown (w13 hw) e1298 F1299 d7_142 fun T1300 X1300 e1300 => gO (fun t k => ki X1300 hx hby d7_145 rfl (rI X1300 hx hby hZ e1300 F1301 (.int 3) rfl rfl d7_147 k)) ?_)
  show OGl _ _ _ _ T1300 (mkF m 148 #[rv o0, iv 0, iv 3, jv 2305843009213693950, sc, iv 1, iv 6, rv b1053, jv ((0 : Int64) + (e7a_0 q6 q7)), sc, rv b1251, iv 3, iv 1, iv 2, iv 1] [.int 3, .int 2, .ref b1251])
  have F1302 := (V1278.other W1298 (Ne.symm ne_b1053_b1251))
  refine wI X1300 hx hby hZ e1300 F1302 2 rfl (Nat.le_of_ble_eq_true rfl) d7_148 fun T1303 h1303 X1303 e1303 W1303 V1303 => ?_
  have N1303 := Fr.snoc X1303 N1298 g_b1251
  have KK1303 := KK1298.wr W1303 (Or.inr sz_b1251)
  show OGl _ _ _ _ T1303 (mkF m 149 #[rv o0, iv 0, iv 3, jv 2305843009213693950, sc, iv 1, iv 6, rv b1053, jv ((0 : Int64) + (e7a_0 q6 q7)), sc, rv b1251, iv 3, iv 1, iv 2, iv 1] [])
  have F1304 := ((F1279.other W1298 (Or.inl ne_o0_b1053)).other W1303 (Or.inl ne_o0_b1251))
  have F1306 := ((F1281.other W1298 ne_o11_b1053).other W1303 ne_o11_b1251)
  have F1307 := (V1298.other W1303 ne_b1053_b1251)
  have F1308 := ((F1287.other W1298 (Or.inl ne_o0_b1053)).other W1303 (Or.inl ne_o0_b1251))
  have F1310 := ((F1289.other W1298 ne_o1_b1053).other W1303 ne_o1_b1251)
  have F1311 := ((F1282.other W1298 (Or.inl ne_o0_b1053)).other W1303 (Or.inl ne_o0_b1251))
  have F1313 := ((F1284.other W1298 ne_o3_b1053).other W1303 ne_o3_b1251)
  have F1314 := (F1299.other W1303 (Or.inl ne_o0_b1251))
  have F1316 := (F1301.other W1303 ne_o9_b1251)
  refine gO (fun t k => kaN X1303 hx hby d7_149 rfl rfl k) (gG X1303 hx hby hZ hown (w15 hw) e1303 F1304 d7_150 fun T1305 X1305 e1305 => gO (fun t k => ki X1305 hx hby d7_153 rfl (rI X1305 hx hby hZ e1305 F1306 (.int (-1)) rfl rfl d7_155 (si X1305 hx hby (L' := #[rv o0, iv 0, iv 3, jv 2305843009213693950, sc, iv 1, iv 6, rv b1053, jv ((0 : Int64) + (e7a_0 q6 q7)), sc, rv b1251, iv 3, iv 1, iv (-1), iv 1]) d7_156 rfl (o_goto X1305 hx hby 92 d7_158 rfl (ki X1305 hx hby d7_92 rfl (iY X1305 hx hby 161 d7_94 ((if0 _ _).trans (tlt (by decide : (-1 : Int32) < (0 : Int32))).1) rfl (o_iinc X1305 hx hby (L' := #[rv o0, iv 0, iv 3, jv 2305843009213693950, sc, iv 1, iv 6, rv b1053, jv ((0 : Int64) + (e7a_0 q6 q7)), sc, rv b1251, iv 3, iv 2, iv (-1), iv 1]) d7_161 rfl rfl (o_goto X1305 hx hby 65 d7_164 rfl (ki X1305 hx hby d7_65 rfl (ki X1305 hx hby d7_67 rfl (cN X1305 hx hby d7_69 (tlt (by decide : (2 : Int32) < (3 : Int32))).2.1 (ka X1305 hx hby d7_72 rfl rfl (ki X1305 hx hby d7_74 rfl (rI X1305 hx hby hZ e1305 F1307 (.int (-1)) rfl rfl d7_76 (iN X1305 hx hby d7_77 ((if0 _ _).trans (tlt (by decide : (-1 : Int32) < (0 : Int32))).2.1) (kaN X1305 hx hby d7_80 rfl rfl k)))))))))))))))) (gG X1305 hx hby hZ hown (w11 hw) e1305 F1308 d7_81 fun T1309 X1309 e1309 => gO (fun t k => ka X1309 hx hby d7_84 rfl rfl (ki X1309 hx hby d7_86 rfl (rI X1309 hx hby hZ e1309 V1303 (.int 3) rfl rfl d7_88 (rI X1309 hx hby hZ e1309 F1310 (.int 10) rfl rfl d7_89 (si X1309 hx hby (L' := #[rv o0, iv 0, iv 3, jv 2305843009213693950, sc, iv 1, iv 6, rv b1053, jv ((0 : Int64) + (e7a_0 q6 q7)), sc, rv b1251, iv 3, iv 2, iv 10, iv 1]) d7_90 rfl (ki X1309 hx hby d7_92 rfl (iN X1309 hx hby d7_94 ((if0 _ _).trans (flt (by decide : ¬ ((10 : Int32) < (0 : Int32)))).1) (kaN X1309 hx hby d7_97 rfl rfl k)))))))) (gG X1309 hx hby hZ hown (w18 hw) e1309 F1311 d7_98 fun T1312 X1312 e1312 => gO (fun t k => ki X1312 hx hby d7_101 rfl (rJ X1312 hx hby hZ e1312 F1313 (.long (e7a_1 q6 q7)) rfl rfl d7_103 (kcl X1312 hx hby d7_104 (o_lcmp X1312 hx hby d7_105 (iN X1312 hx hby d7_106 (own_tltL hp18_7a).2.2.2 (ka X1312 hx hby d7_109 rfl rfl (kaN X1312 hx hby d7_111 rfl rfl k))))))) (gG X1312 hx hby hZ hown (w13 hw) e1312 F1314 d7_112 fun T1315 X1315 e1315 => gO (fun t k => ki X1315 hx hby d7_115 rfl (rI X1315 hx hby hZ e1315 F1316 (.int 4) rfl rfl d7_117 (rI X1315 hx hby hZ e1315 F1307 (.int (-1)) rfl rfl d7_118 (iN X1315 hx hby d7_119 ((if0 _ _).trans (tlt (by decide : (-1 : Int32) < (0 : Int32))).2.1) k)))) ?_))))
  show OGl _ _ _ _ T1315 (mkF m 122 #[rv o0, iv 0, iv 3, jv 2305843009213693950, sc, iv 1, iv 6, rv b1053, jv ((0 : Int64) + (e7a_0 q6 q7)), sc, rv b1251, iv 3, iv 2, iv 10, iv 1] [])
  refine gO (fun t k => ka X1315 hx hby d7_122 rfl rfl (kaN X1315 hx hby d7_124 rfl rfl k)) (gG X1315 hx hby hZ hown (w13 hw) e1315 F1314 d7_125 fun T1317 X1317 e1317 => gO (fun t k => ki X1317 hx hby d7_128 rfl (rI X1317 hx hby hZ e1317 F1316 (.int 4) rfl rfl d7_130 (ki X1317 hx hby d7_131 rfl k))) ?_)
  show OGl _ _ _ _ T1317 (mkF m 133 #[rv o0, iv 0, iv 3, jv 2305843009213693950, sc, iv 1, iv 6, rv b1053, jv ((0 : Int64) + (e7a_0 q6 q7)), sc, rv b1251, iv 3, iv 2, iv 10, iv 1] [.int 10, .int 4, .ref b1053])
  refine wI X1317 hx hby hZ e1317 F1307 4 rfl (Nat.le_of_ble_eq_true rfl) d7_133 fun T1318 h1318 X1318 e1318 W1318 V1318 => ?_
  have N1318 := Fr.snoc X1318 N1303 g_b1053
  have KK1318 := KK1303.wr W1318 (Or.inr sz_b1053)
  show OGl _ _ _ _ T1318 (mkF m 134 #[rv o0, iv 0, iv 3, jv 2305843009213693950, sc, iv 1, iv 6, rv b1053, jv ((0 : Int64) + (e7a_0 q6 q7)), sc, rv b1251, iv 3, iv 2, iv 10, iv 1] [])
  have F1319 := (F1314.other W1318 (Or.inl ne_o0_b1053))
  have F1321 := (F1316.other W1318 ne_o9_b1053)
  refine gO (fun t k => ka X1318 hx hby d7_134 rfl rfl (ki X1318 hx hby d7_136 rfl (o_iinc X1318 hx hby (L' := #[rv o0, iv 0, iv 3, jv 2305843009213693950, sc, iv 1, iv 6, rv b1053, jv ((0 : Int64) + (e7a_0 q6 q7)), sc, rv b1251, iv 4, iv 2, iv 10, iv 1]) d7_138 rfl rfl (kaN X1318 hx hby d7_141 rfl rfl k)))) (gG X1318 hx hby hZ hown (w13 hw) e1318 F1319 d7_142 fun T1320 X1320 e1320 => gO (fun t k => ki X1320 hx hby d7_145 rfl (rI X1320 hx hby hZ e1320 F1321 (.int 4) rfl rfl d7_147 k)) ?_)
  show OGl _ _ _ _ T1320 (mkF m 148 #[rv o0, iv 0, iv 3, jv 2305843009213693950, sc, iv 1, iv 6, rv b1053, jv ((0 : Int64) + (e7a_0 q6 q7)), sc, rv b1251, iv 4, iv 2, iv 10, iv 1] [.int 4, .int 3, .ref b1251])
  have F1322 := (V1303.other W1318 (Ne.symm ne_b1053_b1251))
  refine wI X1320 hx hby hZ e1320 F1322 3 rfl (Nat.le_of_ble_eq_true rfl) d7_148 fun T1323 h1323 X1323 e1323 W1323 V1323 => ?_
  have N1323 := Fr.snoc X1323 N1318 g_b1251
  have KK1323 := KK1318.wr W1323 (Or.inr sz_b1251)
  show OGl _ _ _ _ T1323 (mkF m 149 #[rv o0, iv 0, iv 3, jv 2305843009213693950, sc, iv 1, iv 6, rv b1053, jv ((0 : Int64) + (e7a_0 q6 q7)), sc, rv b1251, iv 4, iv 2, iv 10, iv 1] [])
  have F1324 := ((F1304.other W1318 (Or.inl ne_o0_b1053)).other W1323 (Or.inl ne_o0_b1251))
  have F1326 := ((F1306.other W1318 ne_o11_b1053).other W1323 ne_o11_b1251)
  have F1327 := ((F1311.other W1318 (Or.inl ne_o0_b1053)).other W1323 (Or.inl ne_o0_b1251))
  have F1329 := ((F1313.other W1318 ne_o3_b1053).other W1323 ne_o3_b1251)
  have F1330 := (F1319.other W1323 (Or.inl ne_o0_b1251))
  have F1332 := (F1321.other W1323 ne_o9_b1251)
  have F1333 := (V1318.other W1323 ne_b1053_b1251)
  refine gO (fun t k => kaN X1323 hx hby d7_149 rfl rfl k) (gG X1323 hx hby hZ hown (w15 hw) e1323 F1324 d7_150 fun T1325 X1325 e1325 => gO (fun t k => ki X1325 hx hby d7_153 rfl (rI X1325 hx hby hZ e1325 F1326 (.int 3) rfl rfl d7_155 (si X1325 hx hby (L' := #[rv o0, iv 0, iv 3, jv 2305843009213693950, sc, iv 1, iv 6, rv b1053, jv ((0 : Int64) + (e7a_0 q6 q7)), sc, rv b1251, iv 4, iv 2, iv 3, iv 1]) d7_156 rfl (o_goto X1325 hx hby 92 d7_158 rfl (ki X1325 hx hby d7_92 rfl (iN X1325 hx hby d7_94 ((if0 _ _).trans (flt (by decide : ¬ ((3 : Int32) < (0 : Int32)))).1) (kaN X1325 hx hby d7_97 rfl rfl k))))))) (gG X1325 hx hby hZ hown (w18 hw) e1325 F1327 d7_98 fun T1328 X1328 e1328 => gO (fun t k => ki X1328 hx hby d7_101 rfl (rJ X1328 hx hby hZ e1328 F1329 (.long ((0 : Int64) + (e7a_0 q6 q7))) rfl rfl d7_103 (kcl X1328 hx hby d7_104 (o_lcmp X1328 hx hby d7_105 (iN X1328 hx hby d7_106 (own_tltL hp19_7a).2.2.2 (ka X1328 hx hby d7_109 rfl rfl (kaN X1328 hx hby d7_111 rfl rfl k))))))) (gG X1328 hx hby hZ hown (w13 hw) e1328 F1330 d7_112 fun T1331 X1331 e1331 => gO (fun t k => ki X1331 hx hby d7_115 rfl (rI X1331 hx hby hZ e1331 F1332 (.int 2) rfl rfl d7_117 (rI X1331 hx hby hZ e1331 F1333 (.int 8) rfl rfl d7_118 (iY X1331 hx hby 149 d7_119 ((if0 _ _).trans (flt (by decide : ¬ ((8 : Int32) < (0 : Int32)))).2.1) rfl (kaN X1331 hx hby d7_149 rfl rfl k))))) (gG X1331 hx hby hZ hown (w15 hw) e1331 F1324 d7_150 fun T1334 X1334 e1334 => gO (fun t k => ki X1334 hx hby d7_153 rfl (rI X1334 hx hby hZ e1334 F1326 (.int (-1)) rfl rfl d7_155 (si X1334 hx hby (L' := #[rv o0, iv 0, iv 3, jv 2305843009213693950, sc, iv 1, iv 6, rv b1053, jv ((0 : Int64) + (e7a_0 q6 q7)), sc, rv b1251, iv 4, iv 2, iv (-1), iv 1]) d7_156 rfl (o_goto X1334 hx hby 92 d7_158 rfl (ki X1334 hx hby d7_92 rfl (iY X1334 hx hby 161 d7_94 ((if0 _ _).trans (tlt (by decide : (-1 : Int32) < (0 : Int32))).1) rfl (o_iinc X1334 hx hby (L' := #[rv o0, iv 0, iv 3, jv 2305843009213693950, sc, iv 1, iv 6, rv b1053, jv ((0 : Int64) + (e7a_0 q6 q7)), sc, rv b1251, iv 4, iv 3, iv (-1), iv 1]) d7_161 rfl rfl (o_goto X1334 hx hby 65 d7_164 rfl (ki X1334 hx hby d7_65 rfl (ki X1334 hx hby d7_67 rfl (cN X1334 hx hby d7_69 (tlt (by decide : (3 : Int32) < (4 : Int32))).2.1 (ka X1334 hx hby d7_72 rfl rfl (ki X1334 hx hby d7_74 rfl (rI X1334 hx hby hZ e1334 F1333 (.int (-1)) rfl rfl d7_76 (iN X1334 hx hby d7_77 ((if0 _ _).trans (tlt (by decide : (-1 : Int32) < (0 : Int32))).2.1) (kaN X1334 hx hby d7_80 rfl rfl k)))))))))))))))) ?_))))
  show OGl _ _ _ _ T1334 (mkF m 81 #[rv o0, iv 0, iv 3, jv 2305843009213693950, sc, iv 1, iv 6, rv b1053, jv ((0 : Int64) + (e7a_0 q6 q7)), sc, rv b1251, iv 4, iv 3, iv (-1), iv 1] [.ref o0])
  have F1335 := ((F1308.other W1318 (Or.inl ne_o0_b1053)).other W1323 (Or.inl ne_o0_b1251))
  have F1337 := ((F1310.other W1318 ne_o1_b1053).other W1323 ne_o1_b1251)
  refine gG X1334 hx hby hZ hown (w11 hw) e1334 F1335 d7_81 fun T1336 X1336 e1336 => gO (fun t k => ka X1336 hx hby d7_84 rfl rfl (ki X1336 hx hby d7_86 rfl (rI X1336 hx hby hZ e1336 V1323 (.int 4) rfl rfl d7_88 (rI X1336 hx hby hZ e1336 F1337 (.int 11) rfl rfl d7_89 (si X1336 hx hby (L' := #[rv o0, iv 0, iv 3, jv 2305843009213693950, sc, iv 1, iv 6, rv b1053, jv ((0 : Int64) + (e7a_0 q6 q7)), sc, rv b1251, iv 4, iv 3, iv 11, iv 1]) d7_90 rfl (ki X1336 hx hby d7_92 rfl (iN X1336 hx hby d7_94 ((if0 _ _).trans (flt (by decide : ¬ ((11 : Int32) < (0 : Int32)))).1) (kaN X1336 hx hby d7_97 rfl rfl k)))))))) (gG X1336 hx hby hZ hown (w18 hw) e1336 F1327 d7_98 fun T1338 X1338 e1338 => gO (fun t k => ki X1338 hx hby d7_101 rfl (rJ X1338 hx hby hZ e1338 F1329 (.long ((0 : Int64) + (e7a_0 q6 q7))) rfl rfl d7_103 (kcl X1338 hx hby d7_104 (o_lcmp X1338 hx hby d7_105 (iN X1338 hx hby d7_106 (own_tltL hp19_7a).2.2.2 (ka X1338 hx hby d7_109 rfl rfl (kaN X1338 hx hby d7_111 rfl rfl k))))))) (gG X1338 hx hby hZ hown (w13 hw) e1338 F1330 d7_112 fun T1339 X1339 e1339 => gO (fun t k => ki X1339 hx hby d7_115 rfl (rI X1339 hx hby hZ e1339 F1332 (.int 3) rfl rfl d7_117 (rI X1339 hx hby hZ e1339 F1333 (.int 2) rfl rfl d7_118 (iY X1339 hx hby 149 d7_119 ((if0 _ _).trans (flt (by decide : ¬ ((2 : Int32) < (0 : Int32)))).2.1) rfl (kaN X1339 hx hby d7_149 rfl rfl k))))) (gG X1339 hx hby hZ hown (w15 hw) e1339 F1324 d7_150 fun T1340 X1340 e1340 => gO (fun t k => ki X1340 hx hby d7_153 rfl (rI X1340 hx hby hZ e1340 F1326 (.int 4) rfl rfl d7_155 (si X1340 hx hby (L' := #[rv o0, iv 0, iv 3, jv 2305843009213693950, sc, iv 1, iv 6, rv b1053, jv ((0 : Int64) + (e7a_0 q6 q7)), sc, rv b1251, iv 4, iv 3, iv 4, iv 1]) d7_156 rfl (o_goto X1340 hx hby 92 d7_158 rfl (ki X1340 hx hby d7_92 rfl (iN X1340 hx hby d7_94 ((if0 _ _).trans (flt (by decide : ¬ ((4 : Int32) < (0 : Int32)))).1) (kaN X1340 hx hby d7_97 rfl rfl k))))))) (gG X1340 hx hby hZ hown (w18 hw) e1340 F1327 d7_98 fun T1341 X1341 e1341 => gO (fun t k => ki X1341 hx hby d7_101 rfl (rJ X1341 hx hby hZ e1341 F1329 (.long (q7 - (e7a_0 q6 q7))) rfl rfl d7_103 (kcl X1341 hx hby d7_104 (o_lcmp X1341 hx hby d7_105 (iY X1341 hx hby 149 d7_106 (own_fltL hp21_7a).2.2.2 rfl (kaN X1341 hx hby d7_149 rfl rfl k)))))) (gG X1341 hx hby hZ hown (w15 hw) e1341 F1324 d7_150 fun T1342 X1342 e1342 => gO (fun t k => ki X1342 hx hby d7_153 rfl k) ?_)))))
  show OGl _ _ _ _ T1342 (mkF m 155 #[rv o0, iv 0, iv 3, jv 2305843009213693950, sc, iv 1, iv 6, rv b1053, jv ((0 : Int64) + (e7a_0 q6 q7)), sc, rv b1251, iv 4, iv 3, iv 4, iv 1] [.int 4, .ref o11])
  have F1343 := (((((((((F1249.ext E1251).other W1257 (Or.inl ne_o0_b1251)).other W1261 (Or.inl ne_o0_b1053)).other W1273 (Or.inl ne_o0_b1053)).other W1278 (Or.inl ne_o0_b1251)).other W1298 (Or.inl ne_o0_b1053)).other W1303 (Or.inl ne_o0_b1251)).other W1318 (Or.inl ne_o0_b1053)).other W1323 (Or.inl ne_o0_b1251))
  refine gO (fun t k => rI X1342 hx hby hZ e1342 F1326 (.int (-1)) rfl rfl d7_155 (si X1342 hx hby (L' := #[rv o0, iv 0, iv 3, jv 2305843009213693950, sc, iv 1, iv 6, rv b1053, jv ((0 : Int64) + (e7a_0 q6 q7)), sc, rv b1251, iv 4, iv 3, iv (-1), iv 1]) d7_156 rfl (o_goto X1342 hx hby 92 d7_158 rfl (ki X1342 hx hby d7_92 rfl (iY X1342 hx hby 161 d7_94 ((if0 _ _).trans (tlt (by decide : (-1 : Int32) < (0 : Int32))).1) rfl (o_iinc X1342 hx hby (L' := #[rv o0, iv 0, iv 3, jv 2305843009213693950, sc, iv 1, iv 6, rv b1053, jv ((0 : Int64) + (e7a_0 q6 q7)), sc, rv b1251, iv 4, iv 4, iv (-1), iv 1]) d7_161 rfl rfl (o_goto X1342 hx hby 65 d7_164 rfl (ki X1342 hx hby d7_65 rfl (ki X1342 hx hby d7_67 rfl (cY X1342 hx hby 167 d7_69 (flt (by decide : ¬ ((4 : Int32) < (4 : Int32)))).2.1 rfl (ka X1342 hx hby d7_167 rfl rfl (ki X1342 hx hby d7_169 rfl (rI X1342 hx hby hZ e1342 F1333 (.int (-1)) rfl rfl d7_171 (iN X1342 hx hby d7_172 ((if0 _ _).trans (tlt (by decide : (-1 : Int32) < (0 : Int32))).2.1) (kaN X1342 hx hby d7_175 rfl rfl (kaN X1342 hx hby d7_176 rfl rfl k)))))))))))))))) (gG X1342 hx hby hZ hown (w25 hw) e1342 F1343 d7_177 fun T1344 X1344 e1344 => ?_)
  show OGl _ _ _ _ T1344 (mkF m 180 #[rv o0, iv 0, iv 3, jv 2305843009213693950, sc, iv 1, iv 6, rv b1053, jv ((0 : Int64) + (e7a_0 q6 q7)), sc, rv b1251, iv 4, iv 4, iv (-1), iv 1] [.int 8, .ref o0])
  obtain ⟨T1345, h1345, k1345, X1345, e1345, E1345, A1345, st1345⟩ := newP (aty := .boolean) X1344 hx hZ (w57 hw) e1344 (g := (mkF m 180 #[rv o0, iv 0, iv 3, jv 2305843009213693950, sc, iv 1, iv 6, rv b1053, jv ((0 : Int64) + (e7a_0 q6 q7)), sc, rv b1251, iv 4, iv 4, iv (-1), iv 1] [.int 8, .ref o0])) rfl (hb hby d7_180) rfl (by decide) (cap := 8) (by decide) (by decide) (by decide) (by decide)
  obtain ⟨b1345, gb1345⟩ : ∃ z, z = h1323.size := ⟨_, rfl⟩
  rw [← gb1345] at A1345 st1345
  have ne_b1053_b1345 : b1053 ≠ b1345 := Nat.ne_of_lt (Nat.lt_of_lt_of_eq F1333.lt gb1345.symm)
  have F1346 := (((((((((F1252.ext E1251).other W1257 ne_b1057_b1251).other W1261 (Ne.symm ne_b1053_b1057)).other W1273 (Ne.symm ne_b1053_b1057)).other W1278 ne_b1057_b1251).other W1298 (Ne.symm ne_b1053_b1057)).other W1303 ne_b1057_b1251).other W1318 (Ne.symm ne_b1053_b1057)).other W1323 ne_b1057_b1251)
  have ne_b1057_b1345 : b1057 ≠ b1345 := Nat.ne_of_lt (Nat.lt_of_lt_of_eq F1346.lt gb1345.symm)
  have ne_b1251_b1345 : b1251 ≠ b1345 := Nat.ne_of_lt (Nat.lt_of_lt_of_eq V1323.lt gb1345.symm)
  have ne_o0_b1345 : o0 ≠ b1345 := Nat.ne_of_lt (Nat.lt_of_lt_of_eq F1343.lt gb1345.symm)
  have ne_o1_b1345 : o1 ≠ b1345 := Nat.ne_of_lt (Nat.lt_of_lt_of_eq F1337.lt gb1345.symm)
  have ne_o11_b1345 : o11 ≠ b1345 := Nat.ne_of_lt (Nat.lt_of_lt_of_eq F1326.lt gb1345.symm)
  have ne_o3_b1345 : o3 ≠ b1345 := Nat.ne_of_lt (Nat.lt_of_lt_of_eq F1329.lt gb1345.symm)
  have ne_o9_b1345 : o9 ≠ b1345 := Nat.ne_of_lt (Nat.lt_of_lt_of_eq F1332.lt gb1345.symm)
  have sz_b1345 : h0.size ≤ b1345 := Nat.le_trans KK1323.1 (Nat.le_of_eq gb1345.symm)
  have g_b1345 : n0 ≤ b1345 := Nat.le_trans Z0 sz_b1345
  have V1345 : Arv Z h1345 b1345 k1345 .boolean (8 : Int32) [.int 0, .int 0, .int 0, .int 0, .int 0, .int 0, .int 0, .int 0] (.int 0) := (Arv.new A1345 (by decide)).pad (pad_rep [] (.int 0) 8)
  have KK1345 : Keep h0 h1345 [o3, o0] := KK1323.ext E1345
  refine gO st1345 ?_
  show OGl _ _ _ _ T1345 (mkF m 182 #[rv o0, iv 0, iv 3, jv 2305843009213693950, sc, iv 1, iv 6, rv b1053, jv ((0 : Int64) + (e7a_0 q6 q7)), sc, rv b1251, iv 4, iv 4, iv (-1), iv 1] [.ref b1345, .ref o0])
  have F1347 := ((((((((((((((((((((((((((((((((((((F23_o0.ext E1053).keep K1054 (ninS ne_o0_b1053 nin0)).ext E1057).other W1058 (Or.inl ne_o0_b1057)).other W1062 (Or.inl ne_o0_b1053)).other W1074 (Or.inl ne_o0_b1053)).other W1079 (Or.inl ne_o0_b1057)).other W1098 (Or.inl ne_o0_b1053)).other W1103 (Or.inl ne_o0_b1057)).other W1118 (Or.inl ne_o0_b1053)).other W1123 (Or.inl ne_o0_b1057)).other W1142 (Or.inl ne_o0_b1053)).other W1147 (Or.inl ne_o0_b1057)).other W1162 (Or.inl ne_o0_b1053)).other W1167 (Or.inl ne_o0_b1057)).other W1194 (Or.inl ne_o0_o3)).other W1198 (Or.inl ne_o0_o3)).other W1205 (Or.inl ne_o0_o3)).other W1209 (Or.inl ne_o0_o3)).other W1216 (Or.inl ne_o0_o3)).other W1220 (Or.inl ne_o0_o3)).other W1227 (Or.inl ne_o0_o3)).other W1231 (Or.inl ne_o0_o3)).other W1238 (Or.inl ne_o0_o3)).other W1242 (Or.inl ne_o0_o3)).keep K1247 (ninS ne_o0_b1053 nin0)).ext E1251).other W1257 (Or.inl ne_o0_b1251)).other W1261 (Or.inl ne_o0_b1053)).other W1273 (Or.inl ne_o0_b1053)).other W1278 (Or.inl ne_o0_b1251)).other W1298 (Or.inl ne_o0_b1053)).other W1303 (Or.inl ne_o0_b1251)).other W1318 (Or.inl ne_o0_b1053)).other W1323 (Or.inl ne_o0_b1251)).ext E1345)
  have F1348 := ((((((((((((((((((((((((((((((((((((E_o0.ext E1053).keep K1054).ext E1057).wr W1058).wr W1062).wr W1074).wr W1079).wr W1098).wr W1103).wr W1118).wr W1123).wr W1142).wr W1147).wr W1162).wr W1167).wr W1194).wr W1198).wr W1205).wr W1209).wr W1216).wr W1220).wr W1227).wr W1231).wr W1238).wr W1242).keep K1247).ext E1251).wr W1257).wr W1261).wr W1273).wr W1278).wr W1298).wr W1303).wr W1318).wr W1323).ext E1345)
  obtain ⟨T1349, h1349, X1349, e1349, W1349, st1349⟩ := putF X1345 hx hZ hown (host := "") (Or.inl (w58 hw)) Via.refl e1345 F1347 F1348 (Or.inl (w59 hw)) (w2 hw) (ty := (.array .boolean)) (by decide) rfl rfl (g := (mkF m 182 #[rv o0, iv 0, iv 3, jv 2305843009213693950, sc, iv 1, iv 6, rv b1053, jv ((0 : Int64) + (e7a_0 q6 q7)), sc, rv b1251, iv 4, iv 4, iv (-1), iv 1] [.ref b1345, .ref o0])) rfl rfl (hb hby d7_182)
  refine gO st1349 ?_
  have N1349 := Fr.snoc X1349 N1323 g_o0
  have Fw1349 := F1347.same W1349
  have KK1349 := KK1345.wr W1349 (Or.inl (List.mem_of_getElem? (i := 1) rfl))
  show OGl _ _ _ _ T1349 (mkF m 185 #[rv o0, iv 0, iv 3, jv 2305843009213693950, sc, iv 1, iv 6, rv b1053, jv ((0 : Int64) + (e7a_0 q6 q7)), sc, rv b1251, iv 4, iv 4, iv (-1), iv 1] [])
  have F1351 := ((V1323.ext E1345).other W1349 (Ne.symm ne_o0_b1251))
  refine gO (fun t k => kc X1349 hx hby d7_185 (si X1349 hx hby (L' := #[rv o0, iv 0, iv 3, jv 2305843009213693950, sc, iv 1, iv 6, rv b1053, jv ((0 : Int64) + (e7a_0 q6 q7)), sc, rv b1251, iv 4, iv 0, iv (-1), iv 1]) d7_186 rfl (ki X1349 hx hby d7_188 rfl (ki X1349 hx hby d7_190 rfl (cN X1349 hx hby d7_192 (tlt (by decide : (0 : Int32) < (4 : Int32))).2.1 (kaN X1349 hx hby d7_195 rfl rfl k)))))) (gG X1349 hx hby hZ hown (w58 hw) e1349 Fw1349 d7_196 fun T1350 X1350 e1350 => gO (fun t k => ka X1350 hx hby d7_199 rfl rfl (ki X1350 hx hby d7_201 rfl (rI X1350 hx hby hZ e1350 F1351 (.int 1) rfl rfl d7_203 (kc X1350 hx hby d7_204 k)))) ?_)
  show OGl _ _ _ _ T1350 (mkF m 205 #[rv o0, iv 0, iv 3, jv 2305843009213693950, sc, iv 1, iv 6, rv b1053, jv ((0 : Int64) + (e7a_0 q6 q7)), sc, rv b1251, iv 4, iv 0, iv (-1), iv 1] [.int 1, .int 1, .ref b1345])
  have F1352 := (V1345.other W1349 (Ne.symm ne_o0_b1345))
  refine wZ X1350 hx hby hZ e1350 F1352 1 rfl (Nat.le_of_ble_eq_true rfl) d7_205 fun T1353 h1353 X1353 e1353 W1353 V1353 => ?_
  have N1353 := Fr.snoc X1353 N1349 g_b1345
  have KK1353 := KK1349.wr W1353 (Or.inr sz_b1345)
  show OGl _ _ _ _ T1353 (mkF m 206 #[rv o0, iv 0, iv 3, jv 2305843009213693950, sc, iv 1, iv 6, rv b1053, jv ((0 : Int64) + (e7a_0 q6 q7)), sc, rv b1251, iv 4, iv 0, iv (-1), iv 1] [])
  have F1354 := (Fw1349.other W1353 (Or.inl ne_o0_b1345))
  have F1356 := (F1351.other W1353 ne_b1251_b1345)
  refine gO (fun t k => o_iinc X1353 hx hby (L' := #[rv o0, iv 0, iv 3, jv 2305843009213693950, sc, iv 1, iv 6, rv b1053, jv ((0 : Int64) + (e7a_0 q6 q7)), sc, rv b1251, iv 4, iv 1, iv (-1), iv 1]) d7_206 rfl rfl (o_goto X1353 hx hby 188 d7_209 rfl (ki X1353 hx hby d7_188 rfl (ki X1353 hx hby d7_190 rfl (cN X1353 hx hby d7_192 (tlt (by decide : (1 : Int32) < (4 : Int32))).2.1 (kaN X1353 hx hby d7_195 rfl rfl k)))))) (gG X1353 hx hby hZ hown (w58 hw) e1353 F1354 d7_196 fun T1355 X1355 e1355 => gO (fun t k => ka X1355 hx hby d7_199 rfl rfl (ki X1355 hx hby d7_201 rfl (rI X1355 hx hby hZ e1355 F1356 (.int 2) rfl rfl d7_203 (kc X1355 hx hby d7_204 k)))) ?_)
  show OGl _ _ _ _ T1355 (mkF m 205 #[rv o0, iv 0, iv 3, jv 2305843009213693950, sc, iv 1, iv 6, rv b1053, jv ((0 : Int64) + (e7a_0 q6 q7)), sc, rv b1251, iv 4, iv 1, iv (-1), iv 1] [.int 1, .int 2, .ref b1345])
  refine wZ X1355 hx hby hZ e1355 V1353 2 rfl (Nat.le_of_ble_eq_true rfl) d7_205 fun T1357 h1357 X1357 e1357 W1357 V1357 => ?_
  have N1357 := Fr.snoc X1357 N1353 g_b1345
  have KK1357 := KK1353.wr W1357 (Or.inr sz_b1345)
  show OGl _ _ _ _ T1357 (mkF m 206 #[rv o0, iv 0, iv 3, jv 2305843009213693950, sc, iv 1, iv 6, rv b1053, jv ((0 : Int64) + (e7a_0 q6 q7)), sc, rv b1251, iv 4, iv 1, iv (-1), iv 1] [])
  have F1358 := (F1354.other W1357 (Or.inl ne_o0_b1345))
  have F1360 := (F1356.other W1357 ne_b1251_b1345)
  refine gO (fun t k => o_iinc X1357 hx hby (L' := #[rv o0, iv 0, iv 3, jv 2305843009213693950, sc, iv 1, iv 6, rv b1053, jv ((0 : Int64) + (e7a_0 q6 q7)), sc, rv b1251, iv 4, iv 2, iv (-1), iv 1]) d7_206 rfl rfl (o_goto X1357 hx hby 188 d7_209 rfl (ki X1357 hx hby d7_188 rfl (ki X1357 hx hby d7_190 rfl (cN X1357 hx hby d7_192 (tlt (by decide : (2 : Int32) < (4 : Int32))).2.1 (kaN X1357 hx hby d7_195 rfl rfl k)))))) (gG X1357 hx hby hZ hown (w58 hw) e1357 F1358 d7_196 fun T1359 X1359 e1359 => gO (fun t k => ka X1359 hx hby d7_199 rfl rfl (ki X1359 hx hby d7_201 rfl (rI X1359 hx hby hZ e1359 F1360 (.int 3) rfl rfl d7_203 (kc X1359 hx hby d7_204 k)))) ?_)
  show OGl _ _ _ _ T1359 (mkF m 205 #[rv o0, iv 0, iv 3, jv 2305843009213693950, sc, iv 1, iv 6, rv b1053, jv ((0 : Int64) + (e7a_0 q6 q7)), sc, rv b1251, iv 4, iv 2, iv (-1), iv 1] [.int 1, .int 3, .ref b1345])
  refine wZ X1359 hx hby hZ e1359 V1357 3 rfl (Nat.le_of_ble_eq_true rfl) d7_205 fun T1361 h1361 X1361 e1361 W1361 V1361 => ?_
  have N1361 := Fr.snoc X1361 N1357 g_b1345
  have KK1361 := KK1357.wr W1361 (Or.inr sz_b1345)
  show OGl _ _ _ _ T1361 (mkF m 206 #[rv o0, iv 0, iv 3, jv 2305843009213693950, sc, iv 1, iv 6, rv b1053, jv ((0 : Int64) + (e7a_0 q6 q7)), sc, rv b1251, iv 4, iv 2, iv (-1), iv 1] [])
  have F1362 := (F1358.other W1361 (Or.inl ne_o0_b1345))
  have F1364 := (F1360.other W1361 ne_b1251_b1345)
  refine gO (fun t k => o_iinc X1361 hx hby (L' := #[rv o0, iv 0, iv 3, jv 2305843009213693950, sc, iv 1, iv 6, rv b1053, jv ((0 : Int64) + (e7a_0 q6 q7)), sc, rv b1251, iv 4, iv 3, iv (-1), iv 1]) d7_206 rfl rfl (o_goto X1361 hx hby 188 d7_209 rfl (ki X1361 hx hby d7_188 rfl (ki X1361 hx hby d7_190 rfl (cN X1361 hx hby d7_192 (tlt (by decide : (3 : Int32) < (4 : Int32))).2.1 (kaN X1361 hx hby d7_195 rfl rfl k)))))) (gG X1361 hx hby hZ hown (w58 hw) e1361 F1362 d7_196 fun T1363 X1363 e1363 => gO (fun t k => ka X1363 hx hby d7_199 rfl rfl (ki X1363 hx hby d7_201 rfl (rI X1363 hx hby hZ e1363 F1364 (.int 4) rfl rfl d7_203 (kc X1363 hx hby d7_204 k)))) ?_)
  show OGl _ _ _ _ T1363 (mkF m 205 #[rv o0, iv 0, iv 3, jv 2305843009213693950, sc, iv 1, iv 6, rv b1053, jv ((0 : Int64) + (e7a_0 q6 q7)), sc, rv b1251, iv 4, iv 3, iv (-1), iv 1] [.int 1, .int 4, .ref b1345])
  refine wZ X1363 hx hby hZ e1363 V1361 4 rfl (Nat.le_of_ble_eq_true rfl) d7_205 fun T1365 h1365 X1365 e1365 W1365 V1365 => ?_
  have N1365 := Fr.snoc X1365 N1361 g_b1345
  have KK1365 := KK1361.wr W1365 (Or.inr sz_b1345)
  show OGl _ _ _ _ T1365 (mkF m 206 #[rv o0, iv 0, iv 3, jv 2305843009213693950, sc, iv 1, iv 6, rv b1053, jv ((0 : Int64) + (e7a_0 q6 q7)), sc, rv b1251, iv 4, iv 3, iv (-1), iv 1] [])
  refine gO (fun t k => o_iinc X1365 hx hby (L' := #[rv o0, iv 0, iv 3, jv 2305843009213693950, sc, iv 1, iv 6, rv b1053, jv ((0 : Int64) + (e7a_0 q6 q7)), sc, rv b1251, iv 4, iv 4, iv (-1), iv 1]) d7_206 rfl rfl (o_goto X1365 hx hby 188 d7_209 rfl (ki X1365 hx hby d7_188 rfl (ki X1365 hx hby d7_190 rfl (cY X1365 hx hby 212 d7_192 (flt (by decide : ¬ ((4 : Int32) < (4 : Int32)))).2.1 rfl (kl X1365 hx hby d7_212 rfl k)))))) ?_
  show OGl _ _ _ _ T1365 (mkF m 214 #[rv o0, iv 0, iv 3, jv 2305843009213693950, sc, iv 1, iv 6, rv b1053, jv ((0 : Int64) + (e7a_0 q6 q7)), sc, rv b1251, iv 4, iv 4, iv (-1), iv 1] [.long ((0 : Int64) + (e7a_0 q6 q7))])
  obtain ⟨fs, hr, hrun, hended, hW, hsame⟩ := X1365.leave (v := some (.long ((0 : Int64) + (e7a_0 q6 q7)))) (fun h => by rw [Bd.returns] at h; cases h) (BodyLoose.notSynchronized Bd)
  refine ⟨_, _, X1365.lreturnOut hx Bd.returns (hb hby d7_214) hr, hrun, hended, _, _, rfl, ?_, ⟨_, rfl⟩, hW, hsame.mono (by decide) (by decide)⟩
  show Q7a Z o0 o1 k2 o3 k4 q5 q6 q7 q8 o9 k10 o11 k12 h0 n0 _ T1365.heap _
  rw [e1365]
  have F1366 := ((((((F1329.ext E1345).other W1349 (Ne.symm ne_o0_o3)).other W1353 ne_o3_b1345).other W1357 ne_o3_b1345).other W1361 ne_o3_b1345).other W1365 ne_o3_b1345)
  have F1367 := (((((((((((((F1258.other W1261 (Or.inl ne_o0_b1053)).other W1273 (Or.inl ne_o0_b1053)).other W1278 (Or.inl ne_o0_b1251)).other W1298 (Or.inl ne_o0_b1053)).other W1303 (Or.inl ne_o0_b1251)).other W1318 (Or.inl ne_o0_b1053)).other W1323 (Or.inl ne_o0_b1251)).ext E1345).other W1349 (Or.inr (sn32_59 hw))).other W1353 (Or.inl ne_o0_b1345)).other W1357 (Or.inl ne_o0_b1345)).other W1361 (Or.inl ne_o0_b1345)).other W1365 (Or.inl ne_o0_b1345))
  have F1368 := ((((((F1343.ext E1345).other W1349 (Or.inr (sn26_59 hw))).other W1353 (Or.inl ne_o0_b1345)).other W1357 (Or.inl ne_o0_b1345)).other W1361 (Or.inl ne_o0_b1345)).other W1365 (Or.inl ne_o0_b1345))
  have F1369 := ((((((F1335.ext E1345).other W1349 (Or.inr (sn12_59 hw))).other W1353 (Or.inl ne_o0_b1345)).other W1357 (Or.inl ne_o0_b1345)).other W1361 (Or.inl ne_o0_b1345)).other W1365 (Or.inl ne_o0_b1345))
  have F1370 := ((((((F1324.ext E1345).other W1349 (Or.inr (sn16_59 hw))).other W1353 (Or.inl ne_o0_b1345)).other W1357 (Or.inl ne_o0_b1345)).other W1361 (Or.inl ne_o0_b1345)).other W1365 (Or.inl ne_o0_b1345))
  have F1371 := ((((((F1327.ext E1345).other W1349 (Or.inr (sn19_59 hw))).other W1353 (Or.inl ne_o0_b1345)).other W1357 (Or.inl ne_o0_b1345)).other W1361 (Or.inl ne_o0_b1345)).other W1365 (Or.inl ne_o0_b1345))
  have F1372 := (F1362.other W1365 (Or.inl ne_o0_b1345))
  have F1373 := ((((((F1330.ext E1345).other W1349 (Or.inr (sn14_59 hw))).other W1353 (Or.inl ne_o0_b1345)).other W1357 (Or.inl ne_o0_b1345)).other W1361 (Or.inl ne_o0_b1345)).other W1365 (Or.inl ne_o0_b1345))
  exact ⟨b1345, k1345, rfl, N1365, KK1365, sz_b1345, F1366, F1367, F1368, F1369, F1370, F1371, F1372, F1373, V1365⟩
def Q10d (Z : State) (o0 : Addr) (o1 : Addr) (k2 : ClassId) (h0 : Heap) (n0 : Nat) (v : Option Value) (h : Heap) (L : List Loc) : Prop := v = some (.int 0) ∧ Fr n0 L ∧ h = h0
set_option maxRecDepth 65536 in
set_option maxHeartbeats 40000000 in
theorem rm10d (l : Launch) (Z : State) (a0 : Array Value) (hw : ∀ d ∈ tables_1, d.before a0 Z = true) (ws : List Jvm.Cond) (o0 : Addr) (o1 : Addr) (k2 : ClassId) (h0 : Heap) (n0 : Nat) (Z0 : n0 ≤ h0.size) (F0_o0 : Fld Z h0 o0 cc0 "sourceSide" "[Z" (.ref o1)) (V_o1 : Arv Z h0 o1 k2 .boolean 8 [.int 0, .int 1, .int 1, .int 1, .int 1, .int 0, .int 0, .int 0] (.int 0)) :
    MetFree l yy8 (head1 (Jvm.Cond.code yy8 bc8 2 (some .boolean) :: ws) rr1) (fun a U => a = #[.ref o0, .int 1] ∧ Z.Warmed39 U.vm ∧ U.heap = h0) (fun _ _ _ _ _ => True) (fun _ U o U' => ∃ v L, o = .returned v ∧ Q10d Z o0 o1 k2 h0 n0 v U'.heap L ∧ FrameEnd U o U' L rr1.cells rr1.slots) := by
  refine MetFree.of_bodySF (plainFor_of_name pn_0) hisR ?_
  intro p e s m args below meth c s₁ Bd hml0 hP hK
  obtain ⟨rfl, hZ, hh⟩ := hP
  have hx := Bd.exec
  have hby := Bd.bytes
  have hml : c.maxLocals = 2 := hml0
  have hown : s.vm.findClass cc0 = some m.cls := findClass_of_methodNamed Bd.named
  have hnm := (name_of_methodNamed Bd.named Bd.method).1
  have X0 : Stand p l e rr1 s m #[.ref o0, .int 1] below meth c s₁ [] 0 0 := Stand.of_body Bd
  have e0 : s₁.heap = h0 := by rw [← hh, Bd.state]; rfl
  have N0 := Fr.nil n0
  refine OGl.start (ef_10 m o0 (1 : Int32)) ?_
  show OGl _ _ _ _ s₁ (mkF m 0 #[rv o0, iv 1] [])
  refine gO (fun t k => kaN X0 hx hby d10_0 rfl rfl k) (gG X0 hx hby hZ hown (w58 hw) e0 F0_o0 d10_1 fun T1378 X1378 e1378 => gO (fun t k => kc X1378 hx hby d10_4 (kiN X1378 hx hby d10_5 rfl (o_imul X1378 hx hby d10_6 (rZ X1378 hx hby hZ e1378 V_o1 (.int 1) rfl rfl d10_7 (iN X1378 hx hby d10_8 ((if0 _ _).trans (feq (by decide : ¬ ((1 : Int32) = (0 : Int32)))).1) (kaN X1378 hx hby d10_11 rfl rfl k)))))) (gG X1378 hx hby hZ hown (w58 hw) e1378 F0_o0 d10_12 fun T1379 X1379 e1379 => gO (fun t k => kc X1379 hx hby d10_15 (kiN X1379 hx hby d10_16 rfl (o_imul X1379 hx hby d10_17 (kc X1379 hx hby d10_18 (o_iadd X1379 hx hby d10_19 (rZ X1379 hx hby hZ e1379 V_o1 (.int 1) rfl rfl d10_20 (iY X1379 hx hby 28 d10_21 ((if0 _ _).trans (feq (by decide : ¬ ((1 : Int32) = (0 : Int32)))).2) rfl (kc X1379 hx hby d10_28 k)))))))) ?_))
  show OGl _ _ _ _ T1379 (mkF m 29 #[rv o0, iv 1] [.int 0])
  obtain ⟨fs, hr, hrun, hended, hW, hsame⟩ := X1379.leave (v := some (.int 0)) (fun h => by rw [Bd.returns] at h; cases h) (BodyLoose.notSynchronized Bd)
  refine ⟨_, _, retN X1379 hx (t := .boolean) Bd.returns (by simp) (hb hby d10_29) hr, hrun, hended, _, _, rfl, ?_, ⟨_, rfl⟩, hW, hsame.mono (by decide) (by decide)⟩
  show Q10d Z o0 o1 k2 h0 n0 _ T1379.heap _
  rw [e1379]
  exact ⟨rfl, N0, rfl⟩
def Q10e (Z : State) (o0 : Addr) (o1 : Addr) (k2 : ClassId) (h0 : Heap) (n0 : Nat) (v : Option Value) (h : Heap) (L : List Loc) : Prop := v = some (.int 1) ∧ Fr n0 L ∧ h = h0
set_option maxRecDepth 65536 in
set_option maxHeartbeats 40000000 in
theorem rm10e (l : Launch) (Z : State) (a0 : Array Value) (hw : ∀ d ∈ tables_1, d.before a0 Z = true) (ws : List Jvm.Cond) (o0 : Addr) (o1 : Addr) (k2 : ClassId) (h0 : Heap) (n0 : Nat) (Z0 : n0 ≤ h0.size) (F0_o0 : Fld Z h0 o0 cc0 "sourceSide" "[Z" (.ref o1)) (V_o1 : Arv Z h0 o1 k2 .boolean 8 [.int 0, .int 1, .int 1, .int 1, .int 1, .int 0, .int 0, .int 0] (.int 0)) :
    MetFree l yy8 (head1 (Jvm.Cond.code yy8 bc8 2 (some .boolean) :: ws) rr1) (fun a U => a = #[.ref o0, .int 2] ∧ Z.Warmed39 U.vm ∧ U.heap = h0) (fun _ _ _ _ _ => True) (fun _ U o U' => ∃ v L, o = .returned v ∧ Q10e Z o0 o1 k2 h0 n0 v U'.heap L ∧ FrameEnd U o U' L rr1.cells rr1.slots) := by
  refine MetFree.of_bodySF (plainFor_of_name pn_0) hisR ?_
  intro p e s m args below meth c s₁ Bd hml0 hP hK
  obtain ⟨rfl, hZ, hh⟩ := hP
  have hx := Bd.exec
  have hby := Bd.bytes
  have hml : c.maxLocals = 2 := hml0
  have hown : s.vm.findClass cc0 = some m.cls := findClass_of_methodNamed Bd.named
  have hnm := (name_of_methodNamed Bd.named Bd.method).1
  have X0 : Stand p l e rr1 s m #[.ref o0, .int 2] below meth c s₁ [] 0 0 := Stand.of_body Bd
  have e0 : s₁.heap = h0 := by rw [← hh, Bd.state]; rfl
  have N0 := Fr.nil n0
  refine OGl.start (ef_10 m o0 (2 : Int32)) ?_
  show OGl _ _ _ _ s₁ (mkF m 0 #[rv o0, iv 2] [])
  refine gO (fun t k => kaN X0 hx hby d10_0 rfl rfl k) (gG X0 hx hby hZ hown (w58 hw) e0 F0_o0 d10_1 fun T1382 X1382 e1382 => gO (fun t k => kc X1382 hx hby d10_4 (kiN X1382 hx hby d10_5 rfl (o_imul X1382 hx hby d10_6 (rZ X1382 hx hby hZ e1382 V_o1 (.int 1) rfl rfl d10_7 (iN X1382 hx hby d10_8 ((if0 _ _).trans (feq (by decide : ¬ ((1 : Int32) = (0 : Int32)))).1) (kaN X1382 hx hby d10_11 rfl rfl k)))))) (gG X1382 hx hby hZ hown (w58 hw) e1382 F0_o0 d10_12 fun T1383 X1383 e1383 => gO (fun t k => kc X1383 hx hby d10_15 (kiN X1383 hx hby d10_16 rfl (o_imul X1383 hx hby d10_17 (kc X1383 hx hby d10_18 (o_iadd X1383 hx hby d10_19 (rZ X1383 hx hby hZ e1383 V_o1 (.int 0) rfl rfl d10_20 (iN X1383 hx hby d10_21 ((if0 _ _).trans (teq (by decide : (0 : Int32) = (0 : Int32))).2) (kc X1383 hx hby d10_24 (o_goto X1383 hx hby 29 d10_25 rfl k))))))))) ?_))
  show OGl _ _ _ _ T1383 (mkF m 29 #[rv o0, iv 2] [.int 1])
  obtain ⟨fs, hr, hrun, hended, hW, hsame⟩ := X1383.leave (v := some (.int 1)) (fun h => by rw [Bd.returns] at h; cases h) (BodyLoose.notSynchronized Bd)
  refine ⟨_, _, retN X1383 hx (t := .boolean) Bd.returns (by simp) (hb hby d10_29) hr, hrun, hended, _, _, rfl, ?_, ⟨_, rfl⟩, hW, hsame.mono (by decide) (by decide)⟩
  show Q10e Z o0 o1 k2 h0 n0 _ T1383.heap _
  rw [e1383]
  exact ⟨rfl, N0, rfl⟩
def Q10f (Z : State) (o0 : Addr) (o1 : Addr) (k2 : ClassId) (h0 : Heap) (n0 : Nat) (v : Option Value) (h : Heap) (L : List Loc) : Prop := v = some (.int 0) ∧ Fr n0 L ∧ h = h0
set_option maxRecDepth 65536 in
set_option maxHeartbeats 40000000 in
theorem rm10f (l : Launch) (Z : State) (a0 : Array Value) (hw : ∀ d ∈ tables_1, d.before a0 Z = true) (ws : List Jvm.Cond) (o0 : Addr) (o1 : Addr) (k2 : ClassId) (h0 : Heap) (n0 : Nat) (Z0 : n0 ≤ h0.size) (F0_o0 : Fld Z h0 o0 cc0 "sourceSide" "[Z" (.ref o1)) (V_o1 : Arv Z h0 o1 k2 .boolean 8 [.int 0, .int 1, .int 1, .int 1, .int 1, .int 0, .int 0, .int 0] (.int 0)) :
    MetFree l yy8 (head1 (Jvm.Cond.code yy8 bc8 2 (some .boolean) :: ws) rr1) (fun a U => a = #[.ref o0, .int 0] ∧ Z.Warmed39 U.vm ∧ U.heap = h0) (fun _ _ _ _ _ => True) (fun _ U o U' => ∃ v L, o = .returned v ∧ Q10f Z o0 o1 k2 h0 n0 v U'.heap L ∧ FrameEnd U o U' L rr1.cells rr1.slots) := by
  refine MetFree.of_bodySF (plainFor_of_name pn_0) hisR ?_
  intro p e s m args below meth c s₁ Bd hml0 hP hK
  obtain ⟨rfl, hZ, hh⟩ := hP
  have hx := Bd.exec
  have hby := Bd.bytes
  have hml : c.maxLocals = 2 := hml0
  have hown : s.vm.findClass cc0 = some m.cls := findClass_of_methodNamed Bd.named
  have hnm := (name_of_methodNamed Bd.named Bd.method).1
  have X0 : Stand p l e rr1 s m #[.ref o0, .int 0] below meth c s₁ [] 0 0 := Stand.of_body Bd
  have e0 : s₁.heap = h0 := by rw [← hh, Bd.state]; rfl
  have N0 := Fr.nil n0
  refine OGl.start (ef_10 m o0 (0 : Int32)) ?_
  show OGl _ _ _ _ s₁ (mkF m 0 #[rv o0, iv 0] [])
  refine gO (fun t k => kaN X0 hx hby d10_0 rfl rfl k) (gG X0 hx hby hZ hown (w58 hw) e0 F0_o0 d10_1 fun T1385 X1385 e1385 => gO (fun t k => kc X1385 hx hby d10_4 (kiN X1385 hx hby d10_5 rfl (o_imul X1385 hx hby d10_6 (rZ X1385 hx hby hZ e1385 V_o1 (.int 0) rfl rfl d10_7 (iY X1385 hx hby 28 d10_8 ((if0 _ _).trans (teq (by decide : (0 : Int32) = (0 : Int32))).1) rfl (kc X1385 hx hby d10_28 k)))))) ?_)
  show OGl _ _ _ _ T1385 (mkF m 29 #[rv o0, iv 0] [.int 0])
  obtain ⟨fs, hr, hrun, hended, hW, hsame⟩ := X1385.leave (v := some (.int 0)) (fun h => by rw [Bd.returns] at h; cases h) (BodyLoose.notSynchronized Bd)
  refine ⟨_, _, retN X1385 hx (t := .boolean) Bd.returns (by simp) (hb hby d10_29) hr, hrun, hended, _, _, rfl, ?_, ⟨_, rfl⟩, hW, hsame.mono (by decide) (by decide)⟩
  show Q10f Z o0 o1 k2 h0 n0 _ T1385.heap _
  rw [e1385]
  exact ⟨rfl, N0, rfl⟩
def Q10g (Z : State) (o0 : Addr) (o1 : Addr) (k2 : ClassId) (h0 : Heap) (n0 : Nat) (v : Option Value) (h : Heap) (L : List Loc) : Prop := v = some (.int 0) ∧ Fr n0 L ∧ h = h0
set_option maxRecDepth 65536 in
set_option maxHeartbeats 40000000 in
theorem rm10g (l : Launch) (Z : State) (a0 : Array Value) (hw : ∀ d ∈ tables_1, d.before a0 Z = true) (ws : List Jvm.Cond) (o0 : Addr) (o1 : Addr) (k2 : ClassId) (h0 : Heap) (n0 : Nat) (Z0 : n0 ≤ h0.size) (F0_o0 : Fld Z h0 o0 cc0 "sourceSide" "[Z" (.ref o1)) (V_o1 : Arv Z h0 o1 k2 .boolean 8 [.int 0, .int 1, .int 1, .int 1, .int 1, .int 0, .int 0, .int 0] (.int 0)) :
    MetFree l yy8 (head1 (Jvm.Cond.code yy8 bc8 2 (some .boolean) :: ws) rr1) (fun a U => a = #[.ref o0, .int 3] ∧ Z.Warmed39 U.vm ∧ U.heap = h0) (fun _ _ _ _ _ => True) (fun _ U o U' => ∃ v L, o = .returned v ∧ Q10g Z o0 o1 k2 h0 n0 v U'.heap L ∧ FrameEnd U o U' L rr1.cells rr1.slots) := by
  refine MetFree.of_bodySF (plainFor_of_name pn_0) hisR ?_
  intro p e s m args below meth c s₁ Bd hml0 hP hK
  obtain ⟨rfl, hZ, hh⟩ := hP
  have hx := Bd.exec
  have hby := Bd.bytes
  have hml : c.maxLocals = 2 := hml0
  have hown : s.vm.findClass cc0 = some m.cls := findClass_of_methodNamed Bd.named
  have hnm := (name_of_methodNamed Bd.named Bd.method).1
  have X0 : Stand p l e rr1 s m #[.ref o0, .int 3] below meth c s₁ [] 0 0 := Stand.of_body Bd
  have e0 : s₁.heap = h0 := by rw [← hh, Bd.state]; rfl
  have N0 := Fr.nil n0
  refine OGl.start (ef_10 m o0 (3 : Int32)) ?_
  show OGl _ _ _ _ s₁ (mkF m 0 #[rv o0, iv 3] [])
  refine gO (fun t k => kaN X0 hx hby d10_0 rfl rfl k) (gG X0 hx hby hZ hown (w58 hw) e0 F0_o0 d10_1 fun T1387 X1387 e1387 => gO (fun t k => kc X1387 hx hby d10_4 (kiN X1387 hx hby d10_5 rfl (o_imul X1387 hx hby d10_6 (rZ X1387 hx hby hZ e1387 V_o1 (.int 0) rfl rfl d10_7 (iY X1387 hx hby 28 d10_8 ((if0 _ _).trans (teq (by decide : (0 : Int32) = (0 : Int32))).1) rfl (kc X1387 hx hby d10_28 k)))))) ?_)
  show OGl _ _ _ _ T1387 (mkF m 29 #[rv o0, iv 3] [.int 0])
  obtain ⟨fs, hr, hrun, hended, hW, hsame⟩ := X1387.leave (v := some (.int 0)) (fun h => by rw [Bd.returns] at h; cases h) (BodyLoose.notSynchronized Bd)
  refine ⟨_, _, retN X1387 hx (t := .boolean) Bd.returns (by simp) (hb hby d10_29) hr, hrun, hended, _, _, rfl, ?_, ⟨_, rfl⟩, hW, hsame.mono (by decide) (by decide)⟩
  show Q10g Z o0 o1 k2 h0 n0 _ T1387.heap _
  rw [e1387]
  exact ⟨rfl, N0, rfl⟩
def Q5n (Z : State) (o0 : Addr) (o1 : Addr) (k2 : ClassId) (o3 : Addr) (k4 : ClassId) (q5 : Int64) (q6 : Int64) (q7 : Int64) (q8 : Int64) (o9 : Addr) (o10 : Addr) (k11 : ClassId) (k12 : ClassId) (h0 : Heap) (n0 : Nat) (v : Option Value) (h : Heap) (L : List Loc) : Prop := v = none ∧ Fr n0 L ∧ Keep h0 h [o1, o3, o9, o10, o0] ∧ Arv Z h o1 k2 .int 16 [.int 1, .int 0, .int 3, .int 2, .int 5, .int 4, .int 7, .int 6, .int 2, .int 1, .int 4, .int 3, .int 6, .int 5, .int 4, .int 0] (.int 0) ∧ Arv Z h o3 k4 .long 16 [.long q5, .long 0, .long q6, .long 0, .long q7, .long 0, .long q8, .long 0, .long 2305843009213693951, .long 0, .long 2305843009213693951, .long 0, .long 2305843009213693951, .long 0, .long 2305843009213693951, .long 0] (.long 0) ∧ Arv Z h o9 k12 .int 16 [.int (-1), .int (-1), .int (-1), .int (-1), .int (-1), .int (-1), .int (-1), .int (-1), .int 1, .int 2, .int 3, .int 4, .int 5, .int 6, .int 8, .int 0] (.int 0) ∧ Arv Z h o10 k11 .int 16 (.int 0 :: .int 14 :: .int 9 :: .int 10 :: .int 11 :: .int 12 :: .int 13 :: .int 7 :: zi8) (.int 0) ∧ Fld Z h o0 cc0 "edges" "I" (.int 15) ∧ Fld Z h o0 cc0 "halves" "I" (.int 8) ∧ Fld Z h o0 cc0 "heads" "[I" (.ref o10) ∧ Fld Z h o0 cc0 "nexts" "[I" (.ref o9) ∧ Fld Z h o0 cc0 "residues" "[J" (.ref o3) ∧ Fld Z h o0 cc0 "sourceSide" "[Z" (.null) ∧ Fld Z h o0 cc0 "targets" "[I" (.ref o1)
set_option maxRecDepth 65536 in
set_option maxHeartbeats 40000000 in
theorem rm5n (l : Launch) (Z : State) (a0 : Array Value) (hw : ∀ d ∈ tables_1, d.before a0 Z = true) (ws : List Jvm.Cond) (o0 : Addr) (o1 : Addr) (k2 : ClassId) (o3 : Addr) (k4 : ClassId) (q5 : Int64) (q6 : Int64) (q7 : Int64) (q8 : Int64) (o9 : Addr) (o10 : Addr) (k11 : ClassId) (k12 : ClassId) (h0 : Heap) (n0 : Nat) (Z0 : n0 ≤ h0.size) (F0_o0 : Fld Z h0 o0 cc0 "targets" "[I" (.ref o1)) (F1_o0 : Fld Z h0 o0 cc0 "edges" "I" (.int 14)) (V_o1 : Arv Z h0 o1 k2 .int 16 [.int 1, .int 0, .int 3, .int 2, .int 5, .int 4, .int 7, .int 6, .int 2, .int 1, .int 4, .int 3, .int 6, .int 5, .int 0, .int 0] (.int 0)) (g_o1 : n0 ≤ o1) (F4_o0 : Fld Z h0 o0 cc0 "residues" "[J" (.ref o3)) (ne_o0_o1 : o0 ≠ o1) (V_o3 : Arv Z h0 o3 k4 .long 16 [.long q5, .long 0, .long q6, .long 0, .long q7, .long 0, .long q8, .long 0, .long 2305843009213693951, .long 0, .long 2305843009213693951, .long 0, .long 2305843009213693951, .long 0, .long 0, .long 0] (.long 0)) (ne_o3_o1 : o3 ≠ o1) (g_o3 : n0 ≤ o3) (F9_o0 : Fld Z h0 o0 cc0 "nexts" "[I" (.ref o9)) (ne_o0_o3 : o0 ≠ o3) (F11_o0 : Fld Z h0 o0 cc0 "heads" "[I" (.ref o10)) (V_o10 : Arv Z h0 o10 k11 .int 16 (.int 0 :: .int 8 :: .int 9 :: .int 10 :: .int 11 :: .int 12 :: .int 13 :: .int 7 :: zi8) (.int 0)) (ne_o10_o1 : o10 ≠ o1) (ne_o10_o3 : o10 ≠ o3) (V_o9 : Arv Z h0 o9 k12 .int 16 [.int (-1), .int (-1), .int (-1), .int (-1), .int (-1), .int (-1), .int (-1), .int (-1), .int 1, .int 2, .int 3, .int 4, .int 5, .int 6, .int 0, .int 0] (.int 0)) (ne_o9_o1 : o9 ≠ o1) (ne_o9_o3 : o9 ≠ o3) (g_o9 : n0 ≤ o9) (ne_o0_o9 : o0 ≠ o9) (ne_o10_o9 : o10 ≠ o9) (g_o10 : n0 ≤ o10) (ne_o0_o10 : o0 ≠ o10) (E_o0 : Exa Z h0 o0 cc0) (F24_o0 : Fld Z h0 o0 cc0 "halves" "I" (.int 8)) (F25_o0 : Fld Z h0 o0 cc0 "sourceSide" "[Z" (.null)) (g_o0 : n0 ≤ o0) :
    MetFree l yy1 (head1 (Jvm.Cond.code yy1 bc3 5 none :: ws) rr1) (fun a U => a = #[.ref o0, .int 1, .int 4, .long 2305843009213693951] ∧ Z.Warmed39 U.vm ∧ U.heap = h0) (fun _ _ _ _ _ => True) (fun _ U o U' => ∃ v L, o = .returned v ∧ Q5n Z o0 o1 k2 o3 k4 q5 q6 q7 q8 o9 o10 k11 k12 h0 n0 v U'.heap L ∧ FrameEnd U o U' L rr1.cells rr1.slots) := by
  refine MetFree.of_bodySF (plainFor_of_name pn_0) hisR ?_
  intro p e s m args below meth c s₁ Bd hml0 hP hK
  obtain ⟨rfl, hZ, hh⟩ := hP
  have hx := Bd.exec
  have hby := Bd.bytes
  have hml : c.maxLocals = 5 := hml0
  have hown : s.vm.findClass cc0 = some m.cls := findClass_of_methodNamed Bd.named
  have hnm := (name_of_methodNamed Bd.named Bd.method).1
  have X0 : Stand p l e rr1 s m #[.ref o0, .int 1, .int 4, .long 2305843009213693951] below meth c s₁ [] 0 0 := Stand.of_body Bd
  have e0 : s₁.heap = h0 := by rw [← hh, Bd.state]; rfl
  have N0 := Fr.nil n0
  refine OGl.start (ef_5 m o0 (1 : Int32) (4 : Int32) (2305843009213693951 : Int64)) ?_
  show OGl _ _ _ _ s₁ (mkF m 0 #[rv o0, iv 1, iv 4, jv 2305843009213693951, sc] [])
  refine gO (fun t k => kaN X0 hx hby d5_0 rfl rfl k) (gG X0 hx hby hZ hown (w13 hw) e0 F0_o0 d5_1 fun T1402 X1402 e1402 => gO (fun t k => kaN X1402 hx hby d5_4 rfl rfl k) (gG X1402 hx hby hZ hown (w31 hw) e1402 F1_o0 d5_5 fun T1403 X1403 e1403 => gO (fun t k => kiN X1403 hx hby d5_8 rfl k) ?_))
  show OGl _ _ _ _ T1403 (mkF m 9 #[rv o0, iv 1, iv 4, jv 2305843009213693951, sc] [.int 4, .int 14, .ref o1])
  refine wI X1403 hx hby hZ e1403 V_o1 14 rfl (Nat.le_of_ble_eq_true rfl) d5_9 fun T1404 h1404 X1404 e1404 W1404 V1404 => ?_
  have N1404 := Fr.snoc X1404 N0 g_o1
  have KK1404 := (Keep.refl h0 [o1, o3, o9, o10, o0]).wr W1404 (Or.inl (List.mem_of_getElem? (i := 0) rfl))
  show OGl _ _ _ _ T1404 (mkF m 10 #[rv o0, iv 1, iv 4, jv 2305843009213693951, sc] [])
  have F1405 := (F4_o0.other W1404 (Or.inl ne_o0_o1))
  have F1407 := (F1_o0.other W1404 (Or.inl ne_o0_o1))
  refine gO (fun t k => kaN X1404 hx hby d5_10 rfl rfl k) (gG X1404 hx hby hZ hown (w18 hw) e1404 F1405 d5_11 fun T1406 X1406 e1406 => gO (fun t k => kaN X1406 hx hby d5_14 rfl rfl k) (gG X1406 hx hby hZ hown (w31 hw) e1406 F1407 d5_15 fun T1408 X1408 e1408 => gO (fun t k => klN X1408 hx hby d5_18 rfl k) ?_))
  show OGl _ _ _ _ T1408 (mkF m 19 #[rv o0, iv 1, iv 4, jv 2305843009213693951, sc] [.long 2305843009213693951, .int 14, .ref o3])
  have F1409 := (V_o3.other W1404 ne_o3_o1)
  refine wJ X1408 hx hby hZ e1408 F1409 14 rfl (Nat.le_of_ble_eq_true rfl) d5_19 fun T1410 h1410 X1410 e1410 W1410 V1410 => ?_
  have N1410 := Fr.snoc X1410 N1404 g_o3
  have KK1410 := KK1404.wr W1410 (Or.inl (List.mem_of_getElem? (i := 1) rfl))
  show OGl _ _ _ _ T1410 (mkF m 20 #[rv o0, iv 1, iv 4, jv 2305843009213693951, sc] [])
  have F1411 := ((F9_o0.other W1404 (Or.inl ne_o0_o1)).other W1410 (Or.inl ne_o0_o3))
  have F1413 := (F1407.other W1410 (Or.inl ne_o0_o3))
  have F1415 := ((F11_o0.other W1404 (Or.inl ne_o0_o1)).other W1410 (Or.inl ne_o0_o3))
  have F1417 := ((V_o10.other W1404 ne_o10_o1).other W1410 ne_o10_o3)
  refine gO (fun t k => kaN X1410 hx hby d5_20 rfl rfl k) (gG X1410 hx hby hZ hown (w15 hw) e1410 F1411 d5_21 fun T1412 X1412 e1412 => gO (fun t k => kaN X1412 hx hby d5_24 rfl rfl k) (gG X1412 hx hby hZ hown (w31 hw) e1412 F1413 d5_25 fun T1414 X1414 e1414 => gO (fun t k => kaN X1414 hx hby d5_28 rfl rfl k) (gG X1414 hx hby hZ hown (w11 hw) e1414 F1415 d5_29 fun T1416 X1416 e1416 => gO (fun t k => kiN X1416 hx hby d5_32 rfl (rI X1416 hx hby hZ e1416 F1417 (.int 8) rfl rfl d5_33 k)) ?_)))
  show OGl _ _ _ _ T1416 (mkF m 34 #[rv o0, iv 1, iv 4, jv 2305843009213693951, sc] [.int 8, .int 14, .ref o9])
  have F1418 := ((V_o9.other W1404 ne_o9_o1).other W1410 ne_o9_o3)
  refine wI X1416 hx hby hZ e1416 F1418 14 rfl (Nat.le_of_ble_eq_true rfl) d5_34 fun T1419 h1419 X1419 e1419 W1419 V1419 => ?_
  have N1419 := Fr.snoc X1419 N1410 g_o9
  have KK1419 := KK1410.wr W1419 (Or.inl (List.mem_of_getElem? (i := 2) rfl))
  show OGl _ _ _ _ T1419 (mkF m 35 #[rv o0, iv 1, iv 4, jv 2305843009213693951, sc] [])
  have F1420 := (F1415.other W1419 (Or.inl ne_o0_o9))
  have F1422 := (F1413.other W1419 (Or.inl ne_o0_o9))
  refine gO (fun t k => kaN X1419 hx hby d5_35 rfl rfl k) (gG X1419 hx hby hZ hown (w11 hw) e1419 F1420 d5_36 fun T1421 X1421 e1421 => gO (fun t k => kiN X1421 hx hby d5_39 rfl (kaN X1421 hx hby d5_40 rfl rfl k)) (gG X1421 hx hby hZ hown (w31 hw) e1421 F1422 d5_41 fun T1423 X1423 e1423 => ?_))
  show OGl _ _ _ _ T1423 (mkF m 44 #[rv o0, iv 1, iv 4, jv 2305843009213693951, sc] [.int 14, .int 1, .ref o10])
  have F1424 := (F1417.other W1419 ne_o10_o9)
  refine wI X1423 hx hby hZ e1423 F1424 1 rfl (Nat.le_of_ble_eq_true rfl) d5_44 fun T1425 h1425 X1425 e1425 W1425 V1425 => ?_
  have N1425 := Fr.snoc X1425 N1419 g_o10
  have KK1425 := KK1419.wr W1425 (Or.inl (List.mem_of_getElem? (i := 3) rfl))
  show OGl _ _ _ _ T1425 (mkF m 45 #[rv o0, iv 1, iv 4, jv 2305843009213693951, sc] [])
  have F1426 := (F1422.other W1425 (Or.inl ne_o0_o10))
  refine gO (fun t k => kaN X1425 hx hby d5_45 rfl rfl (o_dup X1425 hx hby d5_46 rfl k)) (gG X1425 hx hby hZ hown (w31 hw) e1425 F1426 d5_47 fun T1427 X1427 e1427 => gO (fun t k => kc X1427 hx hby d5_50 (o_iadd X1427 hx hby d5_51 k)) ?_)
  show OGl _ _ _ _ T1427 (mkF m 52 #[rv o0, iv 1, iv 4, jv 2305843009213693951, sc] [.int 15, .ref o0])
  have F1428 := ((((E_o0.wr W1404).wr W1410).wr W1419).wr W1425)
  obtain ⟨T1429, h1429, X1429, e1429, W1429, st1429⟩ := putF X1427 hx hZ hown (host := "") (Or.inl (w31 hw)) Via.refl e1427 F1426 F1428 (Or.inl (w32 hw)) (w2 hw) (ty := .int) (by decide) rfl rfl (g := (mkF m 52 #[rv o0, iv 1, iv 4, jv 2305843009213693951, sc] [.int 15, .ref o0])) rfl rfl (hb hby d5_52)
  refine gO st1429 ?_
  have N1429 := Fr.snoc X1429 N1425 g_o0
  have Fw1429 := F1426.same W1429
  have KK1429 := KK1425.wr W1429 (Or.inl (List.mem_of_getElem? (i := 4) rfl))
  show OGl _ _ _ _ T1429 (mkF m 55 #[rv o0, iv 1, iv 4, jv 2305843009213693951, sc] [])
  obtain ⟨fs, hr, hrun, hended, hW, hsame⟩ := X1429.leave (v := none) (fun _ => rfl) (BodyLoose.notSynchronized Bd)
  refine ⟨_, _, X1429.returnOut hx Bd.returns (hb hby d5_55) hr, hrun, hended, _, _, rfl, ?_, ⟨_, rfl⟩, hW, hsame.mono (by decide) (by decide)⟩
  show Q5n Z o0 o1 k2 o3 k4 q5 q6 q7 q8 o9 o10 k11 k12 h0 n0 _ T1429.heap _
  rw [e1429]
  have F1430 := ((((V1404.other W1410 (Ne.symm ne_o3_o1)).other W1419 (Ne.symm ne_o9_o1)).other W1425 (Ne.symm ne_o10_o1)).other W1429 (Ne.symm ne_o0_o1))
  have F1431 := (((V1410.other W1419 (Ne.symm ne_o9_o3)).other W1425 (Ne.symm ne_o10_o3)).other W1429 (Ne.symm ne_o0_o3))
  have F1432 := ((V1419.other W1425 (Ne.symm ne_o10_o9)).other W1429 (Ne.symm ne_o0_o9))
  have F1433 := (V1425.other W1429 (Ne.symm ne_o0_o10))
  have F1434 := (((((F24_o0.other W1404 (Or.inl ne_o0_o1)).other W1410 (Or.inl ne_o0_o3)).other W1419 (Or.inl ne_o0_o9)).other W1425 (Or.inl ne_o0_o10)).other W1429 (Or.inr (sn26_32 hw)))
  have F1435 := ((F1420.other W1425 (Or.inl ne_o0_o10)).other W1429 (Or.inr (sn12_32 hw)))
  have F1436 := (((F1411.other W1419 (Or.inl ne_o0_o9)).other W1425 (Or.inl ne_o0_o10)).other W1429 (Or.inr (sn16_32 hw)))
  have F1437 := ((((F1405.other W1410 (Or.inl ne_o0_o3)).other W1419 (Or.inl ne_o0_o9)).other W1425 (Or.inl ne_o0_o10)).other W1429 (Or.inr (sn19_32 hw)))
  have F1438 := (((((F25_o0.other W1404 (Or.inl ne_o0_o1)).other W1410 (Or.inl ne_o0_o3)).other W1419 (Or.inl ne_o0_o9)).other W1425 (Or.inl ne_o0_o10)).other W1429 (Or.inr (sn59_32 hw)))
  have F1439 := (((((F0_o0.other W1404 (Or.inl ne_o0_o1)).other W1410 (Or.inl ne_o0_o3)).other W1419 (Or.inl ne_o0_o9)).other W1425 (Or.inl ne_o0_o10)).other W1429 (Or.inr (sn14_32 hw)))
  exact ⟨rfl, N1429, KK1429, F1430, F1431, F1432, F1433, Fw1429, F1434, F1435, F1436, F1437, F1438, F1439⟩
def Q5o (Z : State) (o0 : Addr) (o1 : Addr) (k2 : ClassId) (o3 : Addr) (k4 : ClassId) (q5 : Int64) (q6 : Int64) (q7 : Int64) (q8 : Int64) (o9 : Addr) (o10 : Addr) (k11 : ClassId) (k12 : ClassId) (h0 : Heap) (n0 : Nat) (v : Option Value) (h : Heap) (L : List Loc) : Prop := v = none ∧ Fr n0 L ∧ Keep h0 h [o1, o3, o9, o10, o0] ∧ Arv Z h o1 k2 .int 16 [.int 1, .int 0, .int 3, .int 2, .int 5, .int 4, .int 7, .int 6, .int 2, .int 1, .int 4, .int 3, .int 6, .int 5, .int 4, .int 1] (.int 0) ∧ Arv Z h o3 k4 .long 16 [.long q5, .long 0, .long q6, .long 0, .long q7, .long 0, .long q8, .long 0, .long 2305843009213693951, .long 0, .long 2305843009213693951, .long 0, .long 2305843009213693951, .long 0, .long 2305843009213693951, .long 0] (.long 0) ∧ Arv Z h o9 k12 .int 16 [.int (-1), .int (-1), .int (-1), .int (-1), .int (-1), .int (-1), .int (-1), .int (-1), .int 1, .int 2, .int 3, .int 4, .int 5, .int 6, .int 8, .int 11] (.int 0) ∧ Arv Z h o10 k11 .int 16 (.int 0 :: .int 14 :: .int 9 :: .int 10 :: .int 15 :: .int 12 :: .int 13 :: .int 7 :: zi8) (.int 0) ∧ Fld Z h o0 cc0 "edges" "I" (.int 16) ∧ Fld Z h o0 cc0 "halves" "I" (.int 8) ∧ Fld Z h o0 cc0 "heads" "[I" (.ref o10) ∧ Fld Z h o0 cc0 "nexts" "[I" (.ref o9) ∧ Fld Z h o0 cc0 "residues" "[J" (.ref o3) ∧ Fld Z h o0 cc0 "sourceSide" "[Z" (.null) ∧ Fld Z h o0 cc0 "targets" "[I" (.ref o1)
set_option maxRecDepth 65536 in
set_option maxHeartbeats 40000000 in
theorem rm5o (l : Launch) (Z : State) (a0 : Array Value) (hw : ∀ d ∈ tables_1, d.before a0 Z = true) (ws : List Jvm.Cond) (o0 : Addr) (o1 : Addr) (k2 : ClassId) (o3 : Addr) (k4 : ClassId) (q5 : Int64) (q6 : Int64) (q7 : Int64) (q8 : Int64) (o9 : Addr) (o10 : Addr) (k11 : ClassId) (k12 : ClassId) (h0 : Heap) (n0 : Nat) (Z0 : n0 ≤ h0.size) (F0_o0 : Fld Z h0 o0 cc0 "targets" "[I" (.ref o1)) (F1_o0 : Fld Z h0 o0 cc0 "edges" "I" (.int 15)) (V_o1 : Arv Z h0 o1 k2 .int 16 [.int 1, .int 0, .int 3, .int 2, .int 5, .int 4, .int 7, .int 6, .int 2, .int 1, .int 4, .int 3, .int 6, .int 5, .int 4, .int 0] (.int 0)) (g_o1 : n0 ≤ o1) (F4_o0 : Fld Z h0 o0 cc0 "residues" "[J" (.ref o3)) (ne_o0_o1 : o0 ≠ o1) (V_o3 : Arv Z h0 o3 k4 .long 16 [.long q5, .long 0, .long q6, .long 0, .long q7, .long 0, .long q8, .long 0, .long 2305843009213693951, .long 0, .long 2305843009213693951, .long 0, .long 2305843009213693951, .long 0, .long 2305843009213693951, .long 0] (.long 0)) (ne_o3_o1 : o3 ≠ o1) (g_o3 : n0 ≤ o3) (F9_o0 : Fld Z h0 o0 cc0 "nexts" "[I" (.ref o9)) (ne_o0_o3 : o0 ≠ o3) (F11_o0 : Fld Z h0 o0 cc0 "heads" "[I" (.ref o10)) (V_o10 : Arv Z h0 o10 k11 .int 16 (.int 0 :: .int 14 :: .int 9 :: .int 10 :: .int 11 :: .int 12 :: .int 13 :: .int 7 :: zi8) (.int 0)) (ne_o10_o1 : o10 ≠ o1) (ne_o10_o3 : o10 ≠ o3) (V_o9 : Arv Z h0 o9 k12 .int 16 [.int (-1), .int (-1), .int (-1), .int (-1), .int (-1), .int (-1), .int (-1), .int (-1), .int 1, .int 2, .int 3, .int 4, .int 5, .int 6, .int 8, .int 0] (.int 0)) (ne_o9_o1 : o9 ≠ o1) (ne_o9_o3 : o9 ≠ o3) (g_o9 : n0 ≤ o9) (ne_o0_o9 : o0 ≠ o9) (ne_o10_o9 : o10 ≠ o9) (g_o10 : n0 ≤ o10) (ne_o0_o10 : o0 ≠ o10) (E_o0 : Exa Z h0 o0 cc0) (F24_o0 : Fld Z h0 o0 cc0 "halves" "I" (.int 8)) (F25_o0 : Fld Z h0 o0 cc0 "sourceSide" "[Z" (.null)) (g_o0 : n0 ≤ o0) :
    MetFree l yy1 (head1 (Jvm.Cond.code yy1 bc3 5 none :: ws) rr1) (fun a U => a = #[.ref o0, .int 4, .int 1, .long 0] ∧ Z.Warmed39 U.vm ∧ U.heap = h0) (fun _ _ _ _ _ => True) (fun _ U o U' => ∃ v L, o = .returned v ∧ Q5o Z o0 o1 k2 o3 k4 q5 q6 q7 q8 o9 o10 k11 k12 h0 n0 v U'.heap L ∧ FrameEnd U o U' L rr1.cells rr1.slots) := by
  refine MetFree.of_bodySF (plainFor_of_name pn_0) hisR ?_
  intro p e s m args below meth c s₁ Bd hml0 hP hK
  obtain ⟨rfl, hZ, hh⟩ := hP
  have hx := Bd.exec
  have hby := Bd.bytes
  have hml : c.maxLocals = 5 := hml0
  have hown : s.vm.findClass cc0 = some m.cls := findClass_of_methodNamed Bd.named
  have hnm := (name_of_methodNamed Bd.named Bd.method).1
  have X0 : Stand p l e rr1 s m #[.ref o0, .int 4, .int 1, .long 0] below meth c s₁ [] 0 0 := Stand.of_body Bd
  have e0 : s₁.heap = h0 := by rw [← hh, Bd.state]; rfl
  have N0 := Fr.nil n0
  refine OGl.start (ef_5 m o0 (4 : Int32) (1 : Int32) (0 : Int64)) ?_
  show OGl _ _ _ _ s₁ (mkF m 0 #[rv o0, iv 4, iv 1, jv 0, sc] [])
  refine gO (fun t k => kaN X0 hx hby d5_0 rfl rfl k) (gG X0 hx hby hZ hown (w13 hw) e0 F0_o0 d5_1 fun T1441 X1441 e1441 => gO (fun t k => kaN X1441 hx hby d5_4 rfl rfl k) (gG X1441 hx hby hZ hown (w31 hw) e1441 F1_o0 d5_5 fun T1442 X1442 e1442 => gO (fun t k => kiN X1442 hx hby d5_8 rfl k) ?_))
  show OGl _ _ _ _ T1442 (mkF m 9 #[rv o0, iv 4, iv 1, jv 0, sc] [.int 1, .int 15, .ref o1])
  refine wI X1442 hx hby hZ e1442 V_o1 15 rfl (Nat.le_of_ble_eq_true rfl) d5_9 fun T1443 h1443 X1443 e1443 W1443 V1443 => ?_
  have N1443 := Fr.snoc X1443 N0 g_o1
  have KK1443 := (Keep.refl h0 [o1, o3, o9, o10, o0]).wr W1443 (Or.inl (List.mem_of_getElem? (i := 0) rfl))
  show OGl _ _ _ _ T1443 (mkF m 10 #[rv o0, iv 4, iv 1, jv 0, sc] [])
  have F1444 := (F4_o0.other W1443 (Or.inl ne_o0_o1))
  have F1446 := (F1_o0.other W1443 (Or.inl ne_o0_o1))
  refine gO (fun t k => kaN X1443 hx hby d5_10 rfl rfl k) (gG X1443 hx hby hZ hown (w18 hw) e1443 F1444 d5_11 fun T1445 X1445 e1445 => gO (fun t k => kaN X1445 hx hby d5_14 rfl rfl k) (gG X1445 hx hby hZ hown (w31 hw) e1445 F1446 d5_15 fun T1447 X1447 e1447 => gO (fun t k => klN X1447 hx hby d5_18 rfl k) ?_))
  show OGl _ _ _ _ T1447 (mkF m 19 #[rv o0, iv 4, iv 1, jv 0, sc] [.long 0, .int 15, .ref o3])
  have F1448 := (V_o3.other W1443 ne_o3_o1)
  refine wJ X1447 hx hby hZ e1447 F1448 15 rfl (Nat.le_of_ble_eq_true rfl) d5_19 fun T1449 h1449 X1449 e1449 W1449 V1449 => ?_
  have N1449 := Fr.snoc X1449 N1443 g_o3
  have KK1449 := KK1443.wr W1449 (Or.inl (List.mem_of_getElem? (i := 1) rfl))
  show OGl _ _ _ _ T1449 (mkF m 20 #[rv o0, iv 4, iv 1, jv 0, sc] [])
  have F1450 := ((F9_o0.other W1443 (Or.inl ne_o0_o1)).other W1449 (Or.inl ne_o0_o3))
  have F1452 := (F1446.other W1449 (Or.inl ne_o0_o3))
  have F1454 := ((F11_o0.other W1443 (Or.inl ne_o0_o1)).other W1449 (Or.inl ne_o0_o3))
  have F1456 := ((V_o10.other W1443 ne_o10_o1).other W1449 ne_o10_o3)
  refine gO (fun t k => kaN X1449 hx hby d5_20 rfl rfl k) (gG X1449 hx hby hZ hown (w15 hw) e1449 F1450 d5_21 fun T1451 X1451 e1451 => gO (fun t k => kaN X1451 hx hby d5_24 rfl rfl k) (gG X1451 hx hby hZ hown (w31 hw) e1451 F1452 d5_25 fun T1453 X1453 e1453 => gO (fun t k => kaN X1453 hx hby d5_28 rfl rfl k) (gG X1453 hx hby hZ hown (w11 hw) e1453 F1454 d5_29 fun T1455 X1455 e1455 => gO (fun t k => kiN X1455 hx hby d5_32 rfl (rI X1455 hx hby hZ e1455 F1456 (.int 11) rfl rfl d5_33 k)) ?_)))
  show OGl _ _ _ _ T1455 (mkF m 34 #[rv o0, iv 4, iv 1, jv 0, sc] [.int 11, .int 15, .ref o9])
  have F1457 := ((V_o9.other W1443 ne_o9_o1).other W1449 ne_o9_o3)
  refine wI X1455 hx hby hZ e1455 F1457 15 rfl (Nat.le_of_ble_eq_true rfl) d5_34 fun T1458 h1458 X1458 e1458 W1458 V1458 => ?_
  have N1458 := Fr.snoc X1458 N1449 g_o9
  have KK1458 := KK1449.wr W1458 (Or.inl (List.mem_of_getElem? (i := 2) rfl))
  show OGl _ _ _ _ T1458 (mkF m 35 #[rv o0, iv 4, iv 1, jv 0, sc] [])
  have F1459 := (F1454.other W1458 (Or.inl ne_o0_o9))
  have F1461 := (F1452.other W1458 (Or.inl ne_o0_o9))
  refine gO (fun t k => kaN X1458 hx hby d5_35 rfl rfl k) (gG X1458 hx hby hZ hown (w11 hw) e1458 F1459 d5_36 fun T1460 X1460 e1460 => gO (fun t k => kiN X1460 hx hby d5_39 rfl (kaN X1460 hx hby d5_40 rfl rfl k)) (gG X1460 hx hby hZ hown (w31 hw) e1460 F1461 d5_41 fun T1462 X1462 e1462 => ?_))
  show OGl _ _ _ _ T1462 (mkF m 44 #[rv o0, iv 4, iv 1, jv 0, sc] [.int 15, .int 4, .ref o10])
  have F1463 := (F1456.other W1458 ne_o10_o9)
  refine wI X1462 hx hby hZ e1462 F1463 4 rfl (Nat.le_of_ble_eq_true rfl) d5_44 fun T1464 h1464 X1464 e1464 W1464 V1464 => ?_
  have N1464 := Fr.snoc X1464 N1458 g_o10
  have KK1464 := KK1458.wr W1464 (Or.inl (List.mem_of_getElem? (i := 3) rfl))
  show OGl _ _ _ _ T1464 (mkF m 45 #[rv o0, iv 4, iv 1, jv 0, sc] [])
  have F1465 := (F1461.other W1464 (Or.inl ne_o0_o10))
  refine gO (fun t k => kaN X1464 hx hby d5_45 rfl rfl (o_dup X1464 hx hby d5_46 rfl k)) (gG X1464 hx hby hZ hown (w31 hw) e1464 F1465 d5_47 fun T1466 X1466 e1466 => gO (fun t k => kc X1466 hx hby d5_50 (o_iadd X1466 hx hby d5_51 k)) ?_)
  show OGl _ _ _ _ T1466 (mkF m 52 #[rv o0, iv 4, iv 1, jv 0, sc] [.int 16, .ref o0])
  have F1467 := ((((E_o0.wr W1443).wr W1449).wr W1458).wr W1464)
  obtain ⟨T1468, h1468, X1468, e1468, W1468, st1468⟩ := putF X1466 hx hZ hown (host := "") (Or.inl (w31 hw)) Via.refl e1466 F1465 F1467 (Or.inl (w32 hw)) (w2 hw) (ty := .int) (by decide) rfl rfl (g := (mkF m 52 #[rv o0, iv 4, iv 1, jv 0, sc] [.int 16, .ref o0])) rfl rfl (hb hby d5_52)
  refine gO st1468 ?_
  have N1468 := Fr.snoc X1468 N1464 g_o0
  have Fw1468 := F1465.same W1468
  have KK1468 := KK1464.wr W1468 (Or.inl (List.mem_of_getElem? (i := 4) rfl))
  show OGl _ _ _ _ T1468 (mkF m 55 #[rv o0, iv 4, iv 1, jv 0, sc] [])
  obtain ⟨fs, hr, hrun, hended, hW, hsame⟩ := X1468.leave (v := none) (fun _ => rfl) (BodyLoose.notSynchronized Bd)
  refine ⟨_, _, X1468.returnOut hx Bd.returns (hb hby d5_55) hr, hrun, hended, _, _, rfl, ?_, ⟨_, rfl⟩, hW, hsame.mono (by decide) (by decide)⟩
  show Q5o Z o0 o1 k2 o3 k4 q5 q6 q7 q8 o9 o10 k11 k12 h0 n0 _ T1468.heap _
  rw [e1468]
  have F1469 := ((((V1443.other W1449 (Ne.symm ne_o3_o1)).other W1458 (Ne.symm ne_o9_o1)).other W1464 (Ne.symm ne_o10_o1)).other W1468 (Ne.symm ne_o0_o1))
  have F1470 := (((V1449.other W1458 (Ne.symm ne_o9_o3)).other W1464 (Ne.symm ne_o10_o3)).other W1468 (Ne.symm ne_o0_o3))
  have F1471 := ((V1458.other W1464 (Ne.symm ne_o10_o9)).other W1468 (Ne.symm ne_o0_o9))
  have F1472 := (V1464.other W1468 (Ne.symm ne_o0_o10))
  have F1473 := (((((F24_o0.other W1443 (Or.inl ne_o0_o1)).other W1449 (Or.inl ne_o0_o3)).other W1458 (Or.inl ne_o0_o9)).other W1464 (Or.inl ne_o0_o10)).other W1468 (Or.inr (sn26_32 hw)))
  have F1474 := ((F1459.other W1464 (Or.inl ne_o0_o10)).other W1468 (Or.inr (sn12_32 hw)))
  have F1475 := (((F1450.other W1458 (Or.inl ne_o0_o9)).other W1464 (Or.inl ne_o0_o10)).other W1468 (Or.inr (sn16_32 hw)))
  have F1476 := ((((F1444.other W1449 (Or.inl ne_o0_o3)).other W1458 (Or.inl ne_o0_o9)).other W1464 (Or.inl ne_o0_o10)).other W1468 (Or.inr (sn19_32 hw)))
  have F1477 := (((((F25_o0.other W1443 (Or.inl ne_o0_o1)).other W1449 (Or.inl ne_o0_o3)).other W1458 (Or.inl ne_o0_o9)).other W1464 (Or.inl ne_o0_o10)).other W1468 (Or.inr (sn59_32 hw)))
  have F1478 := (((((F0_o0.other W1443 (Or.inl ne_o0_o1)).other W1449 (Or.inl ne_o0_o3)).other W1458 (Or.inl ne_o0_o9)).other W1464 (Or.inl ne_o0_o10)).other W1468 (Or.inr (sn14_32 hw)))
  exact ⟨rfl, N1468, KK1468, F1469, F1470, F1471, F1472, Fw1468, F1473, F1474, F1475, F1476, F1477, F1478⟩
def Q4g (Z : State) (o0 : Addr) (o1 : Addr) (k2 : ClassId) (o3 : Addr) (k4 : ClassId) (q5 : Int64) (q6 : Int64) (q7 : Int64) (q8 : Int64) (o9 : Addr) (o10 : Addr) (k11 : ClassId) (k12 : ClassId) (h0 : Heap) (n0 : Nat) (v : Option Value) (h : Heap) (L : List Loc) : Prop := v = none ∧ Fr n0 L ∧ Keep h0 h [o0, o10, o9, o3, o1] ∧ Fld Z h o0 cc0 "edges" "I" (.int 16) ∧ Fld Z h o0 cc0 "halves" "I" (.int 8) ∧ Fld Z h o0 cc0 "heads" "[I" (.ref o10) ∧ Fld Z h o0 cc0 "nexts" "[I" (.ref o9) ∧ Fld Z h o0 cc0 "residues" "[J" (.ref o3) ∧ Fld Z h o0 cc0 "sourceSide" "[Z" (.null) ∧ Fld Z h o0 cc0 "targets" "[I" (.ref o1) ∧ Arv Z h o10 k11 .int 16 (.int 0 :: .int 14 :: .int 9 :: .int 10 :: .int 15 :: .int 12 :: .int 13 :: .int 7 :: zi8) (.int 0) ∧ Arv Z h o9 k12 .int 16 [.int (-1), .int (-1), .int (-1), .int (-1), .int (-1), .int (-1), .int (-1), .int (-1), .int 1, .int 2, .int 3, .int 4, .int 5, .int 6, .int 8, .int 11] (.int 0) ∧ Arv Z h o3 k4 .long 16 [.long q5, .long 0, .long q6, .long 0, .long q7, .long 0, .long q8, .long 0, .long 2305843009213693951, .long 0, .long 2305843009213693951, .long 0, .long 2305843009213693951, .long 0, .long 2305843009213693951, .long 0] (.long 0) ∧ Arv Z h o1 k2 .int 16 [.int 1, .int 0, .int 3, .int 2, .int 5, .int 4, .int 7, .int 6, .int 2, .int 1, .int 4, .int 3, .int 6, .int 5, .int 4, .int 1] (.int 0)
set_option maxRecDepth 65536 in
set_option maxHeartbeats 40000000 in
theorem rm4g (l : Launch) (Z : State) (a0 : Array Value) (hw : ∀ d ∈ tables_1, d.before a0 Z = true) (ws : List Jvm.Cond) (o0 : Addr) (o1 : Addr) (k2 : ClassId) (o3 : Addr) (k4 : ClassId) (q5 : Int64) (q6 : Int64) (q7 : Int64) (q8 : Int64) (o9 : Addr) (o10 : Addr) (k11 : ClassId) (k12 : ClassId) (h0 : Heap) (n0 : Nat) (Z0 : n0 ≤ h0.size) (F0_o0 : Fld Z h0 o0 cc0 "edges" "I" (.int 14)) (F1_o0 : Fld Z h0 o0 cc0 "targets" "[I" (.ref o1)) (V_o1 : Arv Z h0 o1 k2 .int 16 [.int 1, .int 0, .int 3, .int 2, .int 5, .int 4, .int 7, .int 6, .int 2, .int 1, .int 4, .int 3, .int 6, .int 5, .int 0, .int 0] (.int 0)) (E_o0 : Exa Z h0 o0 cc0) (F4_o0 : Fld Z h0 o0 cc0 "residues" "[J" (.ref o3)) (V_o3 : Arv Z h0 o3 k4 .long 16 [.long q5, .long 0, .long q6, .long 0, .long q7, .long 0, .long q8, .long 0, .long 2305843009213693951, .long 0, .long 2305843009213693951, .long 0, .long 2305843009213693951, .long 0, .long 0, .long 0] (.long 0)) (F6_o0 : Fld Z h0 o0 cc0 "nexts" "[I" (.ref o9)) (F7_o0 : Fld Z h0 o0 cc0 "heads" "[I" (.ref o10)) (V_o10 : Arv Z h0 o10 k11 .int 16 (.int 0 :: .int 8 :: .int 9 :: .int 10 :: .int 11 :: .int 12 :: .int 13 :: .int 7 :: zi8) (.int 0)) (V_o9 : Arv Z h0 o9 k12 .int 16 [.int (-1), .int (-1), .int (-1), .int (-1), .int (-1), .int (-1), .int (-1), .int (-1), .int 1, .int 2, .int 3, .int 4, .int 5, .int 6, .int 0, .int 0] (.int 0)) (F10_o0 : Fld Z h0 o0 cc0 "halves" "I" (.int 8)) (F11_o0 : Fld Z h0 o0 cc0 "sourceSide" "[Z" (.null)) (g_o1 : n0 ≤ o1) (ne_o0_o1 : o0 ≠ o1) (ne_o3_o1 : o3 ≠ o1) (g_o3 : n0 ≤ o3) (ne_o0_o3 : o0 ≠ o3) (ne_o10_o1 : o10 ≠ o1) (ne_o10_o3 : o10 ≠ o3) (ne_o9_o1 : o9 ≠ o1) (ne_o9_o3 : o9 ≠ o3) (g_o9 : n0 ≤ o9) (ne_o0_o9 : o0 ≠ o9) (ne_o10_o9 : o10 ≠ o9) (g_o10 : n0 ≤ o10) (ne_o0_o10 : o0 ≠ o10) (g_o0 : n0 ≤ o0) :
    MetFree l yy2 (head1 (Jvm.Cond.code yy2 bc2 5 none :: ws) rr2) (fun a U => a = #[.ref o0, .int 1, .int 4, .long 2305843009213693951] ∧ Z.Warmed39 U.vm ∧ U.heap = h0) (fun _ _ _ _ _ => True) (fun _ U o U' => ∃ v L, o = .returned v ∧ Q4g Z o0 o1 k2 o3 k4 q5 q6 q7 q8 o9 o10 k11 k12 h0 n0 v U'.heap L ∧ FrameEnd U o U' L rr2.cells rr2.slots) := by
  refine MetFree.of_bodySF (plainFor_of_name pn_0) hisR ?_
  intro p e s m args below meth c s₁ Bd hml0 hP hK
  obtain ⟨rfl, hZ, hh⟩ := hP
  have hx := Bd.exec
  have hby := Bd.bytes
  have hml : c.maxLocals = 5 := hml0
  have hown : s.vm.findClass cc0 = some m.cls := findClass_of_methodNamed Bd.named
  have hnm := (name_of_methodNamed Bd.named Bd.method).1
  have X0 : Stand p l e rr2 s m #[.ref o0, .int 1, .int 4, .long 2305843009213693951] below meth c s₁ [] 0 0 := Stand.of_body Bd
  have e0 : s₁.heap = h0 := by rw [← hh, Bd.state]; rfl
  have N0 := Fr.nil n0
  refine OGl.start (ef_4 m o0 (1 : Int32) (4 : Int32) (2305843009213693951 : Int64)) ?_
  show OGl _ _ _ _ s₁ (mkF m 0 #[rv o0, iv 1, iv 4, jv 2305843009213693951, sc] [])
  refine gO (fun t k => kaN X0 hx hby d4_0 rfl rfl k) (gG X0 hx hby hZ hown (w31 hw) e0 F0_o0 d4_1 fun T1399 X1399 e1399 => gO (fun t k => kc X1399 hx hby d4_4 (o_iadd X1399 hx hby d4_5 (kaN X1399 hx hby d4_6 rfl rfl k))) (gG X1399 hx hby hZ hown (w13 hw) e1399 F1_o0 d4_7 fun T1400 X1400 e1400 => gO (fun t k => rL X1400 hx hby hZ e1400 V_o1 d4_10 (cY X1400 hx hby 68 d4_11 (flt (by decide : ¬ ((16 : Int32) < (16 : Int32)))).2.2.2 rfl (kaN X1400 hx hby d4_68 rfl rfl (kiN X1400 hx hby d4_69 rfl (kiN X1400 hx hby d4_70 rfl (klN X1400 hx hby d4_71 rfl k)))))) ?_))
  show OGl _ _ _ _ T1400 (mkF m 72 #[rv o0, iv 1, iv 4, jv 2305843009213693951, sc] [.long 2305843009213693951, .int 4, .int 1, .ref o0])
  obtain ⟨cq1401, q1401a, q1401b⟩ := (E_o0).cell
  obtain ⟨_, _, ⟨T1401, L1401, kk1401, n1401⟩, -, X1401, ⟨Lc1401, hQ1401, l1401, y1401, z1401⟩, st1401⟩ := X1400.privateBack hx (y := yy1) hown (mvT hZ (w33 hw)) (mvT hZ (w34 hw)) (own_selPriv (y := yy1) (Cond.privateMethod_at (mvP hZ (w35 hw) (args := #[]))) (mvT hZ (w34 hw)) (mvT hZ (w23 hw)) rfl) (Cond.privateMethod_at (mvP hZ (w35 hw) (args := #[]))) (mvT hZ (w36 hw)) (by decide) (backOf (W := 0) (rm5n l Z a0 hw [] o0 o1 k2 o3 k4 q5 q6 q7 q8 o9 o10 k11 k12 h0 n0 Z0 F1_o0 F0_o0 V_o1 g_o1 F4_o0 ne_o0_o1 V_o3 ne_o3_o1 g_o3 F6_o0 ne_o0_o3 F7_o0 V_o10 ne_o10_o1 ne_o10_o3 V_o9 ne_o9_o1 ne_o9_o3 g_o9 ne_o0_o9 ne_o10_o9 g_o10 ne_o0_o10 E_o0 F10_o0 F11_o0 g_o0) hZ (w36 hw) (w3 hw) (by decide) (by decide)) (g := (mkF m 72 #[rv o0, iv 1, iv 4, jv 2305843009213693951, sc] [.long 2305843009213693951, .int 4, .int 1, .ref o0])) rfl (by rw [hml]; rfl) (Steps.refl _) (a := o0) (by rw [e1400]; exact q1401a) q1401b (argsL := [.int 1, .int 4, .long 2305843009213693951]) (rest := []) (lenOf pd_1 rfl) rfl (by show 2 * 0 + _ ≤ _; exact Nat.le_of_eq rfl) (hb hby d4_72) (fun _ _ => ⟨rfl, e1400, (by decide : 0 + 0 ≤ _), (by decide : 0 + 0 ≤ _)⟩)
  dsimp only [Pt.U, Pt.locs, Pt.cells, Pt.slots] at X1401 l1401 y1401 z1401 st1401 hQ1401
  replace l1401 := l1401.symm
  subst l1401 y1401 z1401
  obtain ⟨rfl, Nq1401, K1401, Fq1401_0, Fq1401_1, Fq1401_2, Fq1401_3, Fq1401_4, Fq1401_5, Fq1401_6, Fq1401_7, Fq1401_8, Fq1401_9, Fq1401_10⟩ := hQ1401
  have KK1401 : Keep h0 T1401.heap [o0, o10, o9, o3, o1] := (Keep.refl h0 [o0, o10, o9, o3, o1]).trans K1401 (allS (Or.inl (List.mem_of_getElem? (i := 4) rfl)) (allS (Or.inl (List.mem_of_getElem? (i := 3) rfl)) (allS (Or.inl (List.mem_of_getElem? (i := 2) rfl)) (allS (Or.inl (List.mem_of_getElem? (i := 1) rfl)) (allS (Or.inl (List.mem_of_getElem? (i := 0) rfl)) all0)))))
  have N1401 := Fr.app N0 Nq1401
  refine gO (fun t k => st1401.trans k) ?_
  show OGl _ _ _ _ T1401 (mkF m 75 #[rv o0, iv 1, iv 4, jv 2305843009213693951, sc] [])
  refine gO (fun t k => kaN X1401 hx hby d4_75 rfl rfl (kiN X1401 hx hby d4_76 rfl (kiN X1401 hx hby d4_77 rfl (kcl X1401 hx hby d4_78 k)))) ?_
  show OGl _ _ _ _ T1401 (mkF m 79 #[rv o0, iv 1, iv 4, jv 2305843009213693951, sc] [.long 0, .int 1, .int 4, .ref o0])
  have F1479 := (E_o0.keep K1401)
  obtain ⟨cq1440, q1440a, q1440b⟩ := (F1479).cell
  obtain ⟨_, _, ⟨T1440, L1440, kk1440, n1440⟩, -, X1440, ⟨Lc1440, hQ1440, l1440, y1440, z1440⟩, st1440⟩ := X1401.privateBack hx (y := yy1) hown (mvT hZ (w33 hw)) (mvT hZ (w34 hw)) (own_selPriv (y := yy1) (Cond.privateMethod_at (mvP hZ (w35 hw) (args := #[]))) (mvT hZ (w34 hw)) (mvT hZ (w23 hw)) rfl) (Cond.privateMethod_at (mvP hZ (w35 hw) (args := #[]))) (mvT hZ (w36 hw)) (by decide) (backOf (W := 0) (rm5o l Z a0 hw [] o0 o1 k2 o3 k4 q5 q6 q7 q8 o9 o10 k11 k12 T1401.heap n0 (Nat.le_trans Z0 KK1401.1) Fq1401_10 Fq1401_4 Fq1401_0 g_o1 Fq1401_8 ne_o0_o1 Fq1401_1 ne_o3_o1 g_o3 Fq1401_7 ne_o0_o3 Fq1401_6 Fq1401_3 ne_o10_o1 ne_o10_o3 Fq1401_2 ne_o9_o1 ne_o9_o3 g_o9 ne_o0_o9 ne_o10_o9 g_o10 ne_o0_o10 F1479 Fq1401_5 Fq1401_9 g_o0) hZ (w36 hw) (w3 hw) (by decide) (by decide)) (g := (mkF m 79 #[rv o0, iv 1, iv 4, jv 2305843009213693951, sc] [.long 0, .int 1, .int 4, .ref o0])) rfl (by rw [hml]; rfl) (Steps.refl _) (a := o0) q1440a q1440b (argsL := [.int 4, .int 1, .long 0]) (rest := []) (lenOf pd_1 rfl) rfl (by show 2 * 0 + _ ≤ _; exact Nat.le_of_eq rfl) (hb hby d4_79) (fun _ _ => ⟨rfl, rfl, (by decide : 0 + 0 ≤ _), (by decide : 0 + 0 ≤ _)⟩)
  dsimp only [Pt.U, Pt.locs, Pt.cells, Pt.slots] at X1440 l1440 y1440 z1440 st1440 hQ1440
  replace l1440 := l1440.symm
  subst l1440 y1440 z1440
  obtain ⟨rfl, Nq1440, K1440, Fq1440_0, Fq1440_1, Fq1440_2, Fq1440_3, Fq1440_4, Fq1440_5, Fq1440_6, Fq1440_7, Fq1440_8, Fq1440_9, Fq1440_10⟩ := hQ1440
  have KK1440 : Keep h0 T1440.heap [o0, o10, o9, o3, o1] := KK1401.trans K1440 (allS (Or.inl (List.mem_of_getElem? (i := 4) rfl)) (allS (Or.inl (List.mem_of_getElem? (i := 3) rfl)) (allS (Or.inl (List.mem_of_getElem? (i := 2) rfl)) (allS (Or.inl (List.mem_of_getElem? (i := 1) rfl)) (allS (Or.inl (List.mem_of_getElem? (i := 0) rfl)) all0)))))
  have N1440 := Fr.app N1401 Nq1440
  refine gO (fun t k => st1440.trans k) ?_
  show OGl _ _ _ _ T1440 (mkF m 82 #[rv o0, iv 1, iv 4, jv 2305843009213693951, sc] [])
  obtain ⟨fs, hr, hrun, hended, hW, hsame⟩ := X1440.leave (v := none) (fun _ => rfl) (BodyLoose.notSynchronized Bd)
  refine ⟨_, _, X1440.returnOut hx Bd.returns (hb hby d4_82) hr, hrun, hended, _, _, rfl, ?_, ⟨_, rfl⟩, hW, hsame.mono (by decide) (by decide)⟩
  show Q4g Z o0 o1 k2 o3 k4 q5 q6 q7 q8 o9 o10 k11 k12 h0 n0 _ T1440.heap _
  exact ⟨rfl, N1440, KK1440, Fq1440_4, Fq1440_5, Fq1440_6, Fq1440_7, Fq1440_8, Fq1440_9, Fq1440_10, Fq1440_3, Fq1440_2, Fq1440_1, Fq1440_0⟩
def Q6c (Z : State) (o0 : Addr) (o1 : Addr) (k2 : ClassId) (o3 : Addr) (k4 : ClassId) (q5 : Int64) (q6 : Int64) (q7 : Int64) (q8 : Int64) (o9 : Addr) (o10 : Addr) (k11 : ClassId) (k12 : ClassId) (h0 : Heap) (n0 : Nat) (v : Option Value) (h : Heap) (L : List Loc) : Prop := v = none ∧ Fr n0 L ∧ Keep h0 h [o1, o3, o9, o10, o0] ∧ Arv Z h o1 k2 .int 16 [.int 1, .int 0, .int 3, .int 2, .int 5, .int 4, .int 7, .int 6, .int 2, .int 1, .int 4, .int 3, .int 6, .int 5, .int 4, .int 1] (.int 0) ∧ Arv Z h o3 k4 .long 16 [.long q5, .long 0, .long q6, .long 0, .long q7, .long 0, .long q8, .long 0, .long 2305843009213693951, .long 0, .long 2305843009213693951, .long 0, .long 2305843009213693951, .long 0, .long 2305843009213693951, .long 0] (.long 0) ∧ Arv Z h o9 k12 .int 16 [.int (-1), .int (-1), .int (-1), .int (-1), .int (-1), .int (-1), .int (-1), .int (-1), .int 1, .int 2, .int 3, .int 4, .int 5, .int 6, .int 8, .int 11] (.int 0) ∧ Arv Z h o10 k11 .int 16 (.int 0 :: .int 14 :: .int 9 :: .int 10 :: .int 15 :: .int 12 :: .int 13 :: .int 7 :: zi8) (.int 0) ∧ Fld Z h o0 cc0 "edges" "I" (.int 16) ∧ Fld Z h o0 cc0 "halves" "I" (.int 8) ∧ Fld Z h o0 cc0 "heads" "[I" (.ref o10) ∧ Fld Z h o0 cc0 "nexts" "[I" (.ref o9) ∧ Fld Z h o0 cc0 "residues" "[J" (.ref o3) ∧ Fld Z h o0 cc0 "sourceSide" "[Z" (.null) ∧ Fld Z h o0 cc0 "targets" "[I" (.ref o1)
set_option maxRecDepth 65536 in
set_option maxHeartbeats 40000000 in
theorem rm6c (l : Launch) (Z : State) (a0 : Array Value) (hw : ∀ d ∈ tables_1, d.before a0 Z = true) (ws : List Jvm.Cond) (o0 : Addr) (o1 : Addr) (k2 : ClassId) (o3 : Addr) (k4 : ClassId) (q5 : Int64) (q6 : Int64) (q7 : Int64) (q8 : Int64) (o9 : Addr) (o10 : Addr) (k11 : ClassId) (k12 : ClassId) (h0 : Heap) (n0 : Nat) (Z0 : n0 ≤ h0.size) (E_o0 : Exa Z h0 o0 cc0) (F1_o0 : Fld Z h0 o0 cc0 "edges" "I" (.int 14)) (F2_o0 : Fld Z h0 o0 cc0 "targets" "[I" (.ref o1)) (V_o1 : Arv Z h0 o1 k2 .int 16 [.int 1, .int 0, .int 3, .int 2, .int 5, .int 4, .int 7, .int 6, .int 2, .int 1, .int 4, .int 3, .int 6, .int 5, .int 0, .int 0] (.int 0)) (F4_o0 : Fld Z h0 o0 cc0 "residues" "[J" (.ref o3)) (V_o3 : Arv Z h0 o3 k4 .long 16 [.long q5, .long 0, .long q6, .long 0, .long q7, .long 0, .long q8, .long 0, .long 2305843009213693951, .long 0, .long 2305843009213693951, .long 0, .long 2305843009213693951, .long 0, .long 0, .long 0] (.long 0)) (F6_o0 : Fld Z h0 o0 cc0 "nexts" "[I" (.ref o9)) (F7_o0 : Fld Z h0 o0 cc0 "heads" "[I" (.ref o10)) (V_o10 : Arv Z h0 o10 k11 .int 16 (.int 0 :: .int 8 :: .int 9 :: .int 10 :: .int 11 :: .int 12 :: .int 13 :: .int 7 :: zi8) (.int 0)) (V_o9 : Arv Z h0 o9 k12 .int 16 [.int (-1), .int (-1), .int (-1), .int (-1), .int (-1), .int (-1), .int (-1), .int (-1), .int 1, .int 2, .int 3, .int 4, .int 5, .int 6, .int 0, .int 0] (.int 0)) (F10_o0 : Fld Z h0 o0 cc0 "halves" "I" (.int 8)) (F11_o0 : Fld Z h0 o0 cc0 "sourceSide" "[Z" (.null)) (g_o1 : n0 ≤ o1) (ne_o0_o1 : o0 ≠ o1) (ne_o3_o1 : o3 ≠ o1) (g_o3 : n0 ≤ o3) (ne_o0_o3 : o0 ≠ o3) (ne_o10_o1 : o10 ≠ o1) (ne_o10_o3 : o10 ≠ o3) (ne_o9_o1 : o9 ≠ o1) (ne_o9_o3 : o9 ≠ o3) (g_o9 : n0 ≤ o9) (ne_o0_o9 : o0 ≠ o9) (ne_o10_o9 : o10 ≠ o9) (g_o10 : n0 ≤ o10) (ne_o0_o10 : o0 ≠ o10) (g_o0 : n0 ≤ o0) :
    MetFree l yy4 (head1 (Jvm.Cond.code yy4 bc4 3 none :: ws) rr3) (fun a U => a = #[.ref o0, .int 0, .int 2] ∧ Z.Warmed39 U.vm ∧ U.heap = h0) (fun _ _ _ _ _ => True) (fun _ U o U' => ∃ v L, o = .returned v ∧ Q6c Z o0 o1 k2 o3 k4 q5 q6 q7 q8 o9 o10 k11 k12 h0 n0 v U'.heap L ∧ FrameEnd U o U' L rr3.cells rr3.slots) := by
  refine MetFree.of_bodySF (plainFor_of_name pn_0) hisR ?_
  intro p e s m args below meth c s₁ Bd hml0 hP hK
  obtain ⟨rfl, hZ, hh⟩ := hP
  have hx := Bd.exec
  have hby := Bd.bytes
  have hml : c.maxLocals = 3 := hml0
  have hown : s.vm.findClass cc0 = some m.cls := findClass_of_methodNamed Bd.named
  have hnm := (name_of_methodNamed Bd.named Bd.method).1
  have X0 : Stand p l e rr3 s m #[.ref o0, .int 0, .int 2] below meth c s₁ [] 0 0 := Stand.of_body Bd
  have e0 : s₁.heap = h0 := by rw [← hh, Bd.state]; rfl
  have N0 := Fr.nil n0
  refine OGl.start (ef_6 m o0 (0 : Int32) (2 : Int32)) ?_
  show OGl _ _ _ _ s₁ (mkF m 0 #[rv o0, iv 0, iv 2] [])
  refine gO (fun t k => kaN X0 hx hby d6_0 rfl rfl (kc X0 hx hby d6_1 (kiN X0 hx hby d6_2 rfl (o_imul X0 hx hby d6_3 (kc X0 hx hby d6_4 (o_iadd X0 hx hby d6_5 (kc X0 hx hby d6_6 (kiN X0 hx hby d6_7 rfl (o_imul X0 hx hby d6_8 (own_ldc2 X0 hx hown (mvT hZ (w42 hw)) rfl (hb hby d6_9) k)))))))))) ?_
  show OGl _ _ _ _ s₁ (mkF m 12 #[rv o0, iv 0, iv 2] [.long 2305843009213693951, .int 4, .int 1, .ref o0])
  obtain ⟨cq1398, q1398a, q1398b⟩ := (E_o0).cell
  obtain ⟨_, _, ⟨T1398, L1398, kk1398, n1398⟩, -, X1398, ⟨Lc1398, hQ1398, l1398, y1398, z1398⟩, st1398⟩ := X0.privateBack hx (y := yy2) hown (mvT hZ (w27 hw)) (mvT hZ (w28 hw)) (own_selPriv (y := yy2) (Cond.privateMethod_at (mvP hZ (w29 hw) (args := #[]))) (mvT hZ (w28 hw)) (mvT hZ (w23 hw)) rfl) (Cond.privateMethod_at (mvP hZ (w29 hw) (args := #[]))) (mvT hZ (w30 hw)) (by decide) (backOf (W := 0) (rm4g l Z a0 hw [] o0 o1 k2 o3 k4 q5 q6 q7 q8 o9 o10 k11 k12 h0 n0 Z0 F1_o0 F2_o0 V_o1 E_o0 F4_o0 V_o3 F6_o0 F7_o0 V_o10 V_o9 F10_o0 F11_o0 g_o1 ne_o0_o1 ne_o3_o1 g_o3 ne_o0_o3 ne_o10_o1 ne_o10_o3 ne_o9_o1 ne_o9_o3 g_o9 ne_o0_o9 ne_o10_o9 g_o10 ne_o0_o10 g_o0) hZ (w30 hw) (w3 hw) (by decide) (by decide)) (g := (mkF m 12 #[rv o0, iv 0, iv 2] [.long 2305843009213693951, .int 4, .int 1, .ref o0])) rfl (by rw [hml]; rfl) (Steps.refl _) (a := o0) (by rw [e0]; exact q1398a) q1398b (argsL := [.int 1, .int 4, .long 2305843009213693951]) (rest := []) (lenOf pd_1 rfl) rfl (by show 2 * 0 + _ ≤ _; exact Nat.le_of_eq rfl) (hb hby d6_12) (fun _ _ => ⟨rfl, e0, (by decide : 0 + 0 ≤ _), (by decide : 0 + 0 ≤ _)⟩)
  dsimp only [Pt.U, Pt.locs, Pt.cells, Pt.slots] at X1398 l1398 y1398 z1398 st1398 hQ1398
  replace l1398 := l1398.symm
  subst l1398 y1398 z1398
  obtain ⟨rfl, Nq1398, K1398, Fq1398_0, Fq1398_1, Fq1398_2, Fq1398_3, Fq1398_4, Fq1398_5, Fq1398_6, Fq1398_7, Fq1398_8, Fq1398_9, Fq1398_10⟩ := hQ1398
  have KK1398 : Keep h0 T1398.heap [o1, o3, o9, o10, o0] := (Keep.refl h0 [o1, o3, o9, o10, o0]).trans K1398 (allS (Or.inl (List.mem_of_getElem? (i := 4) rfl)) (allS (Or.inl (List.mem_of_getElem? (i := 3) rfl)) (allS (Or.inl (List.mem_of_getElem? (i := 2) rfl)) (allS (Or.inl (List.mem_of_getElem? (i := 1) rfl)) (allS (Or.inl (List.mem_of_getElem? (i := 0) rfl)) all0)))))
  have N1398 := Fr.app N0 Nq1398
  refine gO (fun t k => st1398.trans k) ?_
  show OGl _ _ _ _ T1398 (mkF m 15 #[rv o0, iv 0, iv 2] [])
  obtain ⟨fs, hr, hrun, hended, hW, hsame⟩ := X1398.leave (v := none) (fun _ => rfl) (BodyLoose.notSynchronized Bd)
  refine ⟨_, _, X1398.returnOut hx Bd.returns (hb hby d6_15) hr, hrun, hended, _, _, rfl, ?_, ⟨_, rfl⟩, hW, hsame.mono (by decide) (by decide)⟩
  show Q6c Z o0 o1 k2 o3 k4 q5 q6 q7 q8 o9 o10 k11 k12 h0 n0 _ T1398.heap _
  exact ⟨rfl, N1398, KK1398, Fq1398_10, Fq1398_9, Fq1398_8, Fq1398_7, Fq1398_0, Fq1398_1, Fq1398_2, Fq1398_3, Fq1398_4, Fq1398_5, Fq1398_6⟩
def Q8b (Z : State) (o0 : Addr) (k1 : ClassId) (h0 : Heap) (n0 : Nat) (v : Option Value) (h : Heap) (L : List Loc) : Prop := v = none ∧ Fr n0 L ∧ Keep h0 h [o0] ∧ Arv Z h o0 k1 .int 8 [.int (-1), .int (-1), .int (-1), .int (-1), .int (-1), .int (-1), .int (-1), .int (-1)] (.int 0)
set_option maxRecDepth 65536 in
set_option maxHeartbeats 40000000 in
theorem rm8b (l : Launch) (Z : State) (a0 : Array Value) (hw : ∀ d ∈ tables_1, d.before a0 Z = true) (ws : List Jvm.Cond) (o0 : Addr) (k1 : ClassId) (h0 : Heap) (n0 : Nat) (Z0 : n0 ≤ h0.size) (V_o0 : Arv Z h0 o0 k1 .int 8 [.int (-1), .int 16, .int 8, .int 2, .int 14, .int 4, .int 12, .int (-1)] (.int 0)) (g_o0 : n0 ≤ o0) :
    MetFree l yy5 (head1 (Jvm.Cond.code yy5 bc6 4 none :: ws) rr1) (fun a U => a = #[.ref o0, .int (-1)] ∧ Z.Warmed39 U.vm ∧ U.heap = h0) (fun _ _ _ _ _ => True) (fun _ U o U' => ∃ v L, o = .returned v ∧ Q8b Z o0 k1 h0 n0 v U'.heap L ∧ FrameEnd U o U' L rr1.cells rr1.slots) := by
  refine MetFree.of_bodySF (plainFor_of_name pn_1) hisR ?_
  intro p e s m args below meth c s₁ Bd hml0 hP hK
  obtain ⟨rfl, hZ, hh⟩ := hP
  have hx := Bd.exec
  have hby := Bd.bytes
  have hml : c.maxLocals = 4 := hml0
  have hown : s.vm.findClass "java/util/Arrays" = some m.cls := findClass_of_methodNamed Bd.named
  have hnm := (name_of_methodNamed Bd.named Bd.method).1
  have X0 : Stand p l e rr1 s m #[.ref o0, .int (-1)] below meth c s₁ [] 0 0 := Stand.of_body Bd
  have e0 : s₁.heap = h0 := by rw [← hh, Bd.state]; rfl
  have N0 := Fr.nil n0
  refine OGl.start (ef_8 m o0 (-1 : Int32)) ?_
  show OGl _ _ _ _ s₁ (mkF m 0 #[rv o0, iv (-1), un, un] [])
  refine gO (fun t k => kc X0 hx hby d8_0 (siN X0 hx hby (L' := #[rv o0, iv (-1), iv 0, un]) d8_1 rfl (kaN X0 hx hby d8_2 rfl rfl (rL X0 hx hby hZ e0 V_o0 d8_3 (siN X0 hx hby (L' := #[rv o0, iv (-1), iv 0, iv 8]) d8_4 rfl (kiN X0 hx hby d8_5 rfl (kiN X0 hx hby d8_6 rfl (cN X0 hx hby d8_7 (tlt (by decide : (0 : Int32) < (8 : Int32))).2.1 (kaN X0 hx hby d8_10 rfl rfl (kiN X0 hx hby d8_11 rfl (kiN X0 hx hby d8_12 rfl k))))))))))) ?_
  show OGl _ _ _ _ s₁ (mkF m 13 #[rv o0, iv (-1), iv 0, iv 8] [.int (-1), .int 0, .ref o0])
  refine wI X0 hx hby hZ e0 V_o0 0 rfl (Nat.le_of_ble_eq_true rfl) d8_13 fun T1647 h1647 X1647 e1647 W1647 V1647 => ?_
  have N1647 := Fr.snoc X1647 N0 g_o0
  have KK1647 := (Keep.refl h0 [o0]).wr W1647 (Or.inl (List.mem_of_getElem? (i := 0) rfl))
  show OGl _ _ _ _ T1647 (mkF m 14 #[rv o0, iv (-1), iv 0, iv 8] [])
  refine gO (fun t k => o_iinc X1647 hx hby (L' := #[rv o0, iv (-1), iv 1, iv 8]) d8_14 rfl rfl (o_goto X1647 hx hby 5 d8_17 rfl (kiN X1647 hx hby d8_5 rfl (kiN X1647 hx hby d8_6 rfl (cN X1647 hx hby d8_7 (tlt (by decide : (1 : Int32) < (8 : Int32))).2.1 (kaN X1647 hx hby d8_10 rfl rfl (kiN X1647 hx hby d8_11 rfl (kiN X1647 hx hby d8_12 rfl k)))))))) ?_
  show OGl _ _ _ _ T1647 (mkF m 13 #[rv o0, iv (-1), iv 1, iv 8] [.int (-1), .int 1, .ref o0])
  refine wI X1647 hx hby hZ e1647 V1647 1 rfl (Nat.le_of_ble_eq_true rfl) d8_13 fun T1648 h1648 X1648 e1648 W1648 V1648 => ?_
  have N1648 := Fr.snoc X1648 N1647 g_o0
  have KK1648 := KK1647.wr W1648 (Or.inl (List.mem_of_getElem? (i := 0) rfl))
  show OGl _ _ _ _ T1648 (mkF m 14 #[rv o0, iv (-1), iv 1, iv 8] [])
  refine gO (fun t k => o_iinc X1648 hx hby (L' := #[rv o0, iv (-1), iv 2, iv 8]) d8_14 rfl rfl (o_goto X1648 hx hby 5 d8_17 rfl (kiN X1648 hx hby d8_5 rfl (kiN X1648 hx hby d8_6 rfl (cN X1648 hx hby d8_7 (tlt (by decide : (2 : Int32) < (8 : Int32))).2.1 (kaN X1648 hx hby d8_10 rfl rfl (kiN X1648 hx hby d8_11 rfl (kiN X1648 hx hby d8_12 rfl k)))))))) ?_
  show OGl _ _ _ _ T1648 (mkF m 13 #[rv o0, iv (-1), iv 2, iv 8] [.int (-1), .int 2, .ref o0])
  refine wI X1648 hx hby hZ e1648 V1648 2 rfl (Nat.le_of_ble_eq_true rfl) d8_13 fun T1649 h1649 X1649 e1649 W1649 V1649 => ?_
  have N1649 := Fr.snoc X1649 N1648 g_o0
  have KK1649 := KK1648.wr W1649 (Or.inl (List.mem_of_getElem? (i := 0) rfl))
  show OGl _ _ _ _ T1649 (mkF m 14 #[rv o0, iv (-1), iv 2, iv 8] [])
  refine gO (fun t k => o_iinc X1649 hx hby (L' := #[rv o0, iv (-1), iv 3, iv 8]) d8_14 rfl rfl (o_goto X1649 hx hby 5 d8_17 rfl (kiN X1649 hx hby d8_5 rfl (kiN X1649 hx hby d8_6 rfl (cN X1649 hx hby d8_7 (tlt (by decide : (3 : Int32) < (8 : Int32))).2.1 (kaN X1649 hx hby d8_10 rfl rfl (kiN X1649 hx hby d8_11 rfl (kiN X1649 hx hby d8_12 rfl k)))))))) ?_
  show OGl _ _ _ _ T1649 (mkF m 13 #[rv o0, iv (-1), iv 3, iv 8] [.int (-1), .int 3, .ref o0])
  refine wI X1649 hx hby hZ e1649 V1649 3 rfl (Nat.le_of_ble_eq_true rfl) d8_13 fun T1650 h1650 X1650 e1650 W1650 V1650 => ?_
  have N1650 := Fr.snoc X1650 N1649 g_o0
  have KK1650 := KK1649.wr W1650 (Or.inl (List.mem_of_getElem? (i := 0) rfl))
  show OGl _ _ _ _ T1650 (mkF m 14 #[rv o0, iv (-1), iv 3, iv 8] [])
  refine gO (fun t k => o_iinc X1650 hx hby (L' := #[rv o0, iv (-1), iv 4, iv 8]) d8_14 rfl rfl (o_goto X1650 hx hby 5 d8_17 rfl (kiN X1650 hx hby d8_5 rfl (kiN X1650 hx hby d8_6 rfl (cN X1650 hx hby d8_7 (tlt (by decide : (4 : Int32) < (8 : Int32))).2.1 (kaN X1650 hx hby d8_10 rfl rfl (kiN X1650 hx hby d8_11 rfl (kiN X1650 hx hby d8_12 rfl k)))))))) ?_
  show OGl _ _ _ _ T1650 (mkF m 13 #[rv o0, iv (-1), iv 4, iv 8] [.int (-1), .int 4, .ref o0])
  refine wI X1650 hx hby hZ e1650 V1650 4 rfl (Nat.le_of_ble_eq_true rfl) d8_13 fun T1651 h1651 X1651 e1651 W1651 V1651 => ?_
  have N1651 := Fr.snoc X1651 N1650 g_o0
  have KK1651 := KK1650.wr W1651 (Or.inl (List.mem_of_getElem? (i := 0) rfl))
  show OGl _ _ _ _ T1651 (mkF m 14 #[rv o0, iv (-1), iv 4, iv 8] [])
  refine gO (fun t k => o_iinc X1651 hx hby (L' := #[rv o0, iv (-1), iv 5, iv 8]) d8_14 rfl rfl (o_goto X1651 hx hby 5 d8_17 rfl (kiN X1651 hx hby d8_5 rfl (kiN X1651 hx hby d8_6 rfl (cN X1651 hx hby d8_7 (tlt (by decide : (5 : Int32) < (8 : Int32))).2.1 (kaN X1651 hx hby d8_10 rfl rfl (kiN X1651 hx hby d8_11 rfl (kiN X1651 hx hby d8_12 rfl k)))))))) ?_
  show OGl _ _ _ _ T1651 (mkF m 13 #[rv o0, iv (-1), iv 5, iv 8] [.int (-1), .int 5, .ref o0])
  refine wI X1651 hx hby hZ e1651 V1651 5 rfl (Nat.le_of_ble_eq_true rfl) d8_13 fun T1652 h1652 X1652 e1652 W1652 V1652 => ?_
  have N1652 := Fr.snoc X1652 N1651 g_o0
  have KK1652 := KK1651.wr W1652 (Or.inl (List.mem_of_getElem? (i := 0) rfl))
  show OGl _ _ _ _ T1652 (mkF m 14 #[rv o0, iv (-1), iv 5, iv 8] [])
  refine gO (fun t k => o_iinc X1652 hx hby (L' := #[rv o0, iv (-1), iv 6, iv 8]) d8_14 rfl rfl (o_goto X1652 hx hby 5 d8_17 rfl (kiN X1652 hx hby d8_5 rfl (kiN X1652 hx hby d8_6 rfl (cN X1652 hx hby d8_7 (tlt (by decide : (6 : Int32) < (8 : Int32))).2.1 (kaN X1652 hx hby d8_10 rfl rfl (kiN X1652 hx hby d8_11 rfl (kiN X1652 hx hby d8_12 rfl k)))))))) ?_
  show OGl _ _ _ _ T1652 (mkF m 13 #[rv o0, iv (-1), iv 6, iv 8] [.int (-1), .int 6, .ref o0])
  refine wI X1652 hx hby hZ e1652 V1652 6 rfl (Nat.le_of_ble_eq_true rfl) d8_13 fun T1653 h1653 X1653 e1653 W1653 V1653 => ?_
  have N1653 := Fr.snoc X1653 N1652 g_o0
  have KK1653 := KK1652.wr W1653 (Or.inl (List.mem_of_getElem? (i := 0) rfl))
  show OGl _ _ _ _ T1653 (mkF m 14 #[rv o0, iv (-1), iv 6, iv 8] [])
  refine gO (fun t k => o_iinc X1653 hx hby (L' := #[rv o0, iv (-1), iv 7, iv 8]) d8_14 rfl rfl (o_goto X1653 hx hby 5 d8_17 rfl (kiN X1653 hx hby d8_5 rfl (kiN X1653 hx hby d8_6 rfl (cN X1653 hx hby d8_7 (tlt (by decide : (7 : Int32) < (8 : Int32))).2.1 (kaN X1653 hx hby d8_10 rfl rfl (kiN X1653 hx hby d8_11 rfl (kiN X1653 hx hby d8_12 rfl k)))))))) ?_
  show OGl _ _ _ _ T1653 (mkF m 13 #[rv o0, iv (-1), iv 7, iv 8] [.int (-1), .int 7, .ref o0])
  refine wI X1653 hx hby hZ e1653 V1653 7 rfl (Nat.le_of_ble_eq_true rfl) d8_13 fun T1654 h1654 X1654 e1654 W1654 V1654 => ?_
  have N1654 := Fr.snoc X1654 N1653 g_o0
  have KK1654 := KK1653.wr W1654 (Or.inl (List.mem_of_getElem? (i := 0) rfl))
  show OGl _ _ _ _ T1654 (mkF m 14 #[rv o0, iv (-1), iv 7, iv 8] [])
  refine gO (fun t k => o_iinc X1654 hx hby (L' := #[rv o0, iv (-1), iv 8, iv 8]) d8_14 rfl rfl (o_goto X1654 hx hby 5 d8_17 rfl (kiN X1654 hx hby d8_5 rfl (kiN X1654 hx hby d8_6 rfl (cY X1654 hx hby 20 d8_7 (flt (by decide : ¬ ((8 : Int32) < (8 : Int32)))).2.1 rfl k))))) ?_
  show OGl _ _ _ _ T1654 (mkF m 20 #[rv o0, iv (-1), iv 8, iv 8] [])
  obtain ⟨fs, hr, hrun, hended, hW, hsame⟩ := X1654.leave (v := none) (fun _ => rfl) (BodyLoose.notSynchronized Bd)
  refine ⟨_, _, X1654.returnOut hx Bd.returns (hb hby d8_20) hr, hrun, hended, _, _, rfl, ?_, ⟨_, rfl⟩, hW, hsame.mono (by decide) (by decide)⟩
  show Q8b Z o0 k1 h0 n0 _ T1654.heap _
  rw [e1654]
  exact ⟨rfl, N1654, KK1654, V1654⟩
def e7b_0 (q7 : Int64) : Int64 := ((2305843009213693951 : Int64) - (t9b_0 (t9a_0 q7)))
def e7b_1 (q7 : Int64) : Int64 := ((0 : Int64) + (t9b_0 (t9a_0 q7)))
def Q7b (Z : State) (o0 : Addr) (o1 : Addr) (k2 : ClassId) (o3 : Addr) (k4 : ClassId) (q5 : Int64) (q6 : Int64) (q7 : Int64) (q8 : Int64) (o9 : Addr) (k10 : ClassId) (o11 : Addr) (k12 : ClassId) (h0 : Heap) (n0 : Nat) (v : Option Value) (h : Heap) (L : List Loc) : Prop := ∃ (nb0 : Addr), ∃ (nk0 : ClassId), v = some (.long (e7b_1 q7)) ∧ Fr n0 L ∧ Keep h0 h [o3, o0] ∧ h0.size ≤ nb0 ∧ Arv Z h o3 k4 .long 16 [.long q5, .long 0, .long q6, .long 0, .long (q7 - (t9b_0 (t9a_0 q7))), .long (e7b_1 q7), .long q8, .long 0, .long 2305843009213693951, .long 0, .long 2305843009213693951, .long 0, .long (e7b_0 q7), .long (e7b_1 q7), .long (e7b_0 q7), .long (e7b_1 q7)] (.long 0) ∧ Fld Z h o0 cc0 "edges" "I" (.int 16) ∧ Fld Z h o0 cc0 "halves" "I" (.int 8) ∧ Fld Z h o0 cc0 "heads" "[I" (.ref o1) ∧ Fld Z h o0 cc0 "nexts" "[I" (.ref o11) ∧ Fld Z h o0 cc0 "residues" "[J" (.ref o3) ∧ Fld Z h o0 cc0 "sourceSide" "[Z" (.ref nb0) ∧ Fld Z h o0 cc0 "targets" "[I" (.ref o9) ∧ Arv Z h nb0 nk0 .boolean 8 [.int 0, .int 1, .int 1, .int 1, .int 1, .int 0, .int 0, .int 0] (.int 0)
set_option maxRecDepth 65536 in
set_option maxHeartbeats 40000000 in
theorem rm7b (l : Launch) (Z : State) (a0 : Array Value) (hw : ∀ d ∈ tables_1, d.before a0 Z = true) (ws : List Jvm.Cond) (o0 : Addr) (o1 : Addr) (k2 : ClassId) (o3 : Addr) (k4 : ClassId) (q5 : Int64) (q6 : Int64) (q7 : Int64) (q8 : Int64) (o9 : Addr) (k10 : ClassId) (o11 : Addr) (k12 : ClassId) (h0 : Heap) (n0 : Nat) (Z0 : n0 ≤ h0.size) (F0_o0 : Fld Z h0 o0 cc0 "halves" "I" (.int 8)) (F1_o0 : Fld Z h0 o0 cc0 "edges" "I" (.int 16)) (F2_o0 : Fld Z h0 o0 cc0 "heads" "[I" (.ref o1)) (V_o1 : Arv Z h0 o1 k2 .int 16 (.int 0 :: .int 14 :: .int 9 :: .int 10 :: .int 15 :: .int 12 :: .int 13 :: .int 7 :: zi8) (.int 0)) (F4_o0 : Fld Z h0 o0 cc0 "residues" "[J" (.ref o3)) (V_o3 : Arv Z h0 o3 k4 .long 16 [.long q5, .long 0, .long q6, .long 0, .long q7, .long 0, .long q8, .long 0, .long 2305843009213693951, .long 0, .long 2305843009213693951, .long 0, .long 2305843009213693951, .long 0, .long 2305843009213693951, .long 0] (.long 0)) (F6_o0 : Fld Z h0 o0 cc0 "targets" "[I" (.ref o9)) (V_o9 : Arv Z h0 o9 k10 .int 16 [.int 1, .int 0, .int 3, .int 2, .int 5, .int 4, .int 7, .int 6, .int 2, .int 1, .int 4, .int 3, .int 6, .int 5, .int 4, .int 1] (.int 0)) (F8_o0 : Fld Z h0 o0 cc0 "nexts" "[I" (.ref o11)) (V_o11 : Arv Z h0 o11 k12 .int 16 [.int (-1), .int (-1), .int (-1), .int (-1), .int (-1), .int (-1), .int (-1), .int (-1), .int 1, .int 2, .int 3, .int 4, .int 5, .int 6, .int 8, .int 11] (.int 0)) (hp10_7b : (0 : Int64) < q7) (hp11_7b : (0 : Int64) < q6) (g_o3 : n0 ≤ o3) (ne_o0_o3 : o0 ≠ o3) (ne_o9_o3 : o9 ≠ o3) (hp15_7b : (e7b_1 q7) < (2305843009213693950 : Int64)) (ne_o1_o3 : o1 ≠ o3) (ne_o11_o3 : o11 ≠ o3) (hp18_7b : (0 : Int64) < (e7b_0 q7)) (hp19_7b : (0 : Int64) < (e7b_1 q7)) (hp20_7b : ¬ ((0 : Int64) < (q7 - (t9b_0 (t9a_0 q7))))) (E_o0 : Exa Z h0 o0 cc0) (F22_o0 : Fld Z h0 o0 cc0 "sourceSide" "[Z" (.null)) (g_o0 : n0 ≤ o0) :
    MetFree l yy7 (head1 (Jvm.Cond.code yy7 bc5 15 (some .long) :: ws) rr4) (fun a U => a = #[.ref o0, .int 0, .int 3, .long 2305843009213693950] ∧ Z.Warmed39 U.vm ∧ U.heap = h0) (fun _ _ _ _ _ => True) (fun _ U o U' => ∃ v L, o = .returned v ∧ Q7b Z o0 o1 k2 o3 k4 q5 q6 q7 q8 o9 k10 o11 k12 h0 n0 v U'.heap L ∧ FrameEnd U o U' L rr4.cells rr4.slots) := by
  refine MetFree.of_bodySF (plainFor_of_name pn_0) hisR ?_
  intro p e s m args below meth c s₁ Bd hml0 hP hK
  obtain ⟨rfl, hZ, hh⟩ := hP
  have hx := Bd.exec
  have hby := Bd.bytes
  have hml : c.maxLocals = 15 := hml0
  have hown : s.vm.findClass cc0 = some m.cls := findClass_of_methodNamed Bd.named
  have hnm := (name_of_methodNamed Bd.named Bd.method).1
  have X0 : Stand p l e rr4 s m #[.ref o0, .int 0, .int 3, .long 2305843009213693950] below meth c s₁ [] 0 0 := Stand.of_body Bd
  have e0 : s₁.heap = h0 := by rw [← hh, Bd.state]; rfl
  have N0 := Fr.nil n0
  refine OGl.start (ef_7 m o0 (0 : Int32) (3 : Int32) (2305843009213693950 : Int64)) ?_
  show OGl _ _ _ _ s₁ (mkF m 0 #[rv o0, iv 0, iv 3, jv 2305843009213693950, sc, un, un, un, un, un, un, un, un, un, un] [])
  refine gO (fun t k => kc X0 hx hby d7_0 (kiN X0 hx hby d7_1 rfl (o_imul X0 hx hby d7_2 (kc X0 hx hby d7_3 (o_iadd X0 hx hby d7_4 (si X0 hx hby (L' := #[rv o0, iv 0, iv 3, jv 2305843009213693950, sc, iv 1, un, un, un, un, un, un, un, un, un]) d7_5 rfl (kc X0 hx hby d7_7 (kiN X0 hx hby d7_8 rfl (o_imul X0 hx hby d7_9 (si X0 hx hby (L' := #[rv o0, iv 0, iv 3, jv 2305843009213693950, sc, iv 1, iv 6, un, un, un, un, un, un, un, un]) d7_10 rfl (kaN X0 hx hby d7_12 rfl rfl k))))))))))) (gG X0 hx hby hZ hown (w25 hw) e0 F0_o0 d7_13 fun T1482 X1482 e1482 => ?_)
  show OGl _ _ _ _ T1482 (mkF m 16 #[rv o0, iv 0, iv 3, jv 2305843009213693950, sc, iv 1, iv 6, un, un, un, un, un, un, un, un] [.int 8])
  obtain ⟨T1483, h1483, k1483, X1483, e1483, E1483, A1483, st1483⟩ := newP (aty := .int) X1482 hx hZ (w10 hw) e1482 (g := (mkF m 16 #[rv o0, iv 0, iv 3, jv 2305843009213693950, sc, iv 1, iv 6, un, un, un, un, un, un, un, un] [.int 8])) rfl (hb hby d7_16) rfl (by decide) (cap := 8) (by decide) (by decide) (by decide) (by decide)
  obtain ⟨b1483, gb1483⟩ : ∃ z, z = h0.size := ⟨_, rfl⟩
  rw [← gb1483] at A1483 st1483
  have sz_b1483 : h0.size ≤ b1483 := Nat.le_trans (Keep.refl h0 [o3, o0]).1 (Nat.le_of_eq gb1483.symm)
  have g_b1483 : n0 ≤ b1483 := Nat.le_trans Z0 sz_b1483
  have V1483 : Arv Z h1483 b1483 k1483 .int (8 : Int32) [.int 0, .int 0, .int 0, .int 0, .int 0, .int 0, .int 0, .int 0] (.int 0) := (Arv.new A1483 (by decide)).pad (pad_rep [] (.int 0) 8)
  have KK1483 : Keep h0 h1483 [o3, o0] := (Keep.refl h0 [o3, o0]).ext E1483
  refine gO st1483 ?_
  show OGl _ _ _ _ T1483 (mkF m 18 #[rv o0, iv 0, iv 3, jv 2305843009213693950, sc, iv 1, iv 6, un, un, un, un, un, un, un, un] [.ref b1483])
  refine gO (fun t k => sa X1483 hx hby (L' := #[rv o0, iv 0, iv 3, jv 2305843009213693950, sc, iv 1, iv 6, rv b1483, un, un, un, un, un, un, un]) d7_18 rfl rfl (kcl X1483 hx hby d7_20 (sl X1483 hx hby (L' := #[rv o0, iv 0, iv 3, jv 2305843009213693950, sc, iv 1, iv 6, rv b1483, jv 0, sc, un, un, un, un, un]) d7_21 rfl (kl X1483 hx hby d7_23 rfl (klN X1483 hx hby d7_25 rfl (o_lcmp X1483 hx hby d7_26 (iN X1483 hx hby d7_27 (own_tltL (by decide : (0 : Int64) < (2305843009213693950 : Int64))).2.1 (ka X1483 hx hby d7_30 rfl rfl (kc X1483 hx hby d7_32 k))))))))) ?_
  show OGl _ _ _ _ T1483 (mkF m 33 #[rv o0, iv 0, iv 3, jv 2305843009213693950, sc, iv 1, iv 6, rv b1483, jv 0, sc, un, un, un, un, un] [.int (-1), .ref b1483])
  obtain ⟨_, _, ⟨T1484, L1484, kk1484, n1484⟩, -, X1484, ⟨Lc1484, hQ1484, l1484, y1484, z1484⟩, st1484⟩ := Jvm.LawKit.callS X1483 hx (y := yy5) hown (mvT hZ (w49 hw)) (mvT hZ (w50 hw)) (mvT hZ (w51 hw)) (mvT hZ (w52 hw)) (by decide) (backOf (W := 0) (rm8 l Z a0 hw [] b1483 k1483 h1483 n0 (Nat.le_trans Z0 KK1483.1) V1483 g_b1483) hZ (w52 hw) (w51 hw) (by decide) (by decide)) (g := (mkF m 33 #[rv o0, iv 0, iv 3, jv 2305843009213693950, sc, iv 1, iv 6, rv b1483, jv 0, sc, un, un, un, un, un] [.int (-1), .ref b1483])) rfl (by rw [hml]; rfl) (argsL := [.ref b1483, .int (-1)]) (rest := []) (lenOf pd_4 rfl) rfl (by show 2 * 0 + _ ≤ _; exact Nat.le_of_eq rfl) (hb hby d7_33) (fun _ _ => ⟨rfl, e1483, (by decide : 1 + 0 ≤ _), (by decide : 8 + 0 ≤ _)⟩)
  dsimp only [Pt.U, Pt.locs, Pt.cells, Pt.slots] at X1484 l1484 y1484 z1484 st1484 hQ1484
  replace l1484 := l1484.symm
  subst l1484 y1484 z1484
  obtain ⟨rfl, Nq1484, K1484, Fq1484_0⟩ := hQ1484
  have KK1484 : Keep h0 T1484.heap [o3, o0] := KK1483.trans K1484 (allS (Or.inr sz_b1483) all0)
  have N1484 := Fr.app N0 Nq1484
  refine gO st1484 ?_
  show OGl _ _ _ _ T1484 (mkF m 36 #[rv o0, iv 0, iv 3, jv 2305843009213693950, sc, iv 1, iv 6, rv b1483, jv 0, sc, un, un, un, un, un] [])
  have ne_o0_b1483 := Nat.ne_of_lt (Nat.lt_of_lt_of_le F0_o0.lt sz_b1483)
  have F1485 := ((F0_o0.ext E1483).keep K1484 (ninS ne_o0_b1483 nin0))
  refine gO (fun t k => kaN X1484 hx hby d7_36 rfl rfl k) (gG X1484 hx hby hZ hown (w25 hw) rfl F1485 d7_37 fun T1486 X1486 e1486 => ?_)
  show OGl _ _ _ _ T1486 (mkF m 40 #[rv o0, iv 0, iv 3, jv 2305843009213693950, sc, iv 1, iv 6, rv b1483, jv 0, sc, un, un, un, un, un] [.int 8])
  obtain ⟨T1487, h1487, k1487, X1487, e1487, E1487, A1487, st1487⟩ := newP (aty := .int) X1486 hx hZ (w10 hw) e1486 (g := (mkF m 40 #[rv o0, iv 0, iv 3, jv 2305843009213693950, sc, iv 1, iv 6, rv b1483, jv 0, sc, un, un, un, un, un] [.int 8])) rfl (hb hby d7_40) rfl (by decide) (cap := 8) (by decide) (by decide) (by decide) (by decide)
  obtain ⟨b1487, gb1487⟩ : ∃ z, z = T1484.heap.size := ⟨_, rfl⟩
  rw [← gb1487] at A1487 st1487
  have ne_b1483_b1487 : b1483 ≠ b1487 := Nat.ne_of_lt (Nat.lt_of_lt_of_eq Fq1484_0.lt gb1487.symm)
  have ne_o0_b1487 : o0 ≠ b1487 := Nat.ne_of_lt (Nat.lt_of_lt_of_eq F1485.lt gb1487.symm)
  have sz_b1487 : h0.size ≤ b1487 := Nat.le_trans KK1484.1 (Nat.le_of_eq gb1487.symm)
  have g_b1487 : n0 ≤ b1487 := Nat.le_trans Z0 sz_b1487
  have V1487 : Arv Z h1487 b1487 k1487 .int (8 : Int32) [.int 0, .int 0, .int 0, .int 0, .int 0, .int 0, .int 0, .int 0] (.int 0) := (Arv.new A1487 (by decide)).pad (pad_rep [] (.int 0) 8)
  have KK1487 : Keep h0 h1487 [o3, o0] := KK1484.ext E1487
  refine gO st1487 ?_
  show OGl _ _ _ _ T1487 (mkF m 42 #[rv o0, iv 0, iv 3, jv 2305843009213693950, sc, iv 1, iv 6, rv b1483, jv 0, sc, un, un, un, un, un] [.ref b1487])
  refine gO (fun t k => sa X1487 hx hby (L' := #[rv o0, iv 0, iv 3, jv 2305843009213693950, sc, iv 1, iv 6, rv b1483, jv 0, sc, rv b1487, un, un, un, un]) d7_42 rfl rfl (kc X1487 hx hby d7_44 (si X1487 hx hby (L' := #[rv o0, iv 0, iv 3, jv 2305843009213693950, sc, iv 1, iv 6, rv b1483, jv 0, sc, rv b1487, iv 1, un, un, un]) d7_45 rfl (ka X1487 hx hby d7_47 rfl rfl (kc X1487 hx hby d7_49 (ki X1487 hx hby d7_50 rfl k)))))) ?_
  show OGl _ _ _ _ T1487 (mkF m 52 #[rv o0, iv 0, iv 3, jv 2305843009213693950, sc, iv 1, iv 6, rv b1483, jv 0, sc, rv b1487, iv 1, un, un, un] [.int 1, .int 0, .ref b1487])
  refine wI X1487 hx hby hZ e1487 V1487 0 rfl (Nat.le_of_ble_eq_true rfl) d7_52 fun T1488 h1488 X1488 e1488 W1488 V1488 => ?_
  have N1488 := Fr.snoc X1488 N1484 g_b1487
  have KK1488 := KK1487.wr W1488 (Or.inr sz_b1487)
  show OGl _ _ _ _ T1488 (mkF m 53 #[rv o0, iv 0, iv 3, jv 2305843009213693950, sc, iv 1, iv 6, rv b1483, jv 0, sc, rv b1487, iv 1, un, un, un] [])
  have F1489 := ((((F1_o0.ext E1483).keep K1484 (ninS ne_o0_b1483 nin0)).ext E1487).other W1488 (Or.inl ne_o0_b1487))
  refine gO (fun t k => ka X1488 hx hby d7_53 rfl rfl (ki X1488 hx hby d7_55 rfl (kaN X1488 hx hby d7_57 rfl rfl k))) (gG X1488 hx hby hZ hown (w31 hw) e1488 F1489 d7_58 fun T1490 X1490 e1490 => ?_)
  show OGl _ _ _ _ T1490 (mkF m 61 #[rv o0, iv 0, iv 3, jv 2305843009213693950, sc, iv 1, iv 6, rv b1483, jv 0, sc, rv b1487, iv 1, un, un, un] [.int 16, .int 1, .ref b1483])
  have F1491 := ((Fq1484_0.ext E1487).other W1488 ne_b1483_b1487)
  refine wI X1490 hx hby hZ e1490 F1491 1 rfl (Nat.le_of_ble_eq_true rfl) d7_61 fun T1492 h1492 X1492 e1492 W1492 V1492 => ?_
  have N1492 := Fr.snoc X1492 N1488 g_b1483
  have KK1492 := KK1488.wr W1492 (Or.inr sz_b1483)
  show OGl _ _ _ _ T1492 (mkF m 62 #[rv o0, iv 0, iv 3, jv 2305843009213693950, sc, iv 1, iv 6, rv b1483, jv 0, sc, rv b1487, iv 1, un, un, un] [])
  have F1493 := (((((F2_o0.ext E1483).keep K1484 (ninS ne_o0_b1483 nin0)).ext E1487).other W1488 (Or.inl ne_o0_b1487)).other W1492 (Or.inl ne_o0_b1483))
  have F1495 := (V1488.other W1492 (Ne.symm ne_b1483_b1487))
  have ne_o1_b1483 := Nat.ne_of_lt (Nat.lt_of_lt_of_le V_o1.lt sz_b1483)
  have ne_o1_b1487 := Nat.ne_of_lt (Nat.lt_of_lt_of_le V_o1.lt sz_b1487)
  have F1496 := (((((V_o1.ext E1483).keep K1484 (ninS ne_o1_b1483 nin0)).ext E1487).other W1488 ne_o1_b1487).other W1492 ne_o1_b1483)
  have F1497 := (((((F4_o0.ext E1483).keep K1484 (ninS ne_o0_b1483 nin0)).ext E1487).other W1488 (Or.inl ne_o0_b1487)).other W1492 (Or.inl ne_o0_b1483))
  have ne_o3_b1483 := Nat.ne_of_lt (Nat.lt_of_lt_of_le V_o3.lt sz_b1483)
  have ne_o3_b1487 := Nat.ne_of_lt (Nat.lt_of_lt_of_le V_o3.lt sz_b1487)
  have F1499 := (((((V_o3.ext E1483).keep K1484 (ninS ne_o3_b1483 nin0)).ext E1487).other W1488 ne_o3_b1487).other W1492 ne_o3_b1483)
  have F1500 := (((((F6_o0.ext E1483).keep K1484 (ninS ne_o0_b1483 nin0)).ext E1487).other W1488 (Or.inl ne_o0_b1487)).other W1492 (Or.inl ne_o0_b1483))
  have ne_o9_b1483 := Nat.ne_of_lt (Nat.lt_of_lt_of_le V_o9.lt sz_b1483)
  have ne_o9_b1487 := Nat.ne_of_lt (Nat.lt_of_lt_of_le V_o9.lt sz_b1487)
  have F1502 := (((((V_o9.ext E1483).keep K1484 (ninS ne_o9_b1483 nin0)).ext E1487).other W1488 ne_o9_b1487).other W1492 ne_o9_b1483)
  refine gO (fun t k => kc X1492 hx hby d7_62 (si X1492 hx hby (L' := #[rv o0, iv 0, iv 3, jv 2305843009213693950, sc, iv 1, iv 6, rv b1483, jv 0, sc, rv b1487, iv 1, iv 0, un, un]) d7_63 rfl (ki X1492 hx hby d7_65 rfl (ki X1492 hx hby d7_67 rfl (cN X1492 hx hby d7_69 (tlt (by decide : (0 : Int32) < (1 : Int32))).2.1 (ka X1492 hx hby d7_72 rfl rfl (ki X1492 hx hby d7_74 rfl (rI X1492 hx hby hZ e1492 V1492 (.int (-1)) rfl rfl d7_76 (iN X1492 hx hby d7_77 ((if0 _ _).trans (tlt (by decide : (-1 : Int32) < (0 : Int32))).2.1) (kaN X1492 hx hby d7_80 rfl rfl k)))))))))) (gG X1492 hx hby hZ hown (w11 hw) e1492 F1493 d7_81 fun T1494 X1494 e1494 => gO (fun t k => ka X1494 hx hby d7_84 rfl rfl (ki X1494 hx hby d7_86 rfl (rI X1494 hx hby hZ e1494 F1495 (.int 1) rfl rfl d7_88 (rI X1494 hx hby hZ e1494 F1496 (.int 14) rfl rfl d7_89 (si X1494 hx hby (L' := #[rv o0, iv 0, iv 3, jv 2305843009213693950, sc, iv 1, iv 6, rv b1483, jv 0, sc, rv b1487, iv 1, iv 0, iv 14, un]) d7_90 rfl (ki X1494 hx hby d7_92 rfl (iN X1494 hx hby d7_94 ((if0 _ _).trans (flt (by decide : ¬ ((14 : Int32) < (0 : Int32)))).1) (kaN X1494 hx hby d7_97 rfl rfl k)))))))) (gG X1494 hx hby hZ hown (w18 hw) e1494 F1497 d7_98 fun T1498 X1498 e1498 => gO (fun t k => ki X1498 hx hby d7_101 rfl (rJ X1498 hx hby hZ e1498 F1499 (.long 2305843009213693951) rfl rfl d7_103 (kcl X1498 hx hby d7_104 (o_lcmp X1498 hx hby d7_105 (iN X1498 hx hby d7_106 (own_tltL (by decide : (0 : Int64) < (2305843009213693951 : Int64))).2.2.2 (ka X1498 hx hby d7_109 rfl rfl (kaN X1498 hx hby d7_111 rfl rfl k))))))) (gG X1498 hx hby hZ hown (w13 hw) e1498 F1500 d7_112 fun T1501 X1501 e1501 => gO (fun t k => ki X1501 hx hby d7_115 rfl (rI X1501 hx hby hZ e1501 F1502 (.int 4) rfl rfl d7_117 (rI X1501 hx hby hZ e1501 V1492 (.int (-1)) rfl rfl d7_118 (iN X1501 hx hby d7_119 ((if0 _ _).trans (tlt (by decide : (-1 : Int32) < (0 : Int32))).2.1) (ka X1501 hx hby d7_122 rfl rfl (kaN X1501 hx hby d7_124 rfl rfl k)))))) (gG X1501 hx hby hZ hown (w13 hw) e1501 F1500 d7_125 fun T1503 X1503 e1503 => gO (fun t k => ki X1503 hx hby d7_128 rfl (rI X1503 hx hby hZ e1503 F1502 (.int 4) rfl rfl d7_130 (ki X1503 hx hby d7_131 rfl k))) ?_))))
  show OGl _ _ _ _ T1503 (mkF m 133 #[rv o0, iv 0, iv 3, jv 2305843009213693950, sc, iv 1, iv 6, rv b1483, jv 0, sc, rv b1487, iv 1, iv 0, iv 14, un] [.int 14, .int 4, .ref b1483])
  refine wI X1503 hx hby hZ e1503 V1492 4 rfl (Nat.le_of_ble_eq_true rfl) d7_133 fun T1504 h1504 X1504 e1504 W1504 V1504 => ?_
  have N1504 := Fr.snoc X1504 N1492 g_b1483
  have KK1504 := KK1492.wr W1504 (Or.inr sz_b1483)
  show OGl _ _ _ _ T1504 (mkF m 134 #[rv o0, iv 0, iv 3, jv 2305843009213693950, sc, iv 1, iv 6, rv b1483, jv 0, sc, rv b1487, iv 1, iv 0, iv 14, un] [])
  have F1505 := (F1500.other W1504 (Or.inl ne_o0_b1483))
  have F1507 := (F1502.other W1504 ne_o9_b1483)
  refine gO (fun t k => ka X1504 hx hby d7_134 rfl rfl (ki X1504 hx hby d7_136 rfl (o_iinc X1504 hx hby (L' := #[rv o0, iv 0, iv 3, jv 2305843009213693950, sc, iv 1, iv 6, rv b1483, jv 0, sc, rv b1487, iv 2, iv 0, iv 14, un]) d7_138 rfl rfl (kaN X1504 hx hby d7_141 rfl rfl k)))) (gG X1504 hx hby hZ hown (w13 hw) e1504 F1505 d7_142 fun T1506 X1506 e1506 => gO (fun t k => ki X1506 hx hby d7_145 rfl (rI X1506 hx hby hZ e1506 F1507 (.int 4) rfl rfl d7_147 k)) ?_)
  show OGl _ _ _ _ T1506 (mkF m 148 #[rv o0, iv 0, iv 3, jv 2305843009213693950, sc, iv 1, iv 6, rv b1483, jv 0, sc, rv b1487, iv 2, iv 0, iv 14, un] [.int 4, .int 1, .ref b1487])
  have F1508 := (F1495.other W1504 (Ne.symm ne_b1483_b1487))
  refine wI X1506 hx hby hZ e1506 F1508 1 rfl (Nat.le_of_ble_eq_true rfl) d7_148 fun T1509 h1509 X1509 e1509 W1509 V1509 => ?_
  have N1509 := Fr.snoc X1509 N1504 g_b1487
  have KK1509 := KK1504.wr W1509 (Or.inr sz_b1487)
  show OGl _ _ _ _ T1509 (mkF m 149 #[rv o0, iv 0, iv 3, jv 2305843009213693950, sc, iv 1, iv 6, rv b1483, jv 0, sc, rv b1487, iv 2, iv 0, iv 14, un] [])
  have F1510 := (((((((F8_o0.ext E1483).keep K1484 (ninS ne_o0_b1483 nin0)).ext E1487).other W1488 (Or.inl ne_o0_b1487)).other W1492 (Or.inl ne_o0_b1483)).other W1504 (Or.inl ne_o0_b1483)).other W1509 (Or.inl ne_o0_b1487))
  have ne_o11_b1483 := Nat.ne_of_lt (Nat.lt_of_lt_of_le V_o11.lt sz_b1483)
  have ne_o11_b1487 := Nat.ne_of_lt (Nat.lt_of_lt_of_le V_o11.lt sz_b1487)
  have F1512 := (((((((V_o11.ext E1483).keep K1484 (ninS ne_o11_b1483 nin0)).ext E1487).other W1488 ne_o11_b1487).other W1492 ne_o11_b1483).other W1504 ne_o11_b1483).other W1509 ne_o11_b1487)
  have F1513 := ((F1497.other W1504 (Or.inl ne_o0_b1483)).other W1509 (Or.inl ne_o0_b1487))
  have F1515 := ((F1499.other W1504 ne_o3_b1483).other W1509 ne_o3_b1487)
  have F1516 := (F1505.other W1509 (Or.inl ne_o0_b1487))
  have F1518 := (F1507.other W1509 ne_o9_b1487)
  have F1519 := (V1504.other W1509 ne_b1483_b1487)
  refine gO (fun t k => kaN X1509 hx hby d7_149 rfl rfl k) (gG X1509 hx hby hZ hown (w15 hw) e1509 F1510 d7_150 fun T1511 X1511 e1511 => gO (fun t k => ki X1511 hx hby d7_153 rfl (rI X1511 hx hby hZ e1511 F1512 (.int 8) rfl rfl d7_155 (si X1511 hx hby (L' := #[rv o0, iv 0, iv 3, jv 2305843009213693950, sc, iv 1, iv 6, rv b1483, jv 0, sc, rv b1487, iv 2, iv 0, iv 8, un]) d7_156 rfl (o_goto X1511 hx hby 92 d7_158 rfl (ki X1511 hx hby d7_92 rfl (iN X1511 hx hby d7_94 ((if0 _ _).trans (flt (by decide : ¬ ((8 : Int32) < (0 : Int32)))).1) (kaN X1511 hx hby d7_97 rfl rfl k))))))) (gG X1511 hx hby hZ hown (w18 hw) e1511 F1513 d7_98 fun T1514 X1514 e1514 => gO (fun t k => ki X1514 hx hby d7_101 rfl (rJ X1514 hx hby hZ e1514 F1515 (.long 2305843009213693951) rfl rfl d7_103 (kcl X1514 hx hby d7_104 (o_lcmp X1514 hx hby d7_105 (iN X1514 hx hby d7_106 (own_tltL (by decide : (0 : Int64) < (2305843009213693951 : Int64))).2.2.2 (ka X1514 hx hby d7_109 rfl rfl (kaN X1514 hx hby d7_111 rfl rfl k))))))) (gG X1514 hx hby hZ hown (w13 hw) e1514 F1516 d7_112 fun T1517 X1517 e1517 => gO (fun t k => ki X1517 hx hby d7_115 rfl (rI X1517 hx hby hZ e1517 F1518 (.int 2) rfl rfl d7_117 (rI X1517 hx hby hZ e1517 F1519 (.int (-1)) rfl rfl d7_118 (iN X1517 hx hby d7_119 ((if0 _ _).trans (tlt (by decide : (-1 : Int32) < (0 : Int32))).2.1) (ka X1517 hx hby d7_122 rfl rfl (kaN X1517 hx hby d7_124 rfl rfl k)))))) (gG X1517 hx hby hZ hown (w13 hw) e1517 F1516 d7_125 fun T1520 X1520 e1520 => gO (fun t k => ki X1520 hx hby d7_128 rfl (rI X1520 hx hby hZ e1520 F1518 (.int 2) rfl rfl d7_130 (ki X1520 hx hby d7_131 rfl k))) ?_))))
  show OGl _ _ _ _ T1520 (mkF m 133 #[rv o0, iv 0, iv 3, jv 2305843009213693950, sc, iv 1, iv 6, rv b1483, jv 0, sc, rv b1487, iv 2, iv 0, iv 8, un] [.int 8, .int 2, .ref b1483])
  refine wI X1520 hx hby hZ e1520 F1519 2 rfl (Nat.le_of_ble_eq_true rfl) d7_133 fun T1521 h1521 X1521 e1521 W1521 V1521 => ?_
  have N1521 := Fr.snoc X1521 N1509 g_b1483
  have KK1521 := KK1509.wr W1521 (Or.inr sz_b1483)
  show OGl _ _ _ _ T1521 (mkF m 134 #[rv o0, iv 0, iv 3, jv 2305843009213693950, sc, iv 1, iv 6, rv b1483, jv 0, sc, rv b1487, iv 2, iv 0, iv 8, un] [])
  have F1522 := (F1516.other W1521 (Or.inl ne_o0_b1483))
  have F1524 := (F1518.other W1521 ne_o9_b1483)
  refine gO (fun t k => ka X1521 hx hby d7_134 rfl rfl (ki X1521 hx hby d7_136 rfl (o_iinc X1521 hx hby (L' := #[rv o0, iv 0, iv 3, jv 2305843009213693950, sc, iv 1, iv 6, rv b1483, jv 0, sc, rv b1487, iv 3, iv 0, iv 8, un]) d7_138 rfl rfl (kaN X1521 hx hby d7_141 rfl rfl k)))) (gG X1521 hx hby hZ hown (w13 hw) e1521 F1522 d7_142 fun T1523 X1523 e1523 => gO (fun t k => ki X1523 hx hby d7_145 rfl (rI X1523 hx hby hZ e1523 F1524 (.int 2) rfl rfl d7_147 k)) ?_)
  show OGl _ _ _ _ T1523 (mkF m 148 #[rv o0, iv 0, iv 3, jv 2305843009213693950, sc, iv 1, iv 6, rv b1483, jv 0, sc, rv b1487, iv 3, iv 0, iv 8, un] [.int 2, .int 2, .ref b1487])
  have F1525 := (V1509.other W1521 (Ne.symm ne_b1483_b1487))
  refine wI X1523 hx hby hZ e1523 F1525 2 rfl (Nat.le_of_ble_eq_true rfl) d7_148 fun T1526 h1526 X1526 e1526 W1526 V1526 => ?_
  have N1526 := Fr.snoc X1526 N1521 g_b1487
  have KK1526 := KK1521.wr W1526 (Or.inr sz_b1487)
  show OGl _ _ _ _ T1526 (mkF m 149 #[rv o0, iv 0, iv 3, jv 2305843009213693950, sc, iv 1, iv 6, rv b1483, jv 0, sc, rv b1487, iv 3, iv 0, iv 8, un] [])
  have F1527 := ((F1510.other W1521 (Or.inl ne_o0_b1483)).other W1526 (Or.inl ne_o0_b1487))
  have F1529 := ((F1512.other W1521 ne_o11_b1483).other W1526 ne_o11_b1487)
  have F1530 := ((F1513.other W1521 (Or.inl ne_o0_b1483)).other W1526 (Or.inl ne_o0_b1487))
  have F1532 := ((F1515.other W1521 ne_o3_b1483).other W1526 ne_o3_b1487)
  have F1534 := (V1521.other W1526 ne_b1483_b1487)
  have F1535 := ((((F1493.other W1504 (Or.inl ne_o0_b1483)).other W1509 (Or.inl ne_o0_b1487)).other W1521 (Or.inl ne_o0_b1483)).other W1526 (Or.inl ne_o0_b1487))
  have F1537 := ((((F1496.other W1504 ne_o1_b1483).other W1509 ne_o1_b1487).other W1521 ne_o1_b1483).other W1526 ne_o1_b1487)
  refine gO (fun t k => kaN X1526 hx hby d7_149 rfl rfl k) (gG X1526 hx hby hZ hown (w15 hw) e1526 F1527 d7_150 fun T1528 X1528 e1528 => gO (fun t k => ki X1528 hx hby d7_153 rfl (rI X1528 hx hby hZ e1528 F1529 (.int 1) rfl rfl d7_155 (si X1528 hx hby (L' := #[rv o0, iv 0, iv 3, jv 2305843009213693950, sc, iv 1, iv 6, rv b1483, jv 0, sc, rv b1487, iv 3, iv 0, iv 1, un]) d7_156 rfl (o_goto X1528 hx hby 92 d7_158 rfl (ki X1528 hx hby d7_92 rfl (iN X1528 hx hby d7_94 ((if0 _ _).trans (flt (by decide : ¬ ((1 : Int32) < (0 : Int32)))).1) (kaN X1528 hx hby d7_97 rfl rfl k))))))) (gG X1528 hx hby hZ hown (w18 hw) e1528 F1530 d7_98 fun T1531 X1531 e1531 => gO (fun t k => ki X1531 hx hby d7_101 rfl (rJ X1531 hx hby hZ e1531 F1532 (.long 0) rfl rfl d7_103 (kcl X1531 hx hby d7_104 (o_lcmp X1531 hx hby d7_105 (iY X1531 hx hby 149 d7_106 (own_fltL (by decide : ¬ ((0 : Int64) < (0 : Int64)))).2.2.2 rfl (kaN X1531 hx hby d7_149 rfl rfl k)))))) (gG X1531 hx hby hZ hown (w15 hw) e1531 F1527 d7_150 fun T1533 X1533 e1533 => gO (fun t k => ki X1533 hx hby d7_153 rfl (rI X1533 hx hby hZ e1533 F1529 (.int (-1)) rfl rfl d7_155 (si X1533 hx hby (L' := #[rv o0, iv 0, iv 3, jv 2305843009213693950, sc, iv 1, iv 6, rv b1483, jv 0, sc, rv b1487, iv 3, iv 0, iv (-1), un]) d7_156 rfl (o_goto X1533 hx hby 92 d7_158 rfl (ki X1533 hx hby d7_92 rfl (iY X1533 hx hby 161 d7_94 ((if0 _ _).trans (tlt (by decide : (-1 : Int32) < (0 : Int32))).1) rfl (o_iinc X1533 hx hby (L' := #[rv o0, iv 0, iv 3, jv 2305843009213693950, sc, iv 1, iv 6, rv b1483, jv 0, sc, rv b1487, iv 3, iv 1, iv (-1), un]) d7_161 rfl rfl (o_goto X1533 hx hby 65 d7_164 rfl (ki X1533 hx hby d7_65 rfl (ki X1533 hx hby d7_67 rfl (cN X1533 hx hby d7_69 (tlt (by decide : (1 : Int32) < (3 : Int32))).2.1 (ka X1533 hx hby d7_72 rfl rfl (ki X1533 hx hby d7_74 rfl (rI X1533 hx hby hZ e1533 F1534 (.int (-1)) rfl rfl d7_76 (iN X1533 hx hby d7_77 ((if0 _ _).trans (tlt (by decide : (-1 : Int32) < (0 : Int32))).2.1) (kaN X1533 hx hby d7_80 rfl rfl k)))))))))))))))) (gG X1533 hx hby hZ hown (w11 hw) e1533 F1535 d7_81 fun T1536 X1536 e1536 => gO (fun t k => ka X1536 hx hby d7_84 rfl rfl (ki X1536 hx hby d7_86 rfl (rI X1536 hx hby hZ e1536 V1526 (.int 4) rfl rfl d7_88 (rI X1536 hx hby hZ e1536 F1537 (.int 15) rfl rfl d7_89 (si X1536 hx hby (L' := #[rv o0, iv 0, iv 3, jv 2305843009213693950, sc, iv 1, iv 6, rv b1483, jv 0, sc, rv b1487, iv 3, iv 1, iv 15, un]) d7_90 rfl (ki X1536 hx hby d7_92 rfl k)))))) ?_))))
  show OGl _ _ _ _ T1536 (mkF m 94 #[rv o0, iv 0, iv 3, jv 2305843009213693950, sc, iv 1, iv 6, rv b1483, jv 0, sc, rv b1487, iv 3, iv 1, iv 15, un] [.int 15])
  refine gO (fun t k => iN X1536 hx hby d7_94 ((if0 _ _).trans (flt (by decide : ¬ ((15 : Int32) < (0 : Int32)))).1) (kaN X1536 hx hby d7_97 rfl rfl k)) (gG X1536 hx hby hZ hown (w18 hw) e1536 F1530 d7_98 fun T1538 X1538 e1538 => gO (fun t k => ki X1538 hx hby d7_101 rfl (rJ X1538 hx hby hZ e1538 F1532 (.long 0) rfl rfl d7_103 (kcl X1538 hx hby d7_104 (o_lcmp X1538 hx hby d7_105 (iY X1538 hx hby 149 d7_106 (own_fltL (by decide : ¬ ((0 : Int64) < (0 : Int64)))).2.2.2 rfl (kaN X1538 hx hby d7_149 rfl rfl k)))))) (gG X1538 hx hby hZ hown (w15 hw) e1538 F1527 d7_150 fun T1539 X1539 e1539 => gO (fun t k => ki X1539 hx hby d7_153 rfl (rI X1539 hx hby hZ e1539 F1529 (.int 11) rfl rfl d7_155 (si X1539 hx hby (L' := #[rv o0, iv 0, iv 3, jv 2305843009213693950, sc, iv 1, iv 6, rv b1483, jv 0, sc, rv b1487, iv 3, iv 1, iv 11, un]) d7_156 rfl (o_goto X1539 hx hby 92 d7_158 rfl (ki X1539 hx hby d7_92 rfl (iN X1539 hx hby d7_94 ((if0 _ _).trans (flt (by decide : ¬ ((11 : Int32) < (0 : Int32)))).1) (kaN X1539 hx hby d7_97 rfl rfl k))))))) (gG X1539 hx hby hZ hown (w18 hw) e1539 F1530 d7_98 fun T1540 X1540 e1540 => gO (fun t k => ki X1540 hx hby d7_101 rfl (rJ X1540 hx hby hZ e1540 F1532 (.long 0) rfl rfl d7_103 (kcl X1540 hx hby d7_104 (o_lcmp X1540 hx hby d7_105 (iY X1540 hx hby 149 d7_106 (own_fltL (by decide : ¬ ((0 : Int64) < (0 : Int64)))).2.2.2 rfl (kaN X1540 hx hby d7_149 rfl rfl k)))))) (gG X1540 hx hby hZ hown (w15 hw) e1540 F1527 d7_150 fun T1541 X1541 e1541 => gO (fun t k => ki X1541 hx hby d7_153 rfl (rI X1541 hx hby hZ e1541 F1529 (.int 4) rfl rfl d7_155 (si X1541 hx hby (L' := #[rv o0, iv 0, iv 3, jv 2305843009213693950, sc, iv 1, iv 6, rv b1483, jv 0, sc, rv b1487, iv 3, iv 1, iv 4, un]) d7_156 rfl (o_goto X1541 hx hby 92 d7_158 rfl (ki X1541 hx hby d7_92 rfl (iN X1541 hx hby d7_94 ((if0 _ _).trans (flt (by decide : ¬ ((4 : Int32) < (0 : Int32)))).1) (kaN X1541 hx hby d7_97 rfl rfl k))))))) (gG X1541 hx hby hZ hown (w18 hw) e1541 F1530 d7_98 fun T1542 X1542 e1542 => gO (fun t k => ki X1542 hx hby d7_101 rfl (rJ X1542 hx hby hZ e1542 F1532 (.long q7) rfl rfl d7_103 (kcl X1542 hx hby d7_104 (o_lcmp X1542 hx hby d7_105 (iN X1542 hx hby d7_106 (own_tltL hp10_7b).2.2.2 (ka X1542 hx hby d7_109 rfl rfl (kaN X1542 hx hby d7_111 rfl rfl k))))))) ?_)))))
  show OGl _ _ _ _ T1542 (mkF m 112 #[rv o0, iv 0, iv 3, jv 2305843009213693950, sc, iv 1, iv 6, rv b1483, jv 0, sc, rv b1487, iv 3, iv 1, iv 4, un] [.ref o0, .ref b1483])
  have F1543 := (F1522.other W1526 (Or.inl ne_o0_b1487))
  have F1545 := (F1524.other W1526 ne_o9_b1487)
  refine gG X1542 hx hby hZ hown (w13 hw) e1542 F1543 d7_112 fun T1544 X1544 e1544 => gO (fun t k => ki X1544 hx hby d7_115 rfl (rI X1544 hx hby hZ e1544 F1545 (.int 5) rfl rfl d7_117 (rI X1544 hx hby hZ e1544 F1534 (.int (-1)) rfl rfl d7_118 (iN X1544 hx hby d7_119 ((if0 _ _).trans (tlt (by decide : (-1 : Int32) < (0 : Int32))).2.1) (ka X1544 hx hby d7_122 rfl rfl (kaN X1544 hx hby d7_124 rfl rfl k)))))) (gG X1544 hx hby hZ hown (w13 hw) e1544 F1543 d7_125 fun T1546 X1546 e1546 => gO (fun t k => ki X1546 hx hby d7_128 rfl (rI X1546 hx hby hZ e1546 F1545 (.int 5) rfl rfl d7_130 (ki X1546 hx hby d7_131 rfl k))) ?_)
  show OGl _ _ _ _ T1546 (mkF m 133 #[rv o0, iv 0, iv 3, jv 2305843009213693950, sc, iv 1, iv 6, rv b1483, jv 0, sc, rv b1487, iv 3, iv 1, iv 4, un] [.int 4, .int 5, .ref b1483])
  refine wI X1546 hx hby hZ e1546 F1534 5 rfl (Nat.le_of_ble_eq_true rfl) d7_133 fun T1547 h1547 X1547 e1547 W1547 V1547 => ?_
  have N1547 := Fr.snoc X1547 N1526 g_b1483
  have KK1547 := KK1526.wr W1547 (Or.inr sz_b1483)
  show OGl _ _ _ _ T1547 (mkF m 134 #[rv o0, iv 0, iv 3, jv 2305843009213693950, sc, iv 1, iv 6, rv b1483, jv 0, sc, rv b1487, iv 3, iv 1, iv 4, un] [])
  have F1548 := (F1543.other W1547 (Or.inl ne_o0_b1483))
  have F1550 := (F1545.other W1547 ne_o9_b1483)
  refine gO (fun t k => ka X1547 hx hby d7_134 rfl rfl (ki X1547 hx hby d7_136 rfl (o_iinc X1547 hx hby (L' := #[rv o0, iv 0, iv 3, jv 2305843009213693950, sc, iv 1, iv 6, rv b1483, jv 0, sc, rv b1487, iv 4, iv 1, iv 4, un]) d7_138 rfl rfl (kaN X1547 hx hby d7_141 rfl rfl k)))) (gG X1547 hx hby hZ hown (w13 hw) e1547 F1548 d7_142 fun T1549 X1549 e1549 => gO (fun t k => ki X1549 hx hby d7_145 rfl (rI X1549 hx hby hZ e1549 F1550 (.int 5) rfl rfl d7_147 k)) ?_)
  show OGl _ _ _ _ T1549 (mkF m 148 #[rv o0, iv 0, iv 3, jv 2305843009213693950, sc, iv 1, iv 6, rv b1483, jv 0, sc, rv b1487, iv 4, iv 1, iv 4, un] [.int 5, .int 3, .ref b1487])
  have F1551 := (V1526.other W1547 (Ne.symm ne_b1483_b1487))
  refine wI X1549 hx hby hZ e1549 F1551 3 rfl (Nat.le_of_ble_eq_true rfl) d7_148 fun T1552 h1552 X1552 e1552 W1552 V1552 => ?_
  have N1552 := Fr.snoc X1552 N1547 g_b1487
  have KK1552 := KK1547.wr W1552 (Or.inr sz_b1487)
  show OGl _ _ _ _ T1552 (mkF m 149 #[rv o0, iv 0, iv 3, jv 2305843009213693950, sc, iv 1, iv 6, rv b1483, jv 0, sc, rv b1487, iv 4, iv 1, iv 4, un] [])
  have F1553 := ((F1527.other W1547 (Or.inl ne_o0_b1483)).other W1552 (Or.inl ne_o0_b1487))
  have F1555 := ((F1529.other W1547 ne_o11_b1483).other W1552 ne_o11_b1487)
  have F1556 := (V1547.other W1552 ne_b1483_b1487)
  have F1557 := ((F1535.other W1547 (Or.inl ne_o0_b1483)).other W1552 (Or.inl ne_o0_b1487))
  have F1559 := ((F1537.other W1547 ne_o1_b1483).other W1552 ne_o1_b1487)
  have F1560 := ((F1530.other W1547 (Or.inl ne_o0_b1483)).other W1552 (Or.inl ne_o0_b1487))
  have F1562 := ((F1532.other W1547 ne_o3_b1483).other W1552 ne_o3_b1487)
  refine gO (fun t k => kaN X1552 hx hby d7_149 rfl rfl k) (gG X1552 hx hby hZ hown (w15 hw) e1552 F1553 d7_150 fun T1554 X1554 e1554 => gO (fun t k => ki X1554 hx hby d7_153 rfl (rI X1554 hx hby hZ e1554 F1555 (.int (-1)) rfl rfl d7_155 (si X1554 hx hby (L' := #[rv o0, iv 0, iv 3, jv 2305843009213693950, sc, iv 1, iv 6, rv b1483, jv 0, sc, rv b1487, iv 4, iv 1, iv (-1), un]) d7_156 rfl (o_goto X1554 hx hby 92 d7_158 rfl (ki X1554 hx hby d7_92 rfl (iY X1554 hx hby 161 d7_94 ((if0 _ _).trans (tlt (by decide : (-1 : Int32) < (0 : Int32))).1) rfl (o_iinc X1554 hx hby (L' := #[rv o0, iv 0, iv 3, jv 2305843009213693950, sc, iv 1, iv 6, rv b1483, jv 0, sc, rv b1487, iv 4, iv 2, iv (-1), un]) d7_161 rfl rfl (o_goto X1554 hx hby 65 d7_164 rfl (ki X1554 hx hby d7_65 rfl (ki X1554 hx hby d7_67 rfl (cN X1554 hx hby d7_69 (tlt (by decide : (2 : Int32) < (4 : Int32))).2.1 (ka X1554 hx hby d7_72 rfl rfl (ki X1554 hx hby d7_74 rfl (rI X1554 hx hby hZ e1554 F1556 (.int (-1)) rfl rfl d7_76 (iN X1554 hx hby d7_77 ((if0 _ _).trans (tlt (by decide : (-1 : Int32) < (0 : Int32))).2.1) (kaN X1554 hx hby d7_80 rfl rfl k)))))))))))))))) (gG X1554 hx hby hZ hown (w11 hw) e1554 F1557 d7_81 fun T1558 X1558 e1558 => gO (fun t k => ka X1558 hx hby d7_84 rfl rfl (ki X1558 hx hby d7_86 rfl (rI X1558 hx hby hZ e1558 V1552 (.int 2) rfl rfl d7_88 (rI X1558 hx hby hZ e1558 F1559 (.int 9) rfl rfl d7_89 (si X1558 hx hby (L' := #[rv o0, iv 0, iv 3, jv 2305843009213693950, sc, iv 1, iv 6, rv b1483, jv 0, sc, rv b1487, iv 4, iv 2, iv 9, un]) d7_90 rfl (ki X1558 hx hby d7_92 rfl (iN X1558 hx hby d7_94 ((if0 _ _).trans (flt (by decide : ¬ ((9 : Int32) < (0 : Int32)))).1) (kaN X1558 hx hby d7_97 rfl rfl k)))))))) (gG X1558 hx hby hZ hown (w18 hw) e1558 F1560 d7_98 fun T1561 X1561 e1561 => gO (fun t k => ki X1561 hx hby d7_101 rfl (rJ X1561 hx hby hZ e1561 F1562 (.long 0) rfl rfl d7_103 (kcl X1561 hx hby d7_104 (o_lcmp X1561 hx hby d7_105 (iY X1561 hx hby 149 d7_106 (own_fltL (by decide : ¬ ((0 : Int64) < (0 : Int64)))).2.2.2 rfl (kaN X1561 hx hby d7_149 rfl rfl k)))))) (gG X1561 hx hby hZ hown (w15 hw) e1561 F1553 d7_150 fun T1563 X1563 e1563 => gO (fun t k => ki X1563 hx hby d7_153 rfl (rI X1563 hx hby hZ e1563 F1555 (.int 2) rfl rfl d7_155 (si X1563 hx hby (L' := #[rv o0, iv 0, iv 3, jv 2305843009213693950, sc, iv 1, iv 6, rv b1483, jv 0, sc, rv b1487, iv 4, iv 2, iv 2, un]) d7_156 rfl (o_goto X1563 hx hby 92 d7_158 rfl (ki X1563 hx hby d7_92 rfl k))))) ?_))))
  show OGl _ _ _ _ T1563 (mkF m 94 #[rv o0, iv 0, iv 3, jv 2305843009213693950, sc, iv 1, iv 6, rv b1483, jv 0, sc, rv b1487, iv 4, iv 2, iv 2, un] [.int 2])
  have F1565 := (F1548.other W1552 (Or.inl ne_o0_b1487))
  have F1567 := (F1550.other W1552 ne_o9_b1487)
  refine gO (fun t k => iN X1563 hx hby d7_94 ((if0 _ _).trans (flt (by decide : ¬ ((2 : Int32) < (0 : Int32)))).1) (kaN X1563 hx hby d7_97 rfl rfl k)) (gG X1563 hx hby hZ hown (w18 hw) e1563 F1560 d7_98 fun T1564 X1564 e1564 => gO (fun t k => ki X1564 hx hby d7_101 rfl (rJ X1564 hx hby hZ e1564 F1562 (.long q6) rfl rfl d7_103 (kcl X1564 hx hby d7_104 (o_lcmp X1564 hx hby d7_105 (iN X1564 hx hby d7_106 (own_tltL hp11_7b).2.2.2 (ka X1564 hx hby d7_109 rfl rfl (kaN X1564 hx hby d7_111 rfl rfl k))))))) (gG X1564 hx hby hZ hown (w13 hw) e1564 F1565 d7_112 fun T1566 X1566 e1566 => gO (fun t k => ki X1566 hx hby d7_115 rfl (rI X1566 hx hby hZ e1566 F1567 (.int 3) rfl rfl d7_117 (rI X1566 hx hby hZ e1566 F1556 (.int (-1)) rfl rfl d7_118 (iN X1566 hx hby d7_119 ((if0 _ _).trans (tlt (by decide : (-1 : Int32) < (0 : Int32))).2.1) (ka X1566 hx hby d7_122 rfl rfl (kaN X1566 hx hby d7_124 rfl rfl k)))))) (gG X1566 hx hby hZ hown (w13 hw) e1566 F1565 d7_125 fun T1568 X1568 e1568 => gO (fun t k => ki X1568 hx hby d7_128 rfl (rI X1568 hx hby hZ e1568 F1567 (.int 3) rfl rfl d7_130 (ki X1568 hx hby d7_131 rfl k))) ?_)))
  show OGl _ _ _ _ T1568 (mkF m 133 #[rv o0, iv 0, iv 3, jv 2305843009213693950, sc, iv 1, iv 6, rv b1483, jv 0, sc, rv b1487, iv 4, iv 2, iv 2, un] [.int 2, .int 3, .ref b1483])
  refine wI X1568 hx hby hZ e1568 F1556 3 rfl (Nat.le_of_ble_eq_true rfl) d7_133 fun T1569 h1569 X1569 e1569 W1569 V1569 => ?_
  have N1569 := Fr.snoc X1569 N1552 g_b1483
  have KK1569 := KK1552.wr W1569 (Or.inr sz_b1483)
  show OGl _ _ _ _ T1569 (mkF m 134 #[rv o0, iv 0, iv 3, jv 2305843009213693950, sc, iv 1, iv 6, rv b1483, jv 0, sc, rv b1487, iv 4, iv 2, iv 2, un] [])
  have F1570 := (F1565.other W1569 (Or.inl ne_o0_b1483))
  have F1572 := (F1567.other W1569 ne_o9_b1483)
  refine gO (fun t k => ka X1569 hx hby d7_134 rfl rfl (ki X1569 hx hby d7_136 rfl (o_iinc X1569 hx hby (L' := #[rv o0, iv 0, iv 3, jv 2305843009213693950, sc, iv 1, iv 6, rv b1483, jv 0, sc, rv b1487, iv 5, iv 2, iv 2, un]) d7_138 rfl rfl (kaN X1569 hx hby d7_141 rfl rfl k)))) (gG X1569 hx hby hZ hown (w13 hw) e1569 F1570 d7_142 fun T1571 X1571 e1571 => gO (fun t k => ki X1571 hx hby d7_145 rfl (rI X1571 hx hby hZ e1571 F1572 (.int 3) rfl rfl d7_147 k)) ?_)
  show OGl _ _ _ _ T1571 (mkF m 148 #[rv o0, iv 0, iv 3, jv 2305843009213693950, sc, iv 1, iv 6, rv b1483, jv 0, sc, rv b1487, iv 5, iv 2, iv 2, un] [.int 3, .int 4, .ref b1487])
  have F1573 := (V1552.other W1569 (Ne.symm ne_b1483_b1487))
  refine wI X1571 hx hby hZ e1571 F1573 4 rfl (Nat.le_of_ble_eq_true rfl) d7_148 fun T1574 h1574 X1574 e1574 W1574 V1574 => ?_
  have N1574 := Fr.snoc X1574 N1569 g_b1487
  have KK1574 := KK1569.wr W1574 (Or.inr sz_b1487)
  show OGl _ _ _ _ T1574 (mkF m 149 #[rv o0, iv 0, iv 3, jv 2305843009213693950, sc, iv 1, iv 6, rv b1483, jv 0, sc, rv b1487, iv 5, iv 2, iv 2, un] [])
  have F1575 := ((F1553.other W1569 (Or.inl ne_o0_b1483)).other W1574 (Or.inl ne_o0_b1487))
  have F1577 := ((F1555.other W1569 ne_o11_b1483).other W1574 ne_o11_b1487)
  have F1578 := (V1569.other W1574 ne_b1483_b1487)
  have F1579 := ((F1557.other W1569 (Or.inl ne_o0_b1483)).other W1574 (Or.inl ne_o0_b1487))
  have F1581 := ((F1559.other W1569 ne_o1_b1483).other W1574 ne_o1_b1487)
  have F1582 := ((F1560.other W1569 (Or.inl ne_o0_b1483)).other W1574 (Or.inl ne_o0_b1487))
  have F1584 := ((F1562.other W1569 ne_o3_b1483).other W1574 ne_o3_b1487)
  have F1585 := (F1570.other W1574 (Or.inl ne_o0_b1487))
  have F1587 := (F1572.other W1574 ne_o9_b1487)
  refine gO (fun t k => kaN X1574 hx hby d7_149 rfl rfl k) (gG X1574 hx hby hZ hown (w15 hw) e1574 F1575 d7_150 fun T1576 X1576 e1576 => gO (fun t k => ki X1576 hx hby d7_153 rfl (rI X1576 hx hby hZ e1576 F1577 (.int (-1)) rfl rfl d7_155 (si X1576 hx hby (L' := #[rv o0, iv 0, iv 3, jv 2305843009213693950, sc, iv 1, iv 6, rv b1483, jv 0, sc, rv b1487, iv 5, iv 2, iv (-1), un]) d7_156 rfl (o_goto X1576 hx hby 92 d7_158 rfl (ki X1576 hx hby d7_92 rfl (iY X1576 hx hby 161 d7_94 ((if0 _ _).trans (tlt (by decide : (-1 : Int32) < (0 : Int32))).1) rfl (o_iinc X1576 hx hby (L' := #[rv o0, iv 0, iv 3, jv 2305843009213693950, sc, iv 1, iv 6, rv b1483, jv 0, sc, rv b1487, iv 5, iv 3, iv (-1), un]) d7_161 rfl rfl (o_goto X1576 hx hby 65 d7_164 rfl (ki X1576 hx hby d7_65 rfl (ki X1576 hx hby d7_67 rfl (cN X1576 hx hby d7_69 (tlt (by decide : (3 : Int32) < (5 : Int32))).2.1 (ka X1576 hx hby d7_72 rfl rfl (ki X1576 hx hby d7_74 rfl (rI X1576 hx hby hZ e1576 F1578 (.int (-1)) rfl rfl d7_76 (iN X1576 hx hby d7_77 ((if0 _ _).trans (tlt (by decide : (-1 : Int32) < (0 : Int32))).2.1) (kaN X1576 hx hby d7_80 rfl rfl k)))))))))))))))) (gG X1576 hx hby hZ hown (w11 hw) e1576 F1579 d7_81 fun T1580 X1580 e1580 => gO (fun t k => ka X1580 hx hby d7_84 rfl rfl (ki X1580 hx hby d7_86 rfl (rI X1580 hx hby hZ e1580 V1574 (.int 5) rfl rfl d7_88 (rI X1580 hx hby hZ e1580 F1581 (.int 12) rfl rfl d7_89 (si X1580 hx hby (L' := #[rv o0, iv 0, iv 3, jv 2305843009213693950, sc, iv 1, iv 6, rv b1483, jv 0, sc, rv b1487, iv 5, iv 3, iv 12, un]) d7_90 rfl (ki X1580 hx hby d7_92 rfl (iN X1580 hx hby d7_94 ((if0 _ _).trans (flt (by decide : ¬ ((12 : Int32) < (0 : Int32)))).1) (kaN X1580 hx hby d7_97 rfl rfl k)))))))) (gG X1580 hx hby hZ hown (w18 hw) e1580 F1582 d7_98 fun T1583 X1583 e1583 => gO (fun t k => ki X1583 hx hby d7_101 rfl (rJ X1583 hx hby hZ e1583 F1584 (.long 2305843009213693951) rfl rfl d7_103 (kcl X1583 hx hby d7_104 (o_lcmp X1583 hx hby d7_105 (iN X1583 hx hby d7_106 (own_tltL (by decide : (0 : Int64) < (2305843009213693951 : Int64))).2.2.2 (ka X1583 hx hby d7_109 rfl rfl (kaN X1583 hx hby d7_111 rfl rfl k))))))) (gG X1583 hx hby hZ hown (w13 hw) e1583 F1585 d7_112 fun T1586 X1586 e1586 => gO (fun t k => ki X1586 hx hby d7_115 rfl (rI X1586 hx hby hZ e1586 F1587 (.int 6) rfl rfl d7_117 (rI X1586 hx hby hZ e1586 F1578 (.int (-1)) rfl rfl d7_118 (iN X1586 hx hby d7_119 ((if0 _ _).trans (tlt (by decide : (-1 : Int32) < (0 : Int32))).2.1) k)))) ?_))))
  show OGl _ _ _ _ T1586 (mkF m 122 #[rv o0, iv 0, iv 3, jv 2305843009213693950, sc, iv 1, iv 6, rv b1483, jv 0, sc, rv b1487, iv 5, iv 3, iv 12, un] [])
  refine gO (fun t k => ka X1586 hx hby d7_122 rfl rfl (kaN X1586 hx hby d7_124 rfl rfl k)) (gG X1586 hx hby hZ hown (w13 hw) e1586 F1585 d7_125 fun T1588 X1588 e1588 => gO (fun t k => ki X1588 hx hby d7_128 rfl (rI X1588 hx hby hZ e1588 F1587 (.int 6) rfl rfl d7_130 (ki X1588 hx hby d7_131 rfl k))) ?_)
  show OGl _ _ _ _ T1588 (mkF m 133 #[rv o0, iv 0, iv 3, jv 2305843009213693950, sc, iv 1, iv 6, rv b1483, jv 0, sc, rv b1487, iv 5, iv 3, iv 12, un] [.int 12, .int 6, .ref b1483])
  refine wI X1588 hx hby hZ e1588 F1578 6 rfl (Nat.le_of_ble_eq_true rfl) d7_133 fun T1589 h1589 X1589 e1589 W1589 V1589 => ?_
  have N1589 := Fr.snoc X1589 N1574 g_b1483
  have KK1589 := KK1574.wr W1589 (Or.inr sz_b1483)
  show OGl _ _ _ _ T1589 (mkF m 134 #[rv o0, iv 0, iv 3, jv 2305843009213693950, sc, iv 1, iv 6, rv b1483, jv 0, sc, rv b1487, iv 5, iv 3, iv 12, un] [])
  have F1590 := (F1585.other W1589 (Or.inl ne_o0_b1483))
  have F1592 := (F1587.other W1589 ne_o9_b1483)
  refine gO (fun t k => ka X1589 hx hby d7_134 rfl rfl (ki X1589 hx hby d7_136 rfl (o_iinc X1589 hx hby (L' := #[rv o0, iv 0, iv 3, jv 2305843009213693950, sc, iv 1, iv 6, rv b1483, jv 0, sc, rv b1487, iv 6, iv 3, iv 12, un]) d7_138 rfl rfl (kaN X1589 hx hby d7_141 rfl rfl k)))) (gG X1589 hx hby hZ hown (w13 hw) e1589 F1590 d7_142 fun T1591 X1591 e1591 => gO (fun t k => ki X1591 hx hby d7_145 rfl (rI X1591 hx hby hZ e1591 F1592 (.int 6) rfl rfl d7_147 k)) ?_)
  show OGl _ _ _ _ T1591 (mkF m 148 #[rv o0, iv 0, iv 3, jv 2305843009213693950, sc, iv 1, iv 6, rv b1483, jv 0, sc, rv b1487, iv 6, iv 3, iv 12, un] [.int 6, .int 5, .ref b1487])
  have F1593 := (V1574.other W1589 (Ne.symm ne_b1483_b1487))
  refine wI X1591 hx hby hZ e1591 F1593 5 rfl (Nat.le_of_ble_eq_true rfl) d7_148 fun T1594 h1594 X1594 e1594 W1594 V1594 => ?_
  have N1594 := Fr.snoc X1594 N1589 g_b1487
  have KK1594 := KK1589.wr W1594 (Or.inr sz_b1487)
  show OGl _ _ _ _ T1594 (mkF m 149 #[rv o0, iv 0, iv 3, jv 2305843009213693950, sc, iv 1, iv 6, rv b1483, jv 0, sc, rv b1487, iv 6, iv 3, iv 12, un] [])
  have F1595 := ((F1575.other W1589 (Or.inl ne_o0_b1483)).other W1594 (Or.inl ne_o0_b1487))
  have F1597 := ((F1577.other W1589 ne_o11_b1483).other W1594 ne_o11_b1487)
  have F1598 := ((F1582.other W1589 (Or.inl ne_o0_b1483)).other W1594 (Or.inl ne_o0_b1487))
  have F1600 := ((F1584.other W1589 ne_o3_b1483).other W1594 ne_o3_b1487)
  have F1602 := (V1589.other W1594 ne_b1483_b1487)
  refine gO (fun t k => kaN X1594 hx hby d7_149 rfl rfl k) (gG X1594 hx hby hZ hown (w15 hw) e1594 F1595 d7_150 fun T1596 X1596 e1596 => gO (fun t k => ki X1596 hx hby d7_153 rfl (rI X1596 hx hby hZ e1596 F1597 (.int 5) rfl rfl d7_155 (si X1596 hx hby (L' := #[rv o0, iv 0, iv 3, jv 2305843009213693950, sc, iv 1, iv 6, rv b1483, jv 0, sc, rv b1487, iv 6, iv 3, iv 5, un]) d7_156 rfl (o_goto X1596 hx hby 92 d7_158 rfl (ki X1596 hx hby d7_92 rfl (iN X1596 hx hby d7_94 ((if0 _ _).trans (flt (by decide : ¬ ((5 : Int32) < (0 : Int32)))).1) (kaN X1596 hx hby d7_97 rfl rfl k))))))) (gG X1596 hx hby hZ hown (w18 hw) e1596 F1598 d7_98 fun T1599 X1599 e1599 => gO (fun t k => ki X1599 hx hby d7_101 rfl (rJ X1599 hx hby hZ e1599 F1600 (.long 0) rfl rfl d7_103 (kcl X1599 hx hby d7_104 (o_lcmp X1599 hx hby d7_105 (iY X1599 hx hby 149 d7_106 (own_fltL (by decide : ¬ ((0 : Int64) < (0 : Int64)))).2.2.2 rfl (kaN X1599 hx hby d7_149 rfl rfl k)))))) (gG X1599 hx hby hZ hown (w15 hw) e1599 F1595 d7_150 fun T1601 X1601 e1601 => gO (fun t k => ki X1601 hx hby d7_153 rfl (rI X1601 hx hby hZ e1601 F1597 (.int (-1)) rfl rfl d7_155 (si X1601 hx hby (L' := #[rv o0, iv 0, iv 3, jv 2305843009213693950, sc, iv 1, iv 6, rv b1483, jv 0, sc, rv b1487, iv 6, iv 3, iv (-1), un]) d7_156 rfl (o_goto X1601 hx hby 92 d7_158 rfl (ki X1601 hx hby d7_92 rfl (iY X1601 hx hby 161 d7_94 ((if0 _ _).trans (tlt (by decide : (-1 : Int32) < (0 : Int32))).1) rfl (o_iinc X1601 hx hby (L' := #[rv o0, iv 0, iv 3, jv 2305843009213693950, sc, iv 1, iv 6, rv b1483, jv 0, sc, rv b1487, iv 6, iv 4, iv (-1), un]) d7_161 rfl rfl (o_goto X1601 hx hby 65 d7_164 rfl (ki X1601 hx hby d7_65 rfl (ki X1601 hx hby d7_67 rfl (cN X1601 hx hby d7_69 (tlt (by decide : (4 : Int32) < (6 : Int32))).2.1 (ka X1601 hx hby d7_72 rfl rfl (ki X1601 hx hby d7_74 rfl (rI X1601 hx hby hZ e1601 F1602 (.int 12) rfl rfl d7_76 (iY X1601 hx hby 167 d7_77 ((if0 _ _).trans (flt (by decide : ¬ ((12 : Int32) < (0 : Int32)))).2.1) rfl (ka X1601 hx hby d7_167 rfl rfl (ki X1601 hx hby d7_169 rfl (rI X1601 hx hby hZ e1601 F1602 (.int 12) rfl rfl d7_171 (iY X1601 hx hby 215 d7_172 ((if0 _ _).trans (flt (by decide : ¬ ((12 : Int32) < (0 : Int32)))).2.1) rfl (klN X1601 hx hby d7_215 rfl (kl X1601 hx hby d7_216 rfl (o_lsub X1601 hx hby d7_218 (sl X1601 hx hby (L' := #[rv o0, iv 0, iv 3, jv 2305843009213693950, sc, iv 1, iv 6, rv b1483, jv 0, sc, rv b1487, iv 6, jv 2305843009213693950, sc, un]) d7_219 rfl k))))))))))))))))))))))) ?_)))
  show OGl _ _ _ _ T1601 (mkF m 221 #[rv o0, iv 0, iv 3, jv 2305843009213693950, sc, iv 1, iv 6, rv b1483, jv 0, sc, rv b1487, iv 6, jv 2305843009213693950, sc, un] [])
  refine gO (fun t k => ki X1601 hx hby d7_221 rfl (si X1601 hx hby (L' := #[rv o0, iv 0, iv 3, jv 2305843009213693950, sc, iv 1, iv 6, rv b1483, jv 0, sc, rv b1487, iv 6, jv 2305843009213693950, sc, iv 6]) d7_223 rfl (ki X1601 hx hby d7_225 rfl (ki X1601 hx hby d7_227 rfl (cN X1601 hx hby d7_229 (feq (by decide : ¬ ((6 : Int32) = (1 : Int32)))).1 (kl X1601 hx hby d7_232 rfl (kaN X1601 hx hby d7_234 rfl rfl k))))))) (gG X1601 hx hby hZ hown (w18 hw) e1601 F1598 d7_235 fun T1603 X1603 e1603 => gO (fun t k => ka X1603 hx hby d7_238 rfl rfl (ki X1603 hx hby d7_240 rfl (rI X1603 hx hby hZ e1603 F1602 (.int 12) rfl rfl d7_242 (rJ X1603 hx hby hZ e1603 F1600 (.long 2305843009213693951) rfl rfl d7_243 k)))) ?_)
  show OGl _ _ _ _ T1603 (mkF m 244 #[rv o0, iv 0, iv 3, jv 2305843009213693950, sc, iv 1, iv 6, rv b1483, jv 0, sc, rv b1487, iv 6, jv 2305843009213693950, sc, iv 6] [.long 2305843009213693951, .long 2305843009213693950])
  obtain ⟨_, _, ⟨T1604, L1604, kk1604, n1604⟩, -, X1604, ⟨Lc1604, hQ1604, l1604, y1604, z1604⟩, st1604⟩ := Jvm.LawKit.callS X1603 hx (y := yy6) hown (mvT hZ (w53 hw)) (mvT hZ (w54 hw)) (mvT hZ (w55 hw)) (mvT hZ (w56 hw)) (by decide) (backOf (W := 0) (rm9 l Z a0 hw []  h1594 n0 (Nat.le_trans Z0 KK1594.1) ) hZ (w56 hw) (w55 hw) (by decide) (by decide)) (g := (mkF m 244 #[rv o0, iv 0, iv 3, jv 2305843009213693950, sc, iv 1, iv 6, rv b1483, jv 0, sc, rv b1487, iv 6, jv 2305843009213693950, sc, iv 6] [.long 2305843009213693951, .long 2305843009213693950])) rfl (by rw [hml]; rfl) (argsL := [.long 2305843009213693950, .long 2305843009213693951]) (rest := []) (lenOf pd_5 rfl) rfl (by show 2 * 0 + _ ≤ _; exact Nat.le_of_eq rfl) (hb hby d7_244) (fun _ _ => ⟨rfl, e1603, (by decide : 2 + 0 ≤ _), (by decide : 16 + 0 ≤ _)⟩)
  dsimp only [Pt.U, Pt.locs, Pt.cells, Pt.slots] at X1604 l1604 y1604 z1604 st1604 hQ1604
  replace l1604 := l1604.symm
  subst l1604 y1604 z1604
  obtain ⟨rfl, Nq1604, e1604⟩ := hQ1604
  have N1604 := Fr.app N1594 Nq1604
  refine gO st1604 ?_
  show OGl _ _ _ _ T1604 (mkF m 247 #[rv o0, iv 0, iv 3, jv 2305843009213693950, sc, iv 1, iv 6, rv b1483, jv 0, sc, rv b1487, iv 6, jv 2305843009213693950, sc, iv 6] [.long 2305843009213693950])
  have F1605 := (F1590.other W1594 (Or.inl ne_o0_b1487))
  have F1607 := (F1592.other W1594 ne_o9_b1487)
  refine gO (fun t k => sl X1604 hx hby (L' := #[rv o0, iv 0, iv 3, jv 2305843009213693950, sc, iv 1, iv 6, rv b1483, jv 0, sc, rv b1487, iv 6, jv 2305843009213693950, sc, iv 6]) d7_247 rfl (kaN X1604 hx hby d7_249 rfl rfl k)) (gG X1604 hx hby hZ hown (w13 hw) e1604 F1605 d7_250 fun T1606 X1606 e1606 => gO (fun t k => ka X1606 hx hby d7_253 rfl rfl (ki X1606 hx hby d7_255 rfl (rI X1606 hx hby hZ e1606 F1602 (.int 12) rfl rfl d7_257 (kc X1606 hx hby d7_258 (o_ixor X1606 hx hby d7_259 (rI X1606 hx hby hZ e1606 F1607 (.int 5) rfl rfl d7_260 (si X1606 hx hby (L' := #[rv o0, iv 0, iv 3, jv 2305843009213693950, sc, iv 1, iv 6, rv b1483, jv 0, sc, rv b1487, iv 6, jv 2305843009213693950, sc, iv 5]) d7_261 rfl (o_goto X1606 hx hby 225 d7_263 rfl (ki X1606 hx hby d7_225 rfl (ki X1606 hx hby d7_227 rfl (cN X1606 hx hby d7_229 (feq (by decide : ¬ ((5 : Int32) = (1 : Int32)))).1 (kl X1606 hx hby d7_232 rfl (kaN X1606 hx hby d7_234 rfl rfl k))))))))))))) (gG X1606 hx hby hZ hown (w18 hw) e1606 F1598 d7_235 fun T1608 X1608 e1608 => gO (fun t k => ka X1608 hx hby d7_238 rfl rfl (ki X1608 hx hby d7_240 rfl (rI X1608 hx hby hZ e1608 F1602 (.int 4) rfl rfl d7_242 (rJ X1608 hx hby hZ e1608 F1600 (.long q7) rfl rfl d7_243 k)))) ?_))
  show OGl _ _ _ _ T1608 (mkF m 244 #[rv o0, iv 0, iv 3, jv 2305843009213693950, sc, iv 1, iv 6, rv b1483, jv 0, sc, rv b1487, iv 6, jv 2305843009213693950, sc, iv 5] [.long q7, .long 2305843009213693950])
  obtain ⟨_, _, ⟨T1609, L1609, kk1609, n1609⟩, -, X1609, ⟨Lc1609, hQ1609, l1609, y1609, z1609⟩, st1609⟩ := Jvm.LawKit.callS X1608 hx (y := yy6) hown (mvT hZ (w53 hw)) (mvT hZ (w54 hw)) (mvT hZ (w55 hw)) (mvT hZ (w56 hw)) (by decide) (backOf (W := 0) (rm9a l Z a0 hw [] q7 h1594 n0 (Nat.le_trans Z0 KK1594.1) ) hZ (w56 hw) (w55 hw) (by decide) (by decide)) (g := (mkF m 244 #[rv o0, iv 0, iv 3, jv 2305843009213693950, sc, iv 1, iv 6, rv b1483, jv 0, sc, rv b1487, iv 6, jv 2305843009213693950, sc, iv 5] [.long q7, .long 2305843009213693950])) rfl (by rw [hml]; rfl) (argsL := [.long 2305843009213693950, .long q7]) (rest := []) (lenOf pd_5 rfl) rfl (by show 2 * 0 + _ ≤ _; exact Nat.le_of_eq rfl) (hb hby d7_244) (fun _ _ => ⟨rfl, e1608, (by decide : 2 + 0 ≤ _), (by decide : 16 + 0 ≤ _)⟩)
  dsimp only [Pt.U, Pt.locs, Pt.cells, Pt.slots] at X1609 l1609 y1609 z1609 st1609 hQ1609
  replace l1609 := l1609.symm
  subst l1609 y1609 z1609
  obtain ⟨rfl, Nq1609, e1609⟩ := hQ1609
  have N1609 := Fr.app N1604 Nq1609
  refine gO st1609 ?_
  show OGl _ _ _ _ T1609 (mkF m 247 #[rv o0, iv 0, iv 3, jv 2305843009213693950, sc, iv 1, iv 6, rv b1483, jv 0, sc, rv b1487, iv 6, jv 2305843009213693950, sc, iv 5] [.long (t9a_0 q7)])
  refine gO (fun t k => sl X1609 hx hby (L' := #[rv o0, iv 0, iv 3, jv 2305843009213693950, sc, iv 1, iv 6, rv b1483, jv 0, sc, rv b1487, iv 6, jv (t9a_0 q7), sc, iv 5]) d7_247 rfl (kaN X1609 hx hby d7_249 rfl rfl k)) (gG X1609 hx hby hZ hown (w13 hw) e1609 F1605 d7_250 fun T1610 X1610 e1610 => gO (fun t k => ka X1610 hx hby d7_253 rfl rfl (ki X1610 hx hby d7_255 rfl (rI X1610 hx hby hZ e1610 F1602 (.int 4) rfl rfl d7_257 (kc X1610 hx hby d7_258 (o_ixor X1610 hx hby d7_259 (rI X1610 hx hby hZ e1610 F1607 (.int 4) rfl rfl d7_260 (si X1610 hx hby (L' := #[rv o0, iv 0, iv 3, jv 2305843009213693950, sc, iv 1, iv 6, rv b1483, jv 0, sc, rv b1487, iv 6, jv (t9a_0 q7), sc, iv 4]) d7_261 rfl (o_goto X1610 hx hby 225 d7_263 rfl (ki X1610 hx hby d7_225 rfl (ki X1610 hx hby d7_227 rfl (cN X1610 hx hby d7_229 (feq (by decide : ¬ ((4 : Int32) = (1 : Int32)))).1 (kl X1610 hx hby d7_232 rfl (kaN X1610 hx hby d7_234 rfl rfl k))))))))))))) (gG X1610 hx hby hZ hown (w18 hw) e1610 F1598 d7_235 fun T1611 X1611 e1611 => gO (fun t k => ka X1611 hx hby d7_238 rfl rfl (ki X1611 hx hby d7_240 rfl (rI X1611 hx hby hZ e1611 F1602 (.int 14) rfl rfl d7_242 (rJ X1611 hx hby hZ e1611 F1600 (.long 2305843009213693951) rfl rfl d7_243 k)))) ?_))
  show OGl _ _ _ _ T1611 (mkF m 244 #[rv o0, iv 0, iv 3, jv 2305843009213693950, sc, iv 1, iv 6, rv b1483, jv 0, sc, rv b1487, iv 6, jv (t9a_0 q7), sc, iv 4] [.long 2305843009213693951, .long (t9a_0 q7)])
  obtain ⟨_, _, ⟨T1612, L1612, kk1612, n1612⟩, -, X1612, ⟨Lc1612, hQ1612, l1612, y1612, z1612⟩, st1612⟩ := Jvm.LawKit.callS X1611 hx (y := yy6) hown (mvT hZ (w53 hw)) (mvT hZ (w54 hw)) (mvT hZ (w55 hw)) (mvT hZ (w56 hw)) (by decide) (backOf (W := 0) (rm9b l Z a0 hw [] (t9a_0 q7) h1594 n0 (Nat.le_trans Z0 KK1594.1) ) hZ (w56 hw) (w55 hw) (by decide) (by decide)) (g := (mkF m 244 #[rv o0, iv 0, iv 3, jv 2305843009213693950, sc, iv 1, iv 6, rv b1483, jv 0, sc, rv b1487, iv 6, jv (t9a_0 q7), sc, iv 4] [.long 2305843009213693951, .long (t9a_0 q7)])) rfl (by rw [hml]; rfl) (argsL := [.long (t9a_0 q7), .long 2305843009213693951]) (rest := []) (lenOf pd_5 rfl) rfl (by show 2 * 0 + _ ≤ _; exact Nat.le_of_eq rfl) (hb hby d7_244) (fun _ _ => ⟨rfl, e1611, (by decide : 2 + 0 ≤ _), (by decide : 16 + 0 ≤ _)⟩)
  dsimp only [Pt.U, Pt.locs, Pt.cells, Pt.slots] at X1612 l1612 y1612 z1612 st1612 hQ1612
  replace l1612 := l1612.symm
  subst l1612 y1612 z1612
  obtain ⟨rfl, Nq1612, e1612⟩ := hQ1612
  have N1612 := Fr.app N1609 Nq1612
  refine gO st1612 ?_
  show OGl _ _ _ _ T1612 (mkF m 247 #[rv o0, iv 0, iv 3, jv 2305843009213693950, sc, iv 1, iv 6, rv b1483, jv 0, sc, rv b1487, iv 6, jv (t9a_0 q7), sc, iv 4] [.long (t9b_0 (t9a_0 q7))])
  refine gO (fun t k => sl X1612 hx hby (L' := #[rv o0, iv 0, iv 3, jv 2305843009213693950, sc, iv 1, iv 6, rv b1483, jv 0, sc, rv b1487, iv 6, jv (t9b_0 (t9a_0 q7)), sc, iv 4]) d7_247 rfl (kaN X1612 hx hby d7_249 rfl rfl k)) (gG X1612 hx hby hZ hown (w13 hw) e1612 F1605 d7_250 fun T1613 X1613 e1613 => gO (fun t k => ka X1613 hx hby d7_253 rfl rfl (ki X1613 hx hby d7_255 rfl (rI X1613 hx hby hZ e1613 F1602 (.int 14) rfl rfl d7_257 (kc X1613 hx hby d7_258 (o_ixor X1613 hx hby d7_259 (rI X1613 hx hby hZ e1613 F1607 (.int 1) rfl rfl d7_260 (si X1613 hx hby (L' := #[rv o0, iv 0, iv 3, jv 2305843009213693950, sc, iv 1, iv 6, rv b1483, jv 0, sc, rv b1487, iv 6, jv (t9b_0 (t9a_0 q7)), sc, iv 1]) d7_261 rfl (o_goto X1613 hx hby 225 d7_263 rfl (ki X1613 hx hby d7_225 rfl (ki X1613 hx hby d7_227 rfl (cY X1613 hx hby 266 d7_229 (teq (by decide : (1 : Int32) = (1 : Int32))).1 rfl (ki X1613 hx hby d7_266 rfl (si X1613 hx hby (L' := #[rv o0, iv 0, iv 3, jv 2305843009213693950, sc, iv 1, iv 6, rv b1483, jv 0, sc, rv b1487, iv 6, jv (t9b_0 (t9a_0 q7)), sc, iv 6]) d7_268 rfl (ki X1613 hx hby d7_270 rfl (ki X1613 hx hby d7_272 rfl (cN X1613 hx hby d7_274 (feq (by decide : ¬ ((6 : Int32) = (1 : Int32)))).1 (kaN X1613 hx hby d7_277 rfl rfl k))))))))))))))))) (gG X1613 hx hby hZ hown (w18 hw) e1613 F1598 d7_278 fun T1614 X1614 e1614 => gO (fun t k => ka X1614 hx hby d7_281 rfl rfl (ki X1614 hx hby d7_283 rfl (rI X1614 hx hby hZ e1614 F1602 (.int 12) rfl rfl d7_285 (Jvm.Free.XT.dup2 X1614.here hx rfl (hb hby d7_286) rfl rfl rfl (rJ X1614 hx hby hZ e1614 F1600 (.long 2305843009213693951) rfl rfl d7_287 (kl X1614 hx hby d7_288 rfl (o_lsub X1614 hx hby d7_290 k))))))) ?_))
  show OGl _ _ _ _ T1614 (mkF m 291 #[rv o0, iv 0, iv 3, jv 2305843009213693950, sc, iv 1, iv 6, rv b1483, jv 0, sc, rv b1487, iv 6, jv (t9b_0 (t9a_0 q7)), sc, iv 6] [.long (e7b_0 q7), .int 12, .ref o3])
  refine wJ X1614 hx hby hZ e1614 F1600 12 rfl (Nat.le_of_ble_eq_true rfl) d7_291 fun T1615 h1615 X1615 e1615 W1615 V1615 => ?_
  have N1615 := Fr.snoc X1615 N1612 g_o3
  have KK1615 := KK1594.wr W1615 (Or.inl (List.mem_of_getElem? (i := 0) rfl))
  show OGl _ _ _ _ T1615 (mkF m 292 #[rv o0, iv 0, iv 3, jv 2305843009213693950, sc, iv 1, iv 6, rv b1483, jv 0, sc, rv b1487, iv 6, jv (t9b_0 (t9a_0 q7)), sc, iv 6] [])
  have F1616 := (F1598.other W1615 (Or.inl ne_o0_o3))
  have F1618 := (F1602.other W1615 (Ne.symm ne_o3_b1483))
  refine gO (fun t k => kaN X1615 hx hby d7_292 rfl rfl k) (gG X1615 hx hby hZ hown (w18 hw) e1615 F1616 d7_293 fun T1617 X1617 e1617 => gO (fun t k => ka X1617 hx hby d7_296 rfl rfl (ki X1617 hx hby d7_298 rfl (rI X1617 hx hby hZ e1617 F1618 (.int 12) rfl rfl d7_300 (kc X1617 hx hby d7_301 (o_ixor X1617 hx hby d7_302 (Jvm.Free.XT.dup2 X1617.here hx rfl (hb hby d7_303) rfl rfl rfl (rJ X1617 hx hby hZ e1617 V1615 (.long 0) rfl rfl d7_304 (kl X1617 hx hby d7_305 rfl (o_ladd X1617 hx hby d7_307 k))))))))) ?_)
  show OGl _ _ _ _ T1617 (mkF m 308 #[rv o0, iv 0, iv 3, jv 2305843009213693950, sc, iv 1, iv 6, rv b1483, jv 0, sc, rv b1487, iv 6, jv (t9b_0 (t9a_0 q7)), sc, iv 6] [.long (e7b_1 q7), .int 13, .ref o3])
  refine wJ X1617 hx hby hZ e1617 V1615 13 rfl (Nat.le_of_ble_eq_true rfl) d7_308 fun T1619 h1619 X1619 e1619 W1619 V1619 => ?_
  have N1619 := Fr.snoc X1619 N1615 g_o3
  have KK1619 := KK1615.wr W1619 (Or.inl (List.mem_of_getElem? (i := 0) rfl))
  show OGl _ _ _ _ T1619 (mkF m 309 #[rv o0, iv 0, iv 3, jv 2305843009213693950, sc, iv 1, iv 6, rv b1483, jv 0, sc, rv b1487, iv 6, jv (t9b_0 (t9a_0 q7)), sc, iv 6] [])
  have F1620 := ((F1605.other W1615 (Or.inl ne_o0_o3)).other W1619 (Or.inl ne_o0_o3))
  have F1622 := (F1618.other W1619 (Ne.symm ne_o3_b1483))
  have F1623 := ((F1607.other W1615 ne_o9_o3).other W1619 ne_o9_o3)
  have F1624 := (F1616.other W1619 (Or.inl ne_o0_o3))
  refine gO (fun t k => kaN X1619 hx hby d7_309 rfl rfl k) (gG X1619 hx hby hZ hown (w13 hw) e1619 F1620 d7_310 fun T1621 X1621 e1621 => gO (fun t k => ka X1621 hx hby d7_313 rfl rfl (ki X1621 hx hby d7_315 rfl (rI X1621 hx hby hZ e1621 F1622 (.int 12) rfl rfl d7_317 (kc X1621 hx hby d7_318 (o_ixor X1621 hx hby d7_319 (rI X1621 hx hby hZ e1621 F1623 (.int 5) rfl rfl d7_320 (si X1621 hx hby (L' := #[rv o0, iv 0, iv 3, jv 2305843009213693950, sc, iv 1, iv 6, rv b1483, jv 0, sc, rv b1487, iv 6, jv (t9b_0 (t9a_0 q7)), sc, iv 5]) d7_321 rfl (o_goto X1621 hx hby 270 d7_323 rfl (ki X1621 hx hby d7_270 rfl (ki X1621 hx hby d7_272 rfl (cN X1621 hx hby d7_274 (feq (by decide : ¬ ((5 : Int32) = (1 : Int32)))).1 (kaN X1621 hx hby d7_277 rfl rfl k)))))))))))) (gG X1621 hx hby hZ hown (w18 hw) e1621 F1624 d7_278 fun T1625 X1625 e1625 => gO (fun t k => ka X1625 hx hby d7_281 rfl rfl (ki X1625 hx hby d7_283 rfl (rI X1625 hx hby hZ e1625 F1622 (.int 4) rfl rfl d7_285 (Jvm.Free.XT.dup2 X1625.here hx rfl (hb hby d7_286) rfl rfl rfl (rJ X1625 hx hby hZ e1625 V1619 (.long q7) rfl rfl d7_287 (kl X1625 hx hby d7_288 rfl (o_lsub X1625 hx hby d7_290 k))))))) ?_))
  show OGl _ _ _ _ T1625 (mkF m 291 #[rv o0, iv 0, iv 3, jv 2305843009213693950, sc, iv 1, iv 6, rv b1483, jv 0, sc, rv b1487, iv 6, jv (t9b_0 (t9a_0 q7)), sc, iv 5] [.long (q7 - (t9b_0 (t9a_0 q7))), .int 4, .ref o3])
  refine wJ X1625 hx hby hZ e1625 V1619 4 rfl (Nat.le_of_ble_eq_true rfl) d7_291 fun T1626 h1626 X1626 e1626 W1626 V1626 => ?_
  have N1626 := Fr.snoc X1626 N1619 g_o3
  have KK1626 := KK1619.wr W1626 (Or.inl (List.mem_of_getElem? (i := 0) rfl))
  show OGl _ _ _ _ T1626 (mkF m 292 #[rv o0, iv 0, iv 3, jv 2305843009213693950, sc, iv 1, iv 6, rv b1483, jv 0, sc, rv b1487, iv 6, jv (t9b_0 (t9a_0 q7)), sc, iv 5] [])
  have F1627 := (F1624.other W1626 (Or.inl ne_o0_o3))
  have F1629 := (F1622.other W1626 (Ne.symm ne_o3_b1483))
  refine gO (fun t k => kaN X1626 hx hby d7_292 rfl rfl k) (gG X1626 hx hby hZ hown (w18 hw) e1626 F1627 d7_293 fun T1628 X1628 e1628 => gO (fun t k => ka X1628 hx hby d7_296 rfl rfl (ki X1628 hx hby d7_298 rfl (rI X1628 hx hby hZ e1628 F1629 (.int 4) rfl rfl d7_300 (kc X1628 hx hby d7_301 (o_ixor X1628 hx hby d7_302 (Jvm.Free.XT.dup2 X1628.here hx rfl (hb hby d7_303) rfl rfl rfl (rJ X1628 hx hby hZ e1628 V1626 (.long 0) rfl rfl d7_304 (kl X1628 hx hby d7_305 rfl (o_ladd X1628 hx hby d7_307 k))))))))) ?_)
  show OGl _ _ _ _ T1628 (mkF m 308 #[rv o0, iv 0, iv 3, jv 2305843009213693950, sc, iv 1, iv 6, rv b1483, jv 0, sc, rv b1487, iv 6, jv (t9b_0 (t9a_0 q7)), sc, iv 5] [.long (e7b_1 q7), .int 5, .ref o3])
  refine wJ X1628 hx hby hZ e1628 V1626 5 rfl (Nat.le_of_ble_eq_true rfl) d7_308 fun T1630 h1630 X1630 e1630 W1630 V1630 => ?_
  have N1630 := Fr.snoc X1630 N1626 g_o3
  have KK1630 := KK1626.wr W1630 (Or.inl (List.mem_of_getElem? (i := 0) rfl))
  show OGl _ _ _ _ T1630 (mkF m 309 #[rv o0, iv 0, iv 3, jv 2305843009213693950, sc, iv 1, iv 6, rv b1483, jv 0, sc, rv b1487, iv 6, jv (t9b_0 (t9a_0 q7)), sc, iv 5] [])
  have F1631 := ((F1620.other W1626 (Or.inl ne_o0_o3)).other W1630 (Or.inl ne_o0_o3))
  have F1633 := (F1629.other W1630 (Ne.symm ne_o3_b1483))
  have F1634 := ((F1623.other W1626 ne_o9_o3).other W1630 ne_o9_o3)
  have F1635 := (F1627.other W1630 (Or.inl ne_o0_o3))
  refine gO (fun t k => kaN X1630 hx hby d7_309 rfl rfl k) (gG X1630 hx hby hZ hown (w13 hw) e1630 F1631 d7_310 fun T1632 X1632 e1632 => gO (fun t k => ka X1632 hx hby d7_313 rfl rfl (ki X1632 hx hby d7_315 rfl (rI X1632 hx hby hZ e1632 F1633 (.int 4) rfl rfl d7_317 (kc X1632 hx hby d7_318 (o_ixor X1632 hx hby d7_319 (rI X1632 hx hby hZ e1632 F1634 (.int 4) rfl rfl d7_320 (si X1632 hx hby (L' := #[rv o0, iv 0, iv 3, jv 2305843009213693950, sc, iv 1, iv 6, rv b1483, jv 0, sc, rv b1487, iv 6, jv (t9b_0 (t9a_0 q7)), sc, iv 4]) d7_321 rfl (o_goto X1632 hx hby 270 d7_323 rfl (ki X1632 hx hby d7_270 rfl (ki X1632 hx hby d7_272 rfl (cN X1632 hx hby d7_274 (feq (by decide : ¬ ((4 : Int32) = (1 : Int32)))).1 (kaN X1632 hx hby d7_277 rfl rfl k)))))))))))) (gG X1632 hx hby hZ hown (w18 hw) e1632 F1635 d7_278 fun T1636 X1636 e1636 => gO (fun t k => ka X1636 hx hby d7_281 rfl rfl (ki X1636 hx hby d7_283 rfl (rI X1636 hx hby hZ e1636 F1633 (.int 14) rfl rfl d7_285 (Jvm.Free.XT.dup2 X1636.here hx rfl (hb hby d7_286) rfl rfl rfl (rJ X1636 hx hby hZ e1636 V1630 (.long 2305843009213693951) rfl rfl d7_287 (kl X1636 hx hby d7_288 rfl (o_lsub X1636 hx hby d7_290 k))))))) ?_))
  show OGl _ _ _ _ T1636 (mkF m 291 #[rv o0, iv 0, iv 3, jv 2305843009213693950, sc, iv 1, iv 6, rv b1483, jv 0, sc, rv b1487, iv 6, jv (t9b_0 (t9a_0 q7)), sc, iv 4] [.long (e7b_0 q7), .int 14, .ref o3])
  refine wJ X1636 hx hby hZ e1636 V1630 14 rfl (Nat.le_of_ble_eq_true rfl) d7_291 fun T1637 h1637 X1637 e1637 W1637 V1637 => ?_
  have N1637 := Fr.snoc X1637 N1630 g_o3
  have KK1637 := KK1630.wr W1637 (Or.inl (List.mem_of_getElem? (i := 0) rfl))
  show OGl _ _ _ _ T1637 (mkF m 292 #[rv o0, iv 0, iv 3, jv 2305843009213693950, sc, iv 1, iv 6, rv b1483, jv 0, sc, rv b1487, iv 6, jv (t9b_0 (t9a_0 q7)), sc, iv 4] [])
  have F1638 := (F1635.other W1637 (Or.inl ne_o0_o3))
  have F1640 := (F1633.other W1637 (Ne.symm ne_o3_b1483))
  refine gO (fun t k => kaN X1637 hx hby d7_292 rfl rfl k) (gG X1637 hx hby hZ hown (w18 hw) e1637 F1638 d7_293 fun T1639 X1639 e1639 => gO (fun t k => ka X1639 hx hby d7_296 rfl rfl (ki X1639 hx hby d7_298 rfl (rI X1639 hx hby hZ e1639 F1640 (.int 14) rfl rfl d7_300 (kc X1639 hx hby d7_301 (o_ixor X1639 hx hby d7_302 (Jvm.Free.XT.dup2 X1639.here hx rfl (hb hby d7_303) rfl rfl rfl (rJ X1639 hx hby hZ e1639 V1637 (.long 0) rfl rfl d7_304 (kl X1639 hx hby d7_305 rfl (o_ladd X1639 hx hby d7_307 k))))))))) ?_)
  show OGl _ _ _ _ T1639 (mkF m 308 #[rv o0, iv 0, iv 3, jv 2305843009213693950, sc, iv 1, iv 6, rv b1483, jv 0, sc, rv b1487, iv 6, jv (t9b_0 (t9a_0 q7)), sc, iv 4] [.long (e7b_1 q7), .int 15, .ref o3])
  refine wJ X1639 hx hby hZ e1639 V1637 15 rfl (Nat.le_of_ble_eq_true rfl) d7_308 fun T1641 h1641 X1641 e1641 W1641 V1641 => ?_
  have N1641 := Fr.snoc X1641 N1637 g_o3
  have KK1641 := KK1637.wr W1641 (Or.inl (List.mem_of_getElem? (i := 0) rfl))
  show OGl _ _ _ _ T1641 (mkF m 309 #[rv o0, iv 0, iv 3, jv 2305843009213693950, sc, iv 1, iv 6, rv b1483, jv 0, sc, rv b1487, iv 6, jv (t9b_0 (t9a_0 q7)), sc, iv 4] [])
  have F1642 := ((F1631.other W1637 (Or.inl ne_o0_o3)).other W1641 (Or.inl ne_o0_o3))
  have F1644 := (F1640.other W1641 (Ne.symm ne_o3_b1483))
  have F1645 := ((F1634.other W1637 ne_o9_o3).other W1641 ne_o9_o3)
  refine gO (fun t k => kaN X1641 hx hby d7_309 rfl rfl k) (gG X1641 hx hby hZ hown (w13 hw) e1641 F1642 d7_310 fun T1643 X1643 e1643 => gO (fun t k => ka X1643 hx hby d7_313 rfl rfl (ki X1643 hx hby d7_315 rfl (rI X1643 hx hby hZ e1643 F1644 (.int 14) rfl rfl d7_317 (kc X1643 hx hby d7_318 (o_ixor X1643 hx hby d7_319 (rI X1643 hx hby hZ e1643 F1645 (.int 1) rfl rfl d7_320 (si X1643 hx hby (L' := #[rv o0, iv 0, iv 3, jv 2305843009213693950, sc, iv 1, iv 6, rv b1483, jv 0, sc, rv b1487, iv 6, jv (t9b_0 (t9a_0 q7)), sc, iv 1]) d7_321 rfl (o_goto X1643 hx hby 270 d7_323 rfl (ki X1643 hx hby d7_270 rfl (ki X1643 hx hby d7_272 rfl (cY X1643 hx hby 326 d7_274 (teq (by decide : (1 : Int32) = (1 : Int32))).1 rfl (kl X1643 hx hby d7_326 rfl (kl X1643 hx hby d7_328 rfl (o_ladd X1643 hx hby d7_330 (sl X1643 hx hby (L' := #[rv o0, iv 0, iv 3, jv 2305843009213693950, sc, iv 1, iv 6, rv b1483, jv (e7b_1 q7), sc, rv b1487, iv 6, jv (t9b_0 (t9a_0 q7)), sc, iv 1]) d7_331 rfl (o_goto X1643 hx hby 23 d7_333 rfl (kl X1643 hx hby d7_23 rfl (klN X1643 hx hby d7_25 rfl (o_lcmp X1643 hx hby d7_26 (iN X1643 hx hby d7_27 (own_tltL hp15_7b).2.1 (ka X1643 hx hby d7_30 rfl rfl (kc X1643 hx hby d7_32 k)))))))))))))))))))))) ?_)
  show OGl _ _ _ _ T1643 (mkF m 33 #[rv o0, iv 0, iv 3, jv 2305843009213693950, sc, iv 1, iv 6, rv b1483, jv (e7b_1 q7), sc, rv b1487, iv 6, jv (t9b_0 (t9a_0 q7)), sc, iv 1] [.int (-1), .ref b1483])
  have F1655 : Arv Z h1641 b1483 k1483 .int 8 [.int (-1), .int 16, .int 8, .int 2, .int 14, .int 4, .int 12, .int (-1)] (.int 0) := F1644
  obtain ⟨_, _, ⟨T1646, L1646, kk1646, n1646⟩, -, X1646, ⟨Lc1646, hQ1646, l1646, y1646, z1646⟩, st1646⟩ := Jvm.LawKit.callS X1643 hx (y := yy5) hown (mvT hZ (w49 hw)) (mvT hZ (w50 hw)) (mvT hZ (w51 hw)) (mvT hZ (w52 hw)) (by decide) (backOf (W := 0) (rm8b l Z a0 hw [] b1483 k1483 h1641 n0 (Nat.le_trans Z0 KK1641.1) F1655 g_b1483) hZ (w52 hw) (w51 hw) (by decide) (by decide)) (g := (mkF m 33 #[rv o0, iv 0, iv 3, jv 2305843009213693950, sc, iv 1, iv 6, rv b1483, jv (e7b_1 q7), sc, rv b1487, iv 6, jv (t9b_0 (t9a_0 q7)), sc, iv 1] [.int (-1), .ref b1483])) rfl (by rw [hml]; rfl) (argsL := [.ref b1483, .int (-1)]) (rest := []) (lenOf pd_4 rfl) rfl (by show 2 * 0 + _ ≤ _; exact Nat.le_of_eq rfl) (hb hby d7_33) (fun _ _ => ⟨rfl, e1643, (by decide : 2 + 0 ≤ _), (by decide : 16 + 0 ≤ _)⟩)
  dsimp only [Pt.U, Pt.locs, Pt.cells, Pt.slots] at X1646 l1646 y1646 z1646 st1646 hQ1646
  replace l1646 := l1646.symm
  subst l1646 y1646 z1646
  obtain ⟨rfl, Nq1646, K1646, Fq1646_0⟩ := hQ1646
  have KK1646 : Keep h0 T1646.heap [o3, o0] := KK1641.trans K1646 (allS (Or.inr sz_b1483) all0)
  have N1646 := Fr.app N1641 Nq1646
  refine gO st1646 ?_
  show OGl _ _ _ _ T1646 (mkF m 36 #[rv o0, iv 0, iv 3, jv 2305843009213693950, sc, iv 1, iv 6, rv b1483, jv (e7b_1 q7), sc, rv b1487, iv 6, jv (t9b_0 (t9a_0 q7)), sc, iv 1] [])
  have F1656 := ((((((((((((((((((((F1485.ext E1487).other W1488 (Or.inl ne_o0_b1487)).other W1492 (Or.inl ne_o0_b1483)).other W1504 (Or.inl ne_o0_b1483)).other W1509 (Or.inl ne_o0_b1487)).other W1521 (Or.inl ne_o0_b1483)).other W1526 (Or.inl ne_o0_b1487)).other W1547 (Or.inl ne_o0_b1483)).other W1552 (Or.inl ne_o0_b1487)).other W1569 (Or.inl ne_o0_b1483)).other W1574 (Or.inl ne_o0_b1487)).other W1589 (Or.inl ne_o0_b1483)).other W1594 (Or.inl ne_o0_b1487)).other W1615 (Or.inl ne_o0_o3)).other W1619 (Or.inl ne_o0_o3)).other W1626 (Or.inl ne_o0_o3)).other W1630 (Or.inl ne_o0_o3)).other W1637 (Or.inl ne_o0_o3)).other W1641 (Or.inl ne_o0_o3)).keep K1646 (ninS ne_o0_b1483 nin0))
  refine gO (fun t k => kaN X1646 hx hby d7_36 rfl rfl k) (gG X1646 hx hby hZ hown (w25 hw) rfl F1656 d7_37 fun T1657 X1657 e1657 => ?_)
  show OGl _ _ _ _ T1657 (mkF m 40 #[rv o0, iv 0, iv 3, jv 2305843009213693950, sc, iv 1, iv 6, rv b1483, jv (e7b_1 q7), sc, rv b1487, iv 6, jv (t9b_0 (t9a_0 q7)), sc, iv 1] [.int 8])
  obtain ⟨T1658, h1658, k1658, X1658, e1658, E1658, A1658, st1658⟩ := newP (aty := .int) X1657 hx hZ (w10 hw) e1657 (g := (mkF m 40 #[rv o0, iv 0, iv 3, jv 2305843009213693950, sc, iv 1, iv 6, rv b1483, jv (e7b_1 q7), sc, rv b1487, iv 6, jv (t9b_0 (t9a_0 q7)), sc, iv 1] [.int 8])) rfl (hb hby d7_40) rfl (by decide) (cap := 8) (by decide) (by decide) (by decide) (by decide)
  obtain ⟨b1658, gb1658⟩ : ∃ z, z = T1646.heap.size := ⟨_, rfl⟩
  rw [← gb1658] at A1658 st1658
  have ne_b1483_b1658 : b1483 ≠ b1658 := Nat.ne_of_lt (Nat.lt_of_lt_of_eq Fq1646_0.lt gb1658.symm)
  have F1659 := (((((((V1594.other W1615 (Ne.symm ne_o3_b1487)).other W1619 (Ne.symm ne_o3_b1487)).other W1626 (Ne.symm ne_o3_b1487)).other W1630 (Ne.symm ne_o3_b1487)).other W1637 (Ne.symm ne_o3_b1487)).other W1641 (Ne.symm ne_o3_b1487)).keep K1646 (ninS (Ne.symm ne_b1483_b1487) nin0))
  have ne_b1487_b1658 : b1487 ≠ b1658 := Nat.ne_of_lt (Nat.lt_of_lt_of_eq F1659.lt gb1658.symm)
  have ne_o0_b1658 : o0 ≠ b1658 := Nat.ne_of_lt (Nat.lt_of_lt_of_eq F1656.lt gb1658.symm)
  have F1660 := (((((((((F1581.other W1589 ne_o1_b1483).other W1594 ne_o1_b1487).other W1615 ne_o1_o3).other W1619 ne_o1_o3).other W1626 ne_o1_o3).other W1630 ne_o1_o3).other W1637 ne_o1_o3).other W1641 ne_o1_o3).keep K1646 (ninS ne_o1_b1483 nin0))
  have ne_o1_b1658 : o1 ≠ b1658 := Nat.ne_of_lt (Nat.lt_of_lt_of_eq F1660.lt gb1658.symm)
  have F1661 := (((((((F1597.other W1615 ne_o11_o3).other W1619 ne_o11_o3).other W1626 ne_o11_o3).other W1630 ne_o11_o3).other W1637 ne_o11_o3).other W1641 ne_o11_o3).keep K1646 (ninS ne_o11_b1483 nin0))
  have ne_o11_b1658 : o11 ≠ b1658 := Nat.ne_of_lt (Nat.lt_of_lt_of_eq F1661.lt gb1658.symm)
  have F1662 := (V1641.keep K1646 (ninS ne_o3_b1483 nin0))
  have ne_o3_b1658 : o3 ≠ b1658 := Nat.ne_of_lt (Nat.lt_of_lt_of_eq F1662.lt gb1658.symm)
  have F1663 := (F1645.keep K1646 (ninS ne_o9_b1483 nin0))
  have ne_o9_b1658 : o9 ≠ b1658 := Nat.ne_of_lt (Nat.lt_of_lt_of_eq F1663.lt gb1658.symm)
  have sz_b1658 : h0.size ≤ b1658 := Nat.le_trans KK1646.1 (Nat.le_of_eq gb1658.symm)
  have g_b1658 : n0 ≤ b1658 := Nat.le_trans Z0 sz_b1658
  have V1658 : Arv Z h1658 b1658 k1658 .int (8 : Int32) [.int 0, .int 0, .int 0, .int 0, .int 0, .int 0, .int 0, .int 0] (.int 0) := (Arv.new A1658 (by decide)).pad (pad_rep [] (.int 0) 8)
  have KK1658 : Keep h0 h1658 [o3, o0] := KK1646.ext E1658
  refine gO st1658 ?_
  show OGl _ _ _ _ T1658 (mkF m 42 #[rv o0, iv 0, iv 3, jv 2305843009213693950, sc, iv 1, iv 6, rv b1483, jv (e7b_1 q7), sc, rv b1487, iv 6, jv (t9b_0 (t9a_0 q7)), sc, iv 1] [.ref b1658])
  refine gO (fun t k => sa X1658 hx hby (L' := #[rv o0, iv 0, iv 3, jv 2305843009213693950, sc, iv 1, iv 6, rv b1483, jv (e7b_1 q7), sc, rv b1658, iv 6, jv (t9b_0 (t9a_0 q7)), sc, iv 1]) d7_42 rfl rfl (kc X1658 hx hby d7_44 (si X1658 hx hby (L' := #[rv o0, iv 0, iv 3, jv 2305843009213693950, sc, iv 1, iv 6, rv b1483, jv (e7b_1 q7), sc, rv b1658, iv 1, jv (t9b_0 (t9a_0 q7)), sc, iv 1]) d7_45 rfl (ka X1658 hx hby d7_47 rfl rfl (kc X1658 hx hby d7_49 (ki X1658 hx hby d7_50 rfl k)))))) ?_
  show OGl _ _ _ _ T1658 (mkF m 52 #[rv o0, iv 0, iv 3, jv 2305843009213693950, sc, iv 1, iv 6, rv b1483, jv (e7b_1 q7), sc, rv b1658, iv 1, jv (t9b_0 (t9a_0 q7)), sc, iv 1] [.int 1, .int 0, .ref b1658])
  refine wI X1658 hx hby hZ e1658 V1658 0 rfl (Nat.le_of_ble_eq_true rfl) d7_52 fun T1664 h1664 X1664 e1664 W1664 V1664 => ?_
  have N1664 := Fr.snoc X1664 N1646 g_b1658
  have KK1664 := KK1658.wr W1664 (Or.inr sz_b1658)
  show OGl _ _ _ _ T1664 (mkF m 53 #[rv o0, iv 0, iv 3, jv 2305843009213693950, sc, iv 1, iv 6, rv b1483, jv (e7b_1 q7), sc, rv b1658, iv 1, jv (t9b_0 (t9a_0 q7)), sc, iv 1] [])
  have F1665 := ((((((((((((((((((((F1489.other W1492 (Or.inl ne_o0_b1483)).other W1504 (Or.inl ne_o0_b1483)).other W1509 (Or.inl ne_o0_b1487)).other W1521 (Or.inl ne_o0_b1483)).other W1526 (Or.inl ne_o0_b1487)).other W1547 (Or.inl ne_o0_b1483)).other W1552 (Or.inl ne_o0_b1487)).other W1569 (Or.inl ne_o0_b1483)).other W1574 (Or.inl ne_o0_b1487)).other W1589 (Or.inl ne_o0_b1483)).other W1594 (Or.inl ne_o0_b1487)).other W1615 (Or.inl ne_o0_o3)).other W1619 (Or.inl ne_o0_o3)).other W1626 (Or.inl ne_o0_o3)).other W1630 (Or.inl ne_o0_o3)).other W1637 (Or.inl ne_o0_o3)).other W1641 (Or.inl ne_o0_o3)).keep K1646 (ninS ne_o0_b1483 nin0)).ext E1658).other W1664 (Or.inl ne_o0_b1658))
  refine gO (fun t k => ka X1664 hx hby d7_53 rfl rfl (ki X1664 hx hby d7_55 rfl (kaN X1664 hx hby d7_57 rfl rfl k))) (gG X1664 hx hby hZ hown (w31 hw) e1664 F1665 d7_58 fun T1666 X1666 e1666 => ?_)
  show OGl _ _ _ _ T1666 (mkF m 61 #[rv o0, iv 0, iv 3, jv 2305843009213693950, sc, iv 1, iv 6, rv b1483, jv (e7b_1 q7), sc, rv b1658, iv 1, jv (t9b_0 (t9a_0 q7)), sc, iv 1] [.int 16, .int 1, .ref b1483])
  have F1667 := ((Fq1646_0.ext E1658).other W1664 ne_b1483_b1658)
  refine wI X1666 hx hby hZ e1666 F1667 1 rfl (Nat.le_of_ble_eq_true rfl) d7_61 fun T1668 h1668 X1668 e1668 W1668 V1668 => ?_
  have N1668 := Fr.snoc X1668 N1664 g_b1483
  have KK1668 := KK1664.wr W1668 (Or.inr sz_b1483)
  show OGl _ _ _ _ T1668 (mkF m 62 #[rv o0, iv 0, iv 3, jv 2305843009213693950, sc, iv 1, iv 6, rv b1483, jv (e7b_1 q7), sc, rv b1658, iv 1, jv (t9b_0 (t9a_0 q7)), sc, iv 1] [])
  have F1669 := ((((((((((((F1579.other W1589 (Or.inl ne_o0_b1483)).other W1594 (Or.inl ne_o0_b1487)).other W1615 (Or.inl ne_o0_o3)).other W1619 (Or.inl ne_o0_o3)).other W1626 (Or.inl ne_o0_o3)).other W1630 (Or.inl ne_o0_o3)).other W1637 (Or.inl ne_o0_o3)).other W1641 (Or.inl ne_o0_o3)).keep K1646 (ninS ne_o0_b1483 nin0)).ext E1658).other W1664 (Or.inl ne_o0_b1658)).other W1668 (Or.inl ne_o0_b1483))
  have F1671 := (V1664.other W1668 (Ne.symm ne_b1483_b1658))
  have F1672 := (((F1660.ext E1658).other W1664 ne_o1_b1658).other W1668 ne_o1_b1483)
  have F1673 := (((((F1638.other W1641 (Or.inl ne_o0_o3)).keep K1646 (ninS ne_o0_b1483 nin0)).ext E1658).other W1664 (Or.inl ne_o0_b1658)).other W1668 (Or.inl ne_o0_b1483))
  have F1675 := (((F1662.ext E1658).other W1664 ne_o3_b1658).other W1668 ne_o3_b1483)
  have F1676 := ((((F1642.keep K1646 (ninS ne_o0_b1483 nin0)).ext E1658).other W1664 (Or.inl ne_o0_b1658)).other W1668 (Or.inl ne_o0_b1483))
  have F1678 := (((F1663.ext E1658).other W1664 ne_o9_b1658).other W1668 ne_o9_b1483)
  refine gO (fun t k => kc X1668 hx hby d7_62 (si X1668 hx hby (L' := #[rv o0, iv 0, iv 3, jv 2305843009213693950, sc, iv 1, iv 6, rv b1483, jv (e7b_1 q7), sc, rv b1658, iv 1, iv 0, un, iv 1]) d7_63 rfl (ki X1668 hx hby d7_65 rfl (ki X1668 hx hby d7_67 rfl (cN X1668 hx hby d7_69 (tlt (by decide : (0 : Int32) < (1 : Int32))).2.1 (ka X1668 hx hby d7_72 rfl rfl (ki X1668 hx hby d7_74 rfl (rI X1668 hx hby hZ e1668 V1668 (.int (-1)) rfl rfl d7_76 (iN X1668 hx hby d7_77 ((if0 _ _).trans (tlt (by decide : (-1 : Int32) < (0 : Int32))).2.1) (kaN X1668 hx hby d7_80 rfl rfl k)))))))))) (gG X1668 hx hby hZ hown (w11 hw) e1668 F1669 d7_81 fun T1670 X1670 e1670 => gO (fun t k => ka X1670 hx hby d7_84 rfl rfl (ki X1670 hx hby d7_86 rfl (rI X1670 hx hby hZ e1670 F1671 (.int 1) rfl rfl d7_88 (rI X1670 hx hby hZ e1670 F1672 (.int 14) rfl rfl d7_89 (si X1670 hx hby (L' := #[rv o0, iv 0, iv 3, jv 2305843009213693950, sc, iv 1, iv 6, rv b1483, jv (e7b_1 q7), sc, rv b1658, iv 1, iv 0, iv 14, iv 1]) d7_90 rfl (ki X1670 hx hby d7_92 rfl (iN X1670 hx hby d7_94 ((if0 _ _).trans (flt (by decide : ¬ ((14 : Int32) < (0 : Int32)))).1) (kaN X1670 hx hby d7_97 rfl rfl k)))))))) (gG X1670 hx hby hZ hown (w18 hw) e1670 F1673 d7_98 fun T1674 X1674 e1674 => gO (fun t k => ki X1674 hx hby d7_101 rfl (rJ X1674 hx hby hZ e1674 F1675 (.long (e7b_0 q7)) rfl rfl d7_103 (kcl X1674 hx hby d7_104 (o_lcmp X1674 hx hby d7_105 (iN X1674 hx hby d7_106 (own_tltL hp18_7b).2.2.2 (ka X1674 hx hby d7_109 rfl rfl (kaN X1674 hx hby d7_111 rfl rfl k))))))) (gG X1674 hx hby hZ hown (w13 hw) e1674 F1676 d7_112 fun T1677 X1677 e1677 => gO (fun t k => ki X1677 hx hby d7_115 rfl (rI X1677 hx hby hZ e1677 F1678 (.int 4) rfl rfl d7_117 (rI X1677 hx hby hZ e1677 V1668 (.int (-1)) rfl rfl d7_118 (iN X1677 hx hby d7_119 ((if0 _ _).trans (tlt (by decide : (-1 : Int32) < (0 : Int32))).2.1) (ka X1677 hx hby d7_122 rfl rfl (kaN X1677 hx hby d7_124 rfl rfl k)))))) (gG X1677 hx hby hZ hown (w13 hw) e1677 F1676 d7_125 fun T1679 X1679 e1679 => gO (fun t k => ki X1679 hx hby d7_128 rfl (rI X1679 hx hby hZ e1679 F1678 (.int 4) rfl rfl d7_130 (ki X1679 hx hby d7_131 rfl k))) ?_))))
  show OGl _ _ _ _ T1679 (mkF m 133 #[rv o0, iv 0, iv 3, jv 2305843009213693950, sc, iv 1, iv 6, rv b1483, jv (e7b_1 q7), sc, rv b1658, iv 1, iv 0, iv 14, iv 1] [.int 14, .int 4, .ref b1483])
  refine wI X1679 hx hby hZ e1679 V1668 4 rfl (Nat.le_of_ble_eq_true rfl) d7_133 fun T1680 h1680 X1680 e1680 W1680 V1680 => ?_
  have N1680 := Fr.snoc X1680 N1668 g_b1483
  have KK1680 := KK1668.wr W1680 (Or.inr sz_b1483)
  show OGl _ _ _ _ T1680 (mkF m 134 #[rv o0, iv 0, iv 3, jv 2305843009213693950, sc, iv 1, iv 6, rv b1483, jv (e7b_1 q7), sc, rv b1658, iv 1, iv 0, iv 14, iv 1] [])
  have F1681 := (F1676.other W1680 (Or.inl ne_o0_b1483))
  have F1683 := (F1678.other W1680 ne_o9_b1483)
  refine gO (fun t k => ka X1680 hx hby d7_134 rfl rfl (ki X1680 hx hby d7_136 rfl (o_iinc X1680 hx hby (L' := #[rv o0, iv 0, iv 3, jv 2305843009213693950, sc, iv 1, iv 6, rv b1483, jv (e7b_1 q7), sc, rv b1658, iv 2, iv 0, iv 14, iv 1]) d7_138 rfl rfl (kaN X1680 hx hby d7_141 rfl rfl k)))) (gG X1680 hx hby hZ hown (w13 hw) e1680 F1681 d7_142 fun T1682 X1682 e1682 => gO (fun t k => ki X1682 hx hby d7_145 rfl (rI X1682 hx hby hZ e1682 F1683 (.int 4) rfl rfl d7_147 k)) ?_)
  show OGl _ _ _ _ T1682 (mkF m 148 #[rv o0, iv 0, iv 3, jv 2305843009213693950, sc, iv 1, iv 6, rv b1483, jv (e7b_1 q7), sc, rv b1658, iv 2, iv 0, iv 14, iv 1] [.int 4, .int 1, .ref b1658])
  have F1684 := (F1671.other W1680 (Ne.symm ne_b1483_b1658))
  refine wI X1682 hx hby hZ e1682 F1684 1 rfl (Nat.le_of_ble_eq_true rfl) d7_148 fun T1685 h1685 X1685 e1685 W1685 V1685 => ?_
  have N1685 := Fr.snoc X1685 N1680 g_b1658
  have KK1685 := KK1680.wr W1685 (Or.inr sz_b1658)
  show OGl _ _ _ _ T1685 (mkF m 149 #[rv o0, iv 0, iv 3, jv 2305843009213693950, sc, iv 1, iv 6, rv b1483, jv (e7b_1 q7), sc, rv b1658, iv 2, iv 0, iv 14, iv 1] [])
  have F1686 := ((((((((((((F1595.other W1615 (Or.inl ne_o0_o3)).other W1619 (Or.inl ne_o0_o3)).other W1626 (Or.inl ne_o0_o3)).other W1630 (Or.inl ne_o0_o3)).other W1637 (Or.inl ne_o0_o3)).other W1641 (Or.inl ne_o0_o3)).keep K1646 (ninS ne_o0_b1483 nin0)).ext E1658).other W1664 (Or.inl ne_o0_b1658)).other W1668 (Or.inl ne_o0_b1483)).other W1680 (Or.inl ne_o0_b1483)).other W1685 (Or.inl ne_o0_b1658))
  have F1688 := (((((F1661.ext E1658).other W1664 ne_o11_b1658).other W1668 ne_o11_b1483).other W1680 ne_o11_b1483).other W1685 ne_o11_b1658)
  have F1689 := ((F1673.other W1680 (Or.inl ne_o0_b1483)).other W1685 (Or.inl ne_o0_b1658))
  have F1691 := ((F1675.other W1680 ne_o3_b1483).other W1685 ne_o3_b1658)
  have F1692 := (F1681.other W1685 (Or.inl ne_o0_b1658))
  have F1694 := (F1683.other W1685 ne_o9_b1658)
  have F1695 := (V1680.other W1685 ne_b1483_b1658)
  refine gO (fun t k => kaN X1685 hx hby d7_149 rfl rfl k) (gG X1685 hx hby hZ hown (w15 hw) e1685 F1686 d7_150 fun T1687 X1687 e1687 => gO (fun t k => ki X1687 hx hby d7_153 rfl (rI X1687 hx hby hZ e1687 F1688 (.int 8) rfl rfl d7_155 (si X1687 hx hby (L' := #[rv o0, iv 0, iv 3, jv 2305843009213693950, sc, iv 1, iv 6, rv b1483, jv (e7b_1 q7), sc, rv b1658, iv 2, iv 0, iv 8, iv 1]) d7_156 rfl (o_goto X1687 hx hby 92 d7_158 rfl (ki X1687 hx hby d7_92 rfl (iN X1687 hx hby d7_94 ((if0 _ _).trans (flt (by decide : ¬ ((8 : Int32) < (0 : Int32)))).1) (kaN X1687 hx hby d7_97 rfl rfl k))))))) (gG X1687 hx hby hZ hown (w18 hw) e1687 F1689 d7_98 fun T1690 X1690 e1690 => gO (fun t k => ki X1690 hx hby d7_101 rfl (rJ X1690 hx hby hZ e1690 F1691 (.long 2305843009213693951) rfl rfl d7_103 (kcl X1690 hx hby d7_104 (o_lcmp X1690 hx hby d7_105 (iN X1690 hx hby d7_106 (own_tltL (by decide : (0 : Int64) < (2305843009213693951 : Int64))).2.2.2 (ka X1690 hx hby d7_109 rfl rfl (kaN X1690 hx hby d7_111 rfl rfl k))))))) (gG X1690 hx hby hZ hown (w13 hw) e1690 F1692 d7_112 fun T1693 X1693 e1693 => gO (fun t k => ki X1693 hx hby d7_115 rfl (rI X1693 hx hby hZ e1693 F1694 (.int 2) rfl rfl d7_117 (rI X1693 hx hby hZ e1693 F1695 (.int (-1)) rfl rfl d7_118 (iN X1693 hx hby d7_119 ((if0 _ _).trans (tlt (by decide : (-1 : Int32) < (0 : Int32))).2.1) (ka X1693 hx hby d7_122 rfl rfl (kaN X1693 hx hby d7_124 rfl rfl k)))))) (gG X1693 hx hby hZ hown (w13 hw) e1693 F1692 d7_125 fun T1696 X1696 e1696 => gO (fun t k => ki X1696 hx hby d7_128 rfl (rI X1696 hx hby hZ e1696 F1694 (.int 2) rfl rfl d7_130 (ki X1696 hx hby d7_131 rfl k))) ?_))))
  show OGl _ _ _ _ T1696 (mkF m 133 #[rv o0, iv 0, iv 3, jv 2305843009213693950, sc, iv 1, iv 6, rv b1483, jv (e7b_1 q7), sc, rv b1658, iv 2, iv 0, iv 8, iv 1] [.int 8, .int 2, .ref b1483])
  refine wI X1696 hx hby hZ e1696 F1695 2 rfl (Nat.le_of_ble_eq_true rfl) d7_133 fun T1697 h1697 X1697 e1697 W1697 V1697 => ?_
  have N1697 := Fr.snoc X1697 N1685 g_b1483
  have KK1697 := KK1685.wr W1697 (Or.inr sz_b1483)
  show OGl _ _ _ _ T1697 (mkF m 134 #[rv o0, iv 0, iv 3, jv 2305843009213693950, sc, iv 1, iv 6, rv b1483, jv (e7b_1 q7), sc, rv b1658, iv 2, iv 0, iv 8, iv 1] [])
  have F1698 := (F1692.other W1697 (Or.inl ne_o0_b1483))
  have F1700 := (F1694.other W1697 ne_o9_b1483)
  refine gO (fun t k => ka X1697 hx hby d7_134 rfl rfl (ki X1697 hx hby d7_136 rfl (o_iinc X1697 hx hby (L' := #[rv o0, iv 0, iv 3, jv 2305843009213693950, sc, iv 1, iv 6, rv b1483, jv (e7b_1 q7), sc, rv b1658, iv 3, iv 0, iv 8, iv 1]) d7_138 rfl rfl (kaN X1697 hx hby d7_141 rfl rfl k)))) (gG X1697 hx hby hZ hown (w13 hw) e1697 F1698 d7_142 fun T1699 X1699 e1699 => gO (fun t k => ki X1699 hx hby d7_145 rfl (rI X1699 hx hby hZ e1699 F1700 (.int 2) rfl rfl d7_147 k)) ?_)
  show OGl _ _ _ _ T1699 (mkF m 148 #[rv o0, iv 0, iv 3, jv 2305843009213693950, sc, iv 1, iv 6, rv b1483, jv (e7b_1 q7), sc, rv b1658, iv 3, iv 0, iv 8, iv 1] [.int 2, .int 2, .ref b1658])
  have F1701 := (V1685.other W1697 (Ne.symm ne_b1483_b1658))
  refine wI X1699 hx hby hZ e1699 F1701 2 rfl (Nat.le_of_ble_eq_true rfl) d7_148 fun T1702 h1702 X1702 e1702 W1702 V1702 => ?_
  have N1702 := Fr.snoc X1702 N1697 g_b1658
  have KK1702 := KK1697.wr W1702 (Or.inr sz_b1658)
  show OGl _ _ _ _ T1702 (mkF m 149 #[rv o0, iv 0, iv 3, jv 2305843009213693950, sc, iv 1, iv 6, rv b1483, jv (e7b_1 q7), sc, rv b1658, iv 3, iv 0, iv 8, iv 1] [])
  have F1703 := ((F1686.other W1697 (Or.inl ne_o0_b1483)).other W1702 (Or.inl ne_o0_b1658))
  have F1705 := ((F1688.other W1697 ne_o11_b1483).other W1702 ne_o11_b1658)
  have F1706 := ((F1689.other W1697 (Or.inl ne_o0_b1483)).other W1702 (Or.inl ne_o0_b1658))
  have F1708 := ((F1691.other W1697 ne_o3_b1483).other W1702 ne_o3_b1658)
  have F1710 := (V1697.other W1702 ne_b1483_b1658)
  have F1711 := ((((F1669.other W1680 (Or.inl ne_o0_b1483)).other W1685 (Or.inl ne_o0_b1658)).other W1697 (Or.inl ne_o0_b1483)).other W1702 (Or.inl ne_o0_b1658))
  have F1713 := ((((F1672.other W1680 ne_o1_b1483).other W1685 ne_o1_b1658).other W1697 ne_o1_b1483).other W1702 ne_o1_b1658)
  refine gO (fun t k => kaN X1702 hx hby d7_149 rfl rfl k) (gG X1702 hx hby hZ hown (w15 hw) e1702 F1703 d7_150 fun T1704 X1704 e1704 => gO (fun t k => ki X1704 hx hby d7_153 rfl (rI X1704 hx hby hZ e1704 F1705 (.int 1) rfl rfl d7_155 (si X1704 hx hby (L' := #[rv o0, iv 0, iv 3, jv 2305843009213693950, sc, iv 1, iv 6, rv b1483, jv (e7b_1 q7), sc, rv b1658, iv 3, iv 0, iv 1, iv 1]) d7_156 rfl (o_goto X1704 hx hby 92 d7_158 rfl (ki X1704 hx hby d7_92 rfl (iN X1704 hx hby d7_94 ((if0 _ _).trans (flt (by decide : ¬ ((1 : Int32) < (0 : Int32)))).1) (kaN X1704 hx hby d7_97 rfl rfl k))))))) (gG X1704 hx hby hZ hown (w18 hw) e1704 F1706 d7_98 fun T1707 X1707 e1707 => gO (fun t k => ki X1707 hx hby d7_101 rfl (rJ X1707 hx hby hZ e1707 F1708 (.long 0) rfl rfl d7_103 (kcl X1707 hx hby d7_104 (o_lcmp X1707 hx hby d7_105 (iY X1707 hx hby 149 d7_106 (own_fltL (by decide : ¬ ((0 : Int64) < (0 : Int64)))).2.2.2 rfl (kaN X1707 hx hby d7_149 rfl rfl k)))))) (gG X1707 hx hby hZ hown (w15 hw) e1707 F1703 d7_150 fun T1709 X1709 e1709 => gO (fun t k => ki X1709 hx hby d7_153 rfl (rI X1709 hx hby hZ e1709 F1705 (.int (-1)) rfl rfl d7_155 (si X1709 hx hby (L' := #[rv o0, iv 0, iv 3, jv 2305843009213693950, sc, iv 1, iv 6, rv b1483, jv (e7b_1 q7), sc, rv b1658, iv 3, iv 0, iv (-1), iv 1]) d7_156 rfl (o_goto X1709 hx hby 92 d7_158 rfl (ki X1709 hx hby d7_92 rfl (iY X1709 hx hby 161 d7_94 ((if0 _ _).trans (tlt (by decide : (-1 : Int32) < (0 : Int32))).1) rfl (o_iinc X1709 hx hby (L' := #[rv o0, iv 0, iv 3, jv 2305843009213693950, sc, iv 1, iv 6, rv b1483, jv (e7b_1 q7), sc, rv b1658, iv 3, iv 1, iv (-1), iv 1]) d7_161 rfl rfl (o_goto X1709 hx hby 65 d7_164 rfl (ki X1709 hx hby d7_65 rfl (ki X1709 hx hby d7_67 rfl (cN X1709 hx hby d7_69 (tlt (by decide : (1 : Int32) < (3 : Int32))).2.1 (ka X1709 hx hby d7_72 rfl rfl (ki X1709 hx hby d7_74 rfl (rI X1709 hx hby hZ e1709 F1710 (.int (-1)) rfl rfl d7_76 (iN X1709 hx hby d7_77 ((if0 _ _).trans (tlt (by decide : (-1 : Int32) < (0 : Int32))).2.1) (kaN X1709 hx hby d7_80 rfl rfl k)))))))))))))))) (gG X1709 hx hby hZ hown (w11 hw) e1709 F1711 d7_81 fun T1712 X1712 e1712 => gO (fun t k => ka X1712 hx hby d7_84 rfl rfl (ki X1712 hx hby d7_86 rfl (rI X1712 hx hby hZ e1712 V1702 (.int 4) rfl rfl d7_88 (rI X1712 hx hby hZ e1712 F1713 (.int 15) rfl rfl d7_89 (si X1712 hx hby (L' := #[rv o0, iv 0, iv 3, jv 2305843009213693950, sc, iv 1, iv 6, rv b1483, jv (e7b_1 q7), sc, rv b1658, iv 3, iv 1, iv 15, iv 1]) d7_90 rfl (ki X1712 hx hby d7_92 rfl k)))))) ?_))))
  show OGl _ _ _ _ T1712 (mkF m 94 #[rv o0, iv 0, iv 3, jv 2305843009213693950, sc, iv 1, iv 6, rv b1483, jv (e7b_1 q7), sc, rv b1658, iv 3, iv 1, iv 15, iv 1] [.int 15])
  have F1715 := (F1698.other W1702 (Or.inl ne_o0_b1658))
  have F1717 := (F1700.other W1702 ne_o9_b1658)
  refine gO (fun t k => iN X1712 hx hby d7_94 ((if0 _ _).trans (flt (by decide : ¬ ((15 : Int32) < (0 : Int32)))).1) (kaN X1712 hx hby d7_97 rfl rfl k)) (gG X1712 hx hby hZ hown (w18 hw) e1712 F1706 d7_98 fun T1714 X1714 e1714 => gO (fun t k => ki X1714 hx hby d7_101 rfl (rJ X1714 hx hby hZ e1714 F1708 (.long (e7b_1 q7)) rfl rfl d7_103 (kcl X1714 hx hby d7_104 (o_lcmp X1714 hx hby d7_105 (iN X1714 hx hby d7_106 (own_tltL hp19_7b).2.2.2 (ka X1714 hx hby d7_109 rfl rfl (kaN X1714 hx hby d7_111 rfl rfl k))))))) (gG X1714 hx hby hZ hown (w13 hw) e1714 F1715 d7_112 fun T1716 X1716 e1716 => gO (fun t k => ki X1716 hx hby d7_115 rfl (rI X1716 hx hby hZ e1716 F1717 (.int 1) rfl rfl d7_117 (rI X1716 hx hby hZ e1716 F1710 (.int 16) rfl rfl d7_118 (iY X1716 hx hby 149 d7_119 ((if0 _ _).trans (flt (by decide : ¬ ((16 : Int32) < (0 : Int32)))).2.1) rfl (kaN X1716 hx hby d7_149 rfl rfl k))))) (gG X1716 hx hby hZ hown (w15 hw) e1716 F1703 d7_150 fun T1718 X1718 e1718 => gO (fun t k => ki X1718 hx hby d7_153 rfl (rI X1718 hx hby hZ e1718 F1705 (.int 11) rfl rfl d7_155 (si X1718 hx hby (L' := #[rv o0, iv 0, iv 3, jv 2305843009213693950, sc, iv 1, iv 6, rv b1483, jv (e7b_1 q7), sc, rv b1658, iv 3, iv 1, iv 11, iv 1]) d7_156 rfl (o_goto X1718 hx hby 92 d7_158 rfl (ki X1718 hx hby d7_92 rfl (iN X1718 hx hby d7_94 ((if0 _ _).trans (flt (by decide : ¬ ((11 : Int32) < (0 : Int32)))).1) (kaN X1718 hx hby d7_97 rfl rfl k))))))) (gG X1718 hx hby hZ hown (w18 hw) e1718 F1706 d7_98 fun T1719 X1719 e1719 => gO (fun t k => ki X1719 hx hby d7_101 rfl (rJ X1719 hx hby hZ e1719 F1708 (.long 0) rfl rfl d7_103 (kcl X1719 hx hby d7_104 (o_lcmp X1719 hx hby d7_105 (iY X1719 hx hby 149 d7_106 (own_fltL (by decide : ¬ ((0 : Int64) < (0 : Int64)))).2.2.2 rfl (kaN X1719 hx hby d7_149 rfl rfl k)))))) (gG X1719 hx hby hZ hown (w15 hw) e1719 F1703 d7_150 fun T1720 X1720 e1720 => gO (fun t k => ki X1720 hx hby d7_153 rfl (rI X1720 hx hby hZ e1720 F1705 (.int 4) rfl rfl d7_155 (si X1720 hx hby (L' := #[rv o0, iv 0, iv 3, jv 2305843009213693950, sc, iv 1, iv 6, rv b1483, jv (e7b_1 q7), sc, rv b1658, iv 3, iv 1, iv 4, iv 1]) d7_156 rfl (o_goto X1720 hx hby 92 d7_158 rfl (ki X1720 hx hby d7_92 rfl (iN X1720 hx hby d7_94 ((if0 _ _).trans (flt (by decide : ¬ ((4 : Int32) < (0 : Int32)))).1) (kaN X1720 hx hby d7_97 rfl rfl k))))))) (gG X1720 hx hby hZ hown (w18 hw) e1720 F1706 d7_98 fun T1721 X1721 e1721 => ?_))))))
  show OGl _ _ _ _ T1721 (mkF m 101 #[rv o0, iv 0, iv 3, jv 2305843009213693950, sc, iv 1, iv 6, rv b1483, jv (e7b_1 q7), sc, rv b1658, iv 3, iv 1, iv 4, iv 1] [.ref o3])
  refine gO (fun t k => ki X1721 hx hby d7_101 rfl (rJ X1721 hx hby hZ e1721 F1708 (.long (q7 - (t9b_0 (t9a_0 q7)))) rfl rfl d7_103 (kcl X1721 hx hby d7_104 (o_lcmp X1721 hx hby d7_105 (iY X1721 hx hby 149 d7_106 (own_fltL hp20_7b).2.2.2 rfl (kaN X1721 hx hby d7_149 rfl rfl k)))))) (gG X1721 hx hby hZ hown (w15 hw) e1721 F1703 d7_150 fun T1722 X1722 e1722 => gO (fun t k => ki X1722 hx hby d7_153 rfl (rI X1722 hx hby hZ e1722 F1705 (.int (-1)) rfl rfl d7_155 (si X1722 hx hby (L' := #[rv o0, iv 0, iv 3, jv 2305843009213693950, sc, iv 1, iv 6, rv b1483, jv (e7b_1 q7), sc, rv b1658, iv 3, iv 1, iv (-1), iv 1]) d7_156 rfl (o_goto X1722 hx hby 92 d7_158 rfl (ki X1722 hx hby d7_92 rfl (iY X1722 hx hby 161 d7_94 ((if0 _ _).trans (tlt (by decide : (-1 : Int32) < (0 : Int32))).1) rfl (o_iinc X1722 hx hby (L' := #[rv o0, iv 0, iv 3, jv 2305843009213693950, sc, iv 1, iv 6, rv b1483, jv (e7b_1 q7), sc, rv b1658, iv 3, iv 2, iv (-1), iv 1]) d7_161 rfl rfl (o_goto X1722 hx hby 65 d7_164 rfl (ki X1722 hx hby d7_65 rfl (ki X1722 hx hby d7_67 rfl (cN X1722 hx hby d7_69 (tlt (by decide : (2 : Int32) < (3 : Int32))).2.1 (ka X1722 hx hby d7_72 rfl rfl (ki X1722 hx hby d7_74 rfl (rI X1722 hx hby hZ e1722 F1710 (.int (-1)) rfl rfl d7_76 (iN X1722 hx hby d7_77 ((if0 _ _).trans (tlt (by decide : (-1 : Int32) < (0 : Int32))).2.1) (kaN X1722 hx hby d7_80 rfl rfl k)))))))))))))))) (gG X1722 hx hby hZ hown (w11 hw) e1722 F1711 d7_81 fun T1723 X1723 e1723 => gO (fun t k => ka X1723 hx hby d7_84 rfl rfl (ki X1723 hx hby d7_86 rfl (rI X1723 hx hby hZ e1723 V1702 (.int 2) rfl rfl d7_88 (rI X1723 hx hby hZ e1723 F1713 (.int 9) rfl rfl d7_89 (si X1723 hx hby (L' := #[rv o0, iv 0, iv 3, jv 2305843009213693950, sc, iv 1, iv 6, rv b1483, jv (e7b_1 q7), sc, rv b1658, iv 3, iv 2, iv 9, iv 1]) d7_90 rfl (ki X1723 hx hby d7_92 rfl (iN X1723 hx hby d7_94 ((if0 _ _).trans (flt (by decide : ¬ ((9 : Int32) < (0 : Int32)))).1) (kaN X1723 hx hby d7_97 rfl rfl k)))))))) (gG X1723 hx hby hZ hown (w18 hw) e1723 F1706 d7_98 fun T1724 X1724 e1724 => gO (fun t k => ki X1724 hx hby d7_101 rfl (rJ X1724 hx hby hZ e1724 F1708 (.long 0) rfl rfl d7_103 (kcl X1724 hx hby d7_104 (o_lcmp X1724 hx hby d7_105 (iY X1724 hx hby 149 d7_106 (own_fltL (by decide : ¬ ((0 : Int64) < (0 : Int64)))).2.2.2 rfl (kaN X1724 hx hby d7_149 rfl rfl k)))))) (gG X1724 hx hby hZ hown (w15 hw) e1724 F1703 d7_150 fun T1725 X1725 e1725 => ?_))))
  show OGl _ _ _ _ T1725 (mkF m 153 #[rv o0, iv 0, iv 3, jv 2305843009213693950, sc, iv 1, iv 6, rv b1483, jv (e7b_1 q7), sc, rv b1658, iv 3, iv 2, iv 9, iv 1] [.ref o11])
  refine gO (fun t k => ki X1725 hx hby d7_153 rfl (rI X1725 hx hby hZ e1725 F1705 (.int 2) rfl rfl d7_155 (si X1725 hx hby (L' := #[rv o0, iv 0, iv 3, jv 2305843009213693950, sc, iv 1, iv 6, rv b1483, jv (e7b_1 q7), sc, rv b1658, iv 3, iv 2, iv 2, iv 1]) d7_156 rfl (o_goto X1725 hx hby 92 d7_158 rfl (ki X1725 hx hby d7_92 rfl (iN X1725 hx hby d7_94 ((if0 _ _).trans (flt (by decide : ¬ ((2 : Int32) < (0 : Int32)))).1) (kaN X1725 hx hby d7_97 rfl rfl k))))))) (gG X1725 hx hby hZ hown (w18 hw) e1725 F1706 d7_98 fun T1726 X1726 e1726 => gO (fun t k => ki X1726 hx hby d7_101 rfl (rJ X1726 hx hby hZ e1726 F1708 (.long q6) rfl rfl d7_103 (kcl X1726 hx hby d7_104 (o_lcmp X1726 hx hby d7_105 (iN X1726 hx hby d7_106 (own_tltL hp11_7b).2.2.2 (ka X1726 hx hby d7_109 rfl rfl (kaN X1726 hx hby d7_111 rfl rfl k))))))) (gG X1726 hx hby hZ hown (w13 hw) e1726 F1715 d7_112 fun T1727 X1727 e1727 => gO (fun t k => ki X1727 hx hby d7_115 rfl (rI X1727 hx hby hZ e1727 F1717 (.int 3) rfl rfl d7_117 (rI X1727 hx hby hZ e1727 F1710 (.int (-1)) rfl rfl d7_118 (iN X1727 hx hby d7_119 ((if0 _ _).trans (tlt (by decide : (-1 : Int32) < (0 : Int32))).2.1) (ka X1727 hx hby d7_122 rfl rfl (kaN X1727 hx hby d7_124 rfl rfl k)))))) (gG X1727 hx hby hZ hown (w13 hw) e1727 F1715 d7_125 fun T1728 X1728 e1728 => gO (fun t k => ki X1728 hx hby d7_128 rfl (rI X1728 hx hby hZ e1728 F1717 (.int 3) rfl rfl d7_130 (ki X1728 hx hby d7_131 rfl k))) ?_)))
  show OGl _ _ _ _ T1728 (mkF m 133 #[rv o0, iv 0, iv 3, jv 2305843009213693950, sc, iv 1, iv 6, rv b1483, jv (e7b_1 q7), sc, rv b1658, iv 3, iv 2, iv 2, iv 1] [.int 2, .int 3, .ref b1483])
  refine wI X1728 hx hby hZ e1728 F1710 3 rfl (Nat.le_of_ble_eq_true rfl) d7_133 fun T1729 h1729 X1729 e1729 W1729 V1729 => ?_
  have N1729 := Fr.snoc X1729 N1702 g_b1483
  have KK1729 := KK1702.wr W1729 (Or.inr sz_b1483)
  show OGl _ _ _ _ T1729 (mkF m 134 #[rv o0, iv 0, iv 3, jv 2305843009213693950, sc, iv 1, iv 6, rv b1483, jv (e7b_1 q7), sc, rv b1658, iv 3, iv 2, iv 2, iv 1] [])
  have F1730 := (F1715.other W1729 (Or.inl ne_o0_b1483))
  have F1732 := (F1717.other W1729 ne_o9_b1483)
  refine gO (fun t k => ka X1729 hx hby d7_134 rfl rfl (ki X1729 hx hby d7_136 rfl (o_iinc X1729 hx hby (L' := #[rv o0, iv 0, iv 3, jv 2305843009213693950, sc, iv 1, iv 6, rv b1483, jv (e7b_1 q7), sc, rv b1658, iv 4, iv 2, iv 2, iv 1]) d7_138 rfl rfl (kaN X1729 hx hby d7_141 rfl rfl k)))) (gG X1729 hx hby hZ hown (w13 hw) e1729 F1730 d7_142 fun T1731 X1731 e1731 => gO (fun t k => ki X1731 hx hby d7_145 rfl (rI X1731 hx hby hZ e1731 F1732 (.int 3) rfl rfl d7_147 k)) ?_)
  show OGl _ _ _ _ T1731 (mkF m 148 #[rv o0, iv 0, iv 3, jv 2305843009213693950, sc, iv 1, iv 6, rv b1483, jv (e7b_1 q7), sc, rv b1658, iv 4, iv 2, iv 2, iv 1] [.int 3, .int 3, .ref b1658])
  have F1733 := (V1702.other W1729 (Ne.symm ne_b1483_b1658))
  refine wI X1731 hx hby hZ e1731 F1733 3 rfl (Nat.le_of_ble_eq_true rfl) d7_148 fun T1734 h1734 X1734 e1734 W1734 V1734 => ?_
  have N1734 := Fr.snoc X1734 N1729 g_b1658
  have KK1734 := KK1729.wr W1734 (Or.inr sz_b1658)
  show OGl _ _ _ _ T1734 (mkF m 149 #[rv o0, iv 0, iv 3, jv 2305843009213693950, sc, iv 1, iv 6, rv b1483, jv (e7b_1 q7), sc, rv b1658, iv 4, iv 2, iv 2, iv 1] [])
  have F1735 := ((F1703.other W1729 (Or.inl ne_o0_b1483)).other W1734 (Or.inl ne_o0_b1658))
  have F1737 := ((F1705.other W1729 ne_o11_b1483).other W1734 ne_o11_b1658)
  have F1738 := (V1729.other W1734 ne_b1483_b1658)
  have F1739 := ((F1711.other W1729 (Or.inl ne_o0_b1483)).other W1734 (Or.inl ne_o0_b1658))
  have F1741 := ((F1713.other W1729 ne_o1_b1483).other W1734 ne_o1_b1658)
  have F1742 := ((F1706.other W1729 (Or.inl ne_o0_b1483)).other W1734 (Or.inl ne_o0_b1658))
  have F1744 := ((F1708.other W1729 ne_o3_b1483).other W1734 ne_o3_b1658)
  have F1745 := (F1730.other W1734 (Or.inl ne_o0_b1658))
  have F1747 := (F1732.other W1734 ne_o9_b1658)
  refine gO (fun t k => kaN X1734 hx hby d7_149 rfl rfl k) (gG X1734 hx hby hZ hown (w15 hw) e1734 F1735 d7_150 fun T1736 X1736 e1736 => gO (fun t k => ki X1736 hx hby d7_153 rfl (rI X1736 hx hby hZ e1736 F1737 (.int (-1)) rfl rfl d7_155 (si X1736 hx hby (L' := #[rv o0, iv 0, iv 3, jv 2305843009213693950, sc, iv 1, iv 6, rv b1483, jv (e7b_1 q7), sc, rv b1658, iv 4, iv 2, iv (-1), iv 1]) d7_156 rfl (o_goto X1736 hx hby 92 d7_158 rfl (ki X1736 hx hby d7_92 rfl (iY X1736 hx hby 161 d7_94 ((if0 _ _).trans (tlt (by decide : (-1 : Int32) < (0 : Int32))).1) rfl (o_iinc X1736 hx hby (L' := #[rv o0, iv 0, iv 3, jv 2305843009213693950, sc, iv 1, iv 6, rv b1483, jv (e7b_1 q7), sc, rv b1658, iv 4, iv 3, iv (-1), iv 1]) d7_161 rfl rfl (o_goto X1736 hx hby 65 d7_164 rfl (ki X1736 hx hby d7_65 rfl (ki X1736 hx hby d7_67 rfl (cN X1736 hx hby d7_69 (tlt (by decide : (3 : Int32) < (4 : Int32))).2.1 (ka X1736 hx hby d7_72 rfl rfl (ki X1736 hx hby d7_74 rfl (rI X1736 hx hby hZ e1736 F1738 (.int (-1)) rfl rfl d7_76 (iN X1736 hx hby d7_77 ((if0 _ _).trans (tlt (by decide : (-1 : Int32) < (0 : Int32))).2.1) (kaN X1736 hx hby d7_80 rfl rfl k)))))))))))))))) (gG X1736 hx hby hZ hown (w11 hw) e1736 F1739 d7_81 fun T1740 X1740 e1740 => gO (fun t k => ka X1740 hx hby d7_84 rfl rfl (ki X1740 hx hby d7_86 rfl (rI X1740 hx hby hZ e1740 V1734 (.int 3) rfl rfl d7_88 (rI X1740 hx hby hZ e1740 F1741 (.int 10) rfl rfl d7_89 (si X1740 hx hby (L' := #[rv o0, iv 0, iv 3, jv 2305843009213693950, sc, iv 1, iv 6, rv b1483, jv (e7b_1 q7), sc, rv b1658, iv 4, iv 3, iv 10, iv 1]) d7_90 rfl (ki X1740 hx hby d7_92 rfl (iN X1740 hx hby d7_94 ((if0 _ _).trans (flt (by decide : ¬ ((10 : Int32) < (0 : Int32)))).1) (kaN X1740 hx hby d7_97 rfl rfl k)))))))) (gG X1740 hx hby hZ hown (w18 hw) e1740 F1742 d7_98 fun T1743 X1743 e1743 => gO (fun t k => ki X1743 hx hby d7_101 rfl (rJ X1743 hx hby hZ e1743 F1744 (.long 2305843009213693951) rfl rfl d7_103 (kcl X1743 hx hby d7_104 (o_lcmp X1743 hx hby d7_105 (iN X1743 hx hby d7_106 (own_tltL (by decide : (0 : Int64) < (2305843009213693951 : Int64))).2.2.2 (ka X1743 hx hby d7_109 rfl rfl (kaN X1743 hx hby d7_111 rfl rfl k))))))) (gG X1743 hx hby hZ hown (w13 hw) e1743 F1745 d7_112 fun T1746 X1746 e1746 => gO (fun t k => ki X1746 hx hby d7_115 rfl (rI X1746 hx hby hZ e1746 F1747 (.int 4) rfl rfl d7_117 (rI X1746 hx hby hZ e1746 F1738 (.int 14) rfl rfl d7_118 (iY X1746 hx hby 149 d7_119 ((if0 _ _).trans (flt (by decide : ¬ ((14 : Int32) < (0 : Int32)))).2.1) rfl k)))) ?_))))
  show OGl _ _ _ _ T1746 (mkF m 149 #[rv o0, iv 0, iv 3, jv 2305843009213693950, sc, iv 1, iv 6, rv b1483, jv (e7b_1 q7), sc, rv b1658, iv 4, iv 3, iv 10, iv 1] [])
  have F1751 := (((((((((F1656.ext E1658).other W1664 (Or.inl ne_o0_b1658)).other W1668 (Or.inl ne_o0_b1483)).other W1680 (Or.inl ne_o0_b1483)).other W1685 (Or.inl ne_o0_b1658)).other W1697 (Or.inl ne_o0_b1483)).other W1702 (Or.inl ne_o0_b1658)).other W1729 (Or.inl ne_o0_b1483)).other W1734 (Or.inl ne_o0_b1658))
  refine gO (fun t k => kaN X1746 hx hby d7_149 rfl rfl k) (gG X1746 hx hby hZ hown (w15 hw) e1746 F1735 d7_150 fun T1748 X1748 e1748 => gO (fun t k => ki X1748 hx hby d7_153 rfl (rI X1748 hx hby hZ e1748 F1737 (.int 3) rfl rfl d7_155 (si X1748 hx hby (L' := #[rv o0, iv 0, iv 3, jv 2305843009213693950, sc, iv 1, iv 6, rv b1483, jv (e7b_1 q7), sc, rv b1658, iv 4, iv 3, iv 3, iv 1]) d7_156 rfl (o_goto X1748 hx hby 92 d7_158 rfl (ki X1748 hx hby d7_92 rfl (iN X1748 hx hby d7_94 ((if0 _ _).trans (flt (by decide : ¬ ((3 : Int32) < (0 : Int32)))).1) (kaN X1748 hx hby d7_97 rfl rfl k))))))) (gG X1748 hx hby hZ hown (w18 hw) e1748 F1742 d7_98 fun T1749 X1749 e1749 => gO (fun t k => ki X1749 hx hby d7_101 rfl (rJ X1749 hx hby hZ e1749 F1744 (.long 0) rfl rfl d7_103 (kcl X1749 hx hby d7_104 (o_lcmp X1749 hx hby d7_105 (iY X1749 hx hby 149 d7_106 (own_fltL (by decide : ¬ ((0 : Int64) < (0 : Int64)))).2.2.2 rfl (kaN X1749 hx hby d7_149 rfl rfl k)))))) (gG X1749 hx hby hZ hown (w15 hw) e1749 F1735 d7_150 fun T1750 X1750 e1750 => gO (fun t k => ki X1750 hx hby d7_153 rfl (rI X1750 hx hby hZ e1750 F1737 (.int (-1)) rfl rfl d7_155 (si X1750 hx hby (L' := #[rv o0, iv 0, iv 3, jv 2305843009213693950, sc, iv 1, iv 6, rv b1483, jv (e7b_1 q7), sc, rv b1658, iv 4, iv 3, iv (-1), iv 1]) d7_156 rfl (o_goto X1750 hx hby 92 d7_158 rfl (ki X1750 hx hby d7_92 rfl (iY X1750 hx hby 161 d7_94 ((if0 _ _).trans (tlt (by decide : (-1 : Int32) < (0 : Int32))).1) rfl (o_iinc X1750 hx hby (L' := #[rv o0, iv 0, iv 3, jv 2305843009213693950, sc, iv 1, iv 6, rv b1483, jv (e7b_1 q7), sc, rv b1658, iv 4, iv 4, iv (-1), iv 1]) d7_161 rfl rfl (o_goto X1750 hx hby 65 d7_164 rfl (ki X1750 hx hby d7_65 rfl (ki X1750 hx hby d7_67 rfl (cY X1750 hx hby 167 d7_69 (flt (by decide : ¬ ((4 : Int32) < (4 : Int32)))).2.1 rfl (ka X1750 hx hby d7_167 rfl rfl (ki X1750 hx hby d7_169 rfl (rI X1750 hx hby hZ e1750 F1738 (.int (-1)) rfl rfl d7_171 (iN X1750 hx hby d7_172 ((if0 _ _).trans (tlt (by decide : (-1 : Int32) < (0 : Int32))).2.1) (kaN X1750 hx hby d7_175 rfl rfl (kaN X1750 hx hby d7_176 rfl rfl k))))))))))))))))) (gG X1750 hx hby hZ hown (w25 hw) e1750 F1751 d7_177 fun T1752 X1752 e1752 => ?_))))
  show OGl _ _ _ _ T1752 (mkF m 180 #[rv o0, iv 0, iv 3, jv 2305843009213693950, sc, iv 1, iv 6, rv b1483, jv (e7b_1 q7), sc, rv b1658, iv 4, iv 4, iv (-1), iv 1] [.int 8, .ref o0])
  obtain ⟨T1753, h1753, k1753, X1753, e1753, E1753, A1753, st1753⟩ := newP (aty := .boolean) X1752 hx hZ (w57 hw) e1752 (g := (mkF m 180 #[rv o0, iv 0, iv 3, jv 2305843009213693950, sc, iv 1, iv 6, rv b1483, jv (e7b_1 q7), sc, rv b1658, iv 4, iv 4, iv (-1), iv 1] [.int 8, .ref o0])) rfl (hb hby d7_180) rfl (by decide) (cap := 8) (by decide) (by decide) (by decide) (by decide)
  obtain ⟨b1753, gb1753⟩ : ∃ z, z = h1734.size := ⟨_, rfl⟩
  rw [← gb1753] at A1753 st1753
  have ne_b1483_b1753 : b1483 ≠ b1753 := Nat.ne_of_lt (Nat.lt_of_lt_of_eq F1738.lt gb1753.symm)
  have F1754 := (((((((((F1659.ext E1658).other W1664 ne_b1487_b1658).other W1668 (Ne.symm ne_b1483_b1487)).other W1680 (Ne.symm ne_b1483_b1487)).other W1685 ne_b1487_b1658).other W1697 (Ne.symm ne_b1483_b1487)).other W1702 ne_b1487_b1658).other W1729 (Ne.symm ne_b1483_b1487)).other W1734 ne_b1487_b1658)
  have ne_b1487_b1753 : b1487 ≠ b1753 := Nat.ne_of_lt (Nat.lt_of_lt_of_eq F1754.lt gb1753.symm)
  have ne_b1658_b1753 : b1658 ≠ b1753 := Nat.ne_of_lt (Nat.lt_of_lt_of_eq V1734.lt gb1753.symm)
  have ne_o0_b1753 : o0 ≠ b1753 := Nat.ne_of_lt (Nat.lt_of_lt_of_eq F1751.lt gb1753.symm)
  have ne_o1_b1753 : o1 ≠ b1753 := Nat.ne_of_lt (Nat.lt_of_lt_of_eq F1741.lt gb1753.symm)
  have ne_o11_b1753 : o11 ≠ b1753 := Nat.ne_of_lt (Nat.lt_of_lt_of_eq F1737.lt gb1753.symm)
  have ne_o3_b1753 : o3 ≠ b1753 := Nat.ne_of_lt (Nat.lt_of_lt_of_eq F1744.lt gb1753.symm)
  have ne_o9_b1753 : o9 ≠ b1753 := Nat.ne_of_lt (Nat.lt_of_lt_of_eq F1747.lt gb1753.symm)
  have sz_b1753 : h0.size ≤ b1753 := Nat.le_trans KK1734.1 (Nat.le_of_eq gb1753.symm)
  have g_b1753 : n0 ≤ b1753 := Nat.le_trans Z0 sz_b1753
  have V1753 : Arv Z h1753 b1753 k1753 .boolean (8 : Int32) [.int 0, .int 0, .int 0, .int 0, .int 0, .int 0, .int 0, .int 0] (.int 0) := (Arv.new A1753 (by decide)).pad (pad_rep [] (.int 0) 8)
  have KK1753 : Keep h0 h1753 [o3, o0] := KK1734.ext E1753
  refine gO st1753 ?_
  show OGl _ _ _ _ T1753 (mkF m 182 #[rv o0, iv 0, iv 3, jv 2305843009213693950, sc, iv 1, iv 6, rv b1483, jv (e7b_1 q7), sc, rv b1658, iv 4, iv 4, iv (-1), iv 1] [.ref b1753, .ref o0])
  have F1755 := ((((((((((((((((((((((((((((((((F22_o0.ext E1483).keep K1484 (ninS ne_o0_b1483 nin0)).ext E1487).other W1488 (Or.inl ne_o0_b1487)).other W1492 (Or.inl ne_o0_b1483)).other W1504 (Or.inl ne_o0_b1483)).other W1509 (Or.inl ne_o0_b1487)).other W1521 (Or.inl ne_o0_b1483)).other W1526 (Or.inl ne_o0_b1487)).other W1547 (Or.inl ne_o0_b1483)).other W1552 (Or.inl ne_o0_b1487)).other W1569 (Or.inl ne_o0_b1483)).other W1574 (Or.inl ne_o0_b1487)).other W1589 (Or.inl ne_o0_b1483)).other W1594 (Or.inl ne_o0_b1487)).other W1615 (Or.inl ne_o0_o3)).other W1619 (Or.inl ne_o0_o3)).other W1626 (Or.inl ne_o0_o3)).other W1630 (Or.inl ne_o0_o3)).other W1637 (Or.inl ne_o0_o3)).other W1641 (Or.inl ne_o0_o3)).keep K1646 (ninS ne_o0_b1483 nin0)).ext E1658).other W1664 (Or.inl ne_o0_b1658)).other W1668 (Or.inl ne_o0_b1483)).other W1680 (Or.inl ne_o0_b1483)).other W1685 (Or.inl ne_o0_b1658)).other W1697 (Or.inl ne_o0_b1483)).other W1702 (Or.inl ne_o0_b1658)).other W1729 (Or.inl ne_o0_b1483)).other W1734 (Or.inl ne_o0_b1658)).ext E1753)
  have F1756 := ((((((((((((((((((((((((((((((((E_o0.ext E1483).keep K1484).ext E1487).wr W1488).wr W1492).wr W1504).wr W1509).wr W1521).wr W1526).wr W1547).wr W1552).wr W1569).wr W1574).wr W1589).wr W1594).wr W1615).wr W1619).wr W1626).wr W1630).wr W1637).wr W1641).keep K1646).ext E1658).wr W1664).wr W1668).wr W1680).wr W1685).wr W1697).wr W1702).wr W1729).wr W1734).ext E1753)
  obtain ⟨T1757, h1757, X1757, e1757, W1757, st1757⟩ := putF X1753 hx hZ hown (host := "") (Or.inl (w58 hw)) Via.refl e1753 F1755 F1756 (Or.inl (w59 hw)) (w2 hw) (ty := (.array .boolean)) (by decide) rfl rfl (g := (mkF m 182 #[rv o0, iv 0, iv 3, jv 2305843009213693950, sc, iv 1, iv 6, rv b1483, jv (e7b_1 q7), sc, rv b1658, iv 4, iv 4, iv (-1), iv 1] [.ref b1753, .ref o0])) rfl rfl (hb hby d7_182)
  refine gO st1757 ?_
  have N1757 := Fr.snoc X1757 N1734 g_o0
  have Fw1757 := F1755.same W1757
  have KK1757 := KK1753.wr W1757 (Or.inl (List.mem_of_getElem? (i := 1) rfl))
  show OGl _ _ _ _ T1757 (mkF m 185 #[rv o0, iv 0, iv 3, jv 2305843009213693950, sc, iv 1, iv 6, rv b1483, jv (e7b_1 q7), sc, rv b1658, iv 4, iv 4, iv (-1), iv 1] [])
  have F1759 := ((V1734.ext E1753).other W1757 (Ne.symm ne_o0_b1658))
  refine gO (fun t k => kc X1757 hx hby d7_185 (si X1757 hx hby (L' := #[rv o0, iv 0, iv 3, jv 2305843009213693950, sc, iv 1, iv 6, rv b1483, jv (e7b_1 q7), sc, rv b1658, iv 4, iv 0, iv (-1), iv 1]) d7_186 rfl (ki X1757 hx hby d7_188 rfl (ki X1757 hx hby d7_190 rfl (cN X1757 hx hby d7_192 (tlt (by decide : (0 : Int32) < (4 : Int32))).2.1 (kaN X1757 hx hby d7_195 rfl rfl k)))))) (gG X1757 hx hby hZ hown (w58 hw) e1757 Fw1757 d7_196 fun T1758 X1758 e1758 => gO (fun t k => ka X1758 hx hby d7_199 rfl rfl (ki X1758 hx hby d7_201 rfl (rI X1758 hx hby hZ e1758 F1759 (.int 1) rfl rfl d7_203 (kc X1758 hx hby d7_204 k)))) ?_)
  show OGl _ _ _ _ T1758 (mkF m 205 #[rv o0, iv 0, iv 3, jv 2305843009213693950, sc, iv 1, iv 6, rv b1483, jv (e7b_1 q7), sc, rv b1658, iv 4, iv 0, iv (-1), iv 1] [.int 1, .int 1, .ref b1753])
  have F1760 := (V1753.other W1757 (Ne.symm ne_o0_b1753))
  refine wZ X1758 hx hby hZ e1758 F1760 1 rfl (Nat.le_of_ble_eq_true rfl) d7_205 fun T1761 h1761 X1761 e1761 W1761 V1761 => ?_
  have N1761 := Fr.snoc X1761 N1757 g_b1753
  have KK1761 := KK1757.wr W1761 (Or.inr sz_b1753)
  show OGl _ _ _ _ T1761 (mkF m 206 #[rv o0, iv 0, iv 3, jv 2305843009213693950, sc, iv 1, iv 6, rv b1483, jv (e7b_1 q7), sc, rv b1658, iv 4, iv 0, iv (-1), iv 1] [])
  have F1762 := (Fw1757.other W1761 (Or.inl ne_o0_b1753))
  have F1764 := (F1759.other W1761 ne_b1658_b1753)
  refine gO (fun t k => o_iinc X1761 hx hby (L' := #[rv o0, iv 0, iv 3, jv 2305843009213693950, sc, iv 1, iv 6, rv b1483, jv (e7b_1 q7), sc, rv b1658, iv 4, iv 1, iv (-1), iv 1]) d7_206 rfl rfl (o_goto X1761 hx hby 188 d7_209 rfl (ki X1761 hx hby d7_188 rfl (ki X1761 hx hby d7_190 rfl (cN X1761 hx hby d7_192 (tlt (by decide : (1 : Int32) < (4 : Int32))).2.1 (kaN X1761 hx hby d7_195 rfl rfl k)))))) (gG X1761 hx hby hZ hown (w58 hw) e1761 F1762 d7_196 fun T1763 X1763 e1763 => gO (fun t k => ka X1763 hx hby d7_199 rfl rfl (ki X1763 hx hby d7_201 rfl (rI X1763 hx hby hZ e1763 F1764 (.int 4) rfl rfl d7_203 (kc X1763 hx hby d7_204 k)))) ?_)
  show OGl _ _ _ _ T1763 (mkF m 205 #[rv o0, iv 0, iv 3, jv 2305843009213693950, sc, iv 1, iv 6, rv b1483, jv (e7b_1 q7), sc, rv b1658, iv 4, iv 1, iv (-1), iv 1] [.int 1, .int 4, .ref b1753])
  refine wZ X1763 hx hby hZ e1763 V1761 4 rfl (Nat.le_of_ble_eq_true rfl) d7_205 fun T1765 h1765 X1765 e1765 W1765 V1765 => ?_
  have N1765 := Fr.snoc X1765 N1761 g_b1753
  have KK1765 := KK1761.wr W1765 (Or.inr sz_b1753)
  show OGl _ _ _ _ T1765 (mkF m 206 #[rv o0, iv 0, iv 3, jv 2305843009213693950, sc, iv 1, iv 6, rv b1483, jv (e7b_1 q7), sc, rv b1658, iv 4, iv 1, iv (-1), iv 1] [])
  have F1766 := (F1762.other W1765 (Or.inl ne_o0_b1753))
  have F1768 := (F1764.other W1765 ne_b1658_b1753)
  refine gO (fun t k => o_iinc X1765 hx hby (L' := #[rv o0, iv 0, iv 3, jv 2305843009213693950, sc, iv 1, iv 6, rv b1483, jv (e7b_1 q7), sc, rv b1658, iv 4, iv 2, iv (-1), iv 1]) d7_206 rfl rfl (o_goto X1765 hx hby 188 d7_209 rfl (ki X1765 hx hby d7_188 rfl (ki X1765 hx hby d7_190 rfl (cN X1765 hx hby d7_192 (tlt (by decide : (2 : Int32) < (4 : Int32))).2.1 (kaN X1765 hx hby d7_195 rfl rfl k)))))) (gG X1765 hx hby hZ hown (w58 hw) e1765 F1766 d7_196 fun T1767 X1767 e1767 => gO (fun t k => ka X1767 hx hby d7_199 rfl rfl (ki X1767 hx hby d7_201 rfl (rI X1767 hx hby hZ e1767 F1768 (.int 2) rfl rfl d7_203 (kc X1767 hx hby d7_204 k)))) ?_)
  show OGl _ _ _ _ T1767 (mkF m 205 #[rv o0, iv 0, iv 3, jv 2305843009213693950, sc, iv 1, iv 6, rv b1483, jv (e7b_1 q7), sc, rv b1658, iv 4, iv 2, iv (-1), iv 1] [.int 1, .int 2, .ref b1753])
  refine wZ X1767 hx hby hZ e1767 V1765 2 rfl (Nat.le_of_ble_eq_true rfl) d7_205 fun T1769 h1769 X1769 e1769 W1769 V1769 => ?_
  have N1769 := Fr.snoc X1769 N1765 g_b1753
  have KK1769 := KK1765.wr W1769 (Or.inr sz_b1753)
  show OGl _ _ _ _ T1769 (mkF m 206 #[rv o0, iv 0, iv 3, jv 2305843009213693950, sc, iv 1, iv 6, rv b1483, jv (e7b_1 q7), sc, rv b1658, iv 4, iv 2, iv (-1), iv 1] [])
  have F1770 := (F1766.other W1769 (Or.inl ne_o0_b1753))
  have F1772 := (F1768.other W1769 ne_b1658_b1753)
  refine gO (fun t k => o_iinc X1769 hx hby (L' := #[rv o0, iv 0, iv 3, jv 2305843009213693950, sc, iv 1, iv 6, rv b1483, jv (e7b_1 q7), sc, rv b1658, iv 4, iv 3, iv (-1), iv 1]) d7_206 rfl rfl (o_goto X1769 hx hby 188 d7_209 rfl (ki X1769 hx hby d7_188 rfl (ki X1769 hx hby d7_190 rfl (cN X1769 hx hby d7_192 (tlt (by decide : (3 : Int32) < (4 : Int32))).2.1 (kaN X1769 hx hby d7_195 rfl rfl k)))))) (gG X1769 hx hby hZ hown (w58 hw) e1769 F1770 d7_196 fun T1771 X1771 e1771 => gO (fun t k => ka X1771 hx hby d7_199 rfl rfl (ki X1771 hx hby d7_201 rfl (rI X1771 hx hby hZ e1771 F1772 (.int 3) rfl rfl d7_203 (kc X1771 hx hby d7_204 k)))) ?_)
  show OGl _ _ _ _ T1771 (mkF m 205 #[rv o0, iv 0, iv 3, jv 2305843009213693950, sc, iv 1, iv 6, rv b1483, jv (e7b_1 q7), sc, rv b1658, iv 4, iv 3, iv (-1), iv 1] [.int 1, .int 3, .ref b1753])
  refine wZ X1771 hx hby hZ e1771 V1769 3 rfl (Nat.le_of_ble_eq_true rfl) d7_205 fun T1773 h1773 X1773 e1773 W1773 V1773 => ?_
  have N1773 := Fr.snoc X1773 N1769 g_b1753
  have KK1773 := KK1769.wr W1773 (Or.inr sz_b1753)
  show OGl _ _ _ _ T1773 (mkF m 206 #[rv o0, iv 0, iv 3, jv 2305843009213693950, sc, iv 1, iv 6, rv b1483, jv (e7b_1 q7), sc, rv b1658, iv 4, iv 3, iv (-1), iv 1] [])
  refine gO (fun t k => o_iinc X1773 hx hby (L' := #[rv o0, iv 0, iv 3, jv 2305843009213693950, sc, iv 1, iv 6, rv b1483, jv (e7b_1 q7), sc, rv b1658, iv 4, iv 4, iv (-1), iv 1]) d7_206 rfl rfl (o_goto X1773 hx hby 188 d7_209 rfl (ki X1773 hx hby d7_188 rfl (ki X1773 hx hby d7_190 rfl (cY X1773 hx hby 212 d7_192 (flt (by decide : ¬ ((4 : Int32) < (4 : Int32)))).2.1 rfl (kl X1773 hx hby d7_212 rfl k)))))) ?_
  show OGl _ _ _ _ T1773 (mkF m 214 #[rv o0, iv 0, iv 3, jv 2305843009213693950, sc, iv 1, iv 6, rv b1483, jv (e7b_1 q7), sc, rv b1658, iv 4, iv 4, iv (-1), iv 1] [.long (e7b_1 q7)])
  obtain ⟨fs, hr, hrun, hended, hW, hsame⟩ := X1773.leave (v := some (.long (e7b_1 q7))) (fun h => by rw [Bd.returns] at h; cases h) (BodyLoose.notSynchronized Bd)
  refine ⟨_, _, X1773.lreturnOut hx Bd.returns (hb hby d7_214) hr, hrun, hended, _, _, rfl, ?_, ⟨_, rfl⟩, hW, hsame.mono (by decide) (by decide)⟩
  show Q7b Z o0 o1 k2 o3 k4 q5 q6 q7 q8 o9 k10 o11 k12 h0 n0 _ T1773.heap _
  rw [e1773]
  have F1774 := ((((((F1744.ext E1753).other W1757 (Ne.symm ne_o0_o3)).other W1761 ne_o3_b1753).other W1765 ne_o3_b1753).other W1769 ne_o3_b1753).other W1773 ne_o3_b1753)
  have F1775 := (((((((((((((F1665.other W1668 (Or.inl ne_o0_b1483)).other W1680 (Or.inl ne_o0_b1483)).other W1685 (Or.inl ne_o0_b1658)).other W1697 (Or.inl ne_o0_b1483)).other W1702 (Or.inl ne_o0_b1658)).other W1729 (Or.inl ne_o0_b1483)).other W1734 (Or.inl ne_o0_b1658)).ext E1753).other W1757 (Or.inr (sn32_59 hw))).other W1761 (Or.inl ne_o0_b1753)).other W1765 (Or.inl ne_o0_b1753)).other W1769 (Or.inl ne_o0_b1753)).other W1773 (Or.inl ne_o0_b1753))
  have F1776 := ((((((F1751.ext E1753).other W1757 (Or.inr (sn26_59 hw))).other W1761 (Or.inl ne_o0_b1753)).other W1765 (Or.inl ne_o0_b1753)).other W1769 (Or.inl ne_o0_b1753)).other W1773 (Or.inl ne_o0_b1753))
  have F1777 := ((((((F1739.ext E1753).other W1757 (Or.inr (sn12_59 hw))).other W1761 (Or.inl ne_o0_b1753)).other W1765 (Or.inl ne_o0_b1753)).other W1769 (Or.inl ne_o0_b1753)).other W1773 (Or.inl ne_o0_b1753))
  have F1778 := ((((((F1735.ext E1753).other W1757 (Or.inr (sn16_59 hw))).other W1761 (Or.inl ne_o0_b1753)).other W1765 (Or.inl ne_o0_b1753)).other W1769 (Or.inl ne_o0_b1753)).other W1773 (Or.inl ne_o0_b1753))
  have F1779 := ((((((F1742.ext E1753).other W1757 (Or.inr (sn19_59 hw))).other W1761 (Or.inl ne_o0_b1753)).other W1765 (Or.inl ne_o0_b1753)).other W1769 (Or.inl ne_o0_b1753)).other W1773 (Or.inl ne_o0_b1753))
  have F1780 := (F1770.other W1773 (Or.inl ne_o0_b1753))
  have F1781 := ((((((F1745.ext E1753).other W1757 (Or.inr (sn14_59 hw))).other W1761 (Or.inl ne_o0_b1753)).other W1765 (Or.inl ne_o0_b1753)).other W1769 (Or.inl ne_o0_b1753)).other W1773 (Or.inl ne_o0_b1753))
  exact ⟨b1753, k1753, rfl, N1773, KK1773, sz_b1753, F1774, F1775, F1776, F1777, F1778, F1779, F1780, F1781, V1773⟩
def e0_0 (q0 : Int64) : Int64 := (q0 &&& (281474976710655 : Int64))
def e0_1 (q1 : Int64) : Int64 := (q1 &&& (281474976710655 : Int64))
def e0_2 (q2 : Int64) : Int64 := (q2 &&& (281474976710655 : Int64))
def e0_3 (q3 : Int64) : Int64 := (q3 &&& (281474976710655 : Int64))
def e0_4 (p4 : Int32) : Int32 := (if (p4 &&& (1 : Int32)) = (0 : Int32) then (0 : Int32) else (1 : Int32))
theorem own_rg0 (q : Int64) : 1 ≤ ((e0_0 q) + (1 : Int64)).toInt ∧ ((e0_0 q) + (1 : Int64)).toInt ≤ 281474976710656 := by
  have h := c_maskL q 281474976710655 48 (by decide) (by decide)
  have a := c_ladd (q &&& 281474976710655) 1
  have r := rng64 ((q &&& 281474976710655) + 1)
  have k : (1 : Int64).toInt = 1 := by decide
  unfold e0_0
  omega
theorem own_rg1 (q : Int64) : 1 ≤ ((e0_1 q) + (1 : Int64)).toInt ∧ ((e0_1 q) + (1 : Int64)).toInt ≤ 281474976710656 := own_rg0 q
theorem own_ta {x : Int64} (h : 1 ≤ x.toInt ∧ x.toInt ≤ 281474976710656) : t9a_0 x = x := by
  have k : (2305843009213693950 : Int64).toInt = 2305843009213693950 := by decide
  unfold t9a_0
  rw [if_pos (by rw [Int64.lt_iff_toInt_lt]; omega)]
theorem own_tb {x : Int64} (h : 1 ≤ x.toInt ∧ x.toInt ≤ 281474976710656) : t9b_0 x = x := by
  have k : (2305843009213693951 : Int64).toInt = 2305843009213693951 := by decide
  unfold t9b_0
  rw [if_neg (by rw [Int64.lt_iff_toInt_lt]; omega)]
theorem own_e7 {a b : Int64} (ha : 1 ≤ a.toInt ∧ a.toInt ≤ 281474976710656) (hb : 1 ≤ b.toInt ∧ b.toInt ≤ 281474976710656) : e7_0 a b = if a < b then a else b := by
  unfold e7_0
  rw [own_ta hb, own_tb hb]
  unfold t9c_0
  split
  · exact own_tb ha
  · exact own_tb hb
theorem own_mn {a b : Int64} (ha : 1 ≤ a.toInt ∧ a.toInt ≤ 281474976710656) (hb : 1 ≤ b.toInt ∧ b.toInt ≤ 281474976710656) : 1 ≤ (e7_0 a b).toInt ∧ (e7_0 a b).toInt ≤ 281474976710656 := by
  rw [own_e7 ha hb]
  split
  · exact ha
  · exact hb
theorem own_f1 {x : Int64} (h : 1 ≤ x.toInt ∧ x.toInt ≤ 281474976710656) : (0 : Int64) < x := by
  have k : (0 : Int64).toInt = 0 := by decide
  rw [Int64.lt_iff_toInt_lt]; omega
theorem own_f2 {x : Int64} (h : 1 ≤ x.toInt ∧ x.toInt ≤ 281474976710656) : ((0 : Int64) + x) < (2305843009213693950 : Int64) := by
  have k : (2305843009213693950 : Int64).toInt = 2305843009213693950 := by decide
  rw [Int64.zero_add, Int64.lt_iff_toInt_lt]; omega
theorem own_f3 {x : Int64} (h : 1 ≤ x.toInt ∧ x.toInt ≤ 281474976710656) : (0 : Int64) < ((2305843009213693951 : Int64) - x) := by
  have k : (2305843009213693951 : Int64).toInt = 2305843009213693951 := by decide
  have k0 : (0 : Int64).toInt = 0 := by decide
  have a := c_lsub 2305843009213693951 x
  have r := rng64 (2305843009213693951 - x)
  rw [Int64.lt_iff_toInt_lt]; omega
theorem own_f4 {x : Int64} (h : 1 ≤ x.toInt ∧ x.toInt ≤ 281474976710656) : (0 : Int64) < ((0 : Int64) + x) := by
  rw [Int64.zero_add]; exact own_f1 h
theorem own_f5 (x : Int64) : ¬ ((0 : Int64) < x - x) := by
  rw [Int64.sub_self]; decide
theorem own_f6 {x y : Int64} (hx : 1 ≤ x.toInt ∧ x.toInt ≤ 281474976710656) (hy : 1 ≤ y.toInt ∧ y.toInt ≤ 281474976710656) (h : x < y) : (0 : Int64) < y - x := by
  have k0 : (0 : Int64).toInt = 0 := by decide
  have a := c_lsub y x
  have r := rng64 (y - x)
  rw [Int64.lt_iff_toInt_lt] at h ⊢; omega
theorem own_bb {b : Int64} (hb : 1 ≤ b.toInt ∧ b.toInt ≤ 281474976710656) : t9b_0 (t9a_0 b) = b := by rw [own_ta hb, own_tb hb]
theorem own_eq {x y : Int64} (h1 : ¬ x < y) (h2 : ¬ y < x) : x = y := by
  rw [Int64.lt_iff_toInt_lt] at h1 h2
  exact Int64.toInt_inj.mp (by omega)
theorem own_pr0 (q0 q1 : Int64) (h1 : ((e0_0 q0) + (1 : Int64)) < ((e0_1 q1) + (1 : Int64))) : (0 : Int64) < ((e0_0 q0) + (1 : Int64)) := by
  have r0 := own_rg0 q0
  have r1 := own_rg1 q1
  have m := own_mn r0 r1
  exact own_f1 r0
theorem own_pr1 (q0 q1 : Int64) (h1 : ((e0_0 q0) + (1 : Int64)) < ((e0_1 q1) + (1 : Int64))) : (0 : Int64) < ((e0_1 q1) + (1 : Int64)) := by
  have r0 := own_rg0 q0
  have r1 := own_rg1 q1
  have m := own_mn r0 r1
  exact own_f1 r1
theorem own_pr2 (q0 q1 : Int64) (h1 : ((e0_0 q0) + (1 : Int64)) < ((e0_1 q1) + (1 : Int64))) : ((0 : Int64) + (e7_0 ((e0_0 q0) + (1 : Int64)) ((e0_1 q1) + (1 : Int64)))) < (2305843009213693950 : Int64) := by
  have r0 := own_rg0 q0
  have r1 := own_rg1 q1
  have m := own_mn r0 r1
  exact own_f2 m
theorem own_pr3 (q0 q1 : Int64) (h1 : ((e0_0 q0) + (1 : Int64)) < ((e0_1 q1) + (1 : Int64))) : (0 : Int64) < (e7_1 ((e0_0 q0) + (1 : Int64)) ((e0_1 q1) + (1 : Int64))) := by
  have r0 := own_rg0 q0
  have r1 := own_rg1 q1
  have m := own_mn r0 r1
  exact own_f3 m
theorem own_pr4 (q0 q1 : Int64) (h1 : ((e0_0 q0) + (1 : Int64)) < ((e0_1 q1) + (1 : Int64))) : (0 : Int64) < ((0 : Int64) + (e7_0 ((e0_0 q0) + (1 : Int64)) ((e0_1 q1) + (1 : Int64)))) := by
  have r0 := own_rg0 q0
  have r1 := own_rg1 q1
  have m := own_mn r0 r1
  exact own_f4 m
theorem own_pr5 (q0 q1 : Int64) (h1 : ((e0_0 q0) + (1 : Int64)) < ((e0_1 q1) + (1 : Int64))) : ¬ ((0 : Int64) < (((e0_0 q0) + (1 : Int64)) - (e7_0 ((e0_0 q0) + (1 : Int64)) ((e0_1 q1) + (1 : Int64))))) := by
  have r0 := own_rg0 q0
  have r1 := own_rg1 q1
  have m := own_mn r0 r1
  have e : (e7_0 ((e0_0 q0) + (1 : Int64)) ((e0_1 q1) + (1 : Int64))) = ((e0_0 q0) + (1 : Int64)) := (own_e7 r0 r1).trans (if_pos h1)
  show ¬ (0 : Int64) < (((e0_0 q0) + (1 : Int64)) - (e7_0 ((e0_0 q0) + (1 : Int64)) ((e0_1 q1) + (1 : Int64))))
  rw [e]
  exact own_f5 _
def e0_5 (q0 : Int64) (q1 : Int64) : Int64 := ((0 : Int64) + (e7_0 ((e0_0 q0) + (1 : Int64)) ((e0_1 q1) + (1 : Int64))))
def e0_6 (q0 : Int64) (q1 : Int64) : Int64 := (t9c_0 ((e0_0 q0) + (1 : Int64)) ((e0_1 q1) + (1 : Int64)))
theorem own_pr6 (q0 q1 : Int64) (h1 : ¬ (((e0_0 q0) + (1 : Int64)) < ((e0_1 q1) + (1 : Int64)))) (h2 : ((e0_1 q1) + (1 : Int64)) < ((e0_0 q0) + (1 : Int64))) : (0 : Int64) < ((e0_0 q0) + (1 : Int64)) := by
  have r0 := own_rg0 q0
  have r1 := own_rg1 q1
  have m := own_mn r0 r1
  exact own_f1 r0
theorem own_pr7 (q0 q1 : Int64) (h1 : ¬ (((e0_0 q0) + (1 : Int64)) < ((e0_1 q1) + (1 : Int64)))) (h2 : ((e0_1 q1) + (1 : Int64)) < ((e0_0 q0) + (1 : Int64))) : (0 : Int64) < ((e0_1 q1) + (1 : Int64)) := by
  have r0 := own_rg0 q0
  have r1 := own_rg1 q1
  have m := own_mn r0 r1
  exact own_f1 r1
theorem own_pr8 (q0 q1 : Int64) (h1 : ¬ (((e0_0 q0) + (1 : Int64)) < ((e0_1 q1) + (1 : Int64)))) (h2 : ((e0_1 q1) + (1 : Int64)) < ((e0_0 q0) + (1 : Int64))) : ((0 : Int64) + (e7_0 ((e0_0 q0) + (1 : Int64)) ((e0_1 q1) + (1 : Int64)))) < (2305843009213693950 : Int64) := by
  have r0 := own_rg0 q0
  have r1 := own_rg1 q1
  have m := own_mn r0 r1
  exact own_f2 m
theorem own_pr9 (q0 q1 : Int64) (h1 : ¬ (((e0_0 q0) + (1 : Int64)) < ((e0_1 q1) + (1 : Int64)))) (h2 : ((e0_1 q1) + (1 : Int64)) < ((e0_0 q0) + (1 : Int64))) : (0 : Int64) < (e7_1 ((e0_0 q0) + (1 : Int64)) ((e0_1 q1) + (1 : Int64))) := by
  have r0 := own_rg0 q0
  have r1 := own_rg1 q1
  have m := own_mn r0 r1
  exact own_f3 m
theorem own_pr10 (q0 q1 : Int64) (h1 : ¬ (((e0_0 q0) + (1 : Int64)) < ((e0_1 q1) + (1 : Int64)))) (h2 : ((e0_1 q1) + (1 : Int64)) < ((e0_0 q0) + (1 : Int64))) : (0 : Int64) < ((0 : Int64) + (e7_0 ((e0_0 q0) + (1 : Int64)) ((e0_1 q1) + (1 : Int64)))) := by
  have r0 := own_rg0 q0
  have r1 := own_rg1 q1
  have m := own_mn r0 r1
  exact own_f4 m
theorem own_pr11 (q0 q1 : Int64) (h1 : ¬ (((e0_0 q0) + (1 : Int64)) < ((e0_1 q1) + (1 : Int64)))) (h2 : ((e0_1 q1) + (1 : Int64)) < ((e0_0 q0) + (1 : Int64))) : ((0 : Int64) + (e7a_0 ((e0_0 q0) + (1 : Int64)) ((e0_1 q1) + (1 : Int64)))) < (2305843009213693950 : Int64) := by
  have r0 := own_rg0 q0
  have r1 := own_rg1 q1
  have m := own_mn r0 r1
  exact own_f2 m
theorem own_pr12 (q0 q1 : Int64) (h1 : ¬ (((e0_0 q0) + (1 : Int64)) < ((e0_1 q1) + (1 : Int64)))) (h2 : ((e0_1 q1) + (1 : Int64)) < ((e0_0 q0) + (1 : Int64))) : (0 : Int64) < (e7a_1 ((e0_0 q0) + (1 : Int64)) ((e0_1 q1) + (1 : Int64))) := by
  have r0 := own_rg0 q0
  have r1 := own_rg1 q1
  have m := own_mn r0 r1
  exact own_f3 m
theorem own_pr13 (q0 q1 : Int64) (h1 : ¬ (((e0_0 q0) + (1 : Int64)) < ((e0_1 q1) + (1 : Int64)))) (h2 : ((e0_1 q1) + (1 : Int64)) < ((e0_0 q0) + (1 : Int64))) : (0 : Int64) < ((0 : Int64) + (e7a_0 ((e0_0 q0) + (1 : Int64)) ((e0_1 q1) + (1 : Int64)))) := by
  have r0 := own_rg0 q0
  have r1 := own_rg1 q1
  have m := own_mn r0 r1
  exact own_f4 m
theorem own_pr14 (q0 q1 : Int64) (h1 : ¬ (((e0_0 q0) + (1 : Int64)) < ((e0_1 q1) + (1 : Int64)))) (h2 : ((e0_1 q1) + (1 : Int64)) < ((e0_0 q0) + (1 : Int64))) : (0 : Int64) < (((e0_0 q0) + (1 : Int64)) - (e7a_0 ((e0_0 q0) + (1 : Int64)) ((e0_1 q1) + (1 : Int64)))) := by
  have r0 := own_rg0 q0
  have r1 := own_rg1 q1
  have m := own_mn r0 r1
  have e : (e7_0 ((e0_0 q0) + (1 : Int64)) ((e0_1 q1) + (1 : Int64))) = ((e0_1 q1) + (1 : Int64)) := (own_e7 r0 r1).trans (if_neg h1)
  show (0 : Int64) < (((e0_0 q0) + (1 : Int64)) - (e7_0 ((e0_0 q0) + (1 : Int64)) ((e0_1 q1) + (1 : Int64))))
  rw [e]
  exact own_f6 r1 r0 h2
theorem own_pr15 (q0 q1 : Int64) (h1 : ¬ (((e0_0 q0) + (1 : Int64)) < ((e0_1 q1) + (1 : Int64)))) (h2 : ((e0_1 q1) + (1 : Int64)) < ((e0_0 q0) + (1 : Int64))) : ¬ ((0 : Int64) < (((e0_1 q1) + (1 : Int64)) - (e7a_0 ((e0_0 q0) + (1 : Int64)) ((e0_1 q1) + (1 : Int64))))) := by
  have r0 := own_rg0 q0
  have r1 := own_rg1 q1
  have m := own_mn r0 r1
  have e : (e7_0 ((e0_0 q0) + (1 : Int64)) ((e0_1 q1) + (1 : Int64))) = ((e0_1 q1) + (1 : Int64)) := (own_e7 r0 r1).trans (if_neg h1)
  show ¬ (0 : Int64) < (((e0_1 q1) + (1 : Int64)) - (e7_0 ((e0_0 q0) + (1 : Int64)) ((e0_1 q1) + (1 : Int64))))
  rw [e]
  exact own_f5 _
def e0_7 (q0 : Int64) (q1 : Int64) : Int64 := ((0 : Int64) + (e7a_0 ((e0_0 q0) + (1 : Int64)) ((e0_1 q1) + (1 : Int64))))
theorem own_pr16 (q0 q1 : Int64) (h1 : ¬ (((e0_0 q0) + (1 : Int64)) < ((e0_1 q1) + (1 : Int64)))) (h2 : ¬ (((e0_1 q1) + (1 : Int64)) < ((e0_0 q0) + (1 : Int64)))) : (0 : Int64) < ((e0_0 q0) + (1 : Int64)) := by
  have r0 := own_rg0 q0
  have r1 := own_rg1 q1
  have m := own_mn r0 r1
  exact own_f1 r0
theorem own_pr17 (q0 q1 : Int64) (h1 : ¬ (((e0_0 q0) + (1 : Int64)) < ((e0_1 q1) + (1 : Int64)))) (h2 : ¬ (((e0_1 q1) + (1 : Int64)) < ((e0_0 q0) + (1 : Int64)))) : (0 : Int64) < ((e0_1 q1) + (1 : Int64)) := by
  have r0 := own_rg0 q0
  have r1 := own_rg1 q1
  have m := own_mn r0 r1
  exact own_f1 r1
theorem own_pr18 (q0 q1 : Int64) (h1 : ¬ (((e0_0 q0) + (1 : Int64)) < ((e0_1 q1) + (1 : Int64)))) (h2 : ¬ (((e0_1 q1) + (1 : Int64)) < ((e0_0 q0) + (1 : Int64)))) : ((0 : Int64) + (e7_0 ((e0_0 q0) + (1 : Int64)) ((e0_1 q1) + (1 : Int64)))) < (2305843009213693950 : Int64) := by
  have r0 := own_rg0 q0
  have r1 := own_rg1 q1
  have m := own_mn r0 r1
  exact own_f2 m
theorem own_pr19 (q0 q1 : Int64) (h1 : ¬ (((e0_0 q0) + (1 : Int64)) < ((e0_1 q1) + (1 : Int64)))) (h2 : ¬ (((e0_1 q1) + (1 : Int64)) < ((e0_0 q0) + (1 : Int64)))) : (0 : Int64) < (e7_1 ((e0_0 q0) + (1 : Int64)) ((e0_1 q1) + (1 : Int64))) := by
  have r0 := own_rg0 q0
  have r1 := own_rg1 q1
  have m := own_mn r0 r1
  exact own_f3 m
theorem own_pr20 (q0 q1 : Int64) (h1 : ¬ (((e0_0 q0) + (1 : Int64)) < ((e0_1 q1) + (1 : Int64)))) (h2 : ¬ (((e0_1 q1) + (1 : Int64)) < ((e0_0 q0) + (1 : Int64)))) : (0 : Int64) < ((0 : Int64) + (e7_0 ((e0_0 q0) + (1 : Int64)) ((e0_1 q1) + (1 : Int64)))) := by
  have r0 := own_rg0 q0
  have r1 := own_rg1 q1
  have m := own_mn r0 r1
  exact own_f4 m
theorem own_pr21 (q0 q1 : Int64) (h1 : ¬ (((e0_0 q0) + (1 : Int64)) < ((e0_1 q1) + (1 : Int64)))) (h2 : ¬ (((e0_1 q1) + (1 : Int64)) < ((e0_0 q0) + (1 : Int64)))) : ¬ ((0 : Int64) < (((e0_0 q0) + (1 : Int64)) - (e7_0 ((e0_0 q0) + (1 : Int64)) ((e0_1 q1) + (1 : Int64))))) := by
  have r0 := own_rg0 q0
  have r1 := own_rg1 q1
  have m := own_mn r0 r1
  have e : (e7_0 ((e0_0 q0) + (1 : Int64)) ((e0_1 q1) + (1 : Int64))) = ((e0_1 q1) + (1 : Int64)) := (own_e7 r0 r1).trans (if_neg h1)
  show ¬ (0 : Int64) < (((e0_0 q0) + (1 : Int64)) - (e7_0 ((e0_0 q0) + (1 : Int64)) ((e0_1 q1) + (1 : Int64))))
  rw [e]
  rw [own_eq h1 h2]
  exact own_f5 _
theorem own_pr22 (q0 q1 : Int64)  : (0 : Int64) < ((e0_1 q1) + (1 : Int64)) := by
  have r0 := own_rg0 q0
  have r1 := own_rg1 q1
  have m := own_mn r0 r1
  exact own_f1 r1
theorem own_pr23 (q0 q1 : Int64)  : (0 : Int64) < ((e0_0 q0) + (1 : Int64)) := by
  have r0 := own_rg0 q0
  have r1 := own_rg1 q1
  have m := own_mn r0 r1
  exact own_f1 r0
theorem own_pr24 (q0 q1 : Int64)  : (e7b_1 ((e0_1 q1) + (1 : Int64))) < (2305843009213693950 : Int64) := by
  have r0 := own_rg0 q0
  have r1 := own_rg1 q1
  have m := own_mn r0 r1
  unfold e7b_1
  rw [own_bb r1]
  exact own_f2 r1
theorem own_pr25 (q0 q1 : Int64)  : (0 : Int64) < (e7b_0 ((e0_1 q1) + (1 : Int64))) := by
  have r0 := own_rg0 q0
  have r1 := own_rg1 q1
  have m := own_mn r0 r1
  unfold e7b_0
  rw [own_bb r1]
  exact own_f3 r1
theorem own_pr26 (q0 q1 : Int64)  : (0 : Int64) < (e7b_1 ((e0_1 q1) + (1 : Int64))) := by
  have r0 := own_rg0 q0
  have r1 := own_rg1 q1
  have m := own_mn r0 r1
  unfold e7b_1
  rw [own_bb r1]
  exact own_f4 r1
theorem own_pr27 (q0 q1 : Int64)  : ¬ ((0 : Int64) < (((e0_1 q1) + (1 : Int64)) - (t9b_0 (t9a_0 ((e0_1 q1) + (1 : Int64)))))) := by
  have r0 := own_rg0 q0
  have r1 := own_rg1 q1
  have m := own_mn r0 r1
  rw [own_bb r1]
  exact own_f5 _
def e0_8 (q1 : Int64) : Int64 := (e7b_1 ((e0_1 q1) + (1 : Int64)))
theorem ef_0 (m : MethodId) (x0 : Int64) (x1 : Int64) (x2 : Int64) (x3 : Int64) (x4 : Int32) : entryFrame m #[.long x0, .long x1, .long x2, .long x3, .int x4] maxLocals = mkF m 0 (ta (jv x0 :: sc :: jv x1 :: sc :: jv x2 :: sc :: jv x3 :: sc :: iv x4 :: un22)) [] := by first | (simp [entryFrame, mkF, argsToLocals, Value.category, maxLocals]; done) | rfl
theorem pn_3 : plainName "com/example/nanjing/nanjing/plan/MinCutInCutPinLaw" = true := by first | (simp [plainName, overriddenIn]; done) | decide +kernel
def t0_0 (q0 : Int64) (q1 : Int64) (q2 : Int64) (q3 : Int64) (p4 : Int32) : Int32 := (if (e0_4 p4) = (0 : Int32) then (if ((e0_0 q0) + (1 : Int64)) < ((e0_1 q1) + (1 : Int64)) then (if (e0_5 q0 q1) = (e0_6 q0 q1) then (1 : Int32) else (0 : Int32)) else (if ((e0_1 q1) + (1 : Int64)) < ((e0_0 q0) + (1 : Int64)) then (if (e0_7 q0 q1) = (e0_6 q0 q1) then (1 : Int32) else (0 : Int32)) else (if (e0_5 q0 q1) = (e0_6 q0 q1) then (1 : Int32) else (0 : Int32)))) else (if (e0_8 q1) = ((e0_1 q1) + (1 : Int64)) then (1 : Int32) else (0 : Int32)))
def Q0 (Z : State) (q0 : Int64) (q1 : Int64) (q2 : Int64) (q3 : Int64) (p4 : Int32) (h0 : Heap) (n0 : Nat) (v : Option Value) (h : Heap) (L : List Loc) : Prop := v = some (.int (t0_0 q0 q1 q2 q3 p4)) ∧ Fr n0 L
set_option maxRecDepth 65536 in
set_option maxHeartbeats 40000000 in
theorem rm0 (l : Launch) (Z : State) (a0 : Array Value) (hw : ∀ d ∈ tables_1, d.before a0 Z = true) (ws : List Jvm.Cond) (q0 : Int64) (q1 : Int64) (q2 : Int64) (q3 : Int64) (p4 : Int32) (h0 : Heap) (n0 : Nat) (Z0 : n0 ≤ h0.size) :
    MetFree l x (head1 (Jvm.Cond.code x code maxLocals ret :: ws) room_1) (fun a U => a = #[.long q0, .long q1, .long q2, .long q3, .int p4] ∧ Z.Warmed39 U.vm ∧ U.heap = h0) (fun _ _ _ _ _ => True) (fun _ U o U' => ∃ v L, o = .returned v ∧ Q0 Z q0 q1 q2 q3 p4 h0 n0 v U'.heap L ∧ FrameEnd U o U' L 9 103) := by
  refine MetFree.of_bodySF (plainFor_of_name pn_3) hisR ?_
  intro p e s m args below meth c s₁ Bd hml0 hP hK
  obtain ⟨rfl, hZ, hh⟩ := hP
  have hx := Bd.exec
  have hby := Bd.bytes
  have hml : c.maxLocals = 31 := hml0
  have hown : s.vm.findClass "com/example/nanjing/nanjing/plan/MinCutInCutPinLaw" = some m.cls := findClass_of_methodNamed Bd.named
  have hnm := (name_of_methodNamed Bd.named Bd.method).1
  have X0 : Stand p l e room_1 s m #[.long q0, .long q1, .long q2, .long q3, .int p4] below meth c s₁ [] 0 0 := Stand.of_body Bd
  have e0 : s₁.heap = h0 := by rw [← hh, Bd.state]; rfl
  have N0 := Fr.nil n0
  refine OGl.start (ef_0 m q0 q1 q2 q3 p4) ?_
  show OGl _ _ _ _ s₁ (mkF m 0 (ta (jv q0 :: sc :: jv q1 :: sc :: jv q2 :: sc :: jv q3 :: sc :: iv p4 :: un22)) [])
  refine gO (fun t k => klN X0 hx hby at_0 rfl (own_ldc2 X0 hx hown (mvT hZ (w0 hw)) rfl (hb hby at_1) (o_land X0 hx hby at_4 (kcl X0 hx hby at_5 (o_ladd X0 hx hby at_6 (sl X0 hx hby (L' := (ta (jv q0 :: sc :: jv q1 :: sc :: jv q2 :: sc :: jv q3 :: sc :: iv p4 :: jv ((e0_0 q0) + (1 : Int64)) :: sc :: un20))) at_7 rfl (klN X0 hx hby at_9 rfl (own_ldc2 X0 hx hown (mvT hZ (w0 hw)) rfl (hb hby at_10) (o_land X0 hx hby at_13 (kcl X0 hx hby at_14 (o_ladd X0 hx hby at_15 (sl X0 hx hby (L' := (ta (jv q0 :: sc :: jv q1 :: sc :: jv q2 :: sc :: jv q3 :: sc :: iv p4 :: jv ((e0_0 q0) + (1 : Int64)) :: sc :: jv ((e0_1 q1) + (1 : Int64)) :: sc :: un18))) at_16 rfl (kl X0 hx hby at_18 rfl (own_ldc2 X0 hx hown (mvT hZ (w0 hw)) rfl (hb hby at_20) (o_land X0 hx hby at_23 (sl X0 hx hby (L' := (ta (jv q0 :: sc :: jv q1 :: sc :: jv q2 :: sc :: jv q3 :: sc :: iv p4 :: jv ((e0_0 q0) + (1 : Int64)) :: sc :: jv ((e0_1 q1) + (1 : Int64)) :: sc :: jv (e0_2 q2) :: sc :: un16))) at_24 rfl (kl X0 hx hby at_26 rfl (own_ldc2 X0 hx hown (mvT hZ (w0 hw)) rfl (hb hby at_28) (o_land X0 hx hby at_31 (sl X0 hx hby (L' := (ta (jv q0 :: sc :: jv q1 :: sc :: jv q2 :: sc :: jv q3 :: sc :: iv p4 :: jv ((e0_0 q0) + (1 : Int64)) :: sc :: jv ((e0_1 q1) + (1 : Int64)) :: sc :: jv (e0_2 q2) :: sc :: jv (e0_3 q3) :: sc :: un14))) at_32 rfl (ki X0 hx hby at_34 rfl (kc X0 hx hby at_36 (o_iand X0 hx hby at_37 k))))))))))))))))))))))) ?_
  show OGl _ _ _ _ s₁ (mkF m 38 (ta (jv q0 :: sc :: jv q1 :: sc :: jv q2 :: sc :: jv q3 :: sc :: iv p4 :: jv ((e0_0 q0) + (1 : Int64)) :: sc :: jv ((e0_1 q1) + (1 : Int64)) :: sc :: jv (e0_2 q2) :: sc :: jv (e0_3 q3) :: sc :: un14)) [.int (p4 &&& (1 : Int32))])
  have m1 : ∀ t, Steps p.tables e below (s₁.setTop (mkF m 46 (ta (jv q0 :: sc :: jv q1 :: sc :: jv q2 :: sc :: jv q3 :: sc :: iv p4 :: jv ((e0_0 q0) + (1 : Int64)) :: sc :: jv ((e0_1 q1) + (1 : Int64)) :: sc :: jv (e0_2 q2) :: sc :: jv (e0_3 q3) :: sc :: un14)) [.int (e0_4 p4)])) t → Steps p.tables e below (s₁.setTop (mkF m 38 (ta (jv q0 :: sc :: jv q1 :: sc :: jv q2 :: sc :: jv q3 :: sc :: iv p4 :: jv ((e0_0 q0) + (1 : Int64)) :: sc :: jv ((e0_1 q1) + (1 : Int64)) :: sc :: jv (e0_2 q2) :: sc :: jv (e0_3 q3) :: sc :: un14)) [.int (p4 &&& (1 : Int32))])) t := by
    intro t k
    by_cases hm1 : (p4 &&& (1 : Int32)) = (0 : Int32)
    · rw [show (e0_4 p4) = (0 : Int32) from if_pos hm1] at k
      refine iY X0 hx hby 45 at_38 ((if0 _ _).trans (teq hm1).1) rfl (kc X0 hx hby at_45 ?_)
      show Steps _ _ _ (s₁.setTop (mkF m 46 (ta (jv q0 :: sc :: jv q1 :: sc :: jv q2 :: sc :: jv q3 :: sc :: iv p4 :: jv ((e0_0 q0) + (1 : Int64)) :: sc :: jv ((e0_1 q1) + (1 : Int64)) :: sc :: jv (e0_2 q2) :: sc :: jv (e0_3 q3) :: sc :: un14)) [.int 0])) _
      exact k
    · rw [show (e0_4 p4) = (1 : Int32) from if_neg hm1] at k
      refine iN X0 hx hby at_38 ((if0 _ _).trans (feq hm1).1) (kc X0 hx hby at_41 (o_goto X0 hx hby 46 at_42 rfl ?_))
      show Steps _ _ _ (s₁.setTop (mkF m 46 (ta (jv q0 :: sc :: jv q1 :: sc :: jv q2 :: sc :: jv q3 :: sc :: iv p4 :: jv ((e0_0 q0) + (1 : Int64)) :: sc :: jv ((e0_1 q1) + (1 : Int64)) :: sc :: jv (e0_2 q2) :: sc :: jv (e0_3 q3) :: sc :: un14)) [.int 1])) _
      exact k
  refine gO (fun t k => m1 _ (si X0 hx hby (L' := (ta (jv q0 :: sc :: jv q1 :: sc :: jv q2 :: sc :: jv q3 :: sc :: iv p4 :: jv ((e0_0 q0) + (1 : Int64)) :: sc :: jv ((e0_1 q1) + (1 : Int64)) :: sc :: jv (e0_2 q2) :: sc :: jv (e0_3 q3) :: sc :: iv (e0_4 p4) :: un13))) at_46 rfl k)) ?_
  show OGl _ _ _ _ s₁ (mkF m 48 (ta (jv q0 :: sc :: jv q1 :: sc :: jv q2 :: sc :: jv q3 :: sc :: iv p4 :: jv ((e0_0 q0) + (1 : Int64)) :: sc :: jv ((e0_1 q1) + (1 : Int64)) :: sc :: jv (e0_2 q2) :: sc :: jv (e0_3 q3) :: sc :: iv (e0_4 p4) :: un13)) [])
  obtain ⟨T2, h2, X2, e2, E2, A2, D2, -, st2⟩ := newO X0 hx hZ hown (w1 hw) (w2 hw) (w3 hw) e0 (g := (mkF m 48 (ta (jv q0 :: sc :: jv q1 :: sc :: jv q2 :: sc :: jv q3 :: sc :: iv p4 :: jv ((e0_0 q0) + (1 : Int64)) :: sc :: jv ((e0_1 q1) + (1 : Int64)) :: sc :: jv (e0_2 q2) :: sc :: jv (e0_3 q3) :: sc :: iv (e0_4 p4) :: un13)) [])) rfl (hb hby at_48) (by decide) (by decide)
  obtain ⟨b2, gb2⟩ : ∃ z, z = h0.size := ⟨_, rfl⟩
  rw [← gb2] at A2 D2 st2
  have sz_b2 : h0.size ≤ b2 := Nat.le_trans (Keep.refl h0 []).1 (Nat.le_of_eq gb2.symm)
  have g_b2 : n0 ≤ b2 := Nat.le_trans Z0 sz_b2
  have F3 : Fld Z h2 b2 cc0 "heads" "[I" (.null) := D2 (Or.inl (w12 hw)) (ty := (.array .int)) (by decide)
  have F4 : Fld Z h2 b2 cc0 "targets" "[I" (.null) := D2 (Or.inl (w14 hw)) (ty := (.array .int)) (by decide)
  have F5 : Fld Z h2 b2 cc0 "nexts" "[I" (.null) := D2 (Or.inl (w16 hw)) (ty := (.array .int)) (by decide)
  have F6 : Fld Z h2 b2 cc0 "residues" "[J" (.null) := D2 (Or.inl (w19 hw)) (ty := (.array .long)) (by decide)
  have F7 : Fld Z h2 b2 cc0 "halves" "I" (.int 0) := D2 (Or.inl (w26 hw)) (ty := .int) (by decide)
  have F8 : Fld Z h2 b2 cc0 "edges" "I" (.int 0) := D2 (Or.inl (w32 hw)) (ty := .int) (by decide)
  have F9 : Fld Z h2 b2 cc0 "sourceSide" "[Z" (.null) := D2 (Or.inl (w59 hw)) (ty := (.array .boolean)) (by decide)
  have KK2 : Keep h0 h2 [] := (Keep.refl h0 []).ext E2
  refine gO st2 ?_
  show OGl _ _ _ _ T2 (mkF m 51 (ta (jv q0 :: sc :: jv q1 :: sc :: jv q2 :: sc :: jv q3 :: sc :: iv p4 :: jv ((e0_0 q0) + (1 : Int64)) :: sc :: jv ((e0_1 q1) + (1 : Int64)) :: sc :: jv (e0_2 q2) :: sc :: jv (e0_3 q3) :: sc :: iv (e0_4 p4) :: un13)) [.ref b2])
  refine gO (fun t k => o_dup X2 hx hby at_51 rfl k) ?_
  show OGl _ _ _ _ T2 (mkF m 52 (ta (jv q0 :: sc :: jv q1 :: sc :: jv q2 :: sc :: jv q3 :: sc :: iv p4 :: jv ((e0_0 q0) + (1 : Int64)) :: sc :: jv ((e0_1 q1) + (1 : Int64)) :: sc :: jv (e0_2 q2) :: sc :: jv (e0_3 q3) :: sc :: iv (e0_4 p4) :: un13)) [.ref b2, .ref b2])
  obtain ⟨_, _, ⟨T10, L10, kk10, n10⟩, -, X10, ⟨Lc10, hQ10, l10, y10, z10⟩, st10⟩ := X2.specialBack hx (y := yy0) rfl hown (mvT hZ (w4 hw)) (mvT hZ (w5 hw)) (mvT hZ (w6 hw)) (by decide) (backOf (W := 1) (rm1 l Z a0 hw [] b2 h2 n0 (Nat.le_trans Z0 KK2.1) A2 F3 F4 F5 F6 F7 F8 F9 g_b2) hZ (w6 hw) (w3 hw) (by decide) (by decide)) (g := (mkF m 52 (ta (jv q0 :: sc :: jv q1 :: sc :: jv q2 :: sc :: jv q3 :: sc :: iv p4 :: jv ((e0_0 q0) + (1 : Int64)) :: sc :: jv ((e0_1 q1) + (1 : Int64)) :: sc :: jv (e0_2 q2) :: sc :: jv (e0_3 q3) :: sc :: iv (e0_4 p4) :: un13)) [.ref b2, .ref b2])) rfl (by rw [hml]; rfl) (Steps.refl _) (a := b2) (argsL := []) (rest := [.ref b2]) (lenOf pd_0 rfl) rfl (by show 2 * 0 + _ ≤ _; exact Nat.le_of_eq rfl) (hb hby at_52) (fun _ _ => ⟨rfl, e2, (by decide : 1 + 4 ≤ _), (by decide : 7 + 64 ≤ _)⟩)
  dsimp only [Pt.U, Pt.locs, Pt.cells, Pt.slots] at X10 l10 y10 z10 st10 hQ10
  replace l10 := l10.symm
  subst l10 y10 z10
  obtain ⟨b10_0, b10_1, b10_2, b10_3, kb10_4, kb10_5, kb10_6, kb10_7, rfl, Nq10, K10, sb_b10_0, sb_b10_1, sb_b10_2, sb_b10_3, ne_b10_0_b10_1, ne_b10_0_b10_2, ne_b10_0_b10_3, ne_b10_1_b10_2, ne_b10_1_b10_3, ne_b10_2_b10_3, Fq10_0, Fq10_1, Fq10_2, Fq10_3, Fq10_4, Fq10_5, Fq10_6, Fq10_7, Fq10_8, Fq10_9, Fq10_10⟩ := hQ10
  have ne_b2_b10_0 : b2 ≠ b10_0 := Nat.ne_of_lt (Nat.lt_of_lt_of_le A2.lt sb_b10_0)
  have sz_b10_0 : h0.size ≤ b10_0 := Nat.le_trans KK2.1 sb_b10_0
  have g_b10_0 : n0 ≤ b10_0 := Nat.le_trans Z0 sz_b10_0
  have ne_b2_b10_1 : b2 ≠ b10_1 := Nat.ne_of_lt (Nat.lt_of_lt_of_le A2.lt sb_b10_1)
  have sz_b10_1 : h0.size ≤ b10_1 := Nat.le_trans KK2.1 sb_b10_1
  have g_b10_1 : n0 ≤ b10_1 := Nat.le_trans Z0 sz_b10_1
  have ne_b2_b10_2 : b2 ≠ b10_2 := Nat.ne_of_lt (Nat.lt_of_lt_of_le A2.lt sb_b10_2)
  have sz_b10_2 : h0.size ≤ b10_2 := Nat.le_trans KK2.1 sb_b10_2
  have g_b10_2 : n0 ≤ b10_2 := Nat.le_trans Z0 sz_b10_2
  have ne_b2_b10_3 : b2 ≠ b10_3 := Nat.ne_of_lt (Nat.lt_of_lt_of_le A2.lt sb_b10_3)
  have sz_b10_3 : h0.size ≤ b10_3 := Nat.le_trans KK2.1 sb_b10_3
  have g_b10_3 : n0 ≤ b10_3 := Nat.le_trans Z0 sz_b10_3
  have KK10 : Keep h0 T10.heap [] := KK2.trans K10 (allS (Or.inr sz_b2) all0)
  have N10 := Fr.app N0 Nq10
  refine gO (fun t k => st10.trans k) ?_
  show OGl _ _ _ _ T10 (mkF m 55 (ta (jv q0 :: sc :: jv q1 :: sc :: jv q2 :: sc :: jv q3 :: sc :: iv p4 :: jv ((e0_0 q0) + (1 : Int64)) :: sc :: jv ((e0_1 q1) + (1 : Int64)) :: sc :: jv (e0_2 q2) :: sc :: jv (e0_3 q3) :: sc :: iv (e0_4 p4) :: un13)) [.ref b2])
  refine gO (fun t k => sa X10 hx hby (L' := (ta (jv q0 :: sc :: jv q1 :: sc :: jv q2 :: sc :: jv q3 :: sc :: iv p4 :: jv ((e0_0 q0) + (1 : Int64)) :: sc :: jv ((e0_1 q1) + (1 : Int64)) :: sc :: jv (e0_2 q2) :: sc :: jv (e0_3 q3) :: sc :: iv (e0_4 p4) :: rv b2 :: un12))) at_55 rfl rfl (ka X10 hx hby at_57 rfl rfl (kl X10 hx hby at_59 rfl k))) ?_
  show OGl _ _ _ _ T10 (mkF m 61 (ta (jv q0 :: sc :: jv q1 :: sc :: jv q2 :: sc :: jv q3 :: sc :: iv p4 :: jv ((e0_0 q0) + (1 : Int64)) :: sc :: jv ((e0_1 q1) + (1 : Int64)) :: sc :: jv (e0_2 q2) :: sc :: jv (e0_3 q3) :: sc :: iv (e0_4 p4) :: rv b2 :: un12)) [.long (e0_2 q2), .ref b2])
  have F154 := (A2.keep K10)
  obtain ⟨cq44, kq44, q44a, q44b, q44c⟩ := isOf hZ rfl F154
  obtain ⟨_, _, ⟨T44, L44, kk44, n44⟩, -, X44, ⟨Lc44, hQ44, l44, y44, z44⟩, st44⟩ := X10.virtualBack hx (y := yy3) (z := yy3) hown (mvT hZ (w20 hw)) (mvT hZ (w21 hw)) (notFace_of_selects (args := #[]) (mvT hZ (w23 hw))) (mvT hZ (w23 hw)) (mvT hZ (w22 hw)) (by decide) (backOf (W := 0) (rm3 l Z a0 hw [] b2 (e0_2 q2) b10_0 kb10_4 b10_1 b10_2 b10_3 kb10_7 kb10_6 kb10_5 T10.heap n0 (Nat.le_trans Z0 KK10.1) Fq10_1 Fq10_2 Fq10_7 F154 Fq10_0 Fq10_3 Fq10_4 Fq10_5 Fq10_6 g_b2 (Ne.symm ne_b2_b10_0) g_b10_0 Fq10_10 Fq10_9 Fq10_8 (Ne.symm ne_b2_b10_3) (Ne.symm ne_b10_0_b10_3) (Ne.symm ne_b2_b10_2) (Ne.symm ne_b10_0_b10_2) (Ne.symm ne_b2_b10_1) (Ne.symm ne_b10_0_b10_1) g_b10_3 ne_b10_2_b10_3 g_b10_2 ne_b10_1_b10_3 ne_b10_1_b10_2 g_b10_1) hZ (w24 hw) (w3 hw) (by decide) (by decide)) q44a q44c (g := (mkF m 61 (ta (jv q0 :: sc :: jv q1 :: sc :: jv q2 :: sc :: jv q3 :: sc :: iv p4 :: jv ((e0_0 q0) + (1 : Int64)) :: sc :: jv ((e0_1 q1) + (1 : Int64)) :: sc :: jv (e0_2 q2) :: sc :: jv (e0_3 q3) :: sc :: iv (e0_4 p4) :: rv b2 :: un12)) [.long (e0_2 q2), .ref b2])) rfl (by rw [hml]; rfl) (Steps.refl _) (argsL := [.long (e0_2 q2)]) (rest := []) (lenOf pd_2 rfl) rfl (by show 2 * 0 + _ ≤ _; exact Nat.le_of_eq rfl) (hb hby at_61) (fun _ _ => ⟨rfl, rfl, (by decide : 5 + 0 ≤ _), (by decide : 71 + 0 ≤ _)⟩)
  dsimp only [Pt.U, Pt.locs, Pt.cells, Pt.slots] at X44 l44 y44 z44 st44 hQ44
  replace l44 := l44.symm
  subst l44 y44 z44
  obtain ⟨rfl, Nq44, K44, Fq44_0, Fq44_1, Fq44_2, Fq44_3, Fq44_4, Fq44_5, Fq44_6, Fq44_7, Fq44_8, Fq44_9, Fq44_10⟩ := hQ44
  have KK44 : Keep h0 T44.heap [] := KK10.trans K44 (allS (Or.inr sz_b2) (allS (Or.inr sz_b10_0) (allS (Or.inr sz_b10_3) (allS (Or.inr sz_b10_2) (allS (Or.inr sz_b10_1) all0)))))
  have N44 := Fr.app N10 Nq44
  refine gO (fun t k => st44.trans k) ?_
  show OGl _ _ _ _ T44 (mkF m 64 (ta (jv q0 :: sc :: jv q1 :: sc :: jv q2 :: sc :: jv q3 :: sc :: iv p4 :: jv ((e0_0 q0) + (1 : Int64)) :: sc :: jv ((e0_1 q1) + (1 : Int64)) :: sc :: jv (e0_2 q2) :: sc :: jv (e0_3 q3) :: sc :: iv (e0_4 p4) :: rv b2 :: un12)) [.int 0])
  refine gO (fun t k => si X44 hx hby (L' := (ta (jv q0 :: sc :: jv q1 :: sc :: jv q2 :: sc :: jv q3 :: sc :: iv p4 :: jv ((e0_0 q0) + (1 : Int64)) :: sc :: jv ((e0_1 q1) + (1 : Int64)) :: sc :: jv (e0_2 q2) :: sc :: jv (e0_3 q3) :: sc :: iv (e0_4 p4) :: rv b2 :: iv 0 :: un11))) at_64 rfl (ka X44 hx hby at_66 rfl rfl (kl X44 hx hby at_68 rfl k))) ?_
  show OGl _ _ _ _ T44 (mkF m 70 (ta (jv q0 :: sc :: jv q1 :: sc :: jv q2 :: sc :: jv q3 :: sc :: iv p4 :: jv ((e0_0 q0) + (1 : Int64)) :: sc :: jv ((e0_1 q1) + (1 : Int64)) :: sc :: jv (e0_2 q2) :: sc :: jv (e0_3 q3) :: sc :: iv (e0_4 p4) :: rv b2 :: iv 0 :: un11)) [.long ((e0_0 q0) + (1 : Int64)), .ref b2])
  have F265 := (F154.keep K44)
  obtain ⟨cq155, kq155, q155a, q155b, q155c⟩ := isOf hZ rfl F265
  obtain ⟨_, _, ⟨T155, L155, kk155, n155⟩, -, X155, ⟨Lc155, hQ155, l155, y155, z155⟩, st155⟩ := X44.virtualBack hx (y := yy3) (z := yy3) hown (mvT hZ (w20 hw)) (mvT hZ (w21 hw)) (notFace_of_selects (args := #[]) (mvT hZ (w23 hw))) (mvT hZ (w23 hw)) (mvT hZ (w22 hw)) (by decide) (backOf (W := 0) (rm3a l Z a0 hw [] b2 ((e0_0 q0) + (1 : Int64)) b10_0 kb10_4 b10_1 b10_2 b10_3 kb10_7 kb10_6 (e0_2 q2) kb10_5 T44.heap n0 (Nat.le_trans Z0 KK44.1) Fq44_1 Fq44_2 Fq44_7 F265 Fq44_0 Fq44_3 Fq44_4 Fq44_5 Fq44_6 g_b2 (Ne.symm ne_b2_b10_0) g_b10_0 Fq44_8 Fq44_9 Fq44_10 (Ne.symm ne_b2_b10_3) (Ne.symm ne_b10_0_b10_3) (Ne.symm ne_b2_b10_2) (Ne.symm ne_b10_0_b10_2) (Ne.symm ne_b2_b10_1) (Ne.symm ne_b10_0_b10_1) g_b10_3 ne_b10_2_b10_3 g_b10_2 ne_b10_1_b10_3 ne_b10_1_b10_2 g_b10_1) hZ (w24 hw) (w3 hw) (by decide) (by decide)) q155a q155c (g := (mkF m 70 (ta (jv q0 :: sc :: jv q1 :: sc :: jv q2 :: sc :: jv q3 :: sc :: iv p4 :: jv ((e0_0 q0) + (1 : Int64)) :: sc :: jv ((e0_1 q1) + (1 : Int64)) :: sc :: jv (e0_2 q2) :: sc :: jv (e0_3 q3) :: sc :: iv (e0_4 p4) :: rv b2 :: iv 0 :: un11)) [.long ((e0_0 q0) + (1 : Int64)), .ref b2])) rfl (by rw [hml]; rfl) (Steps.refl _) (argsL := [.long ((e0_0 q0) + (1 : Int64))]) (rest := []) (lenOf pd_2 rfl) rfl (by show 2 * 0 + _ ≤ _; exact Nat.le_of_eq rfl) (hb hby at_70) (fun _ _ => ⟨rfl, rfl, (by decide : 5 + 0 ≤ _), (by decide : 71 + 0 ≤ _)⟩)
  dsimp only [Pt.U, Pt.locs, Pt.cells, Pt.slots] at X155 l155 y155 z155 st155 hQ155
  replace l155 := l155.symm
  subst l155 y155 z155
  obtain ⟨rfl, Nq155, K155, Fq155_0, Fq155_1, Fq155_2, Fq155_3, Fq155_4, Fq155_5, Fq155_6, Fq155_7, Fq155_8, Fq155_9, Fq155_10⟩ := hQ155
  have KK155 : Keep h0 T155.heap [] := KK44.trans K155 (allS (Or.inr sz_b2) (allS (Or.inr sz_b10_0) (allS (Or.inr sz_b10_3) (allS (Or.inr sz_b10_2) (allS (Or.inr sz_b10_1) all0)))))
  have N155 := Fr.app N44 Nq155
  refine gO (fun t k => st155.trans k) ?_
  show OGl _ _ _ _ T155 (mkF m 73 (ta (jv q0 :: sc :: jv q1 :: sc :: jv q2 :: sc :: jv q3 :: sc :: iv p4 :: jv ((e0_0 q0) + (1 : Int64)) :: sc :: jv ((e0_1 q1) + (1 : Int64)) :: sc :: jv (e0_2 q2) :: sc :: jv (e0_3 q3) :: sc :: iv (e0_4 p4) :: rv b2 :: iv 0 :: un11)) [.int 1])
  refine gO (fun t k => si X155 hx hby (L' := (ta (jv q0 :: sc :: jv q1 :: sc :: jv q2 :: sc :: jv q3 :: sc :: iv p4 :: jv ((e0_0 q0) + (1 : Int64)) :: sc :: jv ((e0_1 q1) + (1 : Int64)) :: sc :: jv (e0_2 q2) :: sc :: jv (e0_3 q3) :: sc :: iv (e0_4 p4) :: rv b2 :: iv 0 :: iv 1 :: un10))) at_73 rfl (ka X155 hx hby at_75 rfl rfl (kl X155 hx hby at_77 rfl k))) ?_
  show OGl _ _ _ _ T155 (mkF m 79 (ta (jv q0 :: sc :: jv q1 :: sc :: jv q2 :: sc :: jv q3 :: sc :: iv p4 :: jv ((e0_0 q0) + (1 : Int64)) :: sc :: jv ((e0_1 q1) + (1 : Int64)) :: sc :: jv (e0_2 q2) :: sc :: jv (e0_3 q3) :: sc :: iv (e0_4 p4) :: rv b2 :: iv 0 :: iv 1 :: un10)) [.long ((e0_1 q1) + (1 : Int64)), .ref b2])
  have F376 := (F265.keep K155)
  obtain ⟨cq266, kq266, q266a, q266b, q266c⟩ := isOf hZ rfl F376
  obtain ⟨_, _, ⟨T266, L266, kk266, n266⟩, -, X266, ⟨Lc266, hQ266, l266, y266, z266⟩, st266⟩ := X155.virtualBack hx (y := yy3) (z := yy3) hown (mvT hZ (w20 hw)) (mvT hZ (w21 hw)) (notFace_of_selects (args := #[]) (mvT hZ (w23 hw))) (mvT hZ (w23 hw)) (mvT hZ (w22 hw)) (by decide) (backOf (W := 0) (rm3b l Z a0 hw [] b2 ((e0_1 q1) + (1 : Int64)) b10_0 kb10_4 b10_1 b10_2 b10_3 kb10_7 kb10_6 (e0_2 q2) ((e0_0 q0) + (1 : Int64)) kb10_5 T155.heap n0 (Nat.le_trans Z0 KK155.1) Fq155_1 Fq155_2 Fq155_7 F376 Fq155_0 Fq155_3 Fq155_4 Fq155_5 Fq155_6 g_b2 (Ne.symm ne_b2_b10_0) g_b10_0 Fq155_8 Fq155_9 Fq155_10 (Ne.symm ne_b2_b10_3) (Ne.symm ne_b10_0_b10_3) (Ne.symm ne_b2_b10_2) (Ne.symm ne_b10_0_b10_2) (Ne.symm ne_b2_b10_1) (Ne.symm ne_b10_0_b10_1) g_b10_3 ne_b10_2_b10_3 g_b10_2 ne_b10_1_b10_3 ne_b10_1_b10_2 g_b10_1) hZ (w24 hw) (w3 hw) (by decide) (by decide)) q266a q266c (g := (mkF m 79 (ta (jv q0 :: sc :: jv q1 :: sc :: jv q2 :: sc :: jv q3 :: sc :: iv p4 :: jv ((e0_0 q0) + (1 : Int64)) :: sc :: jv ((e0_1 q1) + (1 : Int64)) :: sc :: jv (e0_2 q2) :: sc :: jv (e0_3 q3) :: sc :: iv (e0_4 p4) :: rv b2 :: iv 0 :: iv 1 :: un10)) [.long ((e0_1 q1) + (1 : Int64)), .ref b2])) rfl (by rw [hml]; rfl) (Steps.refl _) (argsL := [.long ((e0_1 q1) + (1 : Int64))]) (rest := []) (lenOf pd_2 rfl) rfl (by show 2 * 0 + _ ≤ _; exact Nat.le_of_eq rfl) (hb hby at_79) (fun _ _ => ⟨rfl, rfl, (by decide : 5 + 0 ≤ _), (by decide : 71 + 0 ≤ _)⟩)
  dsimp only [Pt.U, Pt.locs, Pt.cells, Pt.slots] at X266 l266 y266 z266 st266 hQ266
  replace l266 := l266.symm
  subst l266 y266 z266
  obtain ⟨rfl, Nq266, K266, Fq266_0, Fq266_1, Fq266_2, Fq266_3, Fq266_4, Fq266_5, Fq266_6, Fq266_7, Fq266_8, Fq266_9, Fq266_10⟩ := hQ266
  have KK266 : Keep h0 T266.heap [] := KK155.trans K266 (allS (Or.inr sz_b2) (allS (Or.inr sz_b10_0) (allS (Or.inr sz_b10_3) (allS (Or.inr sz_b10_2) (allS (Or.inr sz_b10_1) all0)))))
  have N266 := Fr.app N155 Nq266
  refine gO (fun t k => st266.trans k) ?_
  show OGl _ _ _ _ T266 (mkF m 82 (ta (jv q0 :: sc :: jv q1 :: sc :: jv q2 :: sc :: jv q3 :: sc :: iv p4 :: jv ((e0_0 q0) + (1 : Int64)) :: sc :: jv ((e0_1 q1) + (1 : Int64)) :: sc :: jv (e0_2 q2) :: sc :: jv (e0_3 q3) :: sc :: iv (e0_4 p4) :: rv b2 :: iv 0 :: iv 1 :: un10)) [.int 2])
  refine gO (fun t k => si X266 hx hby (L' := (ta (jv q0 :: sc :: jv q1 :: sc :: jv q2 :: sc :: jv q3 :: sc :: iv p4 :: jv ((e0_0 q0) + (1 : Int64)) :: sc :: jv ((e0_1 q1) + (1 : Int64)) :: sc :: jv (e0_2 q2) :: sc :: jv (e0_3 q3) :: sc :: iv (e0_4 p4) :: rv b2 :: iv 0 :: iv 1 :: iv 2 :: un9))) at_82 rfl (ka X266 hx hby at_84 rfl rfl (kl X266 hx hby at_86 rfl k))) ?_
  show OGl _ _ _ _ T266 (mkF m 88 (ta (jv q0 :: sc :: jv q1 :: sc :: jv q2 :: sc :: jv q3 :: sc :: iv p4 :: jv ((e0_0 q0) + (1 : Int64)) :: sc :: jv ((e0_1 q1) + (1 : Int64)) :: sc :: jv (e0_2 q2) :: sc :: jv (e0_3 q3) :: sc :: iv (e0_4 p4) :: rv b2 :: iv 0 :: iv 1 :: iv 2 :: un9)) [.long (e0_3 q3), .ref b2])
  have F487 := (F376.keep K266)
  obtain ⟨cq377, kq377, q377a, q377b, q377c⟩ := isOf hZ rfl F487
  obtain ⟨_, _, ⟨T377, L377, kk377, n377⟩, -, X377, ⟨Lc377, hQ377, l377, y377, z377⟩, st377⟩ := X266.virtualBack hx (y := yy3) (z := yy3) hown (mvT hZ (w20 hw)) (mvT hZ (w21 hw)) (notFace_of_selects (args := #[]) (mvT hZ (w23 hw))) (mvT hZ (w23 hw)) (mvT hZ (w22 hw)) (by decide) (backOf (W := 0) (rm3c l Z a0 hw [] b2 (e0_3 q3) b10_0 kb10_4 b10_1 b10_2 b10_3 kb10_7 kb10_6 (e0_2 q2) ((e0_0 q0) + (1 : Int64)) ((e0_1 q1) + (1 : Int64)) kb10_5 T266.heap n0 (Nat.le_trans Z0 KK266.1) Fq266_1 Fq266_2 Fq266_7 F487 Fq266_0 Fq266_3 Fq266_4 Fq266_5 Fq266_6 g_b2 (Ne.symm ne_b2_b10_0) g_b10_0 Fq266_8 Fq266_9 Fq266_10 (Ne.symm ne_b2_b10_3) (Ne.symm ne_b10_0_b10_3) (Ne.symm ne_b2_b10_2) (Ne.symm ne_b10_0_b10_2) (Ne.symm ne_b2_b10_1) (Ne.symm ne_b10_0_b10_1) g_b10_3 ne_b10_2_b10_3 g_b10_2 ne_b10_1_b10_3 ne_b10_1_b10_2 g_b10_1) hZ (w24 hw) (w3 hw) (by decide) (by decide)) q377a q377c (g := (mkF m 88 (ta (jv q0 :: sc :: jv q1 :: sc :: jv q2 :: sc :: jv q3 :: sc :: iv p4 :: jv ((e0_0 q0) + (1 : Int64)) :: sc :: jv ((e0_1 q1) + (1 : Int64)) :: sc :: jv (e0_2 q2) :: sc :: jv (e0_3 q3) :: sc :: iv (e0_4 p4) :: rv b2 :: iv 0 :: iv 1 :: iv 2 :: un9)) [.long (e0_3 q3), .ref b2])) rfl (by rw [hml]; rfl) (Steps.refl _) (argsL := [.long (e0_3 q3)]) (rest := []) (lenOf pd_2 rfl) rfl (by show 2 * 0 + _ ≤ _; exact Nat.le_of_eq rfl) (hb hby at_88) (fun _ _ => ⟨rfl, rfl, (by decide : 5 + 0 ≤ _), (by decide : 71 + 0 ≤ _)⟩)
  dsimp only [Pt.U, Pt.locs, Pt.cells, Pt.slots] at X377 l377 y377 z377 st377 hQ377
  replace l377 := l377.symm
  subst l377 y377 z377
  obtain ⟨rfl, Nq377, K377, Fq377_0, Fq377_1, Fq377_2, Fq377_3, Fq377_4, Fq377_5, Fq377_6, Fq377_7, Fq377_8, Fq377_9, Fq377_10⟩ := hQ377
  have KK377 : Keep h0 T377.heap [] := KK266.trans K377 (allS (Or.inr sz_b2) (allS (Or.inr sz_b10_0) (allS (Or.inr sz_b10_3) (allS (Or.inr sz_b10_2) (allS (Or.inr sz_b10_1) all0)))))
  have N377 := Fr.app N266 Nq377
  refine gO (fun t k => st377.trans k) ?_
  show OGl _ _ _ _ T377 (mkF m 91 (ta (jv q0 :: sc :: jv q1 :: sc :: jv q2 :: sc :: jv q3 :: sc :: iv p4 :: jv ((e0_0 q0) + (1 : Int64)) :: sc :: jv ((e0_1 q1) + (1 : Int64)) :: sc :: jv (e0_2 q2) :: sc :: jv (e0_3 q3) :: sc :: iv (e0_4 p4) :: rv b2 :: iv 0 :: iv 1 :: iv 2 :: un9)) [.int 3])
  refine gO (fun t k => si X377 hx hby (L' := (ta (jv q0 :: sc :: jv q1 :: sc :: jv q2 :: sc :: jv q3 :: sc :: iv p4 :: jv ((e0_0 q0) + (1 : Int64)) :: sc :: jv ((e0_1 q1) + (1 : Int64)) :: sc :: jv (e0_2 q2) :: sc :: jv (e0_3 q3) :: sc :: iv (e0_4 p4) :: rv b2 :: iv 0 :: iv 1 :: iv 2 :: iv 3 :: un8))) at_91 rfl (ka X377 hx hby at_93 rfl rfl (ki X377 hx hby at_95 rfl (ki X377 hx hby at_97 rfl k)))) ?_
  show OGl _ _ _ _ T377 (mkF m 99 (ta (jv q0 :: sc :: jv q1 :: sc :: jv q2 :: sc :: jv q3 :: sc :: iv p4 :: jv ((e0_0 q0) + (1 : Int64)) :: sc :: jv ((e0_1 q1) + (1 : Int64)) :: sc :: jv (e0_2 q2) :: sc :: jv (e0_3 q3) :: sc :: iv (e0_4 p4) :: rv b2 :: iv 0 :: iv 1 :: iv 2 :: iv 3 :: un8)) [.int 1, .int 0, .ref b2])
  have F571 := (F487.keep K377)
  obtain ⟨cq488, kq488, q488a, q488b, q488c⟩ := isOf hZ rfl F571
  obtain ⟨_, _, ⟨T488, L488, kk488, n488⟩, -, X488, ⟨Lc488, hQ488, l488, y488, z488⟩, st488⟩ := X377.virtualBack hx (y := yy4) (z := yy4) hown (mvT hZ (w37 hw)) (mvT hZ (w38 hw)) (notFace_of_selects (args := #[]) (mvT hZ (w40 hw))) (mvT hZ (w40 hw)) (mvT hZ (w39 hw)) (by decide) (backOf (W := 0) (rm6 l Z a0 hw [] b2 b10_3 kb10_7 b10_2 kb10_6 (e0_2 q2) ((e0_0 q0) + (1 : Int64)) ((e0_1 q1) + (1 : Int64)) (e0_3 q3) b10_1 b10_0 kb10_4 kb10_5 T377.heap n0 (Nat.le_trans Z0 KK377.1) F571 Fq377_0 Fq377_6 Fq377_8 Fq377_4 Fq377_9 Fq377_3 Fq377_2 Fq377_7 Fq377_10 Fq377_1 Fq377_5 g_b10_3 ne_b2_b10_3 ne_b10_2_b10_3 g_b10_2 ne_b2_b10_2 ne_b10_0_b10_3 ne_b10_0_b10_2 ne_b10_1_b10_3 ne_b10_1_b10_2 g_b10_1 ne_b2_b10_1 ne_b10_0_b10_1 g_b10_0 ne_b2_b10_0 g_b2) hZ (w41 hw) (w3 hw) (by decide) (by decide)) q488a q488c (g := (mkF m 99 (ta (jv q0 :: sc :: jv q1 :: sc :: jv q2 :: sc :: jv q3 :: sc :: iv p4 :: jv ((e0_0 q0) + (1 : Int64)) :: sc :: jv ((e0_1 q1) + (1 : Int64)) :: sc :: jv (e0_2 q2) :: sc :: jv (e0_3 q3) :: sc :: iv (e0_4 p4) :: rv b2 :: iv 0 :: iv 1 :: iv 2 :: iv 3 :: un8)) [.int 1, .int 0, .ref b2])) rfl (by rw [hml]; rfl) (Steps.refl _) (argsL := [.int 0, .int 1]) (rest := []) (lenOf pd_3 rfl) rfl (by show 2 * 0 + _ ≤ _; exact Nat.le_of_eq rfl) (hb hby at_99) (fun _ _ => ⟨rfl, rfl, (by decide : 5 + 0 ≤ _), (by decide : 71 + 0 ≤ _)⟩)
  dsimp only [Pt.U, Pt.locs, Pt.cells, Pt.slots] at X488 l488 y488 z488 st488 hQ488
  replace l488 := l488.symm
  subst l488 y488 z488
  obtain ⟨rfl, Nq488, K488, Fq488_0, Fq488_1, Fq488_2, Fq488_3, Fq488_4, Fq488_5, Fq488_6, Fq488_7, Fq488_8, Fq488_9, Fq488_10⟩ := hQ488
  have KK488 : Keep h0 T488.heap [] := KK377.trans K488 (allS (Or.inr sz_b10_3) (allS (Or.inr sz_b10_2) (allS (Or.inr sz_b10_1) (allS (Or.inr sz_b10_0) (allS (Or.inr sz_b2) all0)))))
  have N488 := Fr.app N377 Nq488
  refine gO (fun t k => st488.trans k) ?_
  show OGl _ _ _ _ T488 (mkF m 102 (ta (jv q0 :: sc :: jv q1 :: sc :: jv q2 :: sc :: jv q3 :: sc :: iv p4 :: jv ((e0_0 q0) + (1 : Int64)) :: sc :: jv ((e0_1 q1) + (1 : Int64)) :: sc :: jv (e0_2 q2) :: sc :: jv (e0_3 q3) :: sc :: iv (e0_4 p4) :: rv b2 :: iv 0 :: iv 1 :: iv 2 :: iv 3 :: un8)) [])
  refine gO (fun t k => ka X488 hx hby at_102 rfl rfl (ki X488 hx hby at_104 rfl (ki X488 hx hby at_106 rfl k))) ?_
  show OGl _ _ _ _ T488 (mkF m 108 (ta (jv q0 :: sc :: jv q1 :: sc :: jv q2 :: sc :: jv q3 :: sc :: iv p4 :: jv ((e0_0 q0) + (1 : Int64)) :: sc :: jv ((e0_1 q1) + (1 : Int64)) :: sc :: jv (e0_2 q2) :: sc :: jv (e0_3 q3) :: sc :: iv (e0_4 p4) :: rv b2 :: iv 0 :: iv 1 :: iv 2 :: iv 3 :: un8)) [.int 2, .int 1, .ref b2])
  have F655 := (F571.keep K488)
  obtain ⟨cq572, kq572, q572a, q572b, q572c⟩ := isOf hZ rfl F655
  obtain ⟨_, _, ⟨T572, L572, kk572, n572⟩, -, X572, ⟨Lc572, hQ572, l572, y572, z572⟩, st572⟩ := X488.virtualBack hx (y := yy4) (z := yy4) hown (mvT hZ (w37 hw)) (mvT hZ (w38 hw)) (notFace_of_selects (args := #[]) (mvT hZ (w40 hw))) (mvT hZ (w40 hw)) (mvT hZ (w39 hw)) (by decide) (backOf (W := 0) (rm6a l Z a0 hw [] b2 b10_3 kb10_7 b10_2 kb10_6 (e0_2 q2) ((e0_0 q0) + (1 : Int64)) ((e0_1 q1) + (1 : Int64)) (e0_3 q3) b10_1 b10_0 kb10_4 kb10_5 T488.heap n0 (Nat.le_trans Z0 KK488.1) F655 Fq488_4 Fq488_10 Fq488_0 Fq488_8 Fq488_1 Fq488_7 Fq488_6 Fq488_3 Fq488_2 Fq488_5 Fq488_9 g_b10_3 ne_b2_b10_3 ne_b10_2_b10_3 g_b10_2 ne_b2_b10_2 ne_b10_0_b10_3 ne_b10_0_b10_2 ne_b10_1_b10_3 ne_b10_1_b10_2 g_b10_1 ne_b2_b10_1 ne_b10_0_b10_1 g_b10_0 ne_b2_b10_0 g_b2) hZ (w41 hw) (w3 hw) (by decide) (by decide)) q572a q572c (g := (mkF m 108 (ta (jv q0 :: sc :: jv q1 :: sc :: jv q2 :: sc :: jv q3 :: sc :: iv p4 :: jv ((e0_0 q0) + (1 : Int64)) :: sc :: jv ((e0_1 q1) + (1 : Int64)) :: sc :: jv (e0_2 q2) :: sc :: jv (e0_3 q3) :: sc :: iv (e0_4 p4) :: rv b2 :: iv 0 :: iv 1 :: iv 2 :: iv 3 :: un8)) [.int 2, .int 1, .ref b2])) rfl (by rw [hml]; rfl) (Steps.refl _) (argsL := [.int 1, .int 2]) (rest := []) (lenOf pd_3 rfl) rfl (by show 2 * 0 + _ ≤ _; exact Nat.le_of_eq rfl) (hb hby at_108) (fun _ _ => ⟨rfl, rfl, (by decide : 5 + 0 ≤ _), (by decide : 71 + 0 ≤ _)⟩)
  dsimp only [Pt.U, Pt.locs, Pt.cells, Pt.slots] at X572 l572 y572 z572 st572 hQ572
  replace l572 := l572.symm
  subst l572 y572 z572
  obtain ⟨rfl, Nq572, K572, Fq572_0, Fq572_1, Fq572_2, Fq572_3, Fq572_4, Fq572_5, Fq572_6, Fq572_7, Fq572_8, Fq572_9, Fq572_10⟩ := hQ572
  have KK572 : Keep h0 T572.heap [] := KK488.trans K572 (allS (Or.inr sz_b10_3) (allS (Or.inr sz_b10_2) (allS (Or.inr sz_b10_1) (allS (Or.inr sz_b10_0) (allS (Or.inr sz_b2) all0)))))
  have N572 := Fr.app N488 Nq572
  refine gO (fun t k => st572.trans k) ?_
  show OGl _ _ _ _ T572 (mkF m 111 (ta (jv q0 :: sc :: jv q1 :: sc :: jv q2 :: sc :: jv q3 :: sc :: iv p4 :: jv ((e0_0 q0) + (1 : Int64)) :: sc :: jv ((e0_1 q1) + (1 : Int64)) :: sc :: jv (e0_2 q2) :: sc :: jv (e0_3 q3) :: sc :: iv (e0_4 p4) :: rv b2 :: iv 0 :: iv 1 :: iv 2 :: iv 3 :: un8)) [])
  refine gO (fun t k => ka X572 hx hby at_111 rfl rfl (ki X572 hx hby at_113 rfl (ki X572 hx hby at_115 rfl k))) ?_
  show OGl _ _ _ _ T572 (mkF m 117 (ta (jv q0 :: sc :: jv q1 :: sc :: jv q2 :: sc :: jv q3 :: sc :: iv p4 :: jv ((e0_0 q0) + (1 : Int64)) :: sc :: jv ((e0_1 q1) + (1 : Int64)) :: sc :: jv (e0_2 q2) :: sc :: jv (e0_3 q3) :: sc :: iv (e0_4 p4) :: rv b2 :: iv 0 :: iv 1 :: iv 2 :: iv 3 :: un8)) [.int 3, .int 2, .ref b2])
  have F739 := (F655.keep K572)
  obtain ⟨cq656, kq656, q656a, q656b, q656c⟩ := isOf hZ rfl F739
  obtain ⟨_, _, ⟨T656, L656, kk656, n656⟩, -, X656, ⟨Lc656, hQ656, l656, y656, z656⟩, st656⟩ := X572.virtualBack hx (y := yy4) (z := yy4) hown (mvT hZ (w37 hw)) (mvT hZ (w38 hw)) (notFace_of_selects (args := #[]) (mvT hZ (w40 hw))) (mvT hZ (w40 hw)) (mvT hZ (w39 hw)) (by decide) (backOf (W := 0) (rm6b l Z a0 hw [] b2 b10_3 kb10_7 b10_2 kb10_6 (e0_2 q2) ((e0_0 q0) + (1 : Int64)) ((e0_1 q1) + (1 : Int64)) (e0_3 q3) b10_1 b10_0 kb10_4 kb10_5 T572.heap n0 (Nat.le_trans Z0 KK572.1) F739 Fq572_4 Fq572_10 Fq572_0 Fq572_8 Fq572_1 Fq572_7 Fq572_6 Fq572_3 Fq572_2 Fq572_5 Fq572_9 g_b10_3 ne_b2_b10_3 ne_b10_2_b10_3 g_b10_2 ne_b2_b10_2 ne_b10_0_b10_3 ne_b10_0_b10_2 ne_b10_1_b10_3 ne_b10_1_b10_2 g_b10_1 ne_b2_b10_1 ne_b10_0_b10_1 g_b10_0 ne_b2_b10_0 g_b2) hZ (w41 hw) (w3 hw) (by decide) (by decide)) q656a q656c (g := (mkF m 117 (ta (jv q0 :: sc :: jv q1 :: sc :: jv q2 :: sc :: jv q3 :: sc :: iv p4 :: jv ((e0_0 q0) + (1 : Int64)) :: sc :: jv ((e0_1 q1) + (1 : Int64)) :: sc :: jv (e0_2 q2) :: sc :: jv (e0_3 q3) :: sc :: iv (e0_4 p4) :: rv b2 :: iv 0 :: iv 1 :: iv 2 :: iv 3 :: un8)) [.int 3, .int 2, .ref b2])) rfl (by rw [hml]; rfl) (Steps.refl _) (argsL := [.int 2, .int 3]) (rest := []) (lenOf pd_3 rfl) rfl (by show 2 * 0 + _ ≤ _; exact Nat.le_of_eq rfl) (hb hby at_117) (fun _ _ => ⟨rfl, rfl, (by decide : 5 + 0 ≤ _), (by decide : 71 + 0 ≤ _)⟩)
  dsimp only [Pt.U, Pt.locs, Pt.cells, Pt.slots] at X656 l656 y656 z656 st656 hQ656
  replace l656 := l656.symm
  subst l656 y656 z656
  obtain ⟨rfl, Nq656, K656, Fq656_0, Fq656_1, Fq656_2, Fq656_3, Fq656_4, Fq656_5, Fq656_6, Fq656_7, Fq656_8, Fq656_9, Fq656_10⟩ := hQ656
  have KK656 : Keep h0 T656.heap [] := KK572.trans K656 (allS (Or.inr sz_b10_3) (allS (Or.inr sz_b10_2) (allS (Or.inr sz_b10_1) (allS (Or.inr sz_b10_0) (allS (Or.inr sz_b2) all0)))))
  have N656 := Fr.app N572 Nq656
  refine gO (fun t k => st656.trans k) ?_
  show OGl _ _ _ _ T656 (mkF m 120 (ta (jv q0 :: sc :: jv q1 :: sc :: jv q2 :: sc :: jv q3 :: sc :: iv p4 :: jv ((e0_0 q0) + (1 : Int64)) :: sc :: jv ((e0_1 q1) + (1 : Int64)) :: sc :: jv (e0_2 q2) :: sc :: jv (e0_3 q3) :: sc :: iv (e0_4 p4) :: rv b2 :: iv 0 :: iv 1 :: iv 2 :: iv 3 :: un8)) [])
  refine gO (fun t k => ki X656 hx hby at_120 rfl k) ?_
  show OGl _ _ _ _ T656 (mkF m 122 (ta (jv q0 :: sc :: jv q1 :: sc :: jv q2 :: sc :: jv q3 :: sc :: iv p4 :: jv ((e0_0 q0) + (1 : Int64)) :: sc :: jv ((e0_1 q1) + (1 : Int64)) :: sc :: jv (e0_2 q2) :: sc :: jv (e0_3 q3) :: sc :: iv (e0_4 p4) :: rv b2 :: iv 0 :: iv 1 :: iv 2 :: iv 3 :: un8)) [.int (e0_4 p4)])
  by_cases hc741 : (e0_4 p4) = (0 : Int32)
  · refine gO (fun t k => iY X656 hx hby 134 at_122 ((if0 _ _).trans (teq hc741).1) rfl k) ?_
    show OGl _ _ _ _ T656 (mkF m 134 (ta (jv q0 :: sc :: jv q1 :: sc :: jv q2 :: sc :: jv q3 :: sc :: iv p4 :: jv ((e0_0 q0) + (1 : Int64)) :: sc :: jv ((e0_1 q1) + (1 : Int64)) :: sc :: jv (e0_2 q2) :: sc :: jv (e0_3 q3) :: sc :: iv (e0_4 p4) :: rv b2 :: iv 0 :: iv 1 :: iv 2 :: iv 3 :: un8)) [])
    by_cases hc742 : ((e0_0 q0) + (1 : Int64)) < ((e0_1 q1) + (1 : Int64))
    · show OGl _ _ _ _ T656 (mkF m 134 (ta (jv q0 :: sc :: jv q1 :: sc :: jv q2 :: sc :: jv q3 :: sc :: iv p4 :: jv ((e0_0 q0) + (1 : Int64)) :: sc :: jv ((e0_1 q1) + (1 : Int64)) :: sc :: jv (e0_2 q2) :: sc :: jv (e0_3 q3) :: sc :: iv (e0_4 p4) :: rv b2 :: iv 0 :: iv 1 :: iv 2 :: iv 3 :: un8)) [])
      refine gO (fun t k => ka X656 hx hby at_134 rfl rfl (ki X656 hx hby at_136 rfl (ki X656 hx hby at_138 rfl (own_ldc2 X656 hx hown (mvT hZ (w43 hw)) rfl (hb hby at_140) k)))) ?_
      show OGl _ _ _ _ T656 (mkF m 143 (ta (jv q0 :: sc :: jv q1 :: sc :: jv q2 :: sc :: jv q3 :: sc :: iv p4 :: jv ((e0_0 q0) + (1 : Int64)) :: sc :: jv ((e0_1 q1) + (1 : Int64)) :: sc :: jv (e0_2 q2) :: sc :: jv (e0_3 q3) :: sc :: iv (e0_4 p4) :: rv b2 :: iv 0 :: iv 1 :: iv 2 :: iv 3 :: un8)) [.long 2305843009213693950, .int 3, .int 0, .ref b2])
      have F1037 := (F739.keep K656)
      obtain ⟨cq743, kq743, q743a, q743b, q743c⟩ := isOf hZ rfl F1037
      obtain ⟨_, _, ⟨T743, L743, kk743, n743⟩, -, X743, ⟨Lc743, hQ743, l743, y743, z743⟩, st743⟩ := X656.virtualBack hx (y := yy7) (z := yy7) hown (mvT hZ (w44 hw)) (mvT hZ (w45 hw)) (notFace_of_selects (args := #[]) (mvT hZ (w47 hw))) (mvT hZ (w47 hw)) (mvT hZ (w46 hw)) (by decide) (backOf (W := 0) (rm7 l Z a0 hw [] b2 b10_0 kb10_4 b10_2 kb10_6 (e0_2 q2) ((e0_0 q0) + (1 : Int64)) ((e0_1 q1) + (1 : Int64)) (e0_3 q3) b10_3 kb10_7 b10_1 kb10_5 T656.heap n0 (Nat.le_trans Z0 KK656.1) Fq656_5 Fq656_4 Fq656_6 Fq656_3 Fq656_8 Fq656_1 Fq656_10 Fq656_0 Fq656_7 Fq656_2 (own_pr0 q0 q1 hc742) (own_pr1 q0 q1 hc742) g_b10_2 ne_b2_b10_2 (Ne.symm ne_b10_2_b10_3) (own_pr2 q0 q1 hc742) ne_b10_0_b10_2 ne_b10_1_b10_2 (own_pr3 q0 q1 hc742) (own_pr4 q0 q1 hc742) (own_pr5 q0 q1 hc742) F1037 Fq656_9 g_b2) hZ (w48 hw) (w3 hw) (by decide) (by decide)) q743a q743c (g := (mkF m 143 (ta (jv q0 :: sc :: jv q1 :: sc :: jv q2 :: sc :: jv q3 :: sc :: iv p4 :: jv ((e0_0 q0) + (1 : Int64)) :: sc :: jv ((e0_1 q1) + (1 : Int64)) :: sc :: jv (e0_2 q2) :: sc :: jv (e0_3 q3) :: sc :: iv (e0_4 p4) :: rv b2 :: iv 0 :: iv 1 :: iv 2 :: iv 3 :: un8)) [.long 2305843009213693950, .int 3, .int 0, .ref b2])) rfl (by rw [hml]; rfl) (Steps.refl _) (argsL := [.int 0, .int 3, .long 2305843009213693950]) (rest := []) (lenOf pd_6 rfl) rfl (by show 2 * 0 + _ ≤ _; exact Nat.le_of_eq rfl) (hb hby at_143) (fun _ _ => ⟨rfl, rfl, (by decide : 5 + 4 ≤ _), (by decide : 71 + 32 ≤ _)⟩)
      dsimp only [Pt.U, Pt.locs, Pt.cells, Pt.slots] at X743 l743 y743 z743 st743 hQ743
      replace l743 := l743.symm
      subst l743 y743 z743
      obtain ⟨b743_0, kb743_1, rfl, Nq743, K743, sb_b743_0, Fq743_0, Fq743_1, Fq743_2, Fq743_3, Fq743_4, Fq743_5, Fq743_6, Fq743_7, Fq743_8⟩ := hQ743
      have ne_b10_0_b743_0 : b10_0 ≠ b743_0 := Nat.ne_of_lt (Nat.lt_of_lt_of_le Fq656_3.lt sb_b743_0)
      have ne_b10_1_b743_0 : b10_1 ≠ b743_0 := Nat.ne_of_lt (Nat.lt_of_lt_of_le Fq656_2.lt sb_b743_0)
      have ne_b10_2_b743_0 : b10_2 ≠ b743_0 := Nat.ne_of_lt (Nat.lt_of_lt_of_le Fq656_1.lt sb_b743_0)
      have ne_b10_3_b743_0 : b10_3 ≠ b743_0 := Nat.ne_of_lt (Nat.lt_of_lt_of_le Fq656_0.lt sb_b743_0)
      have ne_b2_b743_0 : b2 ≠ b743_0 := Nat.ne_of_lt (Nat.lt_of_lt_of_le F1037.lt sb_b743_0)
      have sz_b743_0 : h0.size ≤ b743_0 := Nat.le_trans KK656.1 sb_b743_0
      have g_b743_0 : n0 ≤ b743_0 := Nat.le_trans Z0 sz_b743_0
      have KK743 : Keep h0 T743.heap [] := KK656.trans K743 (allS (Or.inr sz_b10_2) (allS (Or.inr sz_b2) all0))
      have N743 := Fr.app N656 Nq743
      refine gO (fun t k => st743.trans k) ?_
      show OGl _ _ _ _ T743 (mkF m 146 (ta (jv q0 :: sc :: jv q1 :: sc :: jv q2 :: sc :: jv q3 :: sc :: iv p4 :: jv ((e0_0 q0) + (1 : Int64)) :: sc :: jv ((e0_1 q1) + (1 : Int64)) :: sc :: jv (e0_2 q2) :: sc :: jv (e0_3 q3) :: sc :: iv (e0_4 p4) :: rv b2 :: iv 0 :: iv 1 :: iv 2 :: iv 3 :: un8)) [.long (e0_5 q0 q1)])
      refine gO (fun t k => sl X743 hx hby (L' := (ta (jv q0 :: sc :: jv q1 :: sc :: jv q2 :: sc :: jv q3 :: sc :: iv p4 :: jv ((e0_0 q0) + (1 : Int64)) :: sc :: jv ((e0_1 q1) + (1 : Int64)) :: sc :: jv (e0_2 q2) :: sc :: jv (e0_3 q3) :: sc :: iv (e0_4 p4) :: rv b2 :: iv 0 :: iv 1 :: iv 2 :: iv 3 :: jv (e0_5 q0 q1) :: sc :: un6))) at_146 rfl (ki X743 hx hby at_148 rfl (iY X743 hx hby 158 at_150 ((if0 _ _).trans (teq hc741).1) rfl (kl X743 hx hby at_158 rfl (kl X743 hx hby at_160 rfl k))))) ?_
      show OGl _ _ _ _ T743 (mkF m 162 (ta (jv q0 :: sc :: jv q1 :: sc :: jv q2 :: sc :: jv q3 :: sc :: iv p4 :: jv ((e0_0 q0) + (1 : Int64)) :: sc :: jv ((e0_1 q1) + (1 : Int64)) :: sc :: jv (e0_2 q2) :: sc :: jv (e0_3 q3) :: sc :: iv (e0_4 p4) :: rv b2 :: iv 0 :: iv 1 :: iv 2 :: iv 3 :: jv (e0_5 q0 q1) :: sc :: un6)) [.long ((e0_1 q1) + (1 : Int64)), .long ((e0_0 q0) + (1 : Int64))])
      obtain ⟨_, _, ⟨T1038, L1038, kk1038, n1038⟩, -, X1038, ⟨Lc1038, hQ1038, l1038, y1038, z1038⟩, st1038⟩ := Jvm.LawKit.callS X743 hx (y := yy6) hown (mvT hZ (w65 hw)) (mvT hZ (w54 hw)) (mvT hZ (w55 hw)) (mvT hZ (w56 hw)) (by decide) (backOf (W := 0) (rm9c l Z a0 hw [] ((e0_0 q0) + (1 : Int64)) ((e0_1 q1) + (1 : Int64)) T743.heap n0 (Nat.le_trans Z0 KK743.1) ) hZ (w56 hw) (w55 hw) (by decide) (by decide)) (g := (mkF m 162 (ta (jv q0 :: sc :: jv q1 :: sc :: jv q2 :: sc :: jv q3 :: sc :: iv p4 :: jv ((e0_0 q0) + (1 : Int64)) :: sc :: jv ((e0_1 q1) + (1 : Int64)) :: sc :: jv (e0_2 q2) :: sc :: jv (e0_3 q3) :: sc :: iv (e0_4 p4) :: rv b2 :: iv 0 :: iv 1 :: iv 2 :: iv 3 :: jv (e0_5 q0 q1) :: sc :: un6)) [.long ((e0_1 q1) + (1 : Int64)), .long ((e0_0 q0) + (1 : Int64))])) rfl (by rw [hml]; rfl) (argsL := [.long ((e0_0 q0) + (1 : Int64)), .long ((e0_1 q1) + (1 : Int64))]) (rest := []) (lenOf pd_5 rfl) rfl (by show 2 * 0 + _ ≤ _; exact Nat.le_of_eq rfl) (hb hby at_162) (fun _ _ => ⟨rfl, rfl, (by decide : 9 + 0 ≤ _), (by decide : 103 + 0 ≤ _)⟩)
      dsimp only [Pt.U, Pt.locs, Pt.cells, Pt.slots] at X1038 l1038 y1038 z1038 st1038 hQ1038
      replace l1038 := l1038.symm
      subst l1038 y1038 z1038
      obtain ⟨rfl, Nq1038, e1038⟩ := hQ1038
      have N1038 := Fr.app N743 Nq1038
      refine gO st1038 ?_
      show OGl _ _ _ _ T1038 (mkF m 165 (ta (jv q0 :: sc :: jv q1 :: sc :: jv q2 :: sc :: jv q3 :: sc :: iv p4 :: jv ((e0_0 q0) + (1 : Int64)) :: sc :: jv ((e0_1 q1) + (1 : Int64)) :: sc :: jv (e0_2 q2) :: sc :: jv (e0_3 q3) :: sc :: iv (e0_4 p4) :: rv b2 :: iv 0 :: iv 1 :: iv 2 :: iv 3 :: jv (e0_5 q0 q1) :: sc :: un6)) [.long (e0_6 q0 q1)])
      refine gO (fun t k => sl X1038 hx hby (L' := (ta (jv q0 :: sc :: jv q1 :: sc :: jv q2 :: sc :: jv q3 :: sc :: iv p4 :: jv ((e0_0 q0) + (1 : Int64)) :: sc :: jv ((e0_1 q1) + (1 : Int64)) :: sc :: jv (e0_2 q2) :: sc :: jv (e0_3 q3) :: sc :: iv (e0_4 p4) :: rv b2 :: iv 0 :: iv 1 :: iv 2 :: iv 3 :: jv (e0_5 q0 q1) :: sc :: jv (e0_6 q0 q1) :: sc :: un4))) at_165 rfl (kl X1038 hx hby at_167 rfl (kl X1038 hx hby at_169 rfl (o_lcmp X1038 hx hby at_171 k)))) ?_
      show OGl _ _ _ _ T1038 (mkF m 172 (ta (jv q0 :: sc :: jv q1 :: sc :: jv q2 :: sc :: jv q3 :: sc :: iv p4 :: jv ((e0_0 q0) + (1 : Int64)) :: sc :: jv ((e0_1 q1) + (1 : Int64)) :: sc :: jv (e0_2 q2) :: sc :: jv (e0_3 q3) :: sc :: iv (e0_4 p4) :: rv b2 :: iv 0 :: iv 1 :: iv 2 :: iv 3 :: jv (e0_5 q0 q1) :: sc :: jv (e0_6 q0 q1) :: sc :: un4)) [.int (lcmpW (e0_5 q0 q1) (e0_6 q0 q1))])
      by_cases hc1039 : (e0_5 q0 q1) = (e0_6 q0 q1)
      · refine gO (fun t k => iY X1038 hx hby 177 at_172 (own_teqL hc1039).1 rfl (ka X1038 hx hby at_177 rfl rfl (ki X1038 hx hby at_179 rfl k))) ?_
        show OGl _ _ _ _ T1038 (mkF m 181 (ta (jv q0 :: sc :: jv q1 :: sc :: jv q2 :: sc :: jv q3 :: sc :: iv p4 :: jv ((e0_0 q0) + (1 : Int64)) :: sc :: jv ((e0_1 q1) + (1 : Int64)) :: sc :: jv (e0_2 q2) :: sc :: jv (e0_3 q3) :: sc :: iv (e0_4 p4) :: rv b2 :: iv 0 :: iv 1 :: iv 2 :: iv 3 :: jv (e0_5 q0 q1) :: sc :: jv (e0_6 q0 q1) :: sc :: un4)) [.int 1, .ref b2])
        have F1043 := (F1037.keep K743)
        obtain ⟨cq1040, kq1040, q1040a, q1040b, q1040c⟩ := isOf hZ e1038 F1043
        obtain ⟨_, _, ⟨T1040, L1040, kk1040, n1040⟩, -, X1040, ⟨Lc1040, hQ1040, l1040, y1040, z1040⟩, st1040⟩ := X1038.virtualBack hx (y := yy8) (z := yy8) hown (mvT hZ (w60 hw)) (mvT hZ (w61 hw)) (notFace_of_selects (args := #[]) (mvT hZ (w63 hw))) (mvT hZ (w63 hw)) (mvT hZ (w62 hw)) (by decide) (backOf (W := 0) (rm10 l Z a0 hw [] b2 b743_0 kb743_1 T743.heap n0 (Nat.le_trans Z0 KK743.1) Fq743_6 Fq743_8) hZ (w64 hw) (w3 hw) (by decide) (by decide)) q1040a q1040c (g := (mkF m 181 (ta (jv q0 :: sc :: jv q1 :: sc :: jv q2 :: sc :: jv q3 :: sc :: iv p4 :: jv ((e0_0 q0) + (1 : Int64)) :: sc :: jv ((e0_1 q1) + (1 : Int64)) :: sc :: jv (e0_2 q2) :: sc :: jv (e0_3 q3) :: sc :: iv (e0_4 p4) :: rv b2 :: iv 0 :: iv 1 :: iv 2 :: iv 3 :: jv (e0_5 q0 q1) :: sc :: jv (e0_6 q0 q1) :: sc :: un4)) [.int 1, .ref b2])) rfl (by rw [hml]; rfl) (Steps.refl _) (argsL := [.int 1]) (rest := []) (lenOf pd_7 rfl) rfl (by show 2 * 0 + _ ≤ _; exact Nat.le_of_eq rfl) (hb hby at_181) (fun _ _ => ⟨rfl, e1038, (by decide : 9 + 0 ≤ _), (by decide : 103 + 0 ≤ _)⟩)
        dsimp only [Pt.U, Pt.locs, Pt.cells, Pt.slots] at X1040 l1040 y1040 z1040 st1040 hQ1040
        replace l1040 := l1040.symm
        subst l1040 y1040 z1040
        obtain ⟨rfl, Nq1040, e1040⟩ := hQ1040
        have N1040 := Fr.app N1038 Nq1040
        refine gO (fun t k => st1040.trans k) ?_
        show OGl _ _ _ _ T1040 (mkF m 184 (ta (jv q0 :: sc :: jv q1 :: sc :: jv q2 :: sc :: jv q3 :: sc :: iv p4 :: jv ((e0_0 q0) + (1 : Int64)) :: sc :: jv ((e0_1 q1) + (1 : Int64)) :: sc :: jv (e0_2 q2) :: sc :: jv (e0_3 q3) :: sc :: iv (e0_4 p4) :: rv b2 :: iv 0 :: iv 1 :: iv 2 :: iv 3 :: jv (e0_5 q0 q1) :: sc :: jv (e0_6 q0 q1) :: sc :: un4)) [.int 1])
        refine gO (fun t k => si X1040 hx hby (L' := (ta (jv q0 :: sc :: jv q1 :: sc :: jv q2 :: sc :: jv q3 :: sc :: iv p4 :: jv ((e0_0 q0) + (1 : Int64)) :: sc :: jv ((e0_1 q1) + (1 : Int64)) :: sc :: jv (e0_2 q2) :: sc :: jv (e0_3 q3) :: sc :: iv (e0_4 p4) :: rv b2 :: iv 0 :: iv 1 :: iv 2 :: iv 3 :: jv (e0_5 q0 q1) :: sc :: jv (e0_6 q0 q1) :: sc :: iv 1 :: un3))) at_184 rfl (ka X1040 hx hby at_186 rfl rfl (ki X1040 hx hby at_188 rfl k))) ?_
        show OGl _ _ _ _ T1040 (mkF m 190 (ta (jv q0 :: sc :: jv q1 :: sc :: jv q2 :: sc :: jv q3 :: sc :: iv p4 :: jv ((e0_0 q0) + (1 : Int64)) :: sc :: jv ((e0_1 q1) + (1 : Int64)) :: sc :: jv (e0_2 q2) :: sc :: jv (e0_3 q3) :: sc :: iv (e0_4 p4) :: rv b2 :: iv 0 :: iv 1 :: iv 2 :: iv 3 :: jv (e0_5 q0 q1) :: sc :: jv (e0_6 q0 q1) :: sc :: iv 1 :: un3)) [.int 2, .ref b2])
        obtain ⟨cq1044, kq1044, q1044a, q1044b, q1044c⟩ := isOf hZ e1040 F1043
        obtain ⟨_, _, ⟨T1044, L1044, kk1044, n1044⟩, -, X1044, ⟨Lc1044, hQ1044, l1044, y1044, z1044⟩, st1044⟩ := X1040.virtualBack hx (y := yy8) (z := yy8) hown (mvT hZ (w60 hw)) (mvT hZ (w61 hw)) (notFace_of_selects (args := #[]) (mvT hZ (w63 hw))) (mvT hZ (w63 hw)) (mvT hZ (w62 hw)) (by decide) (backOf (W := 0) (rm10a l Z a0 hw [] b2 b743_0 kb743_1 T743.heap n0 (Nat.le_trans Z0 KK743.1) Fq743_6 Fq743_8) hZ (w64 hw) (w3 hw) (by decide) (by decide)) q1044a q1044c (g := (mkF m 190 (ta (jv q0 :: sc :: jv q1 :: sc :: jv q2 :: sc :: jv q3 :: sc :: iv p4 :: jv ((e0_0 q0) + (1 : Int64)) :: sc :: jv ((e0_1 q1) + (1 : Int64)) :: sc :: jv (e0_2 q2) :: sc :: jv (e0_3 q3) :: sc :: iv (e0_4 p4) :: rv b2 :: iv 0 :: iv 1 :: iv 2 :: iv 3 :: jv (e0_5 q0 q1) :: sc :: jv (e0_6 q0 q1) :: sc :: iv 1 :: un3)) [.int 2, .ref b2])) rfl (by rw [hml]; rfl) (Steps.refl _) (argsL := [.int 2]) (rest := []) (lenOf pd_7 rfl) rfl (by show 2 * 0 + _ ≤ _; exact Nat.le_of_eq rfl) (hb hby at_190) (fun _ _ => ⟨rfl, e1040, (by decide : 9 + 0 ≤ _), (by decide : 103 + 0 ≤ _)⟩)
        dsimp only [Pt.U, Pt.locs, Pt.cells, Pt.slots] at X1044 l1044 y1044 z1044 st1044 hQ1044
        replace l1044 := l1044.symm
        subst l1044 y1044 z1044
        obtain ⟨rfl, Nq1044, e1044⟩ := hQ1044
        have N1044 := Fr.app N1040 Nq1044
        refine gO (fun t k => st1044.trans k) ?_
        show OGl _ _ _ _ T1044 (mkF m 193 (ta (jv q0 :: sc :: jv q1 :: sc :: jv q2 :: sc :: jv q3 :: sc :: iv p4 :: jv ((e0_0 q0) + (1 : Int64)) :: sc :: jv ((e0_1 q1) + (1 : Int64)) :: sc :: jv (e0_2 q2) :: sc :: jv (e0_3 q3) :: sc :: iv (e0_4 p4) :: rv b2 :: iv 0 :: iv 1 :: iv 2 :: iv 3 :: jv (e0_5 q0 q1) :: sc :: jv (e0_6 q0 q1) :: sc :: iv 1 :: un3)) [.int 0])
        refine gO (fun t k => si X1044 hx hby (L' := (ta (jv q0 :: sc :: jv q1 :: sc :: jv q2 :: sc :: jv q3 :: sc :: iv p4 :: jv ((e0_0 q0) + (1 : Int64)) :: sc :: jv ((e0_1 q1) + (1 : Int64)) :: sc :: jv (e0_2 q2) :: sc :: jv (e0_3 q3) :: sc :: iv (e0_4 p4) :: rv b2 :: iv 0 :: iv 1 :: iv 2 :: iv 3 :: jv (e0_5 q0 q1) :: sc :: jv (e0_6 q0 q1) :: sc :: iv 1 :: iv 0 :: un2))) at_193 rfl (ka X1044 hx hby at_195 rfl rfl (ki X1044 hx hby at_197 rfl k))) ?_
        show OGl _ _ _ _ T1044 (mkF m 199 (ta (jv q0 :: sc :: jv q1 :: sc :: jv q2 :: sc :: jv q3 :: sc :: iv p4 :: jv ((e0_0 q0) + (1 : Int64)) :: sc :: jv ((e0_1 q1) + (1 : Int64)) :: sc :: jv (e0_2 q2) :: sc :: jv (e0_3 q3) :: sc :: iv (e0_4 p4) :: rv b2 :: iv 0 :: iv 1 :: iv 2 :: iv 3 :: jv (e0_5 q0 q1) :: sc :: jv (e0_6 q0 q1) :: sc :: iv 1 :: iv 0 :: un2)) [.int 0, .ref b2])
        obtain ⟨cq1046, kq1046, q1046a, q1046b, q1046c⟩ := isOf hZ e1044 F1043
        obtain ⟨_, _, ⟨T1046, L1046, kk1046, n1046⟩, -, X1046, ⟨Lc1046, hQ1046, l1046, y1046, z1046⟩, st1046⟩ := X1044.virtualBack hx (y := yy8) (z := yy8) hown (mvT hZ (w60 hw)) (mvT hZ (w61 hw)) (notFace_of_selects (args := #[]) (mvT hZ (w63 hw))) (mvT hZ (w63 hw)) (mvT hZ (w62 hw)) (by decide) (backOf (W := 0) (rm10b l Z a0 hw [] b2 b743_0 kb743_1 T743.heap n0 (Nat.le_trans Z0 KK743.1) Fq743_6 Fq743_8) hZ (w64 hw) (w3 hw) (by decide) (by decide)) q1046a q1046c (g := (mkF m 199 (ta (jv q0 :: sc :: jv q1 :: sc :: jv q2 :: sc :: jv q3 :: sc :: iv p4 :: jv ((e0_0 q0) + (1 : Int64)) :: sc :: jv ((e0_1 q1) + (1 : Int64)) :: sc :: jv (e0_2 q2) :: sc :: jv (e0_3 q3) :: sc :: iv (e0_4 p4) :: rv b2 :: iv 0 :: iv 1 :: iv 2 :: iv 3 :: jv (e0_5 q0 q1) :: sc :: jv (e0_6 q0 q1) :: sc :: iv 1 :: iv 0 :: un2)) [.int 0, .ref b2])) rfl (by rw [hml]; rfl) (Steps.refl _) (argsL := [.int 0]) (rest := []) (lenOf pd_7 rfl) rfl (by show 2 * 0 + _ ≤ _; exact Nat.le_of_eq rfl) (hb hby at_199) (fun _ _ => ⟨rfl, e1044, (by decide : 9 + 0 ≤ _), (by decide : 103 + 0 ≤ _)⟩)
        dsimp only [Pt.U, Pt.locs, Pt.cells, Pt.slots] at X1046 l1046 y1046 z1046 st1046 hQ1046
        replace l1046 := l1046.symm
        subst l1046 y1046 z1046
        obtain ⟨rfl, Nq1046, e1046⟩ := hQ1046
        have N1046 := Fr.app N1044 Nq1046
        refine gO (fun t k => st1046.trans k) ?_
        show OGl _ _ _ _ T1046 (mkF m 202 (ta (jv q0 :: sc :: jv q1 :: sc :: jv q2 :: sc :: jv q3 :: sc :: iv p4 :: jv ((e0_0 q0) + (1 : Int64)) :: sc :: jv ((e0_1 q1) + (1 : Int64)) :: sc :: jv (e0_2 q2) :: sc :: jv (e0_3 q3) :: sc :: iv (e0_4 p4) :: rv b2 :: iv 0 :: iv 1 :: iv 2 :: iv 3 :: jv (e0_5 q0 q1) :: sc :: jv (e0_6 q0 q1) :: sc :: iv 1 :: iv 0 :: un2)) [.int 0])
        refine gO (fun t k => si X1046 hx hby (L' := (ta (jv q0 :: sc :: jv q1 :: sc :: jv q2 :: sc :: jv q3 :: sc :: iv p4 :: jv ((e0_0 q0) + (1 : Int64)) :: sc :: jv ((e0_1 q1) + (1 : Int64)) :: sc :: jv (e0_2 q2) :: sc :: jv (e0_3 q3) :: sc :: iv (e0_4 p4) :: rv b2 :: iv 0 :: iv 1 :: iv 2 :: iv 3 :: jv (e0_5 q0 q1) :: sc :: jv (e0_6 q0 q1) :: sc :: iv 1 :: iv 0 :: iv 0 :: un :: []))) at_202 rfl (ka X1046 hx hby at_204 rfl rfl (ki X1046 hx hby at_206 rfl k))) ?_
        show OGl _ _ _ _ T1046 (mkF m 208 (ta (jv q0 :: sc :: jv q1 :: sc :: jv q2 :: sc :: jv q3 :: sc :: iv p4 :: jv ((e0_0 q0) + (1 : Int64)) :: sc :: jv ((e0_1 q1) + (1 : Int64)) :: sc :: jv (e0_2 q2) :: sc :: jv (e0_3 q3) :: sc :: iv (e0_4 p4) :: rv b2 :: iv 0 :: iv 1 :: iv 2 :: iv 3 :: jv (e0_5 q0 q1) :: sc :: jv (e0_6 q0 q1) :: sc :: iv 1 :: iv 0 :: iv 0 :: un :: [])) [.int 3, .ref b2])
        obtain ⟨cq1048, kq1048, q1048a, q1048b, q1048c⟩ := isOf hZ e1046 F1043
        obtain ⟨_, _, ⟨T1048, L1048, kk1048, n1048⟩, -, X1048, ⟨Lc1048, hQ1048, l1048, y1048, z1048⟩, st1048⟩ := X1046.virtualBack hx (y := yy8) (z := yy8) hown (mvT hZ (w60 hw)) (mvT hZ (w61 hw)) (notFace_of_selects (args := #[]) (mvT hZ (w63 hw))) (mvT hZ (w63 hw)) (mvT hZ (w62 hw)) (by decide) (backOf (W := 0) (rm10c l Z a0 hw [] b2 b743_0 kb743_1 T743.heap n0 (Nat.le_trans Z0 KK743.1) Fq743_6 Fq743_8) hZ (w64 hw) (w3 hw) (by decide) (by decide)) q1048a q1048c (g := (mkF m 208 (ta (jv q0 :: sc :: jv q1 :: sc :: jv q2 :: sc :: jv q3 :: sc :: iv p4 :: jv ((e0_0 q0) + (1 : Int64)) :: sc :: jv ((e0_1 q1) + (1 : Int64)) :: sc :: jv (e0_2 q2) :: sc :: jv (e0_3 q3) :: sc :: iv (e0_4 p4) :: rv b2 :: iv 0 :: iv 1 :: iv 2 :: iv 3 :: jv (e0_5 q0 q1) :: sc :: jv (e0_6 q0 q1) :: sc :: iv 1 :: iv 0 :: iv 0 :: un :: [])) [.int 3, .ref b2])) rfl (by rw [hml]; rfl) (Steps.refl _) (argsL := [.int 3]) (rest := []) (lenOf pd_7 rfl) rfl (by show 2 * 0 + _ ≤ _; exact Nat.le_of_eq rfl) (hb hby at_208) (fun _ _ => ⟨rfl, e1046, (by decide : 9 + 0 ≤ _), (by decide : 103 + 0 ≤ _)⟩)
        dsimp only [Pt.U, Pt.locs, Pt.cells, Pt.slots] at X1048 l1048 y1048 z1048 st1048 hQ1048
        replace l1048 := l1048.symm
        subst l1048 y1048 z1048
        obtain ⟨rfl, Nq1048, e1048⟩ := hQ1048
        have N1048 := Fr.app N1046 Nq1048
        refine gO (fun t k => st1048.trans k) ?_
        show OGl _ _ _ _ T1048 (mkF m 211 (ta (jv q0 :: sc :: jv q1 :: sc :: jv q2 :: sc :: jv q3 :: sc :: iv p4 :: jv ((e0_0 q0) + (1 : Int64)) :: sc :: jv ((e0_1 q1) + (1 : Int64)) :: sc :: jv (e0_2 q2) :: sc :: jv (e0_3 q3) :: sc :: iv (e0_4 p4) :: rv b2 :: iv 0 :: iv 1 :: iv 2 :: iv 3 :: jv (e0_5 q0 q1) :: sc :: jv (e0_6 q0 q1) :: sc :: iv 1 :: iv 0 :: iv 0 :: un :: [])) [.int 0])
        refine gO (fun t k => si X1048 hx hby (L' := (ta (jv q0 :: sc :: jv q1 :: sc :: jv q2 :: sc :: jv q3 :: sc :: iv p4 :: jv ((e0_0 q0) + (1 : Int64)) :: sc :: jv ((e0_1 q1) + (1 : Int64)) :: sc :: jv (e0_2 q2) :: sc :: jv (e0_3 q3) :: sc :: iv (e0_4 p4) :: rv b2 :: iv 0 :: iv 1 :: iv 2 :: iv 3 :: jv (e0_5 q0 q1) :: sc :: jv (e0_6 q0 q1) :: sc :: iv 1 :: iv 0 :: iv 0 :: iv 0 :: []))) at_211 rfl (ki X1048 hx hby at_213 rfl (iN X1048 hx hby at_215 ((if0 _ _).trans (teq (by decide : (0 : Int32) = (0 : Int32))).2) (ki X1048 hx hby at_218 rfl (iY X1048 hx hby 225 at_220 ((if0 _ _).trans (teq (by decide : (0 : Int32) = (0 : Int32))).1) rfl (ki X1048 hx hby at_225 rfl (iY X1048 hx hby 246 at_227 ((if0 _ _).trans (teq hc741).1) rfl (kl X1048 hx hby at_246 rfl (kl X1048 hx hby at_248 rfl (o_lcmp X1048 hx hby at_250 (iN X1048 hx hby at_251 (own_tltL hc742).2.1 (ki X1048 hx hby at_254 rfl (iN X1048 hx hby at_256 ((if0 _ _).trans (feq (by decide : ¬ ((1 : Int32) = (0 : Int32)))).1) (ki X1048 hx hby at_259 rfl (iN X1048 hx hby at_261 ((if0 _ _).trans (teq (by decide : (0 : Int32) = (0 : Int32))).2) (kc X1048 hx hby at_264 (o_goto X1048 hx hby 269 at_265 rfl k))))))))))))))))) ?_
        show OGl _ _ _ _ T1048 (mkF m 269 (ta (jv q0 :: sc :: jv q1 :: sc :: jv q2 :: sc :: jv q3 :: sc :: iv p4 :: jv ((e0_0 q0) + (1 : Int64)) :: sc :: jv ((e0_1 q1) + (1 : Int64)) :: sc :: jv (e0_2 q2) :: sc :: jv (e0_3 q3) :: sc :: iv (e0_4 p4) :: rv b2 :: iv 0 :: iv 1 :: iv 2 :: iv 3 :: jv (e0_5 q0 q1) :: sc :: jv (e0_6 q0 q1) :: sc :: iv 1 :: iv 0 :: iv 0 :: iv 0 :: [])) [.int 1])
        obtain ⟨fs, hr, hrun, hended, hW, hsame⟩ := X1048.leave (v := some (.int 1)) (fun h => by rw [Bd.returns] at h; cases h) (BodyLoose.notSynchronized Bd)
        refine ⟨_, _, retN X1048 hx (t := .boolean) Bd.returns (by simp) (hb hby at_269) hr, hrun, hended, _, _, rfl, ?_, ⟨_, rfl⟩, hW, hsame.mono (by decide) (by decide)⟩
        have hv1789 : (t0_0 q0 q1 q2 q3 p4) = (1 : Int32) := by unfold t0_0; rw [if_pos hc741, if_pos hc742, if_pos hc1039]
        show Q0 Z q0 q1 q2 q3 p4 h0 n0 _ T1048.heap _
        rw [e1048]
        exact ⟨(by rw [hv1789]), N1048⟩
      · refine gO (fun t k => iN X1038 hx hby at_172 (own_feqL hc1039).1 (kc X1038 hx hby at_175 k)) ?_
        show OGl _ _ _ _ T1038 (mkF m 176 (ta (jv q0 :: sc :: jv q1 :: sc :: jv q2 :: sc :: jv q3 :: sc :: iv p4 :: jv ((e0_0 q0) + (1 : Int64)) :: sc :: jv ((e0_1 q1) + (1 : Int64)) :: sc :: jv (e0_2 q2) :: sc :: jv (e0_3 q3) :: sc :: iv (e0_4 p4) :: rv b2 :: iv 0 :: iv 1 :: iv 2 :: iv 3 :: jv (e0_5 q0 q1) :: sc :: jv (e0_6 q0 q1) :: sc :: un4)) [.int 0])
        obtain ⟨fs, hr, hrun, hended, hW, hsame⟩ := X1038.leave (v := some (.int 0)) (fun h => by rw [Bd.returns] at h; cases h) (BodyLoose.notSynchronized Bd)
        refine ⟨_, _, retN X1038 hx (t := .boolean) Bd.returns (by simp) (hb hby at_176) hr, hrun, hended, _, _, rfl, ?_, ⟨_, rfl⟩, hW, hsame.mono (by decide) (by decide)⟩
        have hv1790 : (t0_0 q0 q1 q2 q3 p4) = (0 : Int32) := by unfold t0_0; rw [if_pos hc741, if_pos hc742, if_neg hc1039]
        show Q0 Z q0 q1 q2 q3 p4 h0 n0 _ T1038.heap _
        rw [e1038]
        exact ⟨(by rw [hv1790]), N1038⟩
    · show OGl _ _ _ _ T656 (mkF m 134 (ta (jv q0 :: sc :: jv q1 :: sc :: jv q2 :: sc :: jv q3 :: sc :: iv p4 :: jv ((e0_0 q0) + (1 : Int64)) :: sc :: jv ((e0_1 q1) + (1 : Int64)) :: sc :: jv (e0_2 q2) :: sc :: jv (e0_3 q3) :: sc :: iv (e0_4 p4) :: rv b2 :: iv 0 :: iv 1 :: iv 2 :: iv 3 :: un8)) [])
      by_cases hc1050 : ((e0_1 q1) + (1 : Int64)) < ((e0_0 q0) + (1 : Int64))
      · show OGl _ _ _ _ T656 (mkF m 134 (ta (jv q0 :: sc :: jv q1 :: sc :: jv q2 :: sc :: jv q3 :: sc :: iv p4 :: jv ((e0_0 q0) + (1 : Int64)) :: sc :: jv ((e0_1 q1) + (1 : Int64)) :: sc :: jv (e0_2 q2) :: sc :: jv (e0_3 q3) :: sc :: iv (e0_4 p4) :: rv b2 :: iv 0 :: iv 1 :: iv 2 :: iv 3 :: un8)) [])
        refine gO (fun t k => ka X656 hx hby at_134 rfl rfl (ki X656 hx hby at_136 rfl (ki X656 hx hby at_138 rfl (own_ldc2 X656 hx hown (mvT hZ (w43 hw)) rfl (hb hby at_140) k)))) ?_
        show OGl _ _ _ _ T656 (mkF m 143 (ta (jv q0 :: sc :: jv q1 :: sc :: jv q2 :: sc :: jv q3 :: sc :: iv p4 :: jv ((e0_0 q0) + (1 : Int64)) :: sc :: jv ((e0_1 q1) + (1 : Int64)) :: sc :: jv (e0_2 q2) :: sc :: jv (e0_3 q3) :: sc :: iv (e0_4 p4) :: rv b2 :: iv 0 :: iv 1 :: iv 2 :: iv 3 :: un8)) [.long 2305843009213693950, .int 3, .int 0, .ref b2])
        have F1374 := (F739.keep K656)
        obtain ⟨cq1051, kq1051, q1051a, q1051b, q1051c⟩ := isOf hZ rfl F1374
        obtain ⟨_, _, ⟨T1051, L1051, kk1051, n1051⟩, -, X1051, ⟨Lc1051, hQ1051, l1051, y1051, z1051⟩, st1051⟩ := X656.virtualBack hx (y := yy7) (z := yy7) hown (mvT hZ (w44 hw)) (mvT hZ (w45 hw)) (notFace_of_selects (args := #[]) (mvT hZ (w47 hw))) (mvT hZ (w47 hw)) (mvT hZ (w46 hw)) (by decide) (backOf (W := 0) (rm7a l Z a0 hw [] b2 b10_0 kb10_4 b10_2 kb10_6 (e0_2 q2) ((e0_0 q0) + (1 : Int64)) ((e0_1 q1) + (1 : Int64)) (e0_3 q3) b10_3 kb10_7 b10_1 kb10_5 T656.heap n0 (Nat.le_trans Z0 KK656.1) Fq656_5 Fq656_4 Fq656_6 Fq656_3 Fq656_8 Fq656_1 Fq656_10 Fq656_0 Fq656_7 Fq656_2 (own_pr6 q0 q1 hc742 hc1050) (own_pr7 q0 q1 hc742 hc1050) g_b10_2 ne_b2_b10_2 (Ne.symm ne_b10_2_b10_3) (own_pr11 q0 q1 hc742 hc1050) ne_b10_0_b10_2 ne_b10_1_b10_2 (own_pr12 q0 q1 hc742 hc1050) (own_pr13 q0 q1 hc742 hc1050) (own_pr14 q0 q1 hc742 hc1050) (own_pr15 q0 q1 hc742 hc1050) F1374 Fq656_9 g_b2) hZ (w48 hw) (w3 hw) (by decide) (by decide)) q1051a q1051c (g := (mkF m 143 (ta (jv q0 :: sc :: jv q1 :: sc :: jv q2 :: sc :: jv q3 :: sc :: iv p4 :: jv ((e0_0 q0) + (1 : Int64)) :: sc :: jv ((e0_1 q1) + (1 : Int64)) :: sc :: jv (e0_2 q2) :: sc :: jv (e0_3 q3) :: sc :: iv (e0_4 p4) :: rv b2 :: iv 0 :: iv 1 :: iv 2 :: iv 3 :: un8)) [.long 2305843009213693950, .int 3, .int 0, .ref b2])) rfl (by rw [hml]; rfl) (Steps.refl _) (argsL := [.int 0, .int 3, .long 2305843009213693950]) (rest := []) (lenOf pd_6 rfl) rfl (by show 2 * 0 + _ ≤ _; exact Nat.le_of_eq rfl) (hb hby at_143) (fun _ _ => ⟨rfl, rfl, (by decide : 5 + 4 ≤ _), (by decide : 71 + 32 ≤ _)⟩)
        dsimp only [Pt.U, Pt.locs, Pt.cells, Pt.slots] at X1051 l1051 y1051 z1051 st1051 hQ1051
        replace l1051 := l1051.symm
        subst l1051 y1051 z1051
        obtain ⟨b1051_0, kb1051_1, rfl, Nq1051, K1051, sb_b1051_0, Fq1051_0, Fq1051_1, Fq1051_2, Fq1051_3, Fq1051_4, Fq1051_5, Fq1051_6, Fq1051_7, Fq1051_8⟩ := hQ1051
        have ne_b10_0_b1051_0 : b10_0 ≠ b1051_0 := Nat.ne_of_lt (Nat.lt_of_lt_of_le Fq656_3.lt sb_b1051_0)
        have ne_b10_1_b1051_0 : b10_1 ≠ b1051_0 := Nat.ne_of_lt (Nat.lt_of_lt_of_le Fq656_2.lt sb_b1051_0)
        have ne_b10_2_b1051_0 : b10_2 ≠ b1051_0 := Nat.ne_of_lt (Nat.lt_of_lt_of_le Fq656_1.lt sb_b1051_0)
        have ne_b10_3_b1051_0 : b10_3 ≠ b1051_0 := Nat.ne_of_lt (Nat.lt_of_lt_of_le Fq656_0.lt sb_b1051_0)
        have ne_b2_b1051_0 : b2 ≠ b1051_0 := Nat.ne_of_lt (Nat.lt_of_lt_of_le F1374.lt sb_b1051_0)
        have sz_b1051_0 : h0.size ≤ b1051_0 := Nat.le_trans KK656.1 sb_b1051_0
        have g_b1051_0 : n0 ≤ b1051_0 := Nat.le_trans Z0 sz_b1051_0
        have KK1051 : Keep h0 T1051.heap [] := KK656.trans K1051 (allS (Or.inr sz_b10_2) (allS (Or.inr sz_b2) all0))
        have N1051 := Fr.app N656 Nq1051
        refine gO (fun t k => st1051.trans k) ?_
        show OGl _ _ _ _ T1051 (mkF m 146 (ta (jv q0 :: sc :: jv q1 :: sc :: jv q2 :: sc :: jv q3 :: sc :: iv p4 :: jv ((e0_0 q0) + (1 : Int64)) :: sc :: jv ((e0_1 q1) + (1 : Int64)) :: sc :: jv (e0_2 q2) :: sc :: jv (e0_3 q3) :: sc :: iv (e0_4 p4) :: rv b2 :: iv 0 :: iv 1 :: iv 2 :: iv 3 :: un8)) [.long (e0_7 q0 q1)])
        refine gO (fun t k => sl X1051 hx hby (L' := (ta (jv q0 :: sc :: jv q1 :: sc :: jv q2 :: sc :: jv q3 :: sc :: iv p4 :: jv ((e0_0 q0) + (1 : Int64)) :: sc :: jv ((e0_1 q1) + (1 : Int64)) :: sc :: jv (e0_2 q2) :: sc :: jv (e0_3 q3) :: sc :: iv (e0_4 p4) :: rv b2 :: iv 0 :: iv 1 :: iv 2 :: iv 3 :: jv (e0_7 q0 q1) :: sc :: un6))) at_146 rfl (ki X1051 hx hby at_148 rfl (iY X1051 hx hby 158 at_150 ((if0 _ _).trans (teq hc741).1) rfl (kl X1051 hx hby at_158 rfl (kl X1051 hx hby at_160 rfl k))))) ?_
        show OGl _ _ _ _ T1051 (mkF m 162 (ta (jv q0 :: sc :: jv q1 :: sc :: jv q2 :: sc :: jv q3 :: sc :: iv p4 :: jv ((e0_0 q0) + (1 : Int64)) :: sc :: jv ((e0_1 q1) + (1 : Int64)) :: sc :: jv (e0_2 q2) :: sc :: jv (e0_3 q3) :: sc :: iv (e0_4 p4) :: rv b2 :: iv 0 :: iv 1 :: iv 2 :: iv 3 :: jv (e0_7 q0 q1) :: sc :: un6)) [.long ((e0_1 q1) + (1 : Int64)), .long ((e0_0 q0) + (1 : Int64))])
        obtain ⟨_, _, ⟨T1375, L1375, kk1375, n1375⟩, -, X1375, ⟨Lc1375, hQ1375, l1375, y1375, z1375⟩, st1375⟩ := Jvm.LawKit.callS X1051 hx (y := yy6) hown (mvT hZ (w65 hw)) (mvT hZ (w54 hw)) (mvT hZ (w55 hw)) (mvT hZ (w56 hw)) (by decide) (backOf (W := 0) (rm9c l Z a0 hw [] ((e0_0 q0) + (1 : Int64)) ((e0_1 q1) + (1 : Int64)) T1051.heap n0 (Nat.le_trans Z0 KK1051.1) ) hZ (w56 hw) (w55 hw) (by decide) (by decide)) (g := (mkF m 162 (ta (jv q0 :: sc :: jv q1 :: sc :: jv q2 :: sc :: jv q3 :: sc :: iv p4 :: jv ((e0_0 q0) + (1 : Int64)) :: sc :: jv ((e0_1 q1) + (1 : Int64)) :: sc :: jv (e0_2 q2) :: sc :: jv (e0_3 q3) :: sc :: iv (e0_4 p4) :: rv b2 :: iv 0 :: iv 1 :: iv 2 :: iv 3 :: jv (e0_7 q0 q1) :: sc :: un6)) [.long ((e0_1 q1) + (1 : Int64)), .long ((e0_0 q0) + (1 : Int64))])) rfl (by rw [hml]; rfl) (argsL := [.long ((e0_0 q0) + (1 : Int64)), .long ((e0_1 q1) + (1 : Int64))]) (rest := []) (lenOf pd_5 rfl) rfl (by show 2 * 0 + _ ≤ _; exact Nat.le_of_eq rfl) (hb hby at_162) (fun _ _ => ⟨rfl, rfl, (by decide : 9 + 0 ≤ _), (by decide : 103 + 0 ≤ _)⟩)
        dsimp only [Pt.U, Pt.locs, Pt.cells, Pt.slots] at X1375 l1375 y1375 z1375 st1375 hQ1375
        replace l1375 := l1375.symm
        subst l1375 y1375 z1375
        obtain ⟨rfl, Nq1375, e1375⟩ := hQ1375
        have N1375 := Fr.app N1051 Nq1375
        refine gO st1375 ?_
        show OGl _ _ _ _ T1375 (mkF m 165 (ta (jv q0 :: sc :: jv q1 :: sc :: jv q2 :: sc :: jv q3 :: sc :: iv p4 :: jv ((e0_0 q0) + (1 : Int64)) :: sc :: jv ((e0_1 q1) + (1 : Int64)) :: sc :: jv (e0_2 q2) :: sc :: jv (e0_3 q3) :: sc :: iv (e0_4 p4) :: rv b2 :: iv 0 :: iv 1 :: iv 2 :: iv 3 :: jv (e0_7 q0 q1) :: sc :: un6)) [.long (e0_6 q0 q1)])
        refine gO (fun t k => sl X1375 hx hby (L' := (ta (jv q0 :: sc :: jv q1 :: sc :: jv q2 :: sc :: jv q3 :: sc :: iv p4 :: jv ((e0_0 q0) + (1 : Int64)) :: sc :: jv ((e0_1 q1) + (1 : Int64)) :: sc :: jv (e0_2 q2) :: sc :: jv (e0_3 q3) :: sc :: iv (e0_4 p4) :: rv b2 :: iv 0 :: iv 1 :: iv 2 :: iv 3 :: jv (e0_7 q0 q1) :: sc :: jv (e0_6 q0 q1) :: sc :: un4))) at_165 rfl (kl X1375 hx hby at_167 rfl (kl X1375 hx hby at_169 rfl (o_lcmp X1375 hx hby at_171 k)))) ?_
        show OGl _ _ _ _ T1375 (mkF m 172 (ta (jv q0 :: sc :: jv q1 :: sc :: jv q2 :: sc :: jv q3 :: sc :: iv p4 :: jv ((e0_0 q0) + (1 : Int64)) :: sc :: jv ((e0_1 q1) + (1 : Int64)) :: sc :: jv (e0_2 q2) :: sc :: jv (e0_3 q3) :: sc :: iv (e0_4 p4) :: rv b2 :: iv 0 :: iv 1 :: iv 2 :: iv 3 :: jv (e0_7 q0 q1) :: sc :: jv (e0_6 q0 q1) :: sc :: un4)) [.int (lcmpW (e0_7 q0 q1) (e0_6 q0 q1))])
        by_cases hc1376 : (e0_7 q0 q1) = (e0_6 q0 q1)
        · refine gO (fun t k => iY X1375 hx hby 177 at_172 (own_teqL hc1376).1 rfl (ka X1375 hx hby at_177 rfl rfl (ki X1375 hx hby at_179 rfl k))) ?_
          show OGl _ _ _ _ T1375 (mkF m 181 (ta (jv q0 :: sc :: jv q1 :: sc :: jv q2 :: sc :: jv q3 :: sc :: iv p4 :: jv ((e0_0 q0) + (1 : Int64)) :: sc :: jv ((e0_1 q1) + (1 : Int64)) :: sc :: jv (e0_2 q2) :: sc :: jv (e0_3 q3) :: sc :: iv (e0_4 p4) :: rv b2 :: iv 0 :: iv 1 :: iv 2 :: iv 3 :: jv (e0_7 q0 q1) :: sc :: jv (e0_6 q0 q1) :: sc :: un4)) [.int 1, .ref b2])
          have F1380 := (F1374.keep K1051)
          obtain ⟨cq1377, kq1377, q1377a, q1377b, q1377c⟩ := isOf hZ e1375 F1380
          obtain ⟨_, _, ⟨T1377, L1377, kk1377, n1377⟩, -, X1377, ⟨Lc1377, hQ1377, l1377, y1377, z1377⟩, st1377⟩ := X1375.virtualBack hx (y := yy8) (z := yy8) hown (mvT hZ (w60 hw)) (mvT hZ (w61 hw)) (notFace_of_selects (args := #[]) (mvT hZ (w63 hw))) (mvT hZ (w63 hw)) (mvT hZ (w62 hw)) (by decide) (backOf (W := 0) (rm10d l Z a0 hw [] b2 b1051_0 kb1051_1 T1051.heap n0 (Nat.le_trans Z0 KK1051.1) Fq1051_6 Fq1051_8) hZ (w64 hw) (w3 hw) (by decide) (by decide)) q1377a q1377c (g := (mkF m 181 (ta (jv q0 :: sc :: jv q1 :: sc :: jv q2 :: sc :: jv q3 :: sc :: iv p4 :: jv ((e0_0 q0) + (1 : Int64)) :: sc :: jv ((e0_1 q1) + (1 : Int64)) :: sc :: jv (e0_2 q2) :: sc :: jv (e0_3 q3) :: sc :: iv (e0_4 p4) :: rv b2 :: iv 0 :: iv 1 :: iv 2 :: iv 3 :: jv (e0_7 q0 q1) :: sc :: jv (e0_6 q0 q1) :: sc :: un4)) [.int 1, .ref b2])) rfl (by rw [hml]; rfl) (Steps.refl _) (argsL := [.int 1]) (rest := []) (lenOf pd_7 rfl) rfl (by show 2 * 0 + _ ≤ _; exact Nat.le_of_eq rfl) (hb hby at_181) (fun _ _ => ⟨rfl, e1375, (by decide : 9 + 0 ≤ _), (by decide : 103 + 0 ≤ _)⟩)
          dsimp only [Pt.U, Pt.locs, Pt.cells, Pt.slots] at X1377 l1377 y1377 z1377 st1377 hQ1377
          replace l1377 := l1377.symm
          subst l1377 y1377 z1377
          obtain ⟨rfl, Nq1377, e1377⟩ := hQ1377
          have N1377 := Fr.app N1375 Nq1377
          refine gO (fun t k => st1377.trans k) ?_
          show OGl _ _ _ _ T1377 (mkF m 184 (ta (jv q0 :: sc :: jv q1 :: sc :: jv q2 :: sc :: jv q3 :: sc :: iv p4 :: jv ((e0_0 q0) + (1 : Int64)) :: sc :: jv ((e0_1 q1) + (1 : Int64)) :: sc :: jv (e0_2 q2) :: sc :: jv (e0_3 q3) :: sc :: iv (e0_4 p4) :: rv b2 :: iv 0 :: iv 1 :: iv 2 :: iv 3 :: jv (e0_7 q0 q1) :: sc :: jv (e0_6 q0 q1) :: sc :: un4)) [.int 0])
          refine gO (fun t k => si X1377 hx hby (L' := (ta (jv q0 :: sc :: jv q1 :: sc :: jv q2 :: sc :: jv q3 :: sc :: iv p4 :: jv ((e0_0 q0) + (1 : Int64)) :: sc :: jv ((e0_1 q1) + (1 : Int64)) :: sc :: jv (e0_2 q2) :: sc :: jv (e0_3 q3) :: sc :: iv (e0_4 p4) :: rv b2 :: iv 0 :: iv 1 :: iv 2 :: iv 3 :: jv (e0_7 q0 q1) :: sc :: jv (e0_6 q0 q1) :: sc :: iv 0 :: un3))) at_184 rfl (ka X1377 hx hby at_186 rfl rfl (ki X1377 hx hby at_188 rfl k))) ?_
          show OGl _ _ _ _ T1377 (mkF m 190 (ta (jv q0 :: sc :: jv q1 :: sc :: jv q2 :: sc :: jv q3 :: sc :: iv p4 :: jv ((e0_0 q0) + (1 : Int64)) :: sc :: jv ((e0_1 q1) + (1 : Int64)) :: sc :: jv (e0_2 q2) :: sc :: jv (e0_3 q3) :: sc :: iv (e0_4 p4) :: rv b2 :: iv 0 :: iv 1 :: iv 2 :: iv 3 :: jv (e0_7 q0 q1) :: sc :: jv (e0_6 q0 q1) :: sc :: iv 0 :: un3)) [.int 2, .ref b2])
          obtain ⟨cq1381, kq1381, q1381a, q1381b, q1381c⟩ := isOf hZ e1377 F1380
          obtain ⟨_, _, ⟨T1381, L1381, kk1381, n1381⟩, -, X1381, ⟨Lc1381, hQ1381, l1381, y1381, z1381⟩, st1381⟩ := X1377.virtualBack hx (y := yy8) (z := yy8) hown (mvT hZ (w60 hw)) (mvT hZ (w61 hw)) (notFace_of_selects (args := #[]) (mvT hZ (w63 hw))) (mvT hZ (w63 hw)) (mvT hZ (w62 hw)) (by decide) (backOf (W := 0) (rm10e l Z a0 hw [] b2 b1051_0 kb1051_1 T1051.heap n0 (Nat.le_trans Z0 KK1051.1) Fq1051_6 Fq1051_8) hZ (w64 hw) (w3 hw) (by decide) (by decide)) q1381a q1381c (g := (mkF m 190 (ta (jv q0 :: sc :: jv q1 :: sc :: jv q2 :: sc :: jv q3 :: sc :: iv p4 :: jv ((e0_0 q0) + (1 : Int64)) :: sc :: jv ((e0_1 q1) + (1 : Int64)) :: sc :: jv (e0_2 q2) :: sc :: jv (e0_3 q3) :: sc :: iv (e0_4 p4) :: rv b2 :: iv 0 :: iv 1 :: iv 2 :: iv 3 :: jv (e0_7 q0 q1) :: sc :: jv (e0_6 q0 q1) :: sc :: iv 0 :: un3)) [.int 2, .ref b2])) rfl (by rw [hml]; rfl) (Steps.refl _) (argsL := [.int 2]) (rest := []) (lenOf pd_7 rfl) rfl (by show 2 * 0 + _ ≤ _; exact Nat.le_of_eq rfl) (hb hby at_190) (fun _ _ => ⟨rfl, e1377, (by decide : 9 + 0 ≤ _), (by decide : 103 + 0 ≤ _)⟩)
          dsimp only [Pt.U, Pt.locs, Pt.cells, Pt.slots] at X1381 l1381 y1381 z1381 st1381 hQ1381
          replace l1381 := l1381.symm
          subst l1381 y1381 z1381
          obtain ⟨rfl, Nq1381, e1381⟩ := hQ1381
          have N1381 := Fr.app N1377 Nq1381
          refine gO (fun t k => st1381.trans k) ?_
          show OGl _ _ _ _ T1381 (mkF m 193 (ta (jv q0 :: sc :: jv q1 :: sc :: jv q2 :: sc :: jv q3 :: sc :: iv p4 :: jv ((e0_0 q0) + (1 : Int64)) :: sc :: jv ((e0_1 q1) + (1 : Int64)) :: sc :: jv (e0_2 q2) :: sc :: jv (e0_3 q3) :: sc :: iv (e0_4 p4) :: rv b2 :: iv 0 :: iv 1 :: iv 2 :: iv 3 :: jv (e0_7 q0 q1) :: sc :: jv (e0_6 q0 q1) :: sc :: iv 0 :: un3)) [.int 1])
          refine gO (fun t k => si X1381 hx hby (L' := (ta (jv q0 :: sc :: jv q1 :: sc :: jv q2 :: sc :: jv q3 :: sc :: iv p4 :: jv ((e0_0 q0) + (1 : Int64)) :: sc :: jv ((e0_1 q1) + (1 : Int64)) :: sc :: jv (e0_2 q2) :: sc :: jv (e0_3 q3) :: sc :: iv (e0_4 p4) :: rv b2 :: iv 0 :: iv 1 :: iv 2 :: iv 3 :: jv (e0_7 q0 q1) :: sc :: jv (e0_6 q0 q1) :: sc :: iv 0 :: iv 1 :: un2))) at_193 rfl (ka X1381 hx hby at_195 rfl rfl (ki X1381 hx hby at_197 rfl k))) ?_
          show OGl _ _ _ _ T1381 (mkF m 199 (ta (jv q0 :: sc :: jv q1 :: sc :: jv q2 :: sc :: jv q3 :: sc :: iv p4 :: jv ((e0_0 q0) + (1 : Int64)) :: sc :: jv ((e0_1 q1) + (1 : Int64)) :: sc :: jv (e0_2 q2) :: sc :: jv (e0_3 q3) :: sc :: iv (e0_4 p4) :: rv b2 :: iv 0 :: iv 1 :: iv 2 :: iv 3 :: jv (e0_7 q0 q1) :: sc :: jv (e0_6 q0 q1) :: sc :: iv 0 :: iv 1 :: un2)) [.int 0, .ref b2])
          obtain ⟨cq1384, kq1384, q1384a, q1384b, q1384c⟩ := isOf hZ e1381 F1380
          obtain ⟨_, _, ⟨T1384, L1384, kk1384, n1384⟩, -, X1384, ⟨Lc1384, hQ1384, l1384, y1384, z1384⟩, st1384⟩ := X1381.virtualBack hx (y := yy8) (z := yy8) hown (mvT hZ (w60 hw)) (mvT hZ (w61 hw)) (notFace_of_selects (args := #[]) (mvT hZ (w63 hw))) (mvT hZ (w63 hw)) (mvT hZ (w62 hw)) (by decide) (backOf (W := 0) (rm10f l Z a0 hw [] b2 b1051_0 kb1051_1 T1051.heap n0 (Nat.le_trans Z0 KK1051.1) Fq1051_6 Fq1051_8) hZ (w64 hw) (w3 hw) (by decide) (by decide)) q1384a q1384c (g := (mkF m 199 (ta (jv q0 :: sc :: jv q1 :: sc :: jv q2 :: sc :: jv q3 :: sc :: iv p4 :: jv ((e0_0 q0) + (1 : Int64)) :: sc :: jv ((e0_1 q1) + (1 : Int64)) :: sc :: jv (e0_2 q2) :: sc :: jv (e0_3 q3) :: sc :: iv (e0_4 p4) :: rv b2 :: iv 0 :: iv 1 :: iv 2 :: iv 3 :: jv (e0_7 q0 q1) :: sc :: jv (e0_6 q0 q1) :: sc :: iv 0 :: iv 1 :: un2)) [.int 0, .ref b2])) rfl (by rw [hml]; rfl) (Steps.refl _) (argsL := [.int 0]) (rest := []) (lenOf pd_7 rfl) rfl (by show 2 * 0 + _ ≤ _; exact Nat.le_of_eq rfl) (hb hby at_199) (fun _ _ => ⟨rfl, e1381, (by decide : 9 + 0 ≤ _), (by decide : 103 + 0 ≤ _)⟩)
          dsimp only [Pt.U, Pt.locs, Pt.cells, Pt.slots] at X1384 l1384 y1384 z1384 st1384 hQ1384
          replace l1384 := l1384.symm
          subst l1384 y1384 z1384
          obtain ⟨rfl, Nq1384, e1384⟩ := hQ1384
          have N1384 := Fr.app N1381 Nq1384
          refine gO (fun t k => st1384.trans k) ?_
          show OGl _ _ _ _ T1384 (mkF m 202 (ta (jv q0 :: sc :: jv q1 :: sc :: jv q2 :: sc :: jv q3 :: sc :: iv p4 :: jv ((e0_0 q0) + (1 : Int64)) :: sc :: jv ((e0_1 q1) + (1 : Int64)) :: sc :: jv (e0_2 q2) :: sc :: jv (e0_3 q3) :: sc :: iv (e0_4 p4) :: rv b2 :: iv 0 :: iv 1 :: iv 2 :: iv 3 :: jv (e0_7 q0 q1) :: sc :: jv (e0_6 q0 q1) :: sc :: iv 0 :: iv 1 :: un2)) [.int 0])
          refine gO (fun t k => si X1384 hx hby (L' := (ta (jv q0 :: sc :: jv q1 :: sc :: jv q2 :: sc :: jv q3 :: sc :: iv p4 :: jv ((e0_0 q0) + (1 : Int64)) :: sc :: jv ((e0_1 q1) + (1 : Int64)) :: sc :: jv (e0_2 q2) :: sc :: jv (e0_3 q3) :: sc :: iv (e0_4 p4) :: rv b2 :: iv 0 :: iv 1 :: iv 2 :: iv 3 :: jv (e0_7 q0 q1) :: sc :: jv (e0_6 q0 q1) :: sc :: iv 0 :: iv 1 :: iv 0 :: un :: []))) at_202 rfl (ka X1384 hx hby at_204 rfl rfl (ki X1384 hx hby at_206 rfl k))) ?_
          show OGl _ _ _ _ T1384 (mkF m 208 (ta (jv q0 :: sc :: jv q1 :: sc :: jv q2 :: sc :: jv q3 :: sc :: iv p4 :: jv ((e0_0 q0) + (1 : Int64)) :: sc :: jv ((e0_1 q1) + (1 : Int64)) :: sc :: jv (e0_2 q2) :: sc :: jv (e0_3 q3) :: sc :: iv (e0_4 p4) :: rv b2 :: iv 0 :: iv 1 :: iv 2 :: iv 3 :: jv (e0_7 q0 q1) :: sc :: jv (e0_6 q0 q1) :: sc :: iv 0 :: iv 1 :: iv 0 :: un :: [])) [.int 3, .ref b2])
          obtain ⟨cq1386, kq1386, q1386a, q1386b, q1386c⟩ := isOf hZ e1384 F1380
          obtain ⟨_, _, ⟨T1386, L1386, kk1386, n1386⟩, -, X1386, ⟨Lc1386, hQ1386, l1386, y1386, z1386⟩, st1386⟩ := X1384.virtualBack hx (y := yy8) (z := yy8) hown (mvT hZ (w60 hw)) (mvT hZ (w61 hw)) (notFace_of_selects (args := #[]) (mvT hZ (w63 hw))) (mvT hZ (w63 hw)) (mvT hZ (w62 hw)) (by decide) (backOf (W := 0) (rm10g l Z a0 hw [] b2 b1051_0 kb1051_1 T1051.heap n0 (Nat.le_trans Z0 KK1051.1) Fq1051_6 Fq1051_8) hZ (w64 hw) (w3 hw) (by decide) (by decide)) q1386a q1386c (g := (mkF m 208 (ta (jv q0 :: sc :: jv q1 :: sc :: jv q2 :: sc :: jv q3 :: sc :: iv p4 :: jv ((e0_0 q0) + (1 : Int64)) :: sc :: jv ((e0_1 q1) + (1 : Int64)) :: sc :: jv (e0_2 q2) :: sc :: jv (e0_3 q3) :: sc :: iv (e0_4 p4) :: rv b2 :: iv 0 :: iv 1 :: iv 2 :: iv 3 :: jv (e0_7 q0 q1) :: sc :: jv (e0_6 q0 q1) :: sc :: iv 0 :: iv 1 :: iv 0 :: un :: [])) [.int 3, .ref b2])) rfl (by rw [hml]; rfl) (Steps.refl _) (argsL := [.int 3]) (rest := []) (lenOf pd_7 rfl) rfl (by show 2 * 0 + _ ≤ _; exact Nat.le_of_eq rfl) (hb hby at_208) (fun _ _ => ⟨rfl, e1384, (by decide : 9 + 0 ≤ _), (by decide : 103 + 0 ≤ _)⟩)
          dsimp only [Pt.U, Pt.locs, Pt.cells, Pt.slots] at X1386 l1386 y1386 z1386 st1386 hQ1386
          replace l1386 := l1386.symm
          subst l1386 y1386 z1386
          obtain ⟨rfl, Nq1386, e1386⟩ := hQ1386
          have N1386 := Fr.app N1384 Nq1386
          refine gO (fun t k => st1386.trans k) ?_
          show OGl _ _ _ _ T1386 (mkF m 211 (ta (jv q0 :: sc :: jv q1 :: sc :: jv q2 :: sc :: jv q3 :: sc :: iv p4 :: jv ((e0_0 q0) + (1 : Int64)) :: sc :: jv ((e0_1 q1) + (1 : Int64)) :: sc :: jv (e0_2 q2) :: sc :: jv (e0_3 q3) :: sc :: iv (e0_4 p4) :: rv b2 :: iv 0 :: iv 1 :: iv 2 :: iv 3 :: jv (e0_7 q0 q1) :: sc :: jv (e0_6 q0 q1) :: sc :: iv 0 :: iv 1 :: iv 0 :: un :: [])) [.int 0])
          refine gO (fun t k => si X1386 hx hby (L' := (ta (jv q0 :: sc :: jv q1 :: sc :: jv q2 :: sc :: jv q3 :: sc :: iv p4 :: jv ((e0_0 q0) + (1 : Int64)) :: sc :: jv ((e0_1 q1) + (1 : Int64)) :: sc :: jv (e0_2 q2) :: sc :: jv (e0_3 q3) :: sc :: iv (e0_4 p4) :: rv b2 :: iv 0 :: iv 1 :: iv 2 :: iv 3 :: jv (e0_7 q0 q1) :: sc :: jv (e0_6 q0 q1) :: sc :: iv 0 :: iv 1 :: iv 0 :: iv 0 :: []))) at_211 rfl (ki X1386 hx hby at_213 rfl (iN X1386 hx hby at_215 ((if0 _ _).trans (teq (by decide : (0 : Int32) = (0 : Int32))).2) (ki X1386 hx hby at_218 rfl (iY X1386 hx hby 225 at_220 ((if0 _ _).trans (teq (by decide : (0 : Int32) = (0 : Int32))).1) rfl (ki X1386 hx hby at_225 rfl (iY X1386 hx hby 246 at_227 ((if0 _ _).trans (teq hc741).1) rfl (kl X1386 hx hby at_246 rfl (kl X1386 hx hby at_248 rfl (o_lcmp X1386 hx hby at_250 (iY X1386 hx hby 270 at_251 (own_fltL hc742).2.1 rfl (kl X1386 hx hby at_270 rfl (kl X1386 hx hby at_272 rfl (o_lcmp X1386 hx hby at_274 (iN X1386 hx hby at_275 (own_tltL hc1050).2.1 (ki X1386 hx hby at_278 rfl (iN X1386 hx hby at_280 ((if0 _ _).trans (teq (by decide : (0 : Int32) = (0 : Int32))).2) (ki X1386 hx hby at_283 rfl (iN X1386 hx hby at_285 ((if0 _ _).trans (feq (by decide : ¬ ((1 : Int32) = (0 : Int32)))).1) (kc X1386 hx hby at_288 (o_goto X1386 hx hby 293 at_289 rfl k))))))))))))))))))))) ?_
          show OGl _ _ _ _ T1386 (mkF m 293 (ta (jv q0 :: sc :: jv q1 :: sc :: jv q2 :: sc :: jv q3 :: sc :: iv p4 :: jv ((e0_0 q0) + (1 : Int64)) :: sc :: jv ((e0_1 q1) + (1 : Int64)) :: sc :: jv (e0_2 q2) :: sc :: jv (e0_3 q3) :: sc :: iv (e0_4 p4) :: rv b2 :: iv 0 :: iv 1 :: iv 2 :: iv 3 :: jv (e0_7 q0 q1) :: sc :: jv (e0_6 q0 q1) :: sc :: iv 0 :: iv 1 :: iv 0 :: iv 0 :: [])) [.int 1])
          obtain ⟨fs, hr, hrun, hended, hW, hsame⟩ := X1386.leave (v := some (.int 1)) (fun h => by rw [Bd.returns] at h; cases h) (BodyLoose.notSynchronized Bd)
          refine ⟨_, _, retN X1386 hx (t := .boolean) Bd.returns (by simp) (hb hby at_293) hr, hrun, hended, _, _, rfl, ?_, ⟨_, rfl⟩, hW, hsame.mono (by decide) (by decide)⟩
          have hv1791 : (t0_0 q0 q1 q2 q3 p4) = (1 : Int32) := by unfold t0_0; rw [if_pos hc741, if_neg hc742, if_pos hc1050, if_pos hc1376]
          show Q0 Z q0 q1 q2 q3 p4 h0 n0 _ T1386.heap _
          rw [e1386]
          exact ⟨(by rw [hv1791]), N1386⟩
        · refine gO (fun t k => iN X1375 hx hby at_172 (own_feqL hc1376).1 (kc X1375 hx hby at_175 k)) ?_
          show OGl _ _ _ _ T1375 (mkF m 176 (ta (jv q0 :: sc :: jv q1 :: sc :: jv q2 :: sc :: jv q3 :: sc :: iv p4 :: jv ((e0_0 q0) + (1 : Int64)) :: sc :: jv ((e0_1 q1) + (1 : Int64)) :: sc :: jv (e0_2 q2) :: sc :: jv (e0_3 q3) :: sc :: iv (e0_4 p4) :: rv b2 :: iv 0 :: iv 1 :: iv 2 :: iv 3 :: jv (e0_7 q0 q1) :: sc :: jv (e0_6 q0 q1) :: sc :: un4)) [.int 0])
          obtain ⟨fs, hr, hrun, hended, hW, hsame⟩ := X1375.leave (v := some (.int 0)) (fun h => by rw [Bd.returns] at h; cases h) (BodyLoose.notSynchronized Bd)
          refine ⟨_, _, retN X1375 hx (t := .boolean) Bd.returns (by simp) (hb hby at_176) hr, hrun, hended, _, _, rfl, ?_, ⟨_, rfl⟩, hW, hsame.mono (by decide) (by decide)⟩
          have hv1792 : (t0_0 q0 q1 q2 q3 p4) = (0 : Int32) := by unfold t0_0; rw [if_pos hc741, if_neg hc742, if_pos hc1050, if_neg hc1376]
          show Q0 Z q0 q1 q2 q3 p4 h0 n0 _ T1375.heap _
          rw [e1375]
          exact ⟨(by rw [hv1792]), N1375⟩
      · show OGl _ _ _ _ T656 (mkF m 134 (ta (jv q0 :: sc :: jv q1 :: sc :: jv q2 :: sc :: jv q3 :: sc :: iv p4 :: jv ((e0_0 q0) + (1 : Int64)) :: sc :: jv ((e0_1 q1) + (1 : Int64)) :: sc :: jv (e0_2 q2) :: sc :: jv (e0_3 q3) :: sc :: iv (e0_4 p4) :: rv b2 :: iv 0 :: iv 1 :: iv 2 :: iv 3 :: un8)) [])
        refine gO (fun t k => ka X656 hx hby at_134 rfl rfl (ki X656 hx hby at_136 rfl (ki X656 hx hby at_138 rfl (own_ldc2 X656 hx hown (mvT hZ (w43 hw)) rfl (hb hby at_140) k)))) ?_
        show OGl _ _ _ _ T656 (mkF m 143 (ta (jv q0 :: sc :: jv q1 :: sc :: jv q2 :: sc :: jv q3 :: sc :: iv p4 :: jv ((e0_0 q0) + (1 : Int64)) :: sc :: jv ((e0_1 q1) + (1 : Int64)) :: sc :: jv (e0_2 q2) :: sc :: jv (e0_3 q3) :: sc :: iv (e0_4 p4) :: rv b2 :: iv 0 :: iv 1 :: iv 2 :: iv 3 :: un8)) [.long 2305843009213693950, .int 3, .int 0, .ref b2])
        have F1389 := (F739.keep K656)
        obtain ⟨cq1388, kq1388, q1388a, q1388b, q1388c⟩ := isOf hZ rfl F1389
        obtain ⟨_, _, ⟨T1388, L1388, kk1388, n1388⟩, -, X1388, ⟨Lc1388, hQ1388, l1388, y1388, z1388⟩, st1388⟩ := X656.virtualBack hx (y := yy7) (z := yy7) hown (mvT hZ (w44 hw)) (mvT hZ (w45 hw)) (notFace_of_selects (args := #[]) (mvT hZ (w47 hw))) (mvT hZ (w47 hw)) (mvT hZ (w46 hw)) (by decide) (backOf (W := 0) (rm7 l Z a0 hw [] b2 b10_0 kb10_4 b10_2 kb10_6 (e0_2 q2) ((e0_0 q0) + (1 : Int64)) ((e0_1 q1) + (1 : Int64)) (e0_3 q3) b10_3 kb10_7 b10_1 kb10_5 T656.heap n0 (Nat.le_trans Z0 KK656.1) Fq656_5 Fq656_4 Fq656_6 Fq656_3 Fq656_8 Fq656_1 Fq656_10 Fq656_0 Fq656_7 Fq656_2 (own_pr16 q0 q1 hc742 hc1050) (own_pr17 q0 q1 hc742 hc1050) g_b10_2 ne_b2_b10_2 (Ne.symm ne_b10_2_b10_3) (own_pr18 q0 q1 hc742 hc1050) ne_b10_0_b10_2 ne_b10_1_b10_2 (own_pr19 q0 q1 hc742 hc1050) (own_pr20 q0 q1 hc742 hc1050) (own_pr21 q0 q1 hc742 hc1050) F1389 Fq656_9 g_b2) hZ (w48 hw) (w3 hw) (by decide) (by decide)) q1388a q1388c (g := (mkF m 143 (ta (jv q0 :: sc :: jv q1 :: sc :: jv q2 :: sc :: jv q3 :: sc :: iv p4 :: jv ((e0_0 q0) + (1 : Int64)) :: sc :: jv ((e0_1 q1) + (1 : Int64)) :: sc :: jv (e0_2 q2) :: sc :: jv (e0_3 q3) :: sc :: iv (e0_4 p4) :: rv b2 :: iv 0 :: iv 1 :: iv 2 :: iv 3 :: un8)) [.long 2305843009213693950, .int 3, .int 0, .ref b2])) rfl (by rw [hml]; rfl) (Steps.refl _) (argsL := [.int 0, .int 3, .long 2305843009213693950]) (rest := []) (lenOf pd_6 rfl) rfl (by show 2 * 0 + _ ≤ _; exact Nat.le_of_eq rfl) (hb hby at_143) (fun _ _ => ⟨rfl, rfl, (by decide : 5 + 4 ≤ _), (by decide : 71 + 32 ≤ _)⟩)
        dsimp only [Pt.U, Pt.locs, Pt.cells, Pt.slots] at X1388 l1388 y1388 z1388 st1388 hQ1388
        replace l1388 := l1388.symm
        subst l1388 y1388 z1388
        obtain ⟨b1388_0, kb1388_1, rfl, Nq1388, K1388, sb_b1388_0, Fq1388_0, Fq1388_1, Fq1388_2, Fq1388_3, Fq1388_4, Fq1388_5, Fq1388_6, Fq1388_7, Fq1388_8⟩ := hQ1388
        have ne_b10_0_b1388_0 : b10_0 ≠ b1388_0 := Nat.ne_of_lt (Nat.lt_of_lt_of_le Fq656_3.lt sb_b1388_0)
        have ne_b10_1_b1388_0 : b10_1 ≠ b1388_0 := Nat.ne_of_lt (Nat.lt_of_lt_of_le Fq656_2.lt sb_b1388_0)
        have ne_b10_2_b1388_0 : b10_2 ≠ b1388_0 := Nat.ne_of_lt (Nat.lt_of_lt_of_le Fq656_1.lt sb_b1388_0)
        have ne_b10_3_b1388_0 : b10_3 ≠ b1388_0 := Nat.ne_of_lt (Nat.lt_of_lt_of_le Fq656_0.lt sb_b1388_0)
        have ne_b2_b1388_0 : b2 ≠ b1388_0 := Nat.ne_of_lt (Nat.lt_of_lt_of_le F1389.lt sb_b1388_0)
        have sz_b1388_0 : h0.size ≤ b1388_0 := Nat.le_trans KK656.1 sb_b1388_0
        have g_b1388_0 : n0 ≤ b1388_0 := Nat.le_trans Z0 sz_b1388_0
        have KK1388 : Keep h0 T1388.heap [] := KK656.trans K1388 (allS (Or.inr sz_b10_2) (allS (Or.inr sz_b2) all0))
        have N1388 := Fr.app N656 Nq1388
        refine gO (fun t k => st1388.trans k) ?_
        show OGl _ _ _ _ T1388 (mkF m 146 (ta (jv q0 :: sc :: jv q1 :: sc :: jv q2 :: sc :: jv q3 :: sc :: iv p4 :: jv ((e0_0 q0) + (1 : Int64)) :: sc :: jv ((e0_1 q1) + (1 : Int64)) :: sc :: jv (e0_2 q2) :: sc :: jv (e0_3 q3) :: sc :: iv (e0_4 p4) :: rv b2 :: iv 0 :: iv 1 :: iv 2 :: iv 3 :: un8)) [.long (e0_5 q0 q1)])
        refine gO (fun t k => sl X1388 hx hby (L' := (ta (jv q0 :: sc :: jv q1 :: sc :: jv q2 :: sc :: jv q3 :: sc :: iv p4 :: jv ((e0_0 q0) + (1 : Int64)) :: sc :: jv ((e0_1 q1) + (1 : Int64)) :: sc :: jv (e0_2 q2) :: sc :: jv (e0_3 q3) :: sc :: iv (e0_4 p4) :: rv b2 :: iv 0 :: iv 1 :: iv 2 :: iv 3 :: jv (e0_5 q0 q1) :: sc :: un6))) at_146 rfl (ki X1388 hx hby at_148 rfl (iY X1388 hx hby 158 at_150 ((if0 _ _).trans (teq hc741).1) rfl (kl X1388 hx hby at_158 rfl (kl X1388 hx hby at_160 rfl k))))) ?_
        show OGl _ _ _ _ T1388 (mkF m 162 (ta (jv q0 :: sc :: jv q1 :: sc :: jv q2 :: sc :: jv q3 :: sc :: iv p4 :: jv ((e0_0 q0) + (1 : Int64)) :: sc :: jv ((e0_1 q1) + (1 : Int64)) :: sc :: jv (e0_2 q2) :: sc :: jv (e0_3 q3) :: sc :: iv (e0_4 p4) :: rv b2 :: iv 0 :: iv 1 :: iv 2 :: iv 3 :: jv (e0_5 q0 q1) :: sc :: un6)) [.long ((e0_1 q1) + (1 : Int64)), .long ((e0_0 q0) + (1 : Int64))])
        obtain ⟨_, _, ⟨T1390, L1390, kk1390, n1390⟩, -, X1390, ⟨Lc1390, hQ1390, l1390, y1390, z1390⟩, st1390⟩ := Jvm.LawKit.callS X1388 hx (y := yy6) hown (mvT hZ (w65 hw)) (mvT hZ (w54 hw)) (mvT hZ (w55 hw)) (mvT hZ (w56 hw)) (by decide) (backOf (W := 0) (rm9c l Z a0 hw [] ((e0_0 q0) + (1 : Int64)) ((e0_1 q1) + (1 : Int64)) T1388.heap n0 (Nat.le_trans Z0 KK1388.1) ) hZ (w56 hw) (w55 hw) (by decide) (by decide)) (g := (mkF m 162 (ta (jv q0 :: sc :: jv q1 :: sc :: jv q2 :: sc :: jv q3 :: sc :: iv p4 :: jv ((e0_0 q0) + (1 : Int64)) :: sc :: jv ((e0_1 q1) + (1 : Int64)) :: sc :: jv (e0_2 q2) :: sc :: jv (e0_3 q3) :: sc :: iv (e0_4 p4) :: rv b2 :: iv 0 :: iv 1 :: iv 2 :: iv 3 :: jv (e0_5 q0 q1) :: sc :: un6)) [.long ((e0_1 q1) + (1 : Int64)), .long ((e0_0 q0) + (1 : Int64))])) rfl (by rw [hml]; rfl) (argsL := [.long ((e0_0 q0) + (1 : Int64)), .long ((e0_1 q1) + (1 : Int64))]) (rest := []) (lenOf pd_5 rfl) rfl (by show 2 * 0 + _ ≤ _; exact Nat.le_of_eq rfl) (hb hby at_162) (fun _ _ => ⟨rfl, rfl, (by decide : 9 + 0 ≤ _), (by decide : 103 + 0 ≤ _)⟩)
        dsimp only [Pt.U, Pt.locs, Pt.cells, Pt.slots] at X1390 l1390 y1390 z1390 st1390 hQ1390
        replace l1390 := l1390.symm
        subst l1390 y1390 z1390
        obtain ⟨rfl, Nq1390, e1390⟩ := hQ1390
        have N1390 := Fr.app N1388 Nq1390
        refine gO st1390 ?_
        show OGl _ _ _ _ T1390 (mkF m 165 (ta (jv q0 :: sc :: jv q1 :: sc :: jv q2 :: sc :: jv q3 :: sc :: iv p4 :: jv ((e0_0 q0) + (1 : Int64)) :: sc :: jv ((e0_1 q1) + (1 : Int64)) :: sc :: jv (e0_2 q2) :: sc :: jv (e0_3 q3) :: sc :: iv (e0_4 p4) :: rv b2 :: iv 0 :: iv 1 :: iv 2 :: iv 3 :: jv (e0_5 q0 q1) :: sc :: un6)) [.long (e0_6 q0 q1)])
        refine gO (fun t k => sl X1390 hx hby (L' := (ta (jv q0 :: sc :: jv q1 :: sc :: jv q2 :: sc :: jv q3 :: sc :: iv p4 :: jv ((e0_0 q0) + (1 : Int64)) :: sc :: jv ((e0_1 q1) + (1 : Int64)) :: sc :: jv (e0_2 q2) :: sc :: jv (e0_3 q3) :: sc :: iv (e0_4 p4) :: rv b2 :: iv 0 :: iv 1 :: iv 2 :: iv 3 :: jv (e0_5 q0 q1) :: sc :: jv (e0_6 q0 q1) :: sc :: un4))) at_165 rfl (kl X1390 hx hby at_167 rfl (kl X1390 hx hby at_169 rfl (o_lcmp X1390 hx hby at_171 k)))) ?_
        show OGl _ _ _ _ T1390 (mkF m 172 (ta (jv q0 :: sc :: jv q1 :: sc :: jv q2 :: sc :: jv q3 :: sc :: iv p4 :: jv ((e0_0 q0) + (1 : Int64)) :: sc :: jv ((e0_1 q1) + (1 : Int64)) :: sc :: jv (e0_2 q2) :: sc :: jv (e0_3 q3) :: sc :: iv (e0_4 p4) :: rv b2 :: iv 0 :: iv 1 :: iv 2 :: iv 3 :: jv (e0_5 q0 q1) :: sc :: jv (e0_6 q0 q1) :: sc :: un4)) [.int (lcmpW (e0_5 q0 q1) (e0_6 q0 q1))])
        by_cases hc1391 : (e0_5 q0 q1) = (e0_6 q0 q1)
        · refine gO (fun t k => iY X1390 hx hby 177 at_172 (own_teqL hc1391).1 rfl (ka X1390 hx hby at_177 rfl rfl (ki X1390 hx hby at_179 rfl k))) ?_
          show OGl _ _ _ _ T1390 (mkF m 181 (ta (jv q0 :: sc :: jv q1 :: sc :: jv q2 :: sc :: jv q3 :: sc :: iv p4 :: jv ((e0_0 q0) + (1 : Int64)) :: sc :: jv ((e0_1 q1) + (1 : Int64)) :: sc :: jv (e0_2 q2) :: sc :: jv (e0_3 q3) :: sc :: iv (e0_4 p4) :: rv b2 :: iv 0 :: iv 1 :: iv 2 :: iv 3 :: jv (e0_5 q0 q1) :: sc :: jv (e0_6 q0 q1) :: sc :: un4)) [.int 1, .ref b2])
          have F1393 := (F1389.keep K1388)
          obtain ⟨cq1392, kq1392, q1392a, q1392b, q1392c⟩ := isOf hZ e1390 F1393
          obtain ⟨_, _, ⟨T1392, L1392, kk1392, n1392⟩, -, X1392, ⟨Lc1392, hQ1392, l1392, y1392, z1392⟩, st1392⟩ := X1390.virtualBack hx (y := yy8) (z := yy8) hown (mvT hZ (w60 hw)) (mvT hZ (w61 hw)) (notFace_of_selects (args := #[]) (mvT hZ (w63 hw))) (mvT hZ (w63 hw)) (mvT hZ (w62 hw)) (by decide) (backOf (W := 0) (rm10 l Z a0 hw [] b2 b1388_0 kb1388_1 T1388.heap n0 (Nat.le_trans Z0 KK1388.1) Fq1388_6 Fq1388_8) hZ (w64 hw) (w3 hw) (by decide) (by decide)) q1392a q1392c (g := (mkF m 181 (ta (jv q0 :: sc :: jv q1 :: sc :: jv q2 :: sc :: jv q3 :: sc :: iv p4 :: jv ((e0_0 q0) + (1 : Int64)) :: sc :: jv ((e0_1 q1) + (1 : Int64)) :: sc :: jv (e0_2 q2) :: sc :: jv (e0_3 q3) :: sc :: iv (e0_4 p4) :: rv b2 :: iv 0 :: iv 1 :: iv 2 :: iv 3 :: jv (e0_5 q0 q1) :: sc :: jv (e0_6 q0 q1) :: sc :: un4)) [.int 1, .ref b2])) rfl (by rw [hml]; rfl) (Steps.refl _) (argsL := [.int 1]) (rest := []) (lenOf pd_7 rfl) rfl (by show 2 * 0 + _ ≤ _; exact Nat.le_of_eq rfl) (hb hby at_181) (fun _ _ => ⟨rfl, e1390, (by decide : 9 + 0 ≤ _), (by decide : 103 + 0 ≤ _)⟩)
          dsimp only [Pt.U, Pt.locs, Pt.cells, Pt.slots] at X1392 l1392 y1392 z1392 st1392 hQ1392
          replace l1392 := l1392.symm
          subst l1392 y1392 z1392
          obtain ⟨rfl, Nq1392, e1392⟩ := hQ1392
          have N1392 := Fr.app N1390 Nq1392
          refine gO (fun t k => st1392.trans k) ?_
          show OGl _ _ _ _ T1392 (mkF m 184 (ta (jv q0 :: sc :: jv q1 :: sc :: jv q2 :: sc :: jv q3 :: sc :: iv p4 :: jv ((e0_0 q0) + (1 : Int64)) :: sc :: jv ((e0_1 q1) + (1 : Int64)) :: sc :: jv (e0_2 q2) :: sc :: jv (e0_3 q3) :: sc :: iv (e0_4 p4) :: rv b2 :: iv 0 :: iv 1 :: iv 2 :: iv 3 :: jv (e0_5 q0 q1) :: sc :: jv (e0_6 q0 q1) :: sc :: un4)) [.int 1])
          refine gO (fun t k => si X1392 hx hby (L' := (ta (jv q0 :: sc :: jv q1 :: sc :: jv q2 :: sc :: jv q3 :: sc :: iv p4 :: jv ((e0_0 q0) + (1 : Int64)) :: sc :: jv ((e0_1 q1) + (1 : Int64)) :: sc :: jv (e0_2 q2) :: sc :: jv (e0_3 q3) :: sc :: iv (e0_4 p4) :: rv b2 :: iv 0 :: iv 1 :: iv 2 :: iv 3 :: jv (e0_5 q0 q1) :: sc :: jv (e0_6 q0 q1) :: sc :: iv 1 :: un3))) at_184 rfl (ka X1392 hx hby at_186 rfl rfl (ki X1392 hx hby at_188 rfl k))) ?_
          show OGl _ _ _ _ T1392 (mkF m 190 (ta (jv q0 :: sc :: jv q1 :: sc :: jv q2 :: sc :: jv q3 :: sc :: iv p4 :: jv ((e0_0 q0) + (1 : Int64)) :: sc :: jv ((e0_1 q1) + (1 : Int64)) :: sc :: jv (e0_2 q2) :: sc :: jv (e0_3 q3) :: sc :: iv (e0_4 p4) :: rv b2 :: iv 0 :: iv 1 :: iv 2 :: iv 3 :: jv (e0_5 q0 q1) :: sc :: jv (e0_6 q0 q1) :: sc :: iv 1 :: un3)) [.int 2, .ref b2])
          obtain ⟨cq1394, kq1394, q1394a, q1394b, q1394c⟩ := isOf hZ e1392 F1393
          obtain ⟨_, _, ⟨T1394, L1394, kk1394, n1394⟩, -, X1394, ⟨Lc1394, hQ1394, l1394, y1394, z1394⟩, st1394⟩ := X1392.virtualBack hx (y := yy8) (z := yy8) hown (mvT hZ (w60 hw)) (mvT hZ (w61 hw)) (notFace_of_selects (args := #[]) (mvT hZ (w63 hw))) (mvT hZ (w63 hw)) (mvT hZ (w62 hw)) (by decide) (backOf (W := 0) (rm10a l Z a0 hw [] b2 b1388_0 kb1388_1 T1388.heap n0 (Nat.le_trans Z0 KK1388.1) Fq1388_6 Fq1388_8) hZ (w64 hw) (w3 hw) (by decide) (by decide)) q1394a q1394c (g := (mkF m 190 (ta (jv q0 :: sc :: jv q1 :: sc :: jv q2 :: sc :: jv q3 :: sc :: iv p4 :: jv ((e0_0 q0) + (1 : Int64)) :: sc :: jv ((e0_1 q1) + (1 : Int64)) :: sc :: jv (e0_2 q2) :: sc :: jv (e0_3 q3) :: sc :: iv (e0_4 p4) :: rv b2 :: iv 0 :: iv 1 :: iv 2 :: iv 3 :: jv (e0_5 q0 q1) :: sc :: jv (e0_6 q0 q1) :: sc :: iv 1 :: un3)) [.int 2, .ref b2])) rfl (by rw [hml]; rfl) (Steps.refl _) (argsL := [.int 2]) (rest := []) (lenOf pd_7 rfl) rfl (by show 2 * 0 + _ ≤ _; exact Nat.le_of_eq rfl) (hb hby at_190) (fun _ _ => ⟨rfl, e1392, (by decide : 9 + 0 ≤ _), (by decide : 103 + 0 ≤ _)⟩)
          dsimp only [Pt.U, Pt.locs, Pt.cells, Pt.slots] at X1394 l1394 y1394 z1394 st1394 hQ1394
          replace l1394 := l1394.symm
          subst l1394 y1394 z1394
          obtain ⟨rfl, Nq1394, e1394⟩ := hQ1394
          have N1394 := Fr.app N1392 Nq1394
          refine gO (fun t k => st1394.trans k) ?_
          show OGl _ _ _ _ T1394 (mkF m 193 (ta (jv q0 :: sc :: jv q1 :: sc :: jv q2 :: sc :: jv q3 :: sc :: iv p4 :: jv ((e0_0 q0) + (1 : Int64)) :: sc :: jv ((e0_1 q1) + (1 : Int64)) :: sc :: jv (e0_2 q2) :: sc :: jv (e0_3 q3) :: sc :: iv (e0_4 p4) :: rv b2 :: iv 0 :: iv 1 :: iv 2 :: iv 3 :: jv (e0_5 q0 q1) :: sc :: jv (e0_6 q0 q1) :: sc :: iv 1 :: un3)) [.int 0])
          refine gO (fun t k => si X1394 hx hby (L' := (ta (jv q0 :: sc :: jv q1 :: sc :: jv q2 :: sc :: jv q3 :: sc :: iv p4 :: jv ((e0_0 q0) + (1 : Int64)) :: sc :: jv ((e0_1 q1) + (1 : Int64)) :: sc :: jv (e0_2 q2) :: sc :: jv (e0_3 q3) :: sc :: iv (e0_4 p4) :: rv b2 :: iv 0 :: iv 1 :: iv 2 :: iv 3 :: jv (e0_5 q0 q1) :: sc :: jv (e0_6 q0 q1) :: sc :: iv 1 :: iv 0 :: un2))) at_193 rfl (ka X1394 hx hby at_195 rfl rfl (ki X1394 hx hby at_197 rfl k))) ?_
          show OGl _ _ _ _ T1394 (mkF m 199 (ta (jv q0 :: sc :: jv q1 :: sc :: jv q2 :: sc :: jv q3 :: sc :: iv p4 :: jv ((e0_0 q0) + (1 : Int64)) :: sc :: jv ((e0_1 q1) + (1 : Int64)) :: sc :: jv (e0_2 q2) :: sc :: jv (e0_3 q3) :: sc :: iv (e0_4 p4) :: rv b2 :: iv 0 :: iv 1 :: iv 2 :: iv 3 :: jv (e0_5 q0 q1) :: sc :: jv (e0_6 q0 q1) :: sc :: iv 1 :: iv 0 :: un2)) [.int 0, .ref b2])
          obtain ⟨cq1395, kq1395, q1395a, q1395b, q1395c⟩ := isOf hZ e1394 F1393
          obtain ⟨_, _, ⟨T1395, L1395, kk1395, n1395⟩, -, X1395, ⟨Lc1395, hQ1395, l1395, y1395, z1395⟩, st1395⟩ := X1394.virtualBack hx (y := yy8) (z := yy8) hown (mvT hZ (w60 hw)) (mvT hZ (w61 hw)) (notFace_of_selects (args := #[]) (mvT hZ (w63 hw))) (mvT hZ (w63 hw)) (mvT hZ (w62 hw)) (by decide) (backOf (W := 0) (rm10b l Z a0 hw [] b2 b1388_0 kb1388_1 T1388.heap n0 (Nat.le_trans Z0 KK1388.1) Fq1388_6 Fq1388_8) hZ (w64 hw) (w3 hw) (by decide) (by decide)) q1395a q1395c (g := (mkF m 199 (ta (jv q0 :: sc :: jv q1 :: sc :: jv q2 :: sc :: jv q3 :: sc :: iv p4 :: jv ((e0_0 q0) + (1 : Int64)) :: sc :: jv ((e0_1 q1) + (1 : Int64)) :: sc :: jv (e0_2 q2) :: sc :: jv (e0_3 q3) :: sc :: iv (e0_4 p4) :: rv b2 :: iv 0 :: iv 1 :: iv 2 :: iv 3 :: jv (e0_5 q0 q1) :: sc :: jv (e0_6 q0 q1) :: sc :: iv 1 :: iv 0 :: un2)) [.int 0, .ref b2])) rfl (by rw [hml]; rfl) (Steps.refl _) (argsL := [.int 0]) (rest := []) (lenOf pd_7 rfl) rfl (by show 2 * 0 + _ ≤ _; exact Nat.le_of_eq rfl) (hb hby at_199) (fun _ _ => ⟨rfl, e1394, (by decide : 9 + 0 ≤ _), (by decide : 103 + 0 ≤ _)⟩)
          dsimp only [Pt.U, Pt.locs, Pt.cells, Pt.slots] at X1395 l1395 y1395 z1395 st1395 hQ1395
          replace l1395 := l1395.symm
          subst l1395 y1395 z1395
          obtain ⟨rfl, Nq1395, e1395⟩ := hQ1395
          have N1395 := Fr.app N1394 Nq1395
          refine gO (fun t k => st1395.trans k) ?_
          show OGl _ _ _ _ T1395 (mkF m 202 (ta (jv q0 :: sc :: jv q1 :: sc :: jv q2 :: sc :: jv q3 :: sc :: iv p4 :: jv ((e0_0 q0) + (1 : Int64)) :: sc :: jv ((e0_1 q1) + (1 : Int64)) :: sc :: jv (e0_2 q2) :: sc :: jv (e0_3 q3) :: sc :: iv (e0_4 p4) :: rv b2 :: iv 0 :: iv 1 :: iv 2 :: iv 3 :: jv (e0_5 q0 q1) :: sc :: jv (e0_6 q0 q1) :: sc :: iv 1 :: iv 0 :: un2)) [.int 0])
          refine gO (fun t k => si X1395 hx hby (L' := (ta (jv q0 :: sc :: jv q1 :: sc :: jv q2 :: sc :: jv q3 :: sc :: iv p4 :: jv ((e0_0 q0) + (1 : Int64)) :: sc :: jv ((e0_1 q1) + (1 : Int64)) :: sc :: jv (e0_2 q2) :: sc :: jv (e0_3 q3) :: sc :: iv (e0_4 p4) :: rv b2 :: iv 0 :: iv 1 :: iv 2 :: iv 3 :: jv (e0_5 q0 q1) :: sc :: jv (e0_6 q0 q1) :: sc :: iv 1 :: iv 0 :: iv 0 :: un :: []))) at_202 rfl (ka X1395 hx hby at_204 rfl rfl (ki X1395 hx hby at_206 rfl k))) ?_
          show OGl _ _ _ _ T1395 (mkF m 208 (ta (jv q0 :: sc :: jv q1 :: sc :: jv q2 :: sc :: jv q3 :: sc :: iv p4 :: jv ((e0_0 q0) + (1 : Int64)) :: sc :: jv ((e0_1 q1) + (1 : Int64)) :: sc :: jv (e0_2 q2) :: sc :: jv (e0_3 q3) :: sc :: iv (e0_4 p4) :: rv b2 :: iv 0 :: iv 1 :: iv 2 :: iv 3 :: jv (e0_5 q0 q1) :: sc :: jv (e0_6 q0 q1) :: sc :: iv 1 :: iv 0 :: iv 0 :: un :: [])) [.int 3, .ref b2])
          obtain ⟨cq1396, kq1396, q1396a, q1396b, q1396c⟩ := isOf hZ e1395 F1393
          obtain ⟨_, _, ⟨T1396, L1396, kk1396, n1396⟩, -, X1396, ⟨Lc1396, hQ1396, l1396, y1396, z1396⟩, st1396⟩ := X1395.virtualBack hx (y := yy8) (z := yy8) hown (mvT hZ (w60 hw)) (mvT hZ (w61 hw)) (notFace_of_selects (args := #[]) (mvT hZ (w63 hw))) (mvT hZ (w63 hw)) (mvT hZ (w62 hw)) (by decide) (backOf (W := 0) (rm10c l Z a0 hw [] b2 b1388_0 kb1388_1 T1388.heap n0 (Nat.le_trans Z0 KK1388.1) Fq1388_6 Fq1388_8) hZ (w64 hw) (w3 hw) (by decide) (by decide)) q1396a q1396c (g := (mkF m 208 (ta (jv q0 :: sc :: jv q1 :: sc :: jv q2 :: sc :: jv q3 :: sc :: iv p4 :: jv ((e0_0 q0) + (1 : Int64)) :: sc :: jv ((e0_1 q1) + (1 : Int64)) :: sc :: jv (e0_2 q2) :: sc :: jv (e0_3 q3) :: sc :: iv (e0_4 p4) :: rv b2 :: iv 0 :: iv 1 :: iv 2 :: iv 3 :: jv (e0_5 q0 q1) :: sc :: jv (e0_6 q0 q1) :: sc :: iv 1 :: iv 0 :: iv 0 :: un :: [])) [.int 3, .ref b2])) rfl (by rw [hml]; rfl) (Steps.refl _) (argsL := [.int 3]) (rest := []) (lenOf pd_7 rfl) rfl (by show 2 * 0 + _ ≤ _; exact Nat.le_of_eq rfl) (hb hby at_208) (fun _ _ => ⟨rfl, e1395, (by decide : 9 + 0 ≤ _), (by decide : 103 + 0 ≤ _)⟩)
          dsimp only [Pt.U, Pt.locs, Pt.cells, Pt.slots] at X1396 l1396 y1396 z1396 st1396 hQ1396
          replace l1396 := l1396.symm
          subst l1396 y1396 z1396
          obtain ⟨rfl, Nq1396, e1396⟩ := hQ1396
          have N1396 := Fr.app N1395 Nq1396
          refine gO (fun t k => st1396.trans k) ?_
          show OGl _ _ _ _ T1396 (mkF m 211 (ta (jv q0 :: sc :: jv q1 :: sc :: jv q2 :: sc :: jv q3 :: sc :: iv p4 :: jv ((e0_0 q0) + (1 : Int64)) :: sc :: jv ((e0_1 q1) + (1 : Int64)) :: sc :: jv (e0_2 q2) :: sc :: jv (e0_3 q3) :: sc :: iv (e0_4 p4) :: rv b2 :: iv 0 :: iv 1 :: iv 2 :: iv 3 :: jv (e0_5 q0 q1) :: sc :: jv (e0_6 q0 q1) :: sc :: iv 1 :: iv 0 :: iv 0 :: un :: [])) [.int 0])
          refine gO (fun t k => si X1396 hx hby (L' := (ta (jv q0 :: sc :: jv q1 :: sc :: jv q2 :: sc :: jv q3 :: sc :: iv p4 :: jv ((e0_0 q0) + (1 : Int64)) :: sc :: jv ((e0_1 q1) + (1 : Int64)) :: sc :: jv (e0_2 q2) :: sc :: jv (e0_3 q3) :: sc :: iv (e0_4 p4) :: rv b2 :: iv 0 :: iv 1 :: iv 2 :: iv 3 :: jv (e0_5 q0 q1) :: sc :: jv (e0_6 q0 q1) :: sc :: iv 1 :: iv 0 :: iv 0 :: iv 0 :: []))) at_211 rfl (ki X1396 hx hby at_213 rfl (iN X1396 hx hby at_215 ((if0 _ _).trans (teq (by decide : (0 : Int32) = (0 : Int32))).2) (ki X1396 hx hby at_218 rfl (iY X1396 hx hby 225 at_220 ((if0 _ _).trans (teq (by decide : (0 : Int32) = (0 : Int32))).1) rfl (ki X1396 hx hby at_225 rfl (iY X1396 hx hby 246 at_227 ((if0 _ _).trans (teq hc741).1) rfl (kl X1396 hx hby at_246 rfl (kl X1396 hx hby at_248 rfl (o_lcmp X1396 hx hby at_250 (iY X1396 hx hby 270 at_251 (own_fltL hc742).2.1 rfl (kl X1396 hx hby at_270 rfl (kl X1396 hx hby at_272 rfl (o_lcmp X1396 hx hby at_274 (iY X1396 hx hby 294 at_275 (own_fltL hc1050).2.1 rfl (ki X1396 hx hby at_294 rfl (ki X1396 hx hby at_296 rfl (cN X1396 hx hby at_298 (feq (by decide : ¬ ((1 : Int32) = (0 : Int32)))).1 (kc X1396 hx hby at_301 (o_goto X1396 hx hby 306 at_302 rfl k)))))))))))))))))))) ?_
          show OGl _ _ _ _ T1396 (mkF m 306 (ta (jv q0 :: sc :: jv q1 :: sc :: jv q2 :: sc :: jv q3 :: sc :: iv p4 :: jv ((e0_0 q0) + (1 : Int64)) :: sc :: jv ((e0_1 q1) + (1 : Int64)) :: sc :: jv (e0_2 q2) :: sc :: jv (e0_3 q3) :: sc :: iv (e0_4 p4) :: rv b2 :: iv 0 :: iv 1 :: iv 2 :: iv 3 :: jv (e0_5 q0 q1) :: sc :: jv (e0_6 q0 q1) :: sc :: iv 1 :: iv 0 :: iv 0 :: iv 0 :: [])) [.int 1])
          obtain ⟨fs, hr, hrun, hended, hW, hsame⟩ := X1396.leave (v := some (.int 1)) (fun h => by rw [Bd.returns] at h; cases h) (BodyLoose.notSynchronized Bd)
          refine ⟨_, _, retN X1396 hx (t := .boolean) Bd.returns (by simp) (hb hby at_306) hr, hrun, hended, _, _, rfl, ?_, ⟨_, rfl⟩, hW, hsame.mono (by decide) (by decide)⟩
          have hv1793 : (t0_0 q0 q1 q2 q3 p4) = (1 : Int32) := by unfold t0_0; rw [if_pos hc741, if_neg hc742, if_neg hc1050, if_pos hc1391]
          show Q0 Z q0 q1 q2 q3 p4 h0 n0 _ T1396.heap _
          rw [e1396]
          exact ⟨(by rw [hv1793]), N1396⟩
        · refine gO (fun t k => iN X1390 hx hby at_172 (own_feqL hc1391).1 (kc X1390 hx hby at_175 k)) ?_
          show OGl _ _ _ _ T1390 (mkF m 176 (ta (jv q0 :: sc :: jv q1 :: sc :: jv q2 :: sc :: jv q3 :: sc :: iv p4 :: jv ((e0_0 q0) + (1 : Int64)) :: sc :: jv ((e0_1 q1) + (1 : Int64)) :: sc :: jv (e0_2 q2) :: sc :: jv (e0_3 q3) :: sc :: iv (e0_4 p4) :: rv b2 :: iv 0 :: iv 1 :: iv 2 :: iv 3 :: jv (e0_5 q0 q1) :: sc :: jv (e0_6 q0 q1) :: sc :: un4)) [.int 0])
          obtain ⟨fs, hr, hrun, hended, hW, hsame⟩ := X1390.leave (v := some (.int 0)) (fun h => by rw [Bd.returns] at h; cases h) (BodyLoose.notSynchronized Bd)
          refine ⟨_, _, retN X1390 hx (t := .boolean) Bd.returns (by simp) (hb hby at_176) hr, hrun, hended, _, _, rfl, ?_, ⟨_, rfl⟩, hW, hsame.mono (by decide) (by decide)⟩
          have hv1794 : (t0_0 q0 q1 q2 q3 p4) = (0 : Int32) := by unfold t0_0; rw [if_pos hc741, if_neg hc742, if_neg hc1050, if_neg hc1391]
          show Q0 Z q0 q1 q2 q3 p4 h0 n0 _ T1390.heap _
          rw [e1390]
          exact ⟨(by rw [hv1794]), N1390⟩
  · refine gO (fun t k => iN X656 hx hby at_122 ((if0 _ _).trans (feq hc741).1) (ka X656 hx hby at_125 rfl rfl (ki X656 hx hby at_127 rfl (ki X656 hx hby at_129 rfl k)))) ?_
    show OGl _ _ _ _ T656 (mkF m 131 (ta (jv q0 :: sc :: jv q1 :: sc :: jv q2 :: sc :: jv q3 :: sc :: iv p4 :: jv ((e0_0 q0) + (1 : Int64)) :: sc :: jv ((e0_1 q1) + (1 : Int64)) :: sc :: jv (e0_2 q2) :: sc :: jv (e0_3 q3) :: sc :: iv (e0_4 p4) :: rv b2 :: iv 0 :: iv 1 :: iv 2 :: iv 3 :: un8)) [.int 2, .int 0, .ref b2])
    have F1480 := (F739.keep K656)
    obtain ⟨cq1397, kq1397, q1397a, q1397b, q1397c⟩ := isOf hZ rfl F1480
    obtain ⟨_, _, ⟨T1397, L1397, kk1397, n1397⟩, -, X1397, ⟨Lc1397, hQ1397, l1397, y1397, z1397⟩, st1397⟩ := X656.virtualBack hx (y := yy4) (z := yy4) hown (mvT hZ (w37 hw)) (mvT hZ (w38 hw)) (notFace_of_selects (args := #[]) (mvT hZ (w40 hw))) (mvT hZ (w40 hw)) (mvT hZ (w39 hw)) (by decide) (backOf (W := 0) (rm6c l Z a0 hw [] b2 b10_3 kb10_7 b10_2 kb10_6 (e0_2 q2) ((e0_0 q0) + (1 : Int64)) ((e0_1 q1) + (1 : Int64)) (e0_3 q3) b10_1 b10_0 kb10_4 kb10_5 T656.heap n0 (Nat.le_trans Z0 KK656.1) F1480 Fq656_4 Fq656_10 Fq656_0 Fq656_8 Fq656_1 Fq656_7 Fq656_6 Fq656_3 Fq656_2 Fq656_5 Fq656_9 g_b10_3 ne_b2_b10_3 ne_b10_2_b10_3 g_b10_2 ne_b2_b10_2 ne_b10_0_b10_3 ne_b10_0_b10_2 ne_b10_1_b10_3 ne_b10_1_b10_2 g_b10_1 ne_b2_b10_1 ne_b10_0_b10_1 g_b10_0 ne_b2_b10_0 g_b2) hZ (w41 hw) (w3 hw) (by decide) (by decide)) q1397a q1397c (g := (mkF m 131 (ta (jv q0 :: sc :: jv q1 :: sc :: jv q2 :: sc :: jv q3 :: sc :: iv p4 :: jv ((e0_0 q0) + (1 : Int64)) :: sc :: jv ((e0_1 q1) + (1 : Int64)) :: sc :: jv (e0_2 q2) :: sc :: jv (e0_3 q3) :: sc :: iv (e0_4 p4) :: rv b2 :: iv 0 :: iv 1 :: iv 2 :: iv 3 :: un8)) [.int 2, .int 0, .ref b2])) rfl (by rw [hml]; rfl) (Steps.refl _) (argsL := [.int 0, .int 2]) (rest := []) (lenOf pd_3 rfl) rfl (by show 2 * 0 + _ ≤ _; exact Nat.le_of_eq rfl) (hb hby at_131) (fun _ _ => ⟨rfl, rfl, (by decide : 5 + 0 ≤ _), (by decide : 71 + 0 ≤ _)⟩)
    dsimp only [Pt.U, Pt.locs, Pt.cells, Pt.slots] at X1397 l1397 y1397 z1397 st1397 hQ1397
    replace l1397 := l1397.symm
    subst l1397 y1397 z1397
    obtain ⟨rfl, Nq1397, K1397, Fq1397_0, Fq1397_1, Fq1397_2, Fq1397_3, Fq1397_4, Fq1397_5, Fq1397_6, Fq1397_7, Fq1397_8, Fq1397_9, Fq1397_10⟩ := hQ1397
    have KK1397 : Keep h0 T1397.heap [] := KK656.trans K1397 (allS (Or.inr sz_b10_3) (allS (Or.inr sz_b10_2) (allS (Or.inr sz_b10_1) (allS (Or.inr sz_b10_0) (allS (Or.inr sz_b2) all0)))))
    have N1397 := Fr.app N656 Nq1397
    refine gO (fun t k => st1397.trans k) ?_
    show OGl _ _ _ _ T1397 (mkF m 134 (ta (jv q0 :: sc :: jv q1 :: sc :: jv q2 :: sc :: jv q3 :: sc :: iv p4 :: jv ((e0_0 q0) + (1 : Int64)) :: sc :: jv ((e0_1 q1) + (1 : Int64)) :: sc :: jv (e0_2 q2) :: sc :: jv (e0_3 q3) :: sc :: iv (e0_4 p4) :: rv b2 :: iv 0 :: iv 1 :: iv 2 :: iv 3 :: un8)) [])
    refine gO (fun t k => ka X1397 hx hby at_134 rfl rfl (ki X1397 hx hby at_136 rfl (ki X1397 hx hby at_138 rfl (own_ldc2 X1397 hx hown (mvT hZ (w43 hw)) rfl (hb hby at_140) k)))) ?_
    show OGl _ _ _ _ T1397 (mkF m 143 (ta (jv q0 :: sc :: jv q1 :: sc :: jv q2 :: sc :: jv q3 :: sc :: iv p4 :: jv ((e0_0 q0) + (1 : Int64)) :: sc :: jv ((e0_1 q1) + (1 : Int64)) :: sc :: jv (e0_2 q2) :: sc :: jv (e0_3 q3) :: sc :: iv (e0_4 p4) :: rv b2 :: iv 0 :: iv 1 :: iv 2 :: iv 3 :: un8)) [.long 2305843009213693950, .int 3, .int 0, .ref b2])
    have F1782 := (F1480.keep K1397)
    obtain ⟨cq1481, kq1481, q1481a, q1481b, q1481c⟩ := isOf hZ rfl F1782
    obtain ⟨_, _, ⟨T1481, L1481, kk1481, n1481⟩, -, X1481, ⟨Lc1481, hQ1481, l1481, y1481, z1481⟩, st1481⟩ := X1397.virtualBack hx (y := yy7) (z := yy7) hown (mvT hZ (w44 hw)) (mvT hZ (w45 hw)) (notFace_of_selects (args := #[]) (mvT hZ (w47 hw))) (mvT hZ (w47 hw)) (mvT hZ (w46 hw)) (by decide) (backOf (W := 0) (rm7b l Z a0 hw [] b2 b10_0 kb10_4 b10_2 kb10_6 (e0_2 q2) ((e0_0 q0) + (1 : Int64)) ((e0_1 q1) + (1 : Int64)) (e0_3 q3) b10_3 kb10_7 b10_1 kb10_5 T1397.heap n0 (Nat.le_trans Z0 KK1397.1) Fq1397_5 Fq1397_4 Fq1397_6 Fq1397_3 Fq1397_8 Fq1397_1 Fq1397_10 Fq1397_0 Fq1397_7 Fq1397_2 (own_pr22 q0 q1 ) (own_pr23 q0 q1 ) g_b10_2 ne_b2_b10_2 (Ne.symm ne_b10_2_b10_3) (own_pr24 q0 q1 ) ne_b10_0_b10_2 ne_b10_1_b10_2 (own_pr25 q0 q1 ) (own_pr26 q0 q1 ) (own_pr27 q0 q1 ) F1782 Fq1397_9 g_b2) hZ (w48 hw) (w3 hw) (by decide) (by decide)) q1481a q1481c (g := (mkF m 143 (ta (jv q0 :: sc :: jv q1 :: sc :: jv q2 :: sc :: jv q3 :: sc :: iv p4 :: jv ((e0_0 q0) + (1 : Int64)) :: sc :: jv ((e0_1 q1) + (1 : Int64)) :: sc :: jv (e0_2 q2) :: sc :: jv (e0_3 q3) :: sc :: iv (e0_4 p4) :: rv b2 :: iv 0 :: iv 1 :: iv 2 :: iv 3 :: un8)) [.long 2305843009213693950, .int 3, .int 0, .ref b2])) rfl (by rw [hml]; rfl) (Steps.refl _) (argsL := [.int 0, .int 3, .long 2305843009213693950]) (rest := []) (lenOf pd_6 rfl) rfl (by show 2 * 0 + _ ≤ _; exact Nat.le_of_eq rfl) (hb hby at_143) (fun _ _ => ⟨rfl, rfl, (by decide : 5 + 4 ≤ _), (by decide : 71 + 32 ≤ _)⟩)
    dsimp only [Pt.U, Pt.locs, Pt.cells, Pt.slots] at X1481 l1481 y1481 z1481 st1481 hQ1481
    replace l1481 := l1481.symm
    subst l1481 y1481 z1481
    obtain ⟨b1481_0, kb1481_1, rfl, Nq1481, K1481, sb_b1481_0, Fq1481_0, Fq1481_1, Fq1481_2, Fq1481_3, Fq1481_4, Fq1481_5, Fq1481_6, Fq1481_7, Fq1481_8⟩ := hQ1481
    have ne_b10_0_b1481_0 : b10_0 ≠ b1481_0 := Nat.ne_of_lt (Nat.lt_of_lt_of_le Fq1397_3.lt sb_b1481_0)
    have ne_b10_1_b1481_0 : b10_1 ≠ b1481_0 := Nat.ne_of_lt (Nat.lt_of_lt_of_le Fq1397_2.lt sb_b1481_0)
    have ne_b10_2_b1481_0 : b10_2 ≠ b1481_0 := Nat.ne_of_lt (Nat.lt_of_lt_of_le Fq1397_1.lt sb_b1481_0)
    have ne_b10_3_b1481_0 : b10_3 ≠ b1481_0 := Nat.ne_of_lt (Nat.lt_of_lt_of_le Fq1397_0.lt sb_b1481_0)
    have ne_b2_b1481_0 : b2 ≠ b1481_0 := Nat.ne_of_lt (Nat.lt_of_lt_of_le F1782.lt sb_b1481_0)
    have sz_b1481_0 : h0.size ≤ b1481_0 := Nat.le_trans KK1397.1 sb_b1481_0
    have g_b1481_0 : n0 ≤ b1481_0 := Nat.le_trans Z0 sz_b1481_0
    have KK1481 : Keep h0 T1481.heap [] := KK1397.trans K1481 (allS (Or.inr sz_b10_2) (allS (Or.inr sz_b2) all0))
    have N1481 := Fr.app N1397 Nq1481
    refine gO (fun t k => st1481.trans k) ?_
    show OGl _ _ _ _ T1481 (mkF m 146 (ta (jv q0 :: sc :: jv q1 :: sc :: jv q2 :: sc :: jv q3 :: sc :: iv p4 :: jv ((e0_0 q0) + (1 : Int64)) :: sc :: jv ((e0_1 q1) + (1 : Int64)) :: sc :: jv (e0_2 q2) :: sc :: jv (e0_3 q3) :: sc :: iv (e0_4 p4) :: rv b2 :: iv 0 :: iv 1 :: iv 2 :: iv 3 :: un8)) [.long (e0_8 q1)])
    refine gO (fun t k => sl X1481 hx hby (L' := (ta (jv q0 :: sc :: jv q1 :: sc :: jv q2 :: sc :: jv q3 :: sc :: iv p4 :: jv ((e0_0 q0) + (1 : Int64)) :: sc :: jv ((e0_1 q1) + (1 : Int64)) :: sc :: jv (e0_2 q2) :: sc :: jv (e0_3 q3) :: sc :: iv (e0_4 p4) :: rv b2 :: iv 0 :: iv 1 :: iv 2 :: iv 3 :: jv (e0_8 q1) :: sc :: un6))) at_146 rfl (ki X1481 hx hby at_148 rfl (iN X1481 hx hby at_150 ((if0 _ _).trans (feq hc741).1) (kl X1481 hx hby at_153 rfl (o_goto X1481 hx hby 165 at_155 rfl (sl X1481 hx hby (L' := (ta (jv q0 :: sc :: jv q1 :: sc :: jv q2 :: sc :: jv q3 :: sc :: iv p4 :: jv ((e0_0 q0) + (1 : Int64)) :: sc :: jv ((e0_1 q1) + (1 : Int64)) :: sc :: jv (e0_2 q2) :: sc :: jv (e0_3 q3) :: sc :: iv (e0_4 p4) :: rv b2 :: iv 0 :: iv 1 :: iv 2 :: iv 3 :: jv (e0_8 q1) :: sc :: jv ((e0_1 q1) + (1 : Int64)) :: sc :: un4))) at_165 rfl (kl X1481 hx hby at_167 rfl (kl X1481 hx hby at_169 rfl (o_lcmp X1481 hx hby at_171 k))))))))) ?_
    show OGl _ _ _ _ T1481 (mkF m 172 (ta (jv q0 :: sc :: jv q1 :: sc :: jv q2 :: sc :: jv q3 :: sc :: iv p4 :: jv ((e0_0 q0) + (1 : Int64)) :: sc :: jv ((e0_1 q1) + (1 : Int64)) :: sc :: jv (e0_2 q2) :: sc :: jv (e0_3 q3) :: sc :: iv (e0_4 p4) :: rv b2 :: iv 0 :: iv 1 :: iv 2 :: iv 3 :: jv (e0_8 q1) :: sc :: jv ((e0_1 q1) + (1 : Int64)) :: sc :: un4)) [.int (lcmpW (e0_8 q1) ((e0_1 q1) + (1 : Int64)))])
    by_cases hc1783 : (e0_8 q1) = ((e0_1 q1) + (1 : Int64))
    · refine gO (fun t k => iY X1481 hx hby 177 at_172 (own_teqL hc1783).1 rfl (ka X1481 hx hby at_177 rfl rfl (ki X1481 hx hby at_179 rfl k))) ?_
      show OGl _ _ _ _ T1481 (mkF m 181 (ta (jv q0 :: sc :: jv q1 :: sc :: jv q2 :: sc :: jv q3 :: sc :: iv p4 :: jv ((e0_0 q0) + (1 : Int64)) :: sc :: jv ((e0_1 q1) + (1 : Int64)) :: sc :: jv (e0_2 q2) :: sc :: jv (e0_3 q3) :: sc :: iv (e0_4 p4) :: rv b2 :: iv 0 :: iv 1 :: iv 2 :: iv 3 :: jv (e0_8 q1) :: sc :: jv ((e0_1 q1) + (1 : Int64)) :: sc :: un4)) [.int 1, .ref b2])
      have F1785 := (F1782.keep K1481)
      obtain ⟨cq1784, kq1784, q1784a, q1784b, q1784c⟩ := isOf hZ rfl F1785
      obtain ⟨_, _, ⟨T1784, L1784, kk1784, n1784⟩, -, X1784, ⟨Lc1784, hQ1784, l1784, y1784, z1784⟩, st1784⟩ := X1481.virtualBack hx (y := yy8) (z := yy8) hown (mvT hZ (w60 hw)) (mvT hZ (w61 hw)) (notFace_of_selects (args := #[]) (mvT hZ (w63 hw))) (mvT hZ (w63 hw)) (mvT hZ (w62 hw)) (by decide) (backOf (W := 0) (rm10d l Z a0 hw [] b2 b1481_0 kb1481_1 T1481.heap n0 (Nat.le_trans Z0 KK1481.1) Fq1481_6 Fq1481_8) hZ (w64 hw) (w3 hw) (by decide) (by decide)) q1784a q1784c (g := (mkF m 181 (ta (jv q0 :: sc :: jv q1 :: sc :: jv q2 :: sc :: jv q3 :: sc :: iv p4 :: jv ((e0_0 q0) + (1 : Int64)) :: sc :: jv ((e0_1 q1) + (1 : Int64)) :: sc :: jv (e0_2 q2) :: sc :: jv (e0_3 q3) :: sc :: iv (e0_4 p4) :: rv b2 :: iv 0 :: iv 1 :: iv 2 :: iv 3 :: jv (e0_8 q1) :: sc :: jv ((e0_1 q1) + (1 : Int64)) :: sc :: un4)) [.int 1, .ref b2])) rfl (by rw [hml]; rfl) (Steps.refl _) (argsL := [.int 1]) (rest := []) (lenOf pd_7 rfl) rfl (by show 2 * 0 + _ ≤ _; exact Nat.le_of_eq rfl) (hb hby at_181) (fun _ _ => ⟨rfl, rfl, (by decide : 9 + 0 ≤ _), (by decide : 103 + 0 ≤ _)⟩)
      dsimp only [Pt.U, Pt.locs, Pt.cells, Pt.slots] at X1784 l1784 y1784 z1784 st1784 hQ1784
      replace l1784 := l1784.symm
      subst l1784 y1784 z1784
      obtain ⟨rfl, Nq1784, e1784⟩ := hQ1784
      have N1784 := Fr.app N1481 Nq1784
      refine gO (fun t k => st1784.trans k) ?_
      show OGl _ _ _ _ T1784 (mkF m 184 (ta (jv q0 :: sc :: jv q1 :: sc :: jv q2 :: sc :: jv q3 :: sc :: iv p4 :: jv ((e0_0 q0) + (1 : Int64)) :: sc :: jv ((e0_1 q1) + (1 : Int64)) :: sc :: jv (e0_2 q2) :: sc :: jv (e0_3 q3) :: sc :: iv (e0_4 p4) :: rv b2 :: iv 0 :: iv 1 :: iv 2 :: iv 3 :: jv (e0_8 q1) :: sc :: jv ((e0_1 q1) + (1 : Int64)) :: sc :: un4)) [.int 0])
      refine gO (fun t k => si X1784 hx hby (L' := (ta (jv q0 :: sc :: jv q1 :: sc :: jv q2 :: sc :: jv q3 :: sc :: iv p4 :: jv ((e0_0 q0) + (1 : Int64)) :: sc :: jv ((e0_1 q1) + (1 : Int64)) :: sc :: jv (e0_2 q2) :: sc :: jv (e0_3 q3) :: sc :: iv (e0_4 p4) :: rv b2 :: iv 0 :: iv 1 :: iv 2 :: iv 3 :: jv (e0_8 q1) :: sc :: jv ((e0_1 q1) + (1 : Int64)) :: sc :: iv 0 :: un3))) at_184 rfl (ka X1784 hx hby at_186 rfl rfl (ki X1784 hx hby at_188 rfl k))) ?_
      show OGl _ _ _ _ T1784 (mkF m 190 (ta (jv q0 :: sc :: jv q1 :: sc :: jv q2 :: sc :: jv q3 :: sc :: iv p4 :: jv ((e0_0 q0) + (1 : Int64)) :: sc :: jv ((e0_1 q1) + (1 : Int64)) :: sc :: jv (e0_2 q2) :: sc :: jv (e0_3 q3) :: sc :: iv (e0_4 p4) :: rv b2 :: iv 0 :: iv 1 :: iv 2 :: iv 3 :: jv (e0_8 q1) :: sc :: jv ((e0_1 q1) + (1 : Int64)) :: sc :: iv 0 :: un3)) [.int 2, .ref b2])
      obtain ⟨cq1786, kq1786, q1786a, q1786b, q1786c⟩ := isOf hZ e1784 F1785
      obtain ⟨_, _, ⟨T1786, L1786, kk1786, n1786⟩, -, X1786, ⟨Lc1786, hQ1786, l1786, y1786, z1786⟩, st1786⟩ := X1784.virtualBack hx (y := yy8) (z := yy8) hown (mvT hZ (w60 hw)) (mvT hZ (w61 hw)) (notFace_of_selects (args := #[]) (mvT hZ (w63 hw))) (mvT hZ (w63 hw)) (mvT hZ (w62 hw)) (by decide) (backOf (W := 0) (rm10e l Z a0 hw [] b2 b1481_0 kb1481_1 T1481.heap n0 (Nat.le_trans Z0 KK1481.1) Fq1481_6 Fq1481_8) hZ (w64 hw) (w3 hw) (by decide) (by decide)) q1786a q1786c (g := (mkF m 190 (ta (jv q0 :: sc :: jv q1 :: sc :: jv q2 :: sc :: jv q3 :: sc :: iv p4 :: jv ((e0_0 q0) + (1 : Int64)) :: sc :: jv ((e0_1 q1) + (1 : Int64)) :: sc :: jv (e0_2 q2) :: sc :: jv (e0_3 q3) :: sc :: iv (e0_4 p4) :: rv b2 :: iv 0 :: iv 1 :: iv 2 :: iv 3 :: jv (e0_8 q1) :: sc :: jv ((e0_1 q1) + (1 : Int64)) :: sc :: iv 0 :: un3)) [.int 2, .ref b2])) rfl (by rw [hml]; rfl) (Steps.refl _) (argsL := [.int 2]) (rest := []) (lenOf pd_7 rfl) rfl (by show 2 * 0 + _ ≤ _; exact Nat.le_of_eq rfl) (hb hby at_190) (fun _ _ => ⟨rfl, e1784, (by decide : 9 + 0 ≤ _), (by decide : 103 + 0 ≤ _)⟩)
      dsimp only [Pt.U, Pt.locs, Pt.cells, Pt.slots] at X1786 l1786 y1786 z1786 st1786 hQ1786
      replace l1786 := l1786.symm
      subst l1786 y1786 z1786
      obtain ⟨rfl, Nq1786, e1786⟩ := hQ1786
      have N1786 := Fr.app N1784 Nq1786
      refine gO (fun t k => st1786.trans k) ?_
      show OGl _ _ _ _ T1786 (mkF m 193 (ta (jv q0 :: sc :: jv q1 :: sc :: jv q2 :: sc :: jv q3 :: sc :: iv p4 :: jv ((e0_0 q0) + (1 : Int64)) :: sc :: jv ((e0_1 q1) + (1 : Int64)) :: sc :: jv (e0_2 q2) :: sc :: jv (e0_3 q3) :: sc :: iv (e0_4 p4) :: rv b2 :: iv 0 :: iv 1 :: iv 2 :: iv 3 :: jv (e0_8 q1) :: sc :: jv ((e0_1 q1) + (1 : Int64)) :: sc :: iv 0 :: un3)) [.int 1])
      refine gO (fun t k => si X1786 hx hby (L' := (ta (jv q0 :: sc :: jv q1 :: sc :: jv q2 :: sc :: jv q3 :: sc :: iv p4 :: jv ((e0_0 q0) + (1 : Int64)) :: sc :: jv ((e0_1 q1) + (1 : Int64)) :: sc :: jv (e0_2 q2) :: sc :: jv (e0_3 q3) :: sc :: iv (e0_4 p4) :: rv b2 :: iv 0 :: iv 1 :: iv 2 :: iv 3 :: jv (e0_8 q1) :: sc :: jv ((e0_1 q1) + (1 : Int64)) :: sc :: iv 0 :: iv 1 :: un2))) at_193 rfl (ka X1786 hx hby at_195 rfl rfl (ki X1786 hx hby at_197 rfl k))) ?_
      show OGl _ _ _ _ T1786 (mkF m 199 (ta (jv q0 :: sc :: jv q1 :: sc :: jv q2 :: sc :: jv q3 :: sc :: iv p4 :: jv ((e0_0 q0) + (1 : Int64)) :: sc :: jv ((e0_1 q1) + (1 : Int64)) :: sc :: jv (e0_2 q2) :: sc :: jv (e0_3 q3) :: sc :: iv (e0_4 p4) :: rv b2 :: iv 0 :: iv 1 :: iv 2 :: iv 3 :: jv (e0_8 q1) :: sc :: jv ((e0_1 q1) + (1 : Int64)) :: sc :: iv 0 :: iv 1 :: un2)) [.int 0, .ref b2])
      obtain ⟨cq1787, kq1787, q1787a, q1787b, q1787c⟩ := isOf hZ e1786 F1785
      obtain ⟨_, _, ⟨T1787, L1787, kk1787, n1787⟩, -, X1787, ⟨Lc1787, hQ1787, l1787, y1787, z1787⟩, st1787⟩ := X1786.virtualBack hx (y := yy8) (z := yy8) hown (mvT hZ (w60 hw)) (mvT hZ (w61 hw)) (notFace_of_selects (args := #[]) (mvT hZ (w63 hw))) (mvT hZ (w63 hw)) (mvT hZ (w62 hw)) (by decide) (backOf (W := 0) (rm10f l Z a0 hw [] b2 b1481_0 kb1481_1 T1481.heap n0 (Nat.le_trans Z0 KK1481.1) Fq1481_6 Fq1481_8) hZ (w64 hw) (w3 hw) (by decide) (by decide)) q1787a q1787c (g := (mkF m 199 (ta (jv q0 :: sc :: jv q1 :: sc :: jv q2 :: sc :: jv q3 :: sc :: iv p4 :: jv ((e0_0 q0) + (1 : Int64)) :: sc :: jv ((e0_1 q1) + (1 : Int64)) :: sc :: jv (e0_2 q2) :: sc :: jv (e0_3 q3) :: sc :: iv (e0_4 p4) :: rv b2 :: iv 0 :: iv 1 :: iv 2 :: iv 3 :: jv (e0_8 q1) :: sc :: jv ((e0_1 q1) + (1 : Int64)) :: sc :: iv 0 :: iv 1 :: un2)) [.int 0, .ref b2])) rfl (by rw [hml]; rfl) (Steps.refl _) (argsL := [.int 0]) (rest := []) (lenOf pd_7 rfl) rfl (by show 2 * 0 + _ ≤ _; exact Nat.le_of_eq rfl) (hb hby at_199) (fun _ _ => ⟨rfl, e1786, (by decide : 9 + 0 ≤ _), (by decide : 103 + 0 ≤ _)⟩)
      dsimp only [Pt.U, Pt.locs, Pt.cells, Pt.slots] at X1787 l1787 y1787 z1787 st1787 hQ1787
      replace l1787 := l1787.symm
      subst l1787 y1787 z1787
      obtain ⟨rfl, Nq1787, e1787⟩ := hQ1787
      have N1787 := Fr.app N1786 Nq1787
      refine gO (fun t k => st1787.trans k) ?_
      show OGl _ _ _ _ T1787 (mkF m 202 (ta (jv q0 :: sc :: jv q1 :: sc :: jv q2 :: sc :: jv q3 :: sc :: iv p4 :: jv ((e0_0 q0) + (1 : Int64)) :: sc :: jv ((e0_1 q1) + (1 : Int64)) :: sc :: jv (e0_2 q2) :: sc :: jv (e0_3 q3) :: sc :: iv (e0_4 p4) :: rv b2 :: iv 0 :: iv 1 :: iv 2 :: iv 3 :: jv (e0_8 q1) :: sc :: jv ((e0_1 q1) + (1 : Int64)) :: sc :: iv 0 :: iv 1 :: un2)) [.int 0])
      refine gO (fun t k => si X1787 hx hby (L' := (ta (jv q0 :: sc :: jv q1 :: sc :: jv q2 :: sc :: jv q3 :: sc :: iv p4 :: jv ((e0_0 q0) + (1 : Int64)) :: sc :: jv ((e0_1 q1) + (1 : Int64)) :: sc :: jv (e0_2 q2) :: sc :: jv (e0_3 q3) :: sc :: iv (e0_4 p4) :: rv b2 :: iv 0 :: iv 1 :: iv 2 :: iv 3 :: jv (e0_8 q1) :: sc :: jv ((e0_1 q1) + (1 : Int64)) :: sc :: iv 0 :: iv 1 :: iv 0 :: un :: []))) at_202 rfl (ka X1787 hx hby at_204 rfl rfl (ki X1787 hx hby at_206 rfl k))) ?_
      show OGl _ _ _ _ T1787 (mkF m 208 (ta (jv q0 :: sc :: jv q1 :: sc :: jv q2 :: sc :: jv q3 :: sc :: iv p4 :: jv ((e0_0 q0) + (1 : Int64)) :: sc :: jv ((e0_1 q1) + (1 : Int64)) :: sc :: jv (e0_2 q2) :: sc :: jv (e0_3 q3) :: sc :: iv (e0_4 p4) :: rv b2 :: iv 0 :: iv 1 :: iv 2 :: iv 3 :: jv (e0_8 q1) :: sc :: jv ((e0_1 q1) + (1 : Int64)) :: sc :: iv 0 :: iv 1 :: iv 0 :: un :: [])) [.int 3, .ref b2])
      obtain ⟨cq1788, kq1788, q1788a, q1788b, q1788c⟩ := isOf hZ e1787 F1785
      obtain ⟨_, _, ⟨T1788, L1788, kk1788, n1788⟩, -, X1788, ⟨Lc1788, hQ1788, l1788, y1788, z1788⟩, st1788⟩ := X1787.virtualBack hx (y := yy8) (z := yy8) hown (mvT hZ (w60 hw)) (mvT hZ (w61 hw)) (notFace_of_selects (args := #[]) (mvT hZ (w63 hw))) (mvT hZ (w63 hw)) (mvT hZ (w62 hw)) (by decide) (backOf (W := 0) (rm10g l Z a0 hw [] b2 b1481_0 kb1481_1 T1481.heap n0 (Nat.le_trans Z0 KK1481.1) Fq1481_6 Fq1481_8) hZ (w64 hw) (w3 hw) (by decide) (by decide)) q1788a q1788c (g := (mkF m 208 (ta (jv q0 :: sc :: jv q1 :: sc :: jv q2 :: sc :: jv q3 :: sc :: iv p4 :: jv ((e0_0 q0) + (1 : Int64)) :: sc :: jv ((e0_1 q1) + (1 : Int64)) :: sc :: jv (e0_2 q2) :: sc :: jv (e0_3 q3) :: sc :: iv (e0_4 p4) :: rv b2 :: iv 0 :: iv 1 :: iv 2 :: iv 3 :: jv (e0_8 q1) :: sc :: jv ((e0_1 q1) + (1 : Int64)) :: sc :: iv 0 :: iv 1 :: iv 0 :: un :: [])) [.int 3, .ref b2])) rfl (by rw [hml]; rfl) (Steps.refl _) (argsL := [.int 3]) (rest := []) (lenOf pd_7 rfl) rfl (by show 2 * 0 + _ ≤ _; exact Nat.le_of_eq rfl) (hb hby at_208) (fun _ _ => ⟨rfl, e1787, (by decide : 9 + 0 ≤ _), (by decide : 103 + 0 ≤ _)⟩)
      dsimp only [Pt.U, Pt.locs, Pt.cells, Pt.slots] at X1788 l1788 y1788 z1788 st1788 hQ1788
      replace l1788 := l1788.symm
      subst l1788 y1788 z1788
      obtain ⟨rfl, Nq1788, e1788⟩ := hQ1788
      have N1788 := Fr.app N1787 Nq1788
      refine gO (fun t k => st1788.trans k) ?_
      show OGl _ _ _ _ T1788 (mkF m 211 (ta (jv q0 :: sc :: jv q1 :: sc :: jv q2 :: sc :: jv q3 :: sc :: iv p4 :: jv ((e0_0 q0) + (1 : Int64)) :: sc :: jv ((e0_1 q1) + (1 : Int64)) :: sc :: jv (e0_2 q2) :: sc :: jv (e0_3 q3) :: sc :: iv (e0_4 p4) :: rv b2 :: iv 0 :: iv 1 :: iv 2 :: iv 3 :: jv (e0_8 q1) :: sc :: jv ((e0_1 q1) + (1 : Int64)) :: sc :: iv 0 :: iv 1 :: iv 0 :: un :: [])) [.int 0])
      refine gO (fun t k => si X1788 hx hby (L' := (ta (jv q0 :: sc :: jv q1 :: sc :: jv q2 :: sc :: jv q3 :: sc :: iv p4 :: jv ((e0_0 q0) + (1 : Int64)) :: sc :: jv ((e0_1 q1) + (1 : Int64)) :: sc :: jv (e0_2 q2) :: sc :: jv (e0_3 q3) :: sc :: iv (e0_4 p4) :: rv b2 :: iv 0 :: iv 1 :: iv 2 :: iv 3 :: jv (e0_8 q1) :: sc :: jv ((e0_1 q1) + (1 : Int64)) :: sc :: iv 0 :: iv 1 :: iv 0 :: iv 0 :: []))) at_211 rfl (ki X1788 hx hby at_213 rfl (iN X1788 hx hby at_215 ((if0 _ _).trans (teq (by decide : (0 : Int32) = (0 : Int32))).2) (ki X1788 hx hby at_218 rfl (iY X1788 hx hby 225 at_220 ((if0 _ _).trans (teq (by decide : (0 : Int32) = (0 : Int32))).1) rfl (ki X1788 hx hby at_225 rfl (iN X1788 hx hby at_227 ((if0 _ _).trans (feq hc741).1) (ki X1788 hx hby at_230 rfl (iN X1788 hx hby at_232 ((if0 _ _).trans (teq (by decide : (0 : Int32) = (0 : Int32))).2) (ki X1788 hx hby at_235 rfl (iN X1788 hx hby at_237 ((if0 _ _).trans (feq (by decide : ¬ ((1 : Int32) = (0 : Int32)))).1) (kc X1788 hx hby at_240 (o_goto X1788 hx hby 245 at_241 rfl k))))))))))))) ?_
      show OGl _ _ _ _ T1788 (mkF m 245 (ta (jv q0 :: sc :: jv q1 :: sc :: jv q2 :: sc :: jv q3 :: sc :: iv p4 :: jv ((e0_0 q0) + (1 : Int64)) :: sc :: jv ((e0_1 q1) + (1 : Int64)) :: sc :: jv (e0_2 q2) :: sc :: jv (e0_3 q3) :: sc :: iv (e0_4 p4) :: rv b2 :: iv 0 :: iv 1 :: iv 2 :: iv 3 :: jv (e0_8 q1) :: sc :: jv ((e0_1 q1) + (1 : Int64)) :: sc :: iv 0 :: iv 1 :: iv 0 :: iv 0 :: [])) [.int 1])
      obtain ⟨fs, hr, hrun, hended, hW, hsame⟩ := X1788.leave (v := some (.int 1)) (fun h => by rw [Bd.returns] at h; cases h) (BodyLoose.notSynchronized Bd)
      refine ⟨_, _, retN X1788 hx (t := .boolean) Bd.returns (by simp) (hb hby at_245) hr, hrun, hended, _, _, rfl, ?_, ⟨_, rfl⟩, hW, hsame.mono (by decide) (by decide)⟩
      have hv1795 : (t0_0 q0 q1 q2 q3 p4) = (1 : Int32) := by unfold t0_0; rw [if_neg hc741, if_pos hc1783]
      show Q0 Z q0 q1 q2 q3 p4 h0 n0 _ T1788.heap _
      rw [e1788]
      exact ⟨(by rw [hv1795]), N1788⟩
    · refine gO (fun t k => iN X1481 hx hby at_172 (own_feqL hc1783).1 (kc X1481 hx hby at_175 k)) ?_
      show OGl _ _ _ _ T1481 (mkF m 176 (ta (jv q0 :: sc :: jv q1 :: sc :: jv q2 :: sc :: jv q3 :: sc :: iv p4 :: jv ((e0_0 q0) + (1 : Int64)) :: sc :: jv ((e0_1 q1) + (1 : Int64)) :: sc :: jv (e0_2 q2) :: sc :: jv (e0_3 q3) :: sc :: iv (e0_4 p4) :: rv b2 :: iv 0 :: iv 1 :: iv 2 :: iv 3 :: jv (e0_8 q1) :: sc :: jv ((e0_1 q1) + (1 : Int64)) :: sc :: un4)) [.int 0])
      obtain ⟨fs, hr, hrun, hended, hW, hsame⟩ := X1481.leave (v := some (.int 0)) (fun h => by rw [Bd.returns] at h; cases h) (BodyLoose.notSynchronized Bd)
      refine ⟨_, _, retN X1481 hx (t := .boolean) Bd.returns (by simp) (hb hby at_176) hr, hrun, hended, _, _, rfl, ?_, ⟨_, rfl⟩, hW, hsame.mono (by decide) (by decide)⟩
      have hv1796 : (t0_0 q0 q1 q2 q3 p4) = (0 : Int32) := by unfold t0_0; rw [if_neg hc741, if_neg hc1783]
      show Q0 Z q0 q1 q2 q3 p4 h0 n0 _ T1481.heap _
      exact ⟨(by rw [hv1796]), N1481⟩
theorem own_g1 (q0 q1 : Int64) : e0_5 q0 q1 = e0_6 q0 q1 := by
  have r0 := own_rg0 q0
  have r1 := own_rg1 q1
  unfold e0_5 e0_6 t9c_0
  rw [Int64.zero_add, own_e7 r0 r1]
  by_cases p1 : ((e0_0 q0) + (1 : Int64)) < ((e0_1 q1) + (1 : Int64))
  · rw [if_pos p1, if_neg]
    rw [Int64.lt_iff_toInt_lt] at p1 ⊢
    omega
  · rw [if_neg p1]
    by_cases p2 : ((e0_1 q1) + (1 : Int64)) < ((e0_0 q0) + (1 : Int64))
    · rw [if_pos p2]
    · rw [if_neg p2]
      exact (own_eq p1 p2).symm
theorem own_law (q0 q1 q2 q3 : Int64) (p4 : Int32) : t0_0 q0 q1 q2 q3 p4 = 1 := by
  have g1 := own_g1 q0 q1
  have g2 : e0_7 q0 q1 = e0_6 q0 q1 := g1
  have g3 : e0_8 q1 = ((e0_1 q1) + (1 : Int64)) := by
    unfold e0_8 e7b_1
    rw [own_bb (own_rg1 q1), Int64.zero_add]
  unfold t0_0
  simp only [g1, g2, g3, if_true, ite_self]
set_option maxRecDepth 65536 in
set_option maxHeartbeats 40000000 in
theorem comes_1 {Post : Tables → Env → Array Value → State → Outcome → State → Prop} (hpost : ∀ tb e args s v u, (limb_1_1.after args s (.returned v) u = true ∧ limb_1_2.after args s (.returned v) u = true ∧ True) → FrameEnd s (.returned v) u (Jvm.fieldLocs frame_1_writes args s ++ Jvm.arrayLocs frame_1_arrays args s ++ Jvm.staticLocs frame_1_statics s) 32 320 → Post tb e args s (.returned v) u) :
    ArmFor flags0 classFile x code maxLocals ret World_1 tables_1 room_1 Calls_1 rest_1 Pre_1 Post := by
  intro l hfl _ _ p e ha hc hk s m args below hf hA hF happ hP
  obtain ⟨hcalls, hrest, hpre⟩ := hP
  obtain ⟨-, -, -, hnamed, -, -, -, hat⟩ := (Spec.applies_iff hf).mp happ
  obtain ⟨hg, hn⟩ := and_e (Cond.before_iff.mp (show (Jvm.Cond.and given_1 narrow_1).before args s = true from hpre))
  obtain ⟨hz, hy0⟩ := and_e hg
  obtain ⟨ha0, hy1⟩ := and_e hy0
  obtain ⟨ha1, hy2⟩ := and_e hy1
  obtain ⟨ha2, hy3⟩ := and_e hy2
  obtain ⟨ha3, hy4⟩ := and_e hy3
  obtain ⟨w0, w1, w2, w3, w4, rfl⟩ : ∃ w0 w1 w2 w3 w4 : Value, args = #[w0, w1, w2, w3, w4] := by
    have hs : args.size = 5 := by simpa [Cond.value, given_1] using hz
    obtain ⟨L⟩ := args
    match L, hs with
    | [w0, w1, w2, w3, w4], _ => exact ⟨w0, w1, w2, w3, w4, rfl⟩
  have hw := fun d (hd : d ∈ tables_1) => atoms_spec (ws := Jvm.Cond.code x code maxLocals ret :: tables_1) hat d (List.mem_cons_of_mem _ hd)
  obtain ⟨i0, ev0⟩ := isL_v ha0
  obtain rfl : w0 = (.long i0) := Option.some.inj ev0
  obtain ⟨i1, ev1⟩ := isL_v ha1
  obtain rfl : w1 = (.long i1) := Option.some.inj ev1
  obtain ⟨i2, ev2⟩ := isL_v ha2
  obtain rfl : w2 = (.long i2) := Option.some.inj ev2
  obtain ⟨i3, ev3⟩ := isL_v ha3
  obtain rfl : w3 = (.long i3) := Option.some.inj ev3
  obtain ⟨i4, ev4⟩ := is_v hy4
  obtain rfl : w4 = (.int i4) := Option.some.inj ev4
  obtain ⟨n, o, h1, h2, h3, _, L, rfl, ⟨hv, N⟩, hq⟩ := rm0 l s _ hw tables_1 i0 i1 i2 i3 i4  s.heap s.heap.size (Nat.le_refl _)  p e ha hc hk s m _ below hf ((Spec.applies_iff_loose hf).mp happ).1 ⟨rfl, State.Warmed39.refl s, rfl⟩ trivial
  rw [own_law] at hv
  subst hv
  refine ⟨n, _, h1, h2, h3, hpost _ _ _ _ _ _ ⟨Cond.after_iff.mpr rfl, Cond.after_iff.mpr (eq_i res_at (Term.int_eval (1)) rfl), trivial⟩ ⟨hq.1, hq.2.1, (hq.2.2.sift fun y hy => Or.inr (N y hy)).mono (by decide) (by decide)⟩⟩
theorem main_1_1 : Claimed_1_1 := comes_1 fun _ _ _ _ _ _ h hF => ⟨h.1, hF⟩
theorem main_1_2 : Claimed_1_2 := comes_1 fun _ _ _ _ _ _ h hF => ⟨h.2.1, hF⟩
end Jvm.Pilot.@@N@@
namespace Jvm.Pilot.@@N@@
open Jvm Jvm.ClassFile Sem Op Lib Jvm.Free Jvm.Stand Jvm.Pilot.@@N@@.Jvm.D
/-! MADE BY PROGRAM (witnessworld.py) out of the Statement's table words and the real class files: 15 classes; the members and pool entries that the words name. The judged class is class 1, her method 1. -/
namespace start1
open Jvm.ClassFile
def u (s : String) : CpInfo := .utf8 (stringToUtf16 s)
/-- a pool by its gaps: so many unusable entries, then the entry; so many at the end -/
def gap : Nat → List CpInfo → List CpInfo
  | 0, r => r
  | n + 1, r => .unusable :: gap n r
def poolList (es : List (Nat × CpInfo)) (last : Nat) : List CpInfo := es.foldr (fun e r => gap e.1 (e.2 :: r)) (gap last [])
def pool (es : List (Nat × CpInfo)) (last : Nat) : Array CpInfo := ⟨poolList es last⟩
def fileOf (pool : Array CpInfo) (this : Nat) (attrs : Array Attribute := #[]) (ms : Array MethodInfo := #[]) (fl : Nat := 33) (sup : Nat := 0) (ifs : Array Nat := #[]) (fds : Array FieldInfo := #[]) : ClassFile where
  minorVersion := 0
  majorVersion := 65
  constantPool := pool
  accessFlags := fl
  thisClass := this
  superClass := sup
  interfaces := ifs
  fields := fds
  methods := ms
  attributes := attrs
def plain (name : String) (sup : Option ClassId) : Class where
  name := name
  kind := .ordinary
  loader := none
  accessFlags := 33
  super := sup
  interfaces := #[]
  cf := none
  fields := #[]
  methods := #[]
  instanceTypes := #[]
  staticTypes := #[]
  resolved := #[]
  callSites := []
  init := .initialized
  statics := none
  mirror := none

def pool0 : Array CpInfo := pool [(5, u "<init>"), (0, u "()V"), (1, .class_ 10), (1, u "java/lang/Object")] 113

def k0c0 : Code := { maxStack := 0, maxLocals := 1, code := object_method_1_code, exceptionTable := #[], attributes := #[] }
def k0m0 : Method := { name := "<init>", desc := "()V", sig := { parameters := [], returnType := none }, accessFlags := 1, code := some k0c0 }
/-- java/lang/Object -/
def k0 : Class := { plain "java/lang/Object" none with
  accessFlags := 33
  interfaces := #[]
  cf := some (fileOf pool0 8 #[] #[{ accessFlags := 1, nameIndex := 5, descriptorIndex := 6, attributes := #[] }] 33 0 #[] #[])
  fields := #[]
  methods := #[k0m0]
  instanceTypes := #[]
  staticTypes := #[]
  resolved := Array.replicate 124 none
  statics := none }

def pool1 : Array CpInfo := pool [(2, .class_ 4), (0, .nameAndType 5 6), (0, u "java/lang/Object"), (0, u "<init>"), (0, u "()V"), (0, .long 281474976710655), (1, .class_ 10), (0, u "com/example/nanjing/nanjing/plan/MinCut"), (0, .methodref 9 3), (0, .methodref 9 13), (0, .nameAndType 14 15), (0, u "node"), (0, u "(J)I"), (0, .methodref 9 17), (0, .nameAndType 18 19), (0, u "arc"), (0, u "(II)V"), (0, .long 2305843009213693950), (1, .methodref 9 23), (0, .nameAndType 24 25), (0, u "cut"), (0, u "(IIJ)J"), (0, .methodref 27 28), (0, .class_ 29), (0, .nameAndType 30 31), (0, u "java/lang/Math"), (0, u "min"), (0, u "(JJ)J"), (0, .methodref 9 33), (0, .nameAndType 34 35), (0, u "inCut"), (0, u "(I)Z"), (0, .class_ 37), (0, u "com/example/nanjing/nanjing/plan/MinCutInCutPinLaw"), (2, u "law"), (0, u "(JJJJI)Z")] 3

def k1m0 : Method := { name := "<init>", desc := "()V", sig := { parameters := [], returnType := none }, accessFlags := 1, code := none }
def k1c1 : Code := { maxStack := 5, maxLocals := 31, code := code, exceptionTable := #[], attributes := #[] }
def k1m1 : Method := { name := "law", desc := "(JJJJI)Z", sig := { parameters := [.long, .long, .long, .long, .int], returnType := some .boolean }, accessFlags := 9, code := some k1c1 }
/-- com/example/nanjing/nanjing/plan/MinCutInCutPinLaw -/
def k1 : Class := { plain "com/example/nanjing/nanjing/plan/MinCutInCutPinLaw" (some 0) with
  accessFlags := 49
  interfaces := #[]
  cf := some (fileOf pool1 36 #[] #[{ accessFlags := 1, nameIndex := 5, descriptorIndex := 6, attributes := #[] }, { accessFlags := 9, nameIndex := 40, descriptorIndex := 41, attributes := #[] }] 49 2 #[] #[])
  fields := #[]
  methods := #[k1m0, k1m1]
  instanceTypes := #[]
  staticTypes := #[]
  resolved := Array.replicate 45 none
  statics := none }

def pool2 : Array CpInfo := pool [(3, .methodref 4 5), (0, .class_ 6), (0, .nameAndType 7 8), (0, u "java/lang/Object"), (0, u "<init>"), (0, u "()V"), (0, .fieldref 10 11), (0, .class_ 12), (0, .nameAndType 13 14), (0, u "com/example/nanjing/nanjing/plan/MinCut"), (0, u "heads"), (0, u "[I"), (0, .fieldref 10 16), (0, .nameAndType 17 14), (0, u "targets"), (0, .fieldref 10 19), (0, .nameAndType 20 14), (0, u "nexts"), (0, .fieldref 10 22), (0, .nameAndType 23 24), (0, u "residues"), (0, u "[J"), (0, .fieldref 10 26), (0, .nameAndType 27 28), (0, u "halves"), (0, u "I"), (1, .class_ 32), (1, u "java/util/Arrays"), (2, .methodref 10 36), (0, .nameAndType 37 38), (0, u "edge"), (0, u "(IIJ)V"), (0, .long 2305843009213693951), (1, .methodref 30 42), (0, .nameAndType 43 44), (0, u "fill"), (0, u "([II)V"), (0, .fieldref 10 46), (0, .nameAndType 47 28), (0, u "edges"), (0, .fieldref 10 49), (0, .nameAndType 50 51), (0, u "sourceSide"), (0, u "[Z"), (0, .methodref 53 54), (0, .class_ 55), (0, .nameAndType 56 57), (0, u "java/lang/Math"), (0, u "min"), (0, u "(JJ)J"), (3, .methodref 10 62), (0, .nameAndType 63 38), (0, u "add"), (0, u "UNCUTTABLE"), (0, u "J"), (3, u "node"), (0, u "(J)I"), (1, u "arc"), (0, u "(II)V"), (0, u "cut"), (0, u "(IIJ)J"), (1, u "inCut"), (0, u "(I)Z")] 2

def k2c0 : Code := { maxStack := 2, maxLocals := 1, code := prog_49_method_1_code, exceptionTable := #[], attributes := #[] }
def k2m0 : Method := { name := "<init>", desc := "()V", sig := { parameters := [], returnType := none }, accessFlags := 0, code := some k2c0 }
def k2c1 : Code := { maxStack := 5, maxLocals := 4, code := prog_49_method_2_code, exceptionTable := #[], attributes := #[] }
def k2m1 : Method := { name := "node", desc := "(J)I", sig := { parameters := [.long], returnType := some .int }, accessFlags := 0, code := some k2c1 }
def k2c2 : Code := { maxStack := 5, maxLocals := 3, code := prog_49_method_3_code, exceptionTable := #[], attributes := #[] }
def k2m2 : Method := { name := "arc", desc := "(II)V", sig := { parameters := [.int, .int], returnType := none }, accessFlags := 0, code := some k2c2 }
def k2c3 : Code := { maxStack := 6, maxLocals := 15, code := prog_49_method_4_code, exceptionTable := #[], attributes := #[] }
def k2m3 : Method := { name := "cut", desc := "(IIJ)J", sig := { parameters := [.int, .int, .long], returnType := some .long }, accessFlags := 0, code := some k2c3 }
def k2c4 : Code := { maxStack := 3, maxLocals := 2, code := prog_49_method_5_code, exceptionTable := #[], attributes := #[] }
def k2m4 : Method := { name := "inCut", desc := "(I)Z", sig := { parameters := [.int], returnType := some .boolean }, accessFlags := 0, code := some k2c4 }
def k2c5 : Code := { maxStack := 5, maxLocals := 5, code := prog_49_method_6_code, exceptionTable := #[], attributes := #[] }
def k2m5 : Method := { name := "edge", desc := "(IIJ)V", sig := { parameters := [.int, .int, .long], returnType := none }, accessFlags := 2, code := some k2c5 }
def k2c6 : Code := { maxStack := 4, maxLocals := 5, code := prog_49_method_7_code, exceptionTable := #[], attributes := #[] }
def k2m6 : Method := { name := "add", desc := "(IIJ)V", sig := { parameters := [.int, .int, .long], returnType := none }, accessFlags := 2, code := some k2c6 }
/-- com/example/nanjing/nanjing/plan/MinCut -/
def k2 : Class := { plain "com/example/nanjing/nanjing/plan/MinCut" (some 0) with
  accessFlags := 32
  interfaces := #[]
  cf := some (fileOf pool2 10 #[] #[{ accessFlags := 0, nameIndex := 7, descriptorIndex := 8, attributes := #[] }, { accessFlags := 0, nameIndex := 69, descriptorIndex := 70, attributes := #[] }, { accessFlags := 0, nameIndex := 72, descriptorIndex := 73, attributes := #[] }, { accessFlags := 0, nameIndex := 74, descriptorIndex := 75, attributes := #[] }, { accessFlags := 0, nameIndex := 77, descriptorIndex := 78, attributes := #[] }, { accessFlags := 2, nameIndex := 37, descriptorIndex := 38, attributes := #[] }, { accessFlags := 2, nameIndex := 63, descriptorIndex := 38, attributes := #[] }] 32 4 #[] #[{ accessFlags := 24, nameIndex := 64, descriptorIndex := 65, attributes := #[] }, { accessFlags := 2, nameIndex := 13, descriptorIndex := 14, attributes := #[] }, { accessFlags := 2, nameIndex := 27, descriptorIndex := 28, attributes := #[] }, { accessFlags := 2, nameIndex := 17, descriptorIndex := 14, attributes := #[] }, { accessFlags := 2, nameIndex := 20, descriptorIndex := 14, attributes := #[] }, { accessFlags := 2, nameIndex := 23, descriptorIndex := 24, attributes := #[] }, { accessFlags := 2, nameIndex := 47, descriptorIndex := 28, attributes := #[] }, { accessFlags := 2, nameIndex := 50, descriptorIndex := 51, attributes := #[] }])
  fields := #[{ name := "UNCUTTABLE", type := .long, accessFlags := 24, slot := 0, constantValue := 0 }, { name := "heads", type := (.array .int), accessFlags := 2, slot := 0, constantValue := 0 }, { name := "halves", type := .int, accessFlags := 2, slot := 1, constantValue := 0 }, { name := "targets", type := (.array .int), accessFlags := 2, slot := 2, constantValue := 0 }, { name := "nexts", type := (.array .int), accessFlags := 2, slot := 3, constantValue := 0 }, { name := "residues", type := (.array .long), accessFlags := 2, slot := 4, constantValue := 0 }, { name := "edges", type := .int, accessFlags := 2, slot := 5, constantValue := 0 }, { name := "sourceSide", type := (.array .boolean), accessFlags := 2, slot := 6, constantValue := 0 }]
  methods := #[k2m0, k2m1, k2m2, k2m3, k2m4, k2m5, k2m6]
  instanceTypes := #[(.array .int), .int, (.array .int), (.array .int), (.array .long), .int, (.array .boolean)]
  staticTypes := #[.long]
  resolved := Array.replicate 81 none
  statics := none }

def pool3 : Array CpInfo := pool [(2, .class_ 4), (1, u "java/lang/Object"), (0, u "<init>"), (0, u "()V"), (7, .class_ 16), (1, u "java/util/Arrays"), (57, .class_ 76), (1, u "java/util/Arrays$NaturalOrder"), (36, .class_ 115), (1, u "java/util/Arrays$LegacyMergeSort"), (1, u "Z"), (257, .class_ 376), (0, u "java/util/Arrays$ArrayList"), (68, u "$assertionsDisabled"), (269, u "MIN_ARRAY_SORT_GRAN"), (0, u "I"), (2, u "INSERTIONSORT_THRESHOLD"), (120, u "fill"), (4, u "([II)V"), (129, .class_ 976), (0, u "java/util/Arrays$ArrayItr")] 52

def k3m0 : Method := { name := "<init>", desc := "()V", sig := { parameters := [], returnType := none }, accessFlags := 2, code := none }
def k3c1 : Code := { maxStack := 3, maxLocals := 4, code := jdk_65_method_103_code, exceptionTable := #[], attributes := #[] }
def k3m1 : Method := { name := "fill", desc := "([II)V", sig := { parameters := [(.array .int), .int], returnType := none }, accessFlags := 9, code := some k3c1 }
/-- java/util/Arrays -/
def k3 : Class := { plain "java/util/Arrays" (some 0) with
  accessFlags := 49
  interfaces := #[]
  cf := some (fileOf pool3 14 #[.nestMembers #[975, 375, 113, 74]] #[{ accessFlags := 2, nameIndex := 5, descriptorIndex := 6, attributes := #[] }, { accessFlags := 9, nameIndex := 840, descriptorIndex := 845, attributes := #[] }] 49 2 #[] #[{ accessFlags := 26, nameIndex := 715, descriptorIndex := 716, attributes := #[] }, { accessFlags := 26, nameIndex := 719, descriptorIndex := 716, attributes := #[] }, { accessFlags := 4120, nameIndex := 445, descriptorIndex := 117, attributes := #[] }])
  fields := #[{ name := "MIN_ARRAY_SORT_GRAN", type := .int, accessFlags := 26, slot := 0, constantValue := 0 }, { name := "INSERTIONSORT_THRESHOLD", type := .int, accessFlags := 26, slot := 1, constantValue := 0 }, { name := "$assertionsDisabled", type := .boolean, accessFlags := 4120, slot := 2, constantValue := 0 }]
  methods := #[k3m0, k3m1]
  instanceTypes := #[]
  staticTypes := #[.int, .int, .boolean]
  resolved := Array.replicate 1029 none
  statics := none }

def pool4 : Array CpInfo := pool [(1, .class_ 2), (0, u "java/lang/Math"), (1, .class_ 6), (1, u "java/lang/Object"), (0, u "<init>"), (0, u "()V"), (89, .class_ 100), (1, u "java/lang/Math$RandomNumberGeneratorHolder"), (20, u "(JJ)J"), (50, u "negativeZeroFloatBits"), (0, u "J"), (2, u "negativeZeroDoubleBits"), (24, u "min"), (43, u "$assertionsDisabled"), (0, u "Z"), (91, u "twoToTheDoubleScaleDown"), (0, u "D"), (4, u "twoToTheDoubleScaleUp"), (9, u "E"), (3, u "PI"), (2, u "TAU"), (2, u "DEGREES_TO_RADIANS"), (0, u "RADIANS_TO_DEGREES")] 94

def k4m0 : Method := { name := "<init>", desc := "()V", sig := { parameters := [], returnType := none }, accessFlags := 2, code := none }
def k4c1 : Code := { maxStack := 4, maxLocals := 4, code := jdk_29_method_70_code, exceptionTable := #[], attributes := #[] }
def k4m1 : Method := { name := "min", desc := "(JJ)J", sig := { parameters := [.long, .long], returnType := some .long }, accessFlags := 9, code := some k4c1 }
/-- java/lang/Math -/
def k4 : Class := { plain "java/lang/Math" (some 0) with
  accessFlags := 49
  interfaces := #[]
  cf := some (fileOf pool4 1 #[.nestMembers #[98]] #[{ accessFlags := 2, nameIndex := 7, descriptorIndex := 8, attributes := #[] }, { accessFlags := 9, nameIndex := 201, descriptorIndex := 121, attributes := #[] }] 49 4 #[] #[{ accessFlags := 25, nameIndex := 354, descriptorIndex := 339, attributes := #[] }, { accessFlags := 25, nameIndex := 358, descriptorIndex := 339, attributes := #[] }, { accessFlags := 25, nameIndex := 361, descriptorIndex := 339, attributes := #[] }, { accessFlags := 26, nameIndex := 364, descriptorIndex := 339, attributes := #[] }, { accessFlags := 26, nameIndex := 365, descriptorIndex := 339, attributes := #[] }, { accessFlags := 26, nameIndex := 172, descriptorIndex := 173, attributes := #[] }, { accessFlags := 26, nameIndex := 176, descriptorIndex := 173, attributes := #[] }, { accessFlags := 8, nameIndex := 344, descriptorIndex := 339, attributes := #[] }, { accessFlags := 8, nameIndex := 338, descriptorIndex := 339, attributes := #[] }, { accessFlags := 4120, nameIndex := 245, descriptorIndex := 246, attributes := #[] }])
  fields := #[{ name := "E", type := .double, accessFlags := 25, slot := 0, constantValue := 0 }, { name := "PI", type := .double, accessFlags := 25, slot := 1, constantValue := 0 }, { name := "TAU", type := .double, accessFlags := 25, slot := 2, constantValue := 0 }, { name := "DEGREES_TO_RADIANS", type := .double, accessFlags := 26, slot := 3, constantValue := 0 }, { name := "RADIANS_TO_DEGREES", type := .double, accessFlags := 26, slot := 4, constantValue := 0 }, { name := "negativeZeroFloatBits", type := .long, accessFlags := 26, slot := 5, constantValue := 0 }, { name := "negativeZeroDoubleBits", type := .long, accessFlags := 26, slot := 6, constantValue := 0 }, { name := "twoToTheDoubleScaleUp", type := .double, accessFlags := 8, slot := 7, constantValue := 0 }, { name := "twoToTheDoubleScaleDown", type := .double, accessFlags := 8, slot := 8, constantValue := 0 }, { name := "$assertionsDisabled", type := .boolean, accessFlags := 4120, slot := 9, constantValue := 0 }]
  methods := #[k4m0, k4m1]
  instanceTypes := #[]
  staticTypes := #[.double, .double, .double, .double, .double, .long, .long, .double, .double, .boolean]
  resolved := Array.replicate 460 none
  statics := none }

def pool5 : Array CpInfo := pool [(1, u "java/lang/Cloneable"), (0, .class_ 1), (0, u "java/lang/Object"), (0, .class_ 3)] 3

/-- java/lang/Cloneable -/
def k5 : Class := { plain "java/lang/Cloneable" (some 0) with
  accessFlags := 1537
  interfaces := #[]
  cf := some (fileOf pool5 2 #[] #[] 1537 4 #[] #[])
  fields := #[]
  methods := #[]
  instanceTypes := #[]
  staticTypes := #[]
  resolved := Array.replicate 8 none
  statics := none }

def pool6 : Array CpInfo := pool [(1, u "java/io/Serializable"), (0, .class_ 1), (0, u "java/lang/Object"), (0, .class_ 3)] 3

/-- java/io/Serializable -/
def k6 : Class := { plain "java/io/Serializable" (some 0) with
  accessFlags := 1537
  interfaces := #[]
  cf := some (fileOf pool6 2 #[] #[] 1537 4 #[] #[])
  fields := #[]
  methods := #[]
  instanceTypes := #[]
  staticTypes := #[]
  resolved := Array.replicate 8 none
  statics := none }

/-- the primitive boolean -/
def k7 : Class := { plain "boolean" none with kind := .primitive 'Z', accessFlags := 0x411 }
/-- [Z -/
def k8 : Class := { plain "[Z" (some 0) with kind := .array 7 .boolean, interfaces := #[5, 6], accessFlags := 1041 }

/-- the primitive byte -/
def k9 : Class := { plain "byte" none with kind := .primitive 'B', accessFlags := 0x411 }
/-- [B -/
def k10 : Class := { plain "[B" (some 0) with kind := .array 9 .byte, interfaces := #[5, 6], accessFlags := 1041 }

/-- the primitive int -/
def k11 : Class := { plain "int" none with kind := .primitive 'I', accessFlags := 0x411 }
/-- [I -/
def k12 : Class := { plain "[I" (some 0) with kind := .array 11 .int, interfaces := #[5, 6], accessFlags := 1041 }

/-- the primitive long -/
def k13 : Class := { plain "long" none with kind := .primitive 'J', accessFlags := 0x411 }
/-- [J -/
def k14 : Class := { plain "[J" (some 0) with kind := .array 13 .long, interfaces := #[5, 6], accessFlags := 1041 }

def heap : Heap := #[]
def classes : Array Class := #[k0, k1, k2, k3, k4, k5, k6, k7, k8, k9, k10, k11, k12, k13, k14]
def interned : List (Array UInt16 × Addr) := []
def slotsUsed : Nat := 0
def theMethod : MethodId := ⟨1, 1⟩
def args0 : Array Value := #[.long 50, .long 5, .long 6, .long 7, .int 7]
def aboutOver (below : List Frame) : State where
  vm := { classes := classes, interned := interned.toArray }
  heap := heap
  slotsUsed := slotsUsed
  threads := #[{ frames := .invoking theMethod args0 :: below }]
def below0 : List Frame := [.native { method := ⟨0, 0⟩, args := #[] }]
def about1 : State := aboutOver below0
def p0 : Program := .bare "" "" ""
def e0 : Env := launch0.env 0 0 0
theorem w_frames : about1.frames = Frame.invoking theMethod args0 :: below0 := rfl
set_option maxRecDepth 65536 in
theorem w_args : argsFit about1.vm theMethod args0 = true := by decide +kernel
set_option maxRecDepth 65536 in
theorem w_heap : heapFits about1 = true := by decide +kernel
set_option maxRecDepth 65536 in
theorem w_runnable : about1.curStatus? = some .runnable := by decide +kernel
set_option maxRecDepth 65536 in
theorem w_alone : about1.alone = true := by decide +kernel
set_option maxRecDepth 65536 in
theorem w_named : about1.methodNamed? x = some theMethod := by decide +kernel
set_option maxRecDepth 65536 in
theorem w_hears : about1.hears theMethod below0 = true := by decide +kernel
set_option maxRecDepth 65536 in
theorem w_ripe : about1.ripe theMethod args0 below0 = true := by decide +kernel
theorem w_running : about1.status = .running := rfl
set_option maxRecDepth 65536 in
theorem w_room : about1.hasRoom e0.platform room_1 = true :=
  launch0.hasRoom_least _ room_1 (by decide +kernel) (by decide +kernel) (by decide +kernel) (by decide +kernel) (by decide +kernel) (by decide +kernel)
theorem allAtoms_all (ts : List Jvm.Cond) (a : Array Jvm.Value) (st : Jvm.State) : (allAtoms ts).before a st = ts.all (fun c => c.before a st) := by
  induction ts with
  | nil => rfl
  | cons c t ih =>
    show (Jvm.Cond.and c (allAtoms t)).before a st = _
    rw [Jvm.Cond.before_and, ih, List.all_cons]
def words1 : List Jvm.Cond := Jvm.Cond.code x code maxLocals ret :: tables_1
/-- a 'code' word, met by the world's own term for the bytes: nothing is compared byte by byte -/
theorem code_word {y : MethodName} {bytes : ByteArray} {mx : Nat} {rt : Option FieldType} {a : Array Value} {s : State} {m : MethodId} {meth : Method} {c : Code} (h1 : s.methodNamed? y = some m) (h2 : s.vm.method? m = some meth) (h3 : meth.code = some c) (h4 : c.code = bytes)
    (h5 : (c.maxLocals == mx && c.exceptionTable.isEmpty && decide (c.maxStack ≤ mostOperands) && decide (meth.sig.returnType = rt) && !meth.locks && decide (parseMethodDescriptor y.desc = some meth.sig)) = true) : (Jvm.Cond.code y bytes mx rt).before a s = true := by
  simp only [Bool.and_eq_true, beq_iff_eq, Bool.not_eq_true', decide_eq_true_eq] at h5
  obtain ⟨⟨⟨⟨⟨g1, g2⟩, g3⟩, g4⟩, g5⟩, g6⟩ := h5
  simp [Cond.before, Cond.holds, Cond.value, h1, h2, h3, h4, g1, g2, g3, g4, g5, g6]
def isCode : Jvm.Cond → Bool
  | .code _ _ _ _ => true
  | _ => false
theorem all_split {L : List Jvm.Cond} {P : Jvm.Cond → Bool} (h1 : L.all (fun c => isCode c || P c) = true) (h2 : ∀ c ∈ L.filter isCode, P c = true) : L.all P = true := by
  refine List.all_eq_true.mpr fun c hc => ?_
  have h := List.all_eq_true.mp h1 c hc
  rcases Bool.eq_false_or_eq_true (isCode c) with hi | hi
  · exact h2 c (List.mem_filter.mpr ⟨hc, hi⟩)
  · simpa [hi] using h
set_option maxRecDepth 65536 in
theorem w_c0 : (Jvm.Cond.code x code maxLocals ret).before args0 about1 = true := code_word (m := ⟨1, 1⟩) (meth := k1m1) (c := k1c1) (by decide +kernel) rfl rfl rfl (by decide +kernel)
set_option maxRecDepth 65536 in
theorem w_c1 : (Jvm.Cond.code ({ cls := "com/example/nanjing/nanjing/plan/MinCut", name := "<init>", desc := "()V" } : Jvm.MethodName) prog_49_method_1_code (1 : Nat) (Option.none : Option Jvm.ClassFile.FieldType)).before args0 about1 = true := code_word (m := ⟨2, 0⟩) (meth := k2m0) (c := k2c0) (by decide +kernel) rfl rfl rfl (by decide +kernel)
set_option maxRecDepth 65536 in
theorem w_c2 : (Jvm.Cond.code ({ cls := "java/lang/Object", name := "<init>", desc := "()V" } : Jvm.MethodName) object_method_1_code (1 : Nat) (Option.none : Option Jvm.ClassFile.FieldType)).before args0 about1 = true := code_word (m := ⟨0, 0⟩) (meth := k0m0) (c := k0c0) (by decide +kernel) rfl rfl rfl (by decide +kernel)
set_option maxRecDepth 65536 in
theorem w_c3 : (Jvm.Cond.code ({ cls := "com/example/nanjing/nanjing/plan/MinCut", name := "node", desc := "(J)I" } : Jvm.MethodName) prog_49_method_2_code (4 : Nat) (Option.some Jvm.ClassFile.FieldType.int)).before args0 about1 = true := code_word (m := ⟨2, 1⟩) (meth := k2m1) (c := k2c1) (by decide +kernel) rfl rfl rfl (by decide +kernel)
set_option maxRecDepth 65536 in
theorem w_c4 : (Jvm.Cond.code ({ cls := "com/example/nanjing/nanjing/plan/MinCut", name := "edge", desc := "(IIJ)V" } : Jvm.MethodName) prog_49_method_6_code (5 : Nat) (Option.none : Option Jvm.ClassFile.FieldType)).before args0 about1 = true := code_word (m := ⟨2, 5⟩) (meth := k2m5) (c := k2c5) (by decide +kernel) rfl rfl rfl (by decide +kernel)
set_option maxRecDepth 65536 in
theorem w_c5 : (Jvm.Cond.code ({ cls := "com/example/nanjing/nanjing/plan/MinCut", name := "add", desc := "(IIJ)V" } : Jvm.MethodName) prog_49_method_7_code (5 : Nat) (Option.none : Option Jvm.ClassFile.FieldType)).before args0 about1 = true := code_word (m := ⟨2, 6⟩) (meth := k2m6) (c := k2c6) (by decide +kernel) rfl rfl rfl (by decide +kernel)
set_option maxRecDepth 65536 in
theorem w_c6 : (Jvm.Cond.code ({ cls := "com/example/nanjing/nanjing/plan/MinCut", name := "arc", desc := "(II)V" } : Jvm.MethodName) prog_49_method_3_code (3 : Nat) (Option.none : Option Jvm.ClassFile.FieldType)).before args0 about1 = true := code_word (m := ⟨2, 2⟩) (meth := k2m2) (c := k2c2) (by decide +kernel) rfl rfl rfl (by decide +kernel)
set_option maxRecDepth 65536 in
theorem w_c7 : (Jvm.Cond.code ({ cls := "com/example/nanjing/nanjing/plan/MinCut", name := "cut", desc := "(IIJ)J" } : Jvm.MethodName) prog_49_method_4_code (15 : Nat) (Option.some Jvm.ClassFile.FieldType.long)).before args0 about1 = true := code_word (m := ⟨2, 3⟩) (meth := k2m3) (c := k2c3) (by decide +kernel) rfl rfl rfl (by decide +kernel)
set_option maxRecDepth 65536 in
theorem w_c8 : (Jvm.Cond.code ({ cls := "java/util/Arrays", name := "fill", desc := "([II)V" } : Jvm.MethodName) jdk_65_method_103_code (4 : Nat) (Option.none : Option Jvm.ClassFile.FieldType)).before args0 about1 = true := code_word (m := ⟨3, 1⟩) (meth := k3m1) (c := k3c1) (by decide +kernel) rfl rfl rfl (by decide +kernel)
set_option maxRecDepth 65536 in
theorem w_c9 : (Jvm.Cond.code ({ cls := "java/lang/Math", name := "min", desc := "(JJ)J" } : Jvm.MethodName) jdk_29_method_70_code (4 : Nat) (Option.some Jvm.ClassFile.FieldType.long)).before args0 about1 = true := code_word (m := ⟨4, 1⟩) (meth := k4m1) (c := k4c1) (by decide +kernel) rfl rfl rfl (by decide +kernel)
set_option maxRecDepth 65536 in
theorem w_c10 : (Jvm.Cond.code ({ cls := "com/example/nanjing/nanjing/plan/MinCut", name := "inCut", desc := "(I)Z" } : Jvm.MethodName) prog_49_method_5_code (2 : Nat) (Option.some Jvm.ClassFile.FieldType.boolean)).before args0 about1 = true := code_word (m := ⟨2, 4⟩) (meth := k2m4) (c := k2c4) (by decide +kernel) rfl rfl rfl (by decide +kernel)
def codes1 : List Jvm.Cond := [Jvm.Cond.code x code maxLocals ret, Jvm.Cond.code ({ cls := "com/example/nanjing/nanjing/plan/MinCut", name := "<init>", desc := "()V" } : Jvm.MethodName) prog_49_method_1_code (1 : Nat) (Option.none : Option Jvm.ClassFile.FieldType), Jvm.Cond.code ({ cls := "java/lang/Object", name := "<init>", desc := "()V" } : Jvm.MethodName) object_method_1_code (1 : Nat) (Option.none : Option Jvm.ClassFile.FieldType), Jvm.Cond.code ({ cls := "com/example/nanjing/nanjing/plan/MinCut", name := "node", desc := "(J)I" } : Jvm.MethodName) prog_49_method_2_code (4 : Nat) (Option.some Jvm.ClassFile.FieldType.int), Jvm.Cond.code ({ cls := "com/example/nanjing/nanjing/plan/MinCut", name := "edge", desc := "(IIJ)V" } : Jvm.MethodName) prog_49_method_6_code (5 : Nat) (Option.none : Option Jvm.ClassFile.FieldType), Jvm.Cond.code ({ cls := "com/example/nanjing/nanjing/plan/MinCut", name := "add", desc := "(IIJ)V" } : Jvm.MethodName) prog_49_method_7_code (5 : Nat) (Option.none : Option Jvm.ClassFile.FieldType), Jvm.Cond.code ({ cls := "com/example/nanjing/nanjing/plan/MinCut", name := "arc", desc := "(II)V" } : Jvm.MethodName) prog_49_method_3_code (3 : Nat) (Option.none : Option Jvm.ClassFile.FieldType), Jvm.Cond.code ({ cls := "com/example/nanjing/nanjing/plan/MinCut", name := "cut", desc := "(IIJ)J" } : Jvm.MethodName) prog_49_method_4_code (15 : Nat) (Option.some Jvm.ClassFile.FieldType.long), Jvm.Cond.code ({ cls := "java/util/Arrays", name := "fill", desc := "([II)V" } : Jvm.MethodName) jdk_65_method_103_code (4 : Nat) (Option.none : Option Jvm.ClassFile.FieldType), Jvm.Cond.code ({ cls := "java/lang/Math", name := "min", desc := "(JJ)J" } : Jvm.MethodName) jdk_29_method_70_code (4 : Nat) (Option.some Jvm.ClassFile.FieldType.long), Jvm.Cond.code ({ cls := "com/example/nanjing/nanjing/plan/MinCut", name := "inCut", desc := "(I)Z" } : Jvm.MethodName) prog_49_method_5_code (2 : Nat) (Option.some Jvm.ClassFile.FieldType.boolean)]
set_option maxRecDepth 65536 in
theorem codes_eq : words1.filter isCode = codes1 := rfl
theorem w_codes : ∀ c ∈ words1.filter isCode, c.before args0 about1 = true := by
  rw [codes_eq]
  intro c hc
  simp only [codes1, List.mem_cons, List.not_mem_nil, or_false] at hc
  rcases hc with rfl | rfl | rfl | rfl | rfl | rfl | rfl | rfl | rfl | rfl | rfl
  · exact w_c0
  · exact w_c1
  · exact w_c2
  · exact w_c3
  · exact w_c4
  · exact w_c5
  · exact w_c6
  · exact w_c7
  · exact w_c8
  · exact w_c9
  · exact w_c10
set_option maxRecDepth 65536 in
theorem w_t1 : (words1.take 24).all (fun c => isCode c || c.before args0 about1) = true := by decide +kernel
set_option maxRecDepth 65536 in
theorem w_t2 : ((words1.drop 24).take 24).all (fun c => isCode c || c.before args0 about1) = true := by decide +kernel
set_option maxRecDepth 65536 in
theorem w_t3 : ((words1.drop 24).drop 24).all (fun c => isCode c || c.before args0 about1) = true := by decide +kernel
theorem w_tables : (allAtoms (Jvm.Cond.code x code maxLocals ret :: tables_1)).before args0 about1 = true := by
  rw [allAtoms_all]
  show words1.all (fun c => c.before args0 about1) = true
  refine all_split ?_ w_codes
  rw [← List.take_append_drop 24 words1, List.all_append, w_t1, ← List.take_append_drop 24 (words1.drop 24), List.all_append, w_t2, w_t3]
  rfl
set_option maxRecDepth 65536 in
theorem w_case : (Jvm.Cond.and given_1 narrow_1).before args0 about1 = true := by decide +kernel
theorem w_applies : (headSpec (Jvm.Cond.code x code maxLocals ret :: tables_1) room_1).applies x e0.platform about1 = true :=
  (Spec.applies_iff w_frames).mpr ⟨w_running, w_runnable, w_alone, w_named, w_hears, w_ripe, w_room, w_tables⟩
theorem atStart : AtStart classFile x code maxLocals ret World_1 tables_1 room_1 Calls_1 rest_1 Pre_1 launch0 p0 e0 about1 theMethod args0 below0 :=
  ⟨lists_1, trivial, launch0.admits_env _ _ _, launch0.least_env, fairChoices_fair.cas, fairChoices_fair.clock, w_frames, w_args, w_heap, w_applies, trivial, trivial, w_case⟩
end start1
theorem witness_1 : WitnessClaimed_1 := ⟨start1.p0, start1.e0, start1.about1, start1.theMethod, start1.args0, start1.below0, start1.atStart⟩
end Jvm.Pilot.@@N@@
