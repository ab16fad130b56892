import JvmDerived
import JvmDerived.Pilot.@@N@@Statement
import JvmDerived.Pilot.@@N@@Code
set_option linter.unusedVariables false
set_option linter.unusedSimpArgs false
namespace Jvm.Pilot.@@N@@
open Jvm Jvm.ClassFile Sem Op Lib Jvm.Free Jvm.Stand Jvm.LawKit Jvm.RoadKit Bundle Jvm.Pilot.@@N@@.Jvm.D
section OwnKit
variable {p : Program} {l : Launch} {e : Env} {R : Room} {s : State} {m : MethodId} {args : Array Value} {below : List Frame} {meth : Method} {c : Code} {T : State} {locs : List Loc} {cells slots : Nat} {Z : State} {h : Heap} {a : Addr} {k : ClassId} {z : Int32} {vs : List Value} {dv : Value}
theorem oLen (X : Stand p l e R s m args below meth c T locs cells slots) (hx : p.tables.exec = Jvm.exec) (hZ : Z.Warmed39 s.vm) (eT : T.heap = h) {ty : FieldType} (F : Arv Z h a k ty z vs dv) {g : JFrame} (hg : g.method = m) {rest : List Value} (hs : g.stack = .ref a :: rest) (hd : decode c.code g.pc = .ok (.arraylength, 1)) (target : State)
    (hr : Steps p.tables e below (T.setTop { g with pc := g.pc + 1, stack := .int z :: rest }) target) : Steps p.tables e below (T.setTop g) target := by
  obtain ⟨cl, A, -, S, M, -, -⟩ := F
  refine X.arraylength hx (by rw [eT]; exact A.1) (State.isArrayOf_alike hZ.alike A.2.1) hg hs hd target ?_
  rw [len_of S M]
  exact hr
theorem oLdI (X : Stand p l e R s m args below meth c T locs cells slots) (hx : p.tables.exec = Jvm.exec) (hZ : Z.Warmed39 s.vm) (eT : T.heap = h) (F : Arv Z h a k .int z vs dv) {j : Int32} {v : Value} (hj : ¬ j < 0 ∧ j < z) (hv : vs.getD j.toNatClampNeg dv = v) {g : JFrame} (hg : g.method = m) {rest : List Value} (hs : g.stack = .int j :: .ref a :: rest) (hd : decode c.code g.pc = .ok (.iaload, 1)) (target : State)
    (hr : Steps p.tables e below (T.setTop { g with pc := g.pc + 1, stack := v :: rest }) target) : Steps p.tables e below (T.setTop g) target := by
  obtain ⟨cl, A, -, S, -, H, -⟩ := F
  have hin := inb_of S hj
  exact X.iaload hx (by rw [eT]; exact A.1) (State.isArrayOf_alike hZ.alike A.2.1) A.2.2 hin (Has.at H hin hv) hg hs hd target hr
theorem oLdB (X : Stand p l e R s m args below meth c T locs cells slots) (hx : p.tables.exec = Jvm.exec) (hZ : Z.Warmed39 s.vm) (eT : T.heap = h) (F : Arv Z h a k .byte z vs dv) {j : Int32} {v : Value} (hj : ¬ j < 0 ∧ j < z) (hv : vs.getD j.toNatClampNeg dv = v) {g : JFrame} (hg : g.method = m) {rest : List Value} (hs : g.stack = .int j :: .ref a :: rest) (hd : decode c.code g.pc = .ok (.baload, 1)) (target : State)
    (hr : Steps p.tables e below (T.setTop { g with pc := g.pc + 1, stack := v :: rest }) target) : Steps p.tables e below (T.setTop g) target := by
  obtain ⟨cl, A, -, S, -, H, -⟩ := F
  have hin := inb_of S hj
  exact X.baloadBytes hx (by rw [eT]; exact A.1) (State.isArrayOf_alike hZ.alike A.2.1) A.2.2 hin (Has.at H hin hv) hg hs hd target hr
theorem oLdJ (X : Stand p l e R s m args below meth c T locs cells slots) (hx : p.tables.exec = Jvm.exec) (hZ : Z.Warmed39 s.vm) (eT : T.heap = h) (F : Arv Z h a k .long z vs dv) {j : Int32} {v : Value} (hj : ¬ j < 0 ∧ j < z) (hv : vs.getD j.toNatClampNeg dv = v) {g : JFrame} (hg : g.method = m) {rest : List Value} (hs : g.stack = .int j :: .ref a :: rest) (hd : decode c.code g.pc = .ok (.laload, 1)) (target : State)
    (hr : Steps p.tables e below (T.setTop { g with pc := g.pc + 1, stack := v :: rest }) target) : Steps p.tables e below (T.setTop g) target := by
  obtain ⟨cl, A, -, S, -, H, -⟩ := F
  have hin := inb_of S hj
  exact X.laload hx (by rw [eT]; exact A.1) (State.isArrayOf_alike hZ.alike A.2.1) A.2.2 hin (Has.at H hin hv) hg hs hd target hr
theorem oLdD (X : Stand p l e R s m args below meth c T locs cells slots) (hx : p.tables.exec = Jvm.exec) (hZ : Z.Warmed39 s.vm) (eT : T.heap = h) (F : Arv Z h a k .double z vs dv) {j : Int32} {v : Value} (hj : ¬ j < 0 ∧ j < z) (hv : vs.getD j.toNatClampNeg dv = v) {g : JFrame} (hg : g.method = m) {rest : List Value} (hs : g.stack = .int j :: .ref a :: rest) (hd : decode c.code g.pc = .ok (.daload, 1)) (target : State)
    (hr : Steps p.tables e below (T.setTop { g with pc := g.pc + 1, stack := v :: rest }) target) : Steps p.tables e below (T.setTop g) target := by
  obtain ⟨cl, A, -, S, -, H, -⟩ := F
  have hin := inb_of S hj
  exact X.daload hx (by rw [eT]; exact A.1) (State.isArrayOf_alike hZ.alike A.2.1) A.2.2 hin (Has.at H hin hv) hg hs hd target hr
theorem oStI (X : Stand p l e R s m args below meth c T locs cells slots) (hx : p.tables.exec = Jvm.exec) (hZ : Z.Warmed39 s.vm) (eT : T.heap = h) (F : Arv Z h a k .int z vs dv) {j : Int32} {x : Int32} (hj : ¬ j < 0 ∧ j < z) (i : Nat) (hi : j.toNatClampNeg = i) (hl : i < vs.length) {g : JFrame} (hg : g.method = m) {rest : List Value} (hs : g.stack = .int x :: .int j :: .ref a :: rest) (hd : decode c.code g.pc = .ok (.iastore, 1)) :
    ∃ T' h', Stand p l e R s m args below meth c T' (locs ++ [⟨a, j.toNatClampNeg⟩]) cells slots ∧ T'.heap = h' ∧ Wr h h' a j.toNatClampNeg (.int x) ∧ Arv Z h' a k .int z (vs.set i (.int x)) dv ∧ ∀ target, Steps p.tables e below (T'.setTop { g with pc := g.pc + 1, stack := rest }) target → Steps p.tables e below (T.setTop g) target := by
  obtain ⟨cl, A, q1, S, M, H, G⟩ := F
  obtain ⟨T', h', X', e', W, st⟩ := stI X hx hZ eT A (j := j) (inb_of S hj) hg hs hd
  exact ⟨T', h', X', e', W, Arv.set A q1 S M H G rfl W i hi hl, st⟩
theorem oStB (X : Stand p l e R s m args below meth c T locs cells slots) (hx : p.tables.exec = Jvm.exec) (hZ : Z.Warmed39 s.vm) (eT : T.heap = h) (F : Arv Z h a k .byte z vs dv) {j : Int32} {x : Int32} (hj : ¬ j < 0 ∧ j < z) (i : Nat) (hi : j.toNatClampNeg = i) (hl : i < vs.length) {g : JFrame} (hg : g.method = m) {rest : List Value} (hs : g.stack = .int x :: .int j :: .ref a :: rest) (hd : decode c.code g.pc = .ok (.bastore, 1)) :
    ∃ T' h', Stand p l e R s m args below meth c T' (locs ++ [⟨a, j.toNatClampNeg⟩]) cells slots ∧ T'.heap = h' ∧ Wr h h' a j.toNatClampNeg (.int (nar .byte x)) ∧ Arv Z h' a k .byte z (vs.set i (.int (nar .byte x))) dv ∧ ∀ target, Steps p.tables e below (T'.setTop { g with pc := g.pc + 1, stack := rest }) target → Steps p.tables e below (T.setTop g) target := by
  obtain ⟨cl, A, q1, S, M, H, G⟩ := F
  obtain ⟨T', h', X', e', W, st⟩ := stB X hx hZ eT A (j := j) (inb_of S hj) hg hs hd
  exact ⟨T', h', X', e', W, Arv.set A q1 S M H G (fits_nar_byte x) W i hi hl, st⟩
theorem oStJ (X : Stand p l e R s m args below meth c T locs cells slots) (hx : p.tables.exec = Jvm.exec) (hZ : Z.Warmed39 s.vm) (eT : T.heap = h) (F : Arv Z h a k .long z vs dv) {j : Int32} {x : Int64} (hj : ¬ j < 0 ∧ j < z) (i : Nat) (hi : j.toNatClampNeg = i) (hl : i < vs.length) {g : JFrame} (hg : g.method = m) {rest : List Value} (hs : g.stack = .long x :: .int j :: .ref a :: rest) (hd : decode c.code g.pc = .ok (.lastore, 1)) :
    ∃ T' h', Stand p l e R s m args below meth c T' (locs ++ [⟨a, j.toNatClampNeg⟩]) cells slots ∧ T'.heap = h' ∧ Wr h h' a j.toNatClampNeg (.long x) ∧ Arv Z h' a k .long z (vs.set i (.long x)) dv ∧ ∀ target, Steps p.tables e below (T'.setTop { g with pc := g.pc + 1, stack := rest }) target → Steps p.tables e below (T.setTop g) target := by
  obtain ⟨cl, A, q1, S, M, H, G⟩ := F
  obtain ⟨T', h', X', e', W, st⟩ := stJ X hx hZ eT A (j := j) (inb_of S hj) hg hs hd
  exact ⟨T', h', X', e', W, Arv.set A q1 S M H G rfl W i hi hl, st⟩
theorem oStD (X : Stand p l e R s m args below meth c T locs cells slots) (hx : p.tables.exec = Jvm.exec) (hZ : Z.Warmed39 s.vm) (eT : T.heap = h) (F : Arv Z h a k .double z vs dv) {j : Int32} {x : UInt64} (hj : ¬ j < 0 ∧ j < z) (i : Nat) (hi : j.toNatClampNeg = i) (hl : i < vs.length) {g : JFrame} (hg : g.method = m) {rest : List Value} (hs : g.stack = .double x :: .int j :: .ref a :: rest) (hd : decode c.code g.pc = .ok (.dastore, 1)) :
    ∃ T' h', Stand p l e R s m args below meth c T' (locs ++ [⟨a, j.toNatClampNeg⟩]) cells slots ∧ T'.heap = h' ∧ Wr h h' a j.toNatClampNeg (.double x) ∧ Arv Z h' a k .double z (vs.set i (.double x)) dv ∧ ∀ target, Steps p.tables e below (T'.setTop { g with pc := g.pc + 1, stack := rest }) target → Steps p.tables e below (T.setTop g) target := by
  obtain ⟨cl, A, q1, S, M, H, G⟩ := F
  obtain ⟨T', h', X', e', W, st⟩ := stD X hx hZ eT A (j := j) (inb_of S hj) hg hs hd
  exact ⟨T', h', X', e', W, Arv.set A q1 S M H G rfl W i hi hl, st⟩
end OwnKit
abbrev oi (x : Int32) : Slot := .val (.int x)
abbrev oj (x : Int64) : Slot := .val (.long x)
abbrev oa (x : Addr) : Slot := .val (.ref x)
abbrev od (x : UInt64) : Slot := .val (.double x)
abbrev oS (p : Program) (e : Env) (below : List Frame) (T : State) (m : MethodId) (pc : Nat) (L : Array Slot) (S : List Value) (t : State) : Prop := Steps p.tables e below (T.setTop (mkF m pc L S)) t
theorem own_ltp (x k : Int32) : (x < k) = (x.toInt < k.toInt) := propext Int32.lt_iff_toInt_lt
theorem own_eqp (x k : Int32) : (x = k) = (x.toInt = k.toInt) := propext Int32.toInt_inj.symm
theorem own_ltpL (x k : Int64) : (x < k) = (x.toInt < k.toInt) := propext Int64.lt_iff_toInt_lt
theorem own_eqpL (x k : Int64) : (x = k) = (x.toInt = k.toInt) := propext Int64.toInt_inj.symm
theorem own_of_range {P : Int32 → Prop} (n : Nat) (h : ∀ i : Fin n, P (Int32.ofNat i.1)) (x : Int32) (h0 : 0 ≤ x.toInt) (h1 : x.toInt < (n : Int)) : P x := by
  have e : Int32.ofNat x.toInt.toNat = x := by
    rw [← Int32.ofInt_eq_ofNat, Int.toNat_of_nonneg h0, Int32.ofInt_toInt]
  have q := h ⟨x.toInt.toNat, by omega⟩
  rwa [e] at q
theorem own_getD (ws : List Int32) (n : Nat) : (ws.map Value.int).getD n (.int (0 : Int32)) = .int (ws.getD n 0) := by
  simp only [List.getD_eq_getElem?_getD, List.getElem?_map]
  cases ws[n]? <;> rfl

theorem own_pn0 : plainName "java/lang/Record" = true := by first | (simp [plainName, overriddenIn]; done) | decide +kernel
theorem own_d2_0 : decode jdk_30_method_1_code 0 = .ok (.aload_n 0, 1) := by decide +kernel
theorem own_d2_1 : decode jdk_30_method_1_code 1 = .ok (.invokespecial 1, 3) := by decide +kernel
theorem own_d2_4 : decode jdk_30_method_1_code 4 = .ok (.return_, 1) := by decide +kernel
theorem own_ef2 (m : MethodId) (a0 : Addr) : entryFrame m #[(.ref a0)] 1 = mkF m 0 #[oa a0] [] := by first | (simp [entryFrame, mkF, argsToLocals, Value.category]; done) | rfl
def own_Q2 (Z : State) (a0 : Addr) (h0 : Heap) (n0 : Nat) (v : Option Value) (h : Heap) (L : List Loc) : Prop := v = none ∧ Fr n0 L ∧ h = h0
set_option maxRecDepth 65536 in
set_option maxHeartbeats 40000000 in
theorem own_rm2 (l : Launch) (Z : State) (av : Array Value) (hw : ∀ d ∈ tables_1, d.before av Z = true) (ws : List Jvm.Cond) (a0 : Addr) (h0 : Heap) (n0 : Nat) (Z0 : n0 ≤ h0.size) :
    MetFree l (⟨"java/lang/Record", "<init>", "()V"⟩ : MethodName) (head1 (Jvm.Cond.code (⟨"java/lang/Record", "<init>", "()V"⟩ : MethodName) jdk_30_method_1_code 1 none :: ws) ({ frames := 1, cells := 0, slots := 0, locals := 12 } : Room)) (fun a U => a = #[(.ref a0)] ∧ Z.Warmed39 U.vm ∧ U.heap = h0) (fun _ _ _ _ _ => True) (fun _ U o U' => ∃ v L, o = .returned v ∧ own_Q2 Z a0 h0 n0 v U'.heap L ∧ FrameEnd U o U' L ({ frames := 1, cells := 0, slots := 0, locals := 12 } : Room).cells ({ frames := 1, cells := 0, slots := 0, locals := 12 } : Room).slots) := by
  refine MetFree.of_bodySF (plainFor_of_name own_pn0) hisR ?_
  intro p e s m args below meth c s₁ Bd hml0 hP hK
  obtain ⟨rfl, hZ, hh⟩ := hP
  have hx := Bd.exec
  have hby := Bd.bytes
  have hml : c.maxLocals = 1 := hml0
  have hown : s.vm.findClass "java/lang/Record" = some m.cls := findClass_of_methodNamed Bd.named
  have hnm := (name_of_methodNamed Bd.named Bd.method).1
  have X0 : Stand p l e ({ frames := 1, cells := 0, slots := 0, locals := 12 } : Room) s m #[(.ref a0)] below meth c s₁ [] 0 0 := Stand.of_body Bd
  have e0 : s₁.heap = h0 := by rw [← hh, Bd.state]; rfl
  have N0 := Fr.nil n0
  have pre0 : ∀ t, Steps p.tables e below (s₁.setTop (mkF m 0 #[oa a0] [])) t → Steps p.tables e below (s₁.setTop (entryFrame m #[(.ref a0)] 1)) t := fun t k => castTop (own_ef2 m a0) k
  obtain ⟨T1, X1, e1, st1⟩ := initO X0 hx hZ hown (hw _ (List.mem_of_getElem? (i := 12) rfl)) (hw _ (List.mem_of_getElem? (i := 13) rfl)) (hw _ (List.mem_of_getElem? (i := 14) rfl)) e0 (g := (mkF m 1 #[oa a0] [(.ref a0)])) rfl (by rw [hml]; rfl) rfl (hb hby own_d2_1) (by decide) (W := 0) (by show 2 * 0 + _ ≤ _; exact Nat.le_of_eq rfl) (by decide)
  obtain ⟨fs, hr, hrun, hended, hW, hsame⟩ := X1.leave (v := none) (fun _ => rfl)
  refine ⟨_, _, pre0 _ ?_, hrun, hended, _, _, rfl, ?_, ⟨_, rfl⟩, hW, hsame.mono (by decide) (by decide)⟩
  · show oS p e below s₁ m 0 #[oa a0] [] _
    refine XS.aloadN X0.here hx rfl (hb hby own_d2_0) rfl rfl ?_
    show oS p e below s₁ m 1 #[oa a0] [(.ref a0)] _
    refine st1 _ ?_
    show oS p e below T1 m 4 #[oa a0] [] _
    exact X1.returnOut hx Bd.returns (hb hby own_d2_4) hr
  · show own_Q2 Z a0 h0 n0 _ T1.heap _
    rw [e1]
    exact ⟨rfl, N0, rfl⟩
theorem own_pd0 : parseMethodDescriptor "()V" = some ⟨[], none⟩ := by decide +kernel
theorem own_pn1 : plainName "com/example/casement/casement/compositor/Color" = true := by first | (simp [plainName, overriddenIn]; done) | decide +kernel
theorem own_d1_0 : decode prog_7_method_1_code 0 = .ok (.aload_n 0, 1) := by decide +kernel
theorem own_d1_1 : decode prog_7_method_1_code 1 = .ok (.invokespecial 1, 3) := by decide +kernel
theorem own_d1_4 : decode prog_7_method_1_code 4 = .ok (.iload_n 1, 1) := by decide +kernel
theorem own_d1_5 : decode prog_7_method_1_code 5 = .ok (.ldc 7, 2) := by decide +kernel
theorem own_d1_7 : decode prog_7_method_1_code 7 = .ok (.iand, 1) := by decide +kernel
theorem own_d1_8 : decode prog_7_method_1_code 8 = .ok (.ifCond .eq 20, 3) := by decide +kernel
theorem own_d1_28 : decode prog_7_method_1_code 28 = .ok (.aload_n 0, 1) := by decide +kernel
theorem own_d1_29 : decode prog_7_method_1_code 29 = .ok (.iload_n 1, 1) := by decide +kernel
theorem own_d1_30 : decode prog_7_method_1_code 30 = .ok (.putfield 23, 3) := by decide +kernel
theorem own_d1_33 : decode prog_7_method_1_code 33 = .ok (.return_, 1) := by decide +kernel
theorem own_ef1 (m : MethodId) (a0 : Addr) (p1 : Int32) : entryFrame m #[(.ref a0), (.int p1)] 2 = mkF m 0 #[oa a0, oi p1] [] := by first | (simp [entryFrame, mkF, argsToLocals, Value.category]; done) | rfl
def own_Q1 (Z : State) (a0 : Addr) (p1 : Int32) (h0 : Heap) (n0 : Nat) (v : Option Value) (h : Heap) (L : List Loc) : Prop := v = none ∧ Fr n0 L ∧ Keep h0 h [a0] ∧ Exa Z h a0 "com/example/casement/casement/compositor/Color" ∧ Fld Z h a0 "com/example/casement/casement/compositor/Color" "rgb" "I" (.int p1)
set_option maxRecDepth 65536 in
set_option maxHeartbeats 40000000 in
theorem own_rm1 (l : Launch) (Z : State) (av : Array Value) (hw : ∀ d ∈ tables_1, d.before av Z = true) (ws : List Jvm.Cond) (a0 : Addr) (p1 : Int32) (h0 : Heap) (n0 : Nat) (Z0 : n0 ≤ h0.size) (E_a0 : Exa Z h0 a0 "com/example/casement/casement/compositor/Color") (F_rgb_a0 : Fld Z h0 a0 "com/example/casement/casement/compositor/Color" "rgb" "I" (.int (0 : Int32))) (g_a0 : n0 ≤ a0) (hz : (p1 &&& (-16777216 : Int32)) = (0 : Int32)) :
    MetFree l (⟨"com/example/casement/casement/compositor/Color", "<init>", "(I)V"⟩ : MethodName) (head1 (Jvm.Cond.code (⟨"com/example/casement/casement/compositor/Color", "<init>", "(I)V"⟩ : MethodName) prog_7_method_1_code 2 none :: ws) ({ frames := 2, cells := 0, slots := 0, locals := 24 } : Room)) (fun a U => a = #[(.ref a0), (.int p1)] ∧ Z.Warmed39 U.vm ∧ U.heap = h0) (fun _ _ _ _ _ => True) (fun _ U o U' => ∃ v L, o = .returned v ∧ own_Q1 Z a0 p1 h0 n0 v U'.heap L ∧ FrameEnd U o U' L ({ frames := 2, cells := 0, slots := 0, locals := 24 } : Room).cells ({ frames := 2, cells := 0, slots := 0, locals := 24 } : Room).slots) := by
  refine MetFree.of_bodySF (plainFor_of_name own_pn1) hisR ?_
  intro p e s m args below meth c s₁ Bd hml0 hP hK
  obtain ⟨rfl, hZ, hh⟩ := hP
  have hx := Bd.exec
  have hby := Bd.bytes
  have hml : c.maxLocals = 2 := hml0
  have hown : s.vm.findClass "com/example/casement/casement/compositor/Color" = some m.cls := findClass_of_methodNamed Bd.named
  have hnm := (name_of_methodNamed Bd.named Bd.method).1
  have X0 : Stand p l e ({ frames := 2, cells := 0, slots := 0, locals := 24 } : Room) s m #[(.ref a0), (.int p1)] below meth c s₁ [] 0 0 := Stand.of_body Bd
  have e0 : s₁.heap = h0 := by rw [← hh, Bd.state]; rfl
  have N0 := Fr.nil n0
  have pre0 : ∀ t, Steps p.tables e below (s₁.setTop (mkF m 0 #[oa a0, oi p1] [])) t → Steps p.tables e below (s₁.setTop (entryFrame m #[(.ref a0), (.int p1)] 2)) t := fun t k => castTop (own_ef1 m a0 p1) k
  obtain ⟨_, _, ⟨T1, L1, k1, n1⟩, -, X1, ⟨Lc1, hQ1, l1, y1, z1⟩, st1⟩ := X0.specialBack hx (y := (⟨"java/lang/Record", "<init>", "()V"⟩ : MethodName)) rfl hown (mvT hZ (hw _ (List.mem_of_getElem? (i := 7) rfl))) (mvT hZ (hw _ (List.mem_of_getElem? (i := 8) rfl))) (mvT hZ (hw _ (List.mem_of_getElem? (i := 11) rfl))) (by decide) (backOf (W := 0) (own_rm2 l Z av hw [] a0 h0 n0 Z0 ) hZ (hw _ (List.mem_of_getElem? (i := 11) rfl)) (hw _ (List.mem_of_getElem? (i := 10) rfl)) (by decide) (by decide)) (g := (mkF m 1 #[oa a0, oi p1] [(.ref a0)])) rfl (by rw [hml]; rfl) (Steps.refl _) (a := a0) (argsL := []) (rest := []) (lenOf own_pd0 rfl) rfl (by show 2 * 0 + _ ≤ _; exact Nat.le_of_eq rfl) (hb hby own_d1_1) (fun _ _ => ⟨rfl, e0, (by decide : 0 + 0 ≤ _), (by decide : 0 + 0 ≤ _)⟩)
  dsimp only [Pt.U, Pt.locs, Pt.cells, Pt.slots] at X1 l1 y1 z1 st1 hQ1
  subst l1 y1 z1
  obtain ⟨rfl, Nq1, eq1⟩ := hQ1
  have N1 := Fr.app N0 Nq1
  have b2 : (p1 &&& (-16777216 : Int32)) = (0 : Int32) := hz
  obtain ⟨T3, h3, X3, e3, W3, st3⟩ := putF X1 hx hZ hown (host := "") (Or.inl (hw _ (List.mem_of_getElem? (i := 16) rfl))) Via.refl eq1 F_rgb_a0 E_a0 (Or.inr ⟨(hw _ (List.mem_of_getElem? (i := 17) rfl)), rfl, hnm⟩) (hw _ (List.mem_of_getElem? (i := 2) rfl)) (ty := .int) (by decide) rfl rfl (g := (mkF m 30 #[oa a0, oi p1] [(.int p1), (.ref a0)])) rfl rfl (hb hby own_d1_30)
  have N3 := Fr.snoc X3 N1 g_a0
  have Z3 : n0 ≤ h3.size := Nat.le_trans Z0 (Keep.of_wr W3).1
  have F4 := E_a0.wr W3
  have F_5 : Fld Z h3 a0 "com/example/casement/casement/compositor/Color" "rgb" "I" (.int p1) := F_rgb_a0.same W3
  have K_6 : Keep h0 h3 [a0] := (Keep.refl h0 [a0]).wr W3 (Or.inl (List.mem_of_getElem? (i := 0) rfl))
  obtain ⟨fs, hr, hrun, hended, hW, hsame⟩ := X3.leave (v := none) (fun _ => rfl)
  refine ⟨_, _, pre0 _ ?_, hrun, hended, _, _, rfl, ?_, ⟨_, rfl⟩, hW, hsame.mono (by decide) (by decide)⟩
  · show oS p e below s₁ m 0 #[oa a0, oi p1] [] _
    refine XS.aloadN X0.here hx rfl (hb hby own_d1_0) rfl rfl ?_
    show oS p e below s₁ m 1 #[oa a0, oi p1] [(.ref a0)] _
    refine st1.trans ?_
    show oS p e below T1 m 4 #[oa a0, oi p1] [] _
    refine XS.iloadN X1.here hx rfl (hb hby own_d1_4) rfl ?_
    show oS p e below T1 m 5 #[oa a0, oi p1] [(.int p1)] _
    refine X1.ldcInt hx hown (mvT hZ (hw _ (List.mem_of_getElem? (i := 15) rfl))) (g := (mkF m 5 #[oa a0, oi p1] [(.int p1)])) rfl (hb hby own_d1_5) _ ?_
    show oS p e below T1 m 7 #[oa a0, oi p1] [(.int (-16777216 : Int32)), (.int p1)] _
    refine XS.iand X1.here hx rfl (hb hby own_d1_7) rfl ?_
    show oS p e below T1 m 8 #[oa a0, oi p1] [(.int (p1 &&& (-16777216 : Int32)))] _
    refine XS.ifYes X1.here hx rfl (pc0 := 8) (pc' := 28) rfl (hb hby own_d1_8) rfl ((if0 _ _).trans (teq b2).1) (by decide) (by decide) ?_
    show oS p e below T1 m 28 #[oa a0, oi p1] [] _
    refine XS.aloadN X1.here hx rfl (hb hby own_d1_28) rfl rfl ?_
    show oS p e below T1 m 29 #[oa a0, oi p1] [(.ref a0)] _
    refine XS.iloadN X1.here hx rfl (hb hby own_d1_29) rfl ?_
    show oS p e below T1 m 30 #[oa a0, oi p1] [(.int p1), (.ref a0)] _
    refine st3 _ ?_
    show oS p e below T3 m 33 #[oa a0, oi p1] [] _
    exact X3.returnOut hx Bd.returns (hb hby own_d1_33) hr
  · show own_Q1 Z a0 p1 h0 n0 _ T3.heap _
    rw [e3]
    exact ⟨rfl, N3, K_6, F4, F_5⟩
theorem own_d4_0 : decode prog_7_method_4_code 0 = .ok (.aload_n 0, 1) := by decide +kernel
theorem own_d4_1 : decode prog_7_method_4_code 1 = .ok (.getfield 23, 3) := by decide +kernel
theorem own_d4_4 : decode prog_7_method_4_code 4 = .ok (.bipush 8, 2) := by decide +kernel
theorem own_d4_6 : decode prog_7_method_4_code 6 = .ok (.iushr, 1) := by decide +kernel
theorem own_d4_7 : decode prog_7_method_4_code 7 = .ok (.sipush 255, 3) := by decide +kernel
theorem own_d4_10 : decode prog_7_method_4_code 10 = .ok (.iand, 1) := by decide +kernel
theorem own_d4_11 : decode prog_7_method_4_code 11 = .ok (.ireturn, 1) := by decide +kernel
theorem own_ef4 (m : MethodId) (a0 : Addr) : entryFrame m #[(.ref a0)] 1 = mkF m 0 #[oa a0] [] := by first | (simp [entryFrame, mkF, argsToLocals, Value.category]; done) | rfl
def own_f4 (w : Int32) : Int32 := (((w.toUInt32 >>> ((8 : Int32) &&& 31).toUInt32).toInt32) &&& (255 : Int32))
def own_Q4 (Z : State) (a0 : Addr) (w : Int32) (h0 : Heap) (n0 : Nat) (v : Option Value) (h : Heap) (L : List Loc) : Prop := v = some (Value.int (own_f4 w)) ∧ Fr n0 L ∧ h = h0
set_option maxRecDepth 65536 in
set_option maxHeartbeats 40000000 in
theorem own_rm4 (l : Launch) (Z : State) (av : Array Value) (hw : ∀ d ∈ tables_1, d.before av Z = true) (ws : List Jvm.Cond) (a0 : Addr) (w : Int32) (h0 : Heap) (n0 : Nat) (Z0 : n0 ≤ h0.size) (F_rgb_a0 : Fld Z h0 a0 "com/example/casement/casement/compositor/Color" "rgb" "I" (.int w)) :
    MetFree l (⟨"com/example/casement/casement/compositor/Color", "green", "()I"⟩ : MethodName) (head1 (Jvm.Cond.code (⟨"com/example/casement/casement/compositor/Color", "green", "()I"⟩ : MethodName) prog_7_method_4_code 1 (some .int) :: ws) ({ frames := 0, cells := 0, slots := 0, locals := 0 } : Room)) (fun a U => a = #[(.ref a0)] ∧ Z.Warmed39 U.vm ∧ U.heap = h0) (fun _ _ _ _ _ => True) (fun _ U o U' => ∃ v L, o = .returned v ∧ own_Q4 Z a0 w h0 n0 v U'.heap L ∧ FrameEnd U o U' L ({ frames := 0, cells := 0, slots := 0, locals := 0 } : Room).cells ({ frames := 0, cells := 0, slots := 0, locals := 0 } : Room).slots) := by
  refine MetFree.of_bodySF (plainFor_of_name own_pn1) hisR ?_
  intro p e s m args below meth c s₁ Bd hml0 hP hK
  obtain ⟨rfl, hZ, hh⟩ := hP
  have hx := Bd.exec
  have hby := Bd.bytes
  have hml : c.maxLocals = 1 := hml0
  have hown : s.vm.findClass "com/example/casement/casement/compositor/Color" = some m.cls := findClass_of_methodNamed Bd.named
  have hnm := (name_of_methodNamed Bd.named Bd.method).1
  have X0 : Stand p l e ({ frames := 0, cells := 0, slots := 0, locals := 0 } : Room) s m #[(.ref a0)] below meth c s₁ [] 0 0 := Stand.of_body Bd
  have e0 : s₁.heap = h0 := by rw [← hh, Bd.state]; rfl
  have N0 := Fr.nil n0
  have pre0 : ∀ t, Steps p.tables e below (s₁.setTop (mkF m 0 #[oa a0] [])) t → Steps p.tables e below (s₁.setTop (entryFrame m #[(.ref a0)] 1)) t := fun t k => castTop (own_ef4 m a0) k
  obtain ⟨T1, X1, e1, st1⟩ := getF X0 hx hZ hown (host := "") (Or.inl (hw _ (List.mem_of_getElem? (i := 16) rfl))) Via.refl e0 F_rgb_a0 (g := (mkF m 1 #[oa a0] [(.ref a0)])) rfl rfl (hb hby own_d4_1)
  obtain ⟨fs, hr, hrun, hended, hW, hsame⟩ := X1.leave (v := (some (.int (((w.toUInt32 >>> ((8 : Int32) &&& 31).toUInt32).toInt32) &&& (255 : Int32))))) (fun h => by rw [Bd.returns] at h; cases h)
  refine ⟨_, _, pre0 _ ?_, hrun, hended, _, _, rfl, ?_, ⟨_, rfl⟩, hW, hsame.mono (by decide) (by decide)⟩
  · show oS p e below s₁ m 0 #[oa a0] [] _
    refine XS.aloadN X0.here hx rfl (hb hby own_d4_0) rfl rfl ?_
    show oS p e below s₁ m 1 #[oa a0] [(.ref a0)] _
    refine st1 _ ?_
    show oS p e below T1 m 4 #[oa a0] [(.int w)] _
    refine XS.bipush X1.here hx rfl (hb hby own_d4_4) ?_
    show oS p e below T1 m 6 #[oa a0] [(.int (8 : Int32)), (.int w)] _
    refine XS.iushr X1.here hx rfl (hb hby own_d4_6) rfl ?_
    show oS p e below T1 m 7 #[oa a0] [(.int ((w.toUInt32 >>> ((8 : Int32) &&& 31).toUInt32).toInt32))] _
    refine XS.sipush X1.here hx rfl (hb hby own_d4_7) ?_
    show oS p e below T1 m 10 #[oa a0] [(.int (255 : Int32)), (.int ((w.toUInt32 >>> ((8 : Int32) &&& 31).toUInt32).toInt32))] _
    refine XS.iand X1.here hx rfl (hb hby own_d4_10) rfl ?_
    show oS p e below T1 m 11 #[oa a0] [(.int (((w.toUInt32 >>> ((8 : Int32) &&& 31).toUInt32).toInt32) &&& (255 : Int32)))] _
    exact retOut X1 hx Bd.returns rfl (Or.inl ⟨rfl, Or.inl rfl, _, rfl⟩) (hb hby own_d4_11) hr
  · show own_Q4 Z a0 w h0 n0 _ T1.heap _
    rw [e1]
    exact ⟨congrArg (fun z => some (Value.int z)) (by rw [own_f4]), N0, rfl⟩
theorem own_rgb (r g b : Int32) : ((((r &&& (255 : Int32)) * (65536 : Int32)) + ((g &&& (255 : Int32)) * (256 : Int32))) + (b &&& (255 : Int32))).toInt = (r.toInt % 256) * 65536 + (g.toInt % 256) * 256 + b.toInt % 256 := by
  have e1 : (r &&& (255 : Int32)).toInt = r.toInt % 256 := c_mask r 255 8 (by decide) (by decide)
  have e2 : (g &&& (255 : Int32)).toInt = g.toInt % 256 := c_mask g 255 8 (by decide) (by decide)
  have e3 : (b &&& (255 : Int32)).toInt = b.toInt % 256 := c_mask b 255 8 (by decide) (by decide)
  have h1 := c_imul (r &&& 255) 65536
  have h2 := c_imul (g &&& 255) 256
  have h3 := c_iadd ((r &&& 255) * 65536) ((g &&& 255) * 256)
  have h4 := c_iadd ((r &&& 255) * 65536 + (g &&& 255) * 256) (b &&& 255)
  have r1 := rng32 ((r &&& 255) * 65536)
  have r2 := rng32 ((g &&& 255) * 256)
  have r3 := rng32 ((r &&& 255) * 65536 + (g &&& 255) * 256)
  have r4 := rng32 ((r &&& 255) * 65536 + (g &&& 255) * 256 + (b &&& 255))
  simp only [Int32.reduceToInt, e1, e2, e3] at h1 h2 h3 h4
  omega
theorem own_hi (r g b : Int32) : (((((r &&& (255 : Int32)) * (65536 : Int32)) + ((g &&& (255 : Int32)) * (256 : Int32))) + (b &&& (255 : Int32))) &&& (-16777216 : Int32)) = (0 : Int32) := by
  have h := own_rgb r g b
  generalize ((((r &&& (255 : Int32)) * (65536 : Int32)) + ((g &&& (255 : Int32)) * (256 : Int32))) + (b &&& (255 : Int32))) = x at h ⊢
  have e1 : (x &&& (16777215 : Int32)).toInt = x.toInt % 16777216 := c_mask x 16777215 24 (by decide) (by decide)
  have e : x &&& (16777215 : Int32) = x := Int32.toInt_inj.mp (by omega)
  rw [← e, Int32.and_assoc, show (16777215 : Int32) &&& (-16777216 : Int32) = 0 by decide, Int32.and_zero]
theorem own_eq (r g b : Int32) : own_f4 ((((r &&& (255 : Int32)) * (65536 : Int32)) + ((g &&& (255 : Int32)) * (256 : Int32))) + (b &&& (255 : Int32))) = (g &&& (255 : Int32)) := by
  have h := own_rgb r g b
  have e2 : (g &&& (255 : Int32)).toInt = g.toInt % 256 := c_mask g 255 8 (by decide) (by decide)
  generalize ((((r &&& (255 : Int32)) * (65536 : Int32)) + ((g &&& (255 : Int32)) * (256 : Int32))) + (b &&& (255 : Int32))) = x at h ⊢
  have h1 : ((x.toUInt32 >>> ((8 : Int32) &&& 31).toUInt32).toInt32).toInt = (x.toInt % 4294967296) / 256 := c_iushr x 8 8 (by decide) (by decide)
  have h2 : (((x.toUInt32 >>> ((8 : Int32) &&& 31).toUInt32).toInt32) &&& (255 : Int32)).toInt = ((x.toUInt32 >>> ((8 : Int32) &&& 31).toUInt32).toInt32).toInt % 256 := c_mask _ 255 8 (by decide) (by decide)
  refine Int32.toInt_inj.mp ?_
  unfold own_f4
  rw [h2, h1, e2]
  omega
theorem own_pd1 : parseMethodDescriptor "(I)V" = some ⟨[.int], none⟩ := by decide +kernel
theorem own_pd2 : parseMethodDescriptor "()I" = some ⟨[], some .int⟩ := by decide +kernel
theorem own_pn2 : plainName "com/example/casement/casement/compositor/ColorGreenPinLaw" = true := by first | (simp [plainName, overriddenIn]; done) | decide +kernel
theorem own_ef0 (m : MethodId) (p0 : Int32) (p1 : Int32) (p2 : Int32) : entryFrame m #[(.int p0), (.int p1), (.int p2)] maxLocals = mkF m 0 #[oi p0, oi p1, oi p2, .unset, .unset, .unset, .unset, .unset] [] := by first | (simp [entryFrame, mkF, argsToLocals, Value.category, maxLocals]; done) | rfl
def own_Q0 (Z : State) (p0 : Int32) (p1 : Int32) (p2 : Int32) (h0 : Heap) (n0 : Nat) (v : Option Value) (h : Heap) (L : List Loc) : Prop := v = some (Value.int (1 : Int32)) ∧ Fr n0 L
set_option maxRecDepth 65536 in
set_option maxHeartbeats 40000000 in
theorem own_rm0 (l : Launch) (Z : State) (av : Array Value) (hw : ∀ d ∈ tables_1, d.before av Z = true) (ws : List Jvm.Cond) (p0 : Int32) (p1 : Int32) (p2 : Int32) (h0 : Heap) (n0 : Nat) (Z0 : n0 ≤ h0.size) :
    MetFree l x (head1 (Jvm.Cond.code x code maxLocals ret :: ws) room_1) (fun a U => a = #[(.int p0), (.int p1), (.int p2)] ∧ Z.Warmed39 U.vm ∧ U.heap = h0) (fun _ _ _ _ _ => True) (fun _ U o U' => ∃ v L, o = .returned v ∧ own_Q0 Z p0 p1 p2 h0 n0 v U'.heap L ∧ FrameEnd U o U' L room_1.cells room_1.slots) := by
  refine MetFree.of_bodySF (plainFor_of_name own_pn2) hisR ?_
  intro p e s m args below meth c s₁ Bd hml0 hP hK
  obtain ⟨rfl, hZ, hh⟩ := hP
  have hx := Bd.exec
  have hby := Bd.bytes
  have hml : c.maxLocals = 8 := hml0
  have hown : s.vm.findClass "com/example/casement/casement/compositor/ColorGreenPinLaw" = some m.cls := findClass_of_methodNamed Bd.named
  have hnm := (name_of_methodNamed Bd.named Bd.method).1
  have X0 : Stand p l e room_1 s m #[(.int p0), (.int p1), (.int p2)] below meth c s₁ [] 0 0 := Stand.of_body Bd
  have e0 : s₁.heap = h0 := by rw [← hh, Bd.state]; rfl
  have N0 := Fr.nil n0
  have pre0 : ∀ t, Steps p.tables e below (s₁.setTop (mkF m 0 #[oi p0, oi p1, oi p2, .unset, .unset, .unset, .unset, .unset] [])) t → Steps p.tables e below (s₁.setTop (entryFrame m #[(.int p0), (.int p1), (.int p2)] maxLocals)) t := fun t k => castTop (own_ef0 m p0 p1 p2) k
  obtain ⟨T1, h1, X1, e1, E1, A1, D1, -, st1⟩ := newO X0 hx hZ hown (hw _ (List.mem_of_getElem? (i := 1) rfl)) (hw _ (List.mem_of_getElem? (i := 2) rfl)) (hw _ (List.mem_of_getElem? (i := 3) rfl)) e0 (g := (mkF m 36 #[oi p0, oi p1, oi p2, oi (p0 &&& (255 : Int32)), oi (p1 &&& (255 : Int32)), oi (p2 &&& (255 : Int32)), oi ((((p0 &&& (255 : Int32)) * (65536 : Int32)) + ((p1 &&& (255 : Int32)) * (256 : Int32))) + (p2 &&& (255 : Int32))), .unset] [])) rfl (hb hby at_36) (by decide) (by decide)
  obtain ⟨b1, g1⟩ : ∃ z, z = h0.size := ⟨_, rfl⟩
  rw [← g1] at A1 D1 st1
  have g_b1 : n0 ≤ b1 := Nat.le_trans Z0 (Nat.le_of_eq g1.symm)
  have Z1 : n0 ≤ h1.size := Nat.le_trans Z0 E1.1
  have F_2 : Fld Z h1 b1 "com/example/casement/casement/compositor/Color" "rgb" "I" (.int (0 : Int32)) := D1 (Or.inr (hw _ (List.mem_of_getElem? (i := 17) rfl))) (ty := .int) (by decide)
  obtain ⟨_, _, ⟨T3, L3, k3, n3⟩, -, X3, ⟨Lc3, hQ3, l3, y3, z3⟩, st3⟩ := X1.specialBack hx (y := (⟨"com/example/casement/casement/compositor/Color", "<init>", "(I)V"⟩ : MethodName)) rfl hown (mvT hZ (hw _ (List.mem_of_getElem? (i := 4) rfl))) (mvT hZ (hw _ (List.mem_of_getElem? (i := 5) rfl))) (mvT hZ (hw _ (List.mem_of_getElem? (i := 6) rfl))) (by decide) (backOf (W := 1) (own_rm1 l Z av hw [] b1 ((((p0 &&& (255 : Int32)) * (65536 : Int32)) + ((p1 &&& (255 : Int32)) * (256 : Int32))) + (p2 &&& (255 : Int32))) h1 n0 Z1 A1 F_2 g_b1 (own_hi _ _ _)) hZ (hw _ (List.mem_of_getElem? (i := 6) rfl)) (hw _ (List.mem_of_getElem? (i := 3) rfl)) (by decide) (by decide)) (g := (mkF m 42 #[oi p0, oi p1, oi p2, oi (p0 &&& (255 : Int32)), oi (p1 &&& (255 : Int32)), oi (p2 &&& (255 : Int32)), oi ((((p0 &&& (255 : Int32)) * (65536 : Int32)) + ((p1 &&& (255 : Int32)) * (256 : Int32))) + (p2 &&& (255 : Int32))), .unset] [(.int ((((p0 &&& (255 : Int32)) * (65536 : Int32)) + ((p1 &&& (255 : Int32)) * (256 : Int32))) + (p2 &&& (255 : Int32)))), (.ref b1), (.ref b1)])) rfl (by rw [hml]; rfl) (Steps.refl _) (a := b1) (argsL := [(.int ((((p0 &&& (255 : Int32)) * (65536 : Int32)) + ((p1 &&& (255 : Int32)) * (256 : Int32))) + (p2 &&& (255 : Int32))))]) (rest := [(.ref b1)]) (lenOf own_pd1 rfl) rfl (by show 2 * 0 + _ ≤ _; exact Nat.le_of_eq rfl) (hb hby at_42) (fun _ _ => ⟨rfl, e1, (by decide : 1 + 0 ≤ _), (by decide : 1 + 0 ≤ _)⟩)
  dsimp only [Pt.U, Pt.locs, Pt.cells, Pt.slots] at X3 l3 y3 z3 st3 hQ3
  subst l3 y3 z3
  obtain ⟨rfl, Nq3, Kq3, Oq3_0, Oq3_1⟩ := hQ3
  have N3 := Fr.app N0 Nq3
  have Z3 : n0 ≤ T3.heap.size := Nat.le_trans Z1 Kq3.1
  have F4 := A1.keep Kq3
  obtain ⟨cq5, kq5, q5a, q5b, q5c⟩ := isOf hZ rfl Oq3_0
  obtain ⟨_, _, ⟨T5, L5, k5, n5⟩, -, X5, ⟨Lc5, hQ5, l5, y5, z5⟩, st5⟩ := X3.virtualBack hx (y := (⟨"com/example/casement/casement/compositor/Color", "green", "()I"⟩ : MethodName)) (z := (⟨"com/example/casement/casement/compositor/Color", "green", "()I"⟩ : MethodName)) hown (mvT hZ (hw _ (List.mem_of_getElem? (i := 18) rfl))) (mvT hZ (hw _ (List.mem_of_getElem? (i := 19) rfl))) (notFace_of_selects (args := #[]) (mvT hZ (hw _ (List.mem_of_getElem? (i := 21) rfl)))) (mvT hZ (hw _ (List.mem_of_getElem? (i := 21) rfl))) (mvT hZ (hw _ (List.mem_of_getElem? (i := 20) rfl))) (by decide) (backOf (W := 0) (own_rm4 l Z av hw [] b1 ((((p0 &&& (255 : Int32)) * (65536 : Int32)) + ((p1 &&& (255 : Int32)) * (256 : Int32))) + (p2 &&& (255 : Int32))) T3.heap n0 Z3 Oq3_1) hZ (hw _ (List.mem_of_getElem? (i := 22) rfl)) (hw _ (List.mem_of_getElem? (i := 3) rfl)) (by decide) (by decide)) q5a q5c (g := (mkF m 49 #[oi p0, oi p1, oi p2, oi (p0 &&& (255 : Int32)), oi (p1 &&& (255 : Int32)), oi (p2 &&& (255 : Int32)), oi ((((p0 &&& (255 : Int32)) * (65536 : Int32)) + ((p1 &&& (255 : Int32)) * (256 : Int32))) + (p2 &&& (255 : Int32))), oa b1] [(.ref b1)])) rfl (by rw [hml]; rfl) (Steps.refl _) (argsL := []) (rest := []) (lenOf own_pd2 rfl) rfl (by show 2 * 0 + _ ≤ _; exact Nat.le_of_eq rfl) (hb hby at_49) (fun _ _ => ⟨rfl, rfl, (by decide : 1 + 0 ≤ _), (by decide : 1 + 0 ≤ _)⟩)
  dsimp only [Pt.U, Pt.locs, Pt.cells, Pt.slots] at X5 l5 y5 z5 st5 hQ5
  subst l5 y5 z5
  obtain ⟨rfl, Nq5, eq5⟩ := hQ5
  have N5 := Fr.app N3 Nq5
  have b6 : (own_f4 ((((p0 &&& (255 : Int32)) * (65536 : Int32)) + ((p1 &&& (255 : Int32)) * (256 : Int32))) + (p2 &&& (255 : Int32)))) = (p1 &&& (255 : Int32)) := own_eq _ _ _
  obtain ⟨fs, hr, hrun, hended, hW, hsame⟩ := X5.leave (v := (some (.int (1 : Int32)))) (fun h => by rw [Bd.returns] at h; cases h)
  refine ⟨_, _, pre0 _ ?_, hrun, hended, _, _, rfl, ?_, ⟨_, rfl⟩, hW, hsame.mono (by decide) (by decide)⟩
  · show oS p e below s₁ m 0 #[oi p0, oi p1, oi p2, .unset, .unset, .unset, .unset, .unset] [] _
    refine XS.iloadN X0.here hx rfl (hb hby at_0) rfl ?_
    show oS p e below s₁ m 1 #[oi p0, oi p1, oi p2, .unset, .unset, .unset, .unset, .unset] [(.int p0)] _
    refine XS.sipush X0.here hx rfl (hb hby at_1) ?_
    show oS p e below s₁ m 4 #[oi p0, oi p1, oi p2, .unset, .unset, .unset, .unset, .unset] [(.int (255 : Int32)), (.int p0)] _
    refine XS.iand X0.here hx rfl (hb hby at_4) rfl ?_
    show oS p e below s₁ m 5 #[oi p0, oi p1, oi p2, .unset, .unset, .unset, .unset, .unset] [(.int (p0 &&& (255 : Int32)))] _
    refine XS.istoreN X0.here hx rfl (hb hby at_5) rfl (l' := #[oi p0, oi p1, oi p2, oi (p0 &&& (255 : Int32)), .unset, .unset, .unset, .unset]) rfl ?_
    show oS p e below s₁ m 6 #[oi p0, oi p1, oi p2, oi (p0 &&& (255 : Int32)), .unset, .unset, .unset, .unset] [] _
    refine XS.iloadN X0.here hx rfl (hb hby at_6) rfl ?_
    show oS p e below s₁ m 7 #[oi p0, oi p1, oi p2, oi (p0 &&& (255 : Int32)), .unset, .unset, .unset, .unset] [(.int p1)] _
    refine XS.sipush X0.here hx rfl (hb hby at_7) ?_
    show oS p e below s₁ m 10 #[oi p0, oi p1, oi p2, oi (p0 &&& (255 : Int32)), .unset, .unset, .unset, .unset] [(.int (255 : Int32)), (.int p1)] _
    refine XS.iand X0.here hx rfl (hb hby at_10) rfl ?_
    show oS p e below s₁ m 11 #[oi p0, oi p1, oi p2, oi (p0 &&& (255 : Int32)), .unset, .unset, .unset, .unset] [(.int (p1 &&& (255 : Int32)))] _
    refine XS.istore X0.here hx rfl (hb hby at_11) rfl (l' := #[oi p0, oi p1, oi p2, oi (p0 &&& (255 : Int32)), oi (p1 &&& (255 : Int32)), .unset, .unset, .unset]) rfl ?_
    show oS p e below s₁ m 13 #[oi p0, oi p1, oi p2, oi (p0 &&& (255 : Int32)), oi (p1 &&& (255 : Int32)), .unset, .unset, .unset] [] _
    refine XS.iloadN X0.here hx rfl (hb hby at_13) rfl ?_
    show oS p e below s₁ m 14 #[oi p0, oi p1, oi p2, oi (p0 &&& (255 : Int32)), oi (p1 &&& (255 : Int32)), .unset, .unset, .unset] [(.int p2)] _
    refine XS.sipush X0.here hx rfl (hb hby at_14) ?_
    show oS p e below s₁ m 17 #[oi p0, oi p1, oi p2, oi (p0 &&& (255 : Int32)), oi (p1 &&& (255 : Int32)), .unset, .unset, .unset] [(.int (255 : Int32)), (.int p2)] _
    refine XS.iand X0.here hx rfl (hb hby at_17) rfl ?_
    show oS p e below s₁ m 18 #[oi p0, oi p1, oi p2, oi (p0 &&& (255 : Int32)), oi (p1 &&& (255 : Int32)), .unset, .unset, .unset] [(.int (p2 &&& (255 : Int32)))] _
    refine XS.istore X0.here hx rfl (hb hby at_18) rfl (l' := #[oi p0, oi p1, oi p2, oi (p0 &&& (255 : Int32)), oi (p1 &&& (255 : Int32)), oi (p2 &&& (255 : Int32)), .unset, .unset]) rfl ?_
    show oS p e below s₁ m 20 #[oi p0, oi p1, oi p2, oi (p0 &&& (255 : Int32)), oi (p1 &&& (255 : Int32)), oi (p2 &&& (255 : Int32)), .unset, .unset] [] _
    refine XS.iloadN X0.here hx rfl (hb hby at_20) rfl ?_
    show oS p e below s₁ m 21 #[oi p0, oi p1, oi p2, oi (p0 &&& (255 : Int32)), oi (p1 &&& (255 : Int32)), oi (p2 &&& (255 : Int32)), .unset, .unset] [(.int (p0 &&& (255 : Int32)))] _
    refine X0.ldcInt hx hown (mvT hZ (hw _ (List.mem_of_getElem? (i := 0) rfl))) (g := (mkF m 21 #[oi p0, oi p1, oi p2, oi (p0 &&& (255 : Int32)), oi (p1 &&& (255 : Int32)), oi (p2 &&& (255 : Int32)), .unset, .unset] [(.int (p0 &&& (255 : Int32)))])) rfl (hb hby at_21) _ ?_
    show oS p e below s₁ m 23 #[oi p0, oi p1, oi p2, oi (p0 &&& (255 : Int32)), oi (p1 &&& (255 : Int32)), oi (p2 &&& (255 : Int32)), .unset, .unset] [(.int (65536 : Int32)), (.int (p0 &&& (255 : Int32)))] _
    refine XS.imul X0.here hx rfl (hb hby at_23) rfl ?_
    show oS p e below s₁ m 24 #[oi p0, oi p1, oi p2, oi (p0 &&& (255 : Int32)), oi (p1 &&& (255 : Int32)), oi (p2 &&& (255 : Int32)), .unset, .unset] [(.int ((p0 &&& (255 : Int32)) * (65536 : Int32)))] _
    refine XS.iload X0.here hx rfl (hb hby at_24) rfl ?_
    show oS p e below s₁ m 26 #[oi p0, oi p1, oi p2, oi (p0 &&& (255 : Int32)), oi (p1 &&& (255 : Int32)), oi (p2 &&& (255 : Int32)), .unset, .unset] [(.int (p1 &&& (255 : Int32))), (.int ((p0 &&& (255 : Int32)) * (65536 : Int32)))] _
    refine XS.sipush X0.here hx rfl (hb hby at_26) ?_
    show oS p e below s₁ m 29 #[oi p0, oi p1, oi p2, oi (p0 &&& (255 : Int32)), oi (p1 &&& (255 : Int32)), oi (p2 &&& (255 : Int32)), .unset, .unset] [(.int (256 : Int32)), (.int (p1 &&& (255 : Int32))), (.int ((p0 &&& (255 : Int32)) * (65536 : Int32)))] _
    refine XS.imul X0.here hx rfl (hb hby at_29) rfl ?_
    show oS p e below s₁ m 30 #[oi p0, oi p1, oi p2, oi (p0 &&& (255 : Int32)), oi (p1 &&& (255 : Int32)), oi (p2 &&& (255 : Int32)), .unset, .unset] [(.int ((p1 &&& (255 : Int32)) * (256 : Int32))), (.int ((p0 &&& (255 : Int32)) * (65536 : Int32)))] _
    refine XS.iadd X0.here hx rfl (hb hby at_30) rfl ?_
    show oS p e below s₁ m 31 #[oi p0, oi p1, oi p2, oi (p0 &&& (255 : Int32)), oi (p1 &&& (255 : Int32)), oi (p2 &&& (255 : Int32)), .unset, .unset] [(.int (((p0 &&& (255 : Int32)) * (65536 : Int32)) + ((p1 &&& (255 : Int32)) * (256 : Int32))))] _
    refine XS.iload X0.here hx rfl (hb hby at_31) rfl ?_
    show oS p e below s₁ m 33 #[oi p0, oi p1, oi p2, oi (p0 &&& (255 : Int32)), oi (p1 &&& (255 : Int32)), oi (p2 &&& (255 : Int32)), .unset, .unset] [(.int (p2 &&& (255 : Int32))), (.int (((p0 &&& (255 : Int32)) * (65536 : Int32)) + ((p1 &&& (255 : Int32)) * (256 : Int32))))] _
    refine XS.iadd X0.here hx rfl (hb hby at_33) rfl ?_
    show oS p e below s₁ m 34 #[oi p0, oi p1, oi p2, oi (p0 &&& (255 : Int32)), oi (p1 &&& (255 : Int32)), oi (p2 &&& (255 : Int32)), .unset, .unset] [(.int ((((p0 &&& (255 : Int32)) * (65536 : Int32)) + ((p1 &&& (255 : Int32)) * (256 : Int32))) + (p2 &&& (255 : Int32))))] _
    refine XS.istore X0.here hx rfl (hb hby at_34) rfl (l' := #[oi p0, oi p1, oi p2, oi (p0 &&& (255 : Int32)), oi (p1 &&& (255 : Int32)), oi (p2 &&& (255 : Int32)), oi ((((p0 &&& (255 : Int32)) * (65536 : Int32)) + ((p1 &&& (255 : Int32)) * (256 : Int32))) + (p2 &&& (255 : Int32))), .unset]) rfl ?_
    show oS p e below s₁ m 36 #[oi p0, oi p1, oi p2, oi (p0 &&& (255 : Int32)), oi (p1 &&& (255 : Int32)), oi (p2 &&& (255 : Int32)), oi ((((p0 &&& (255 : Int32)) * (65536 : Int32)) + ((p1 &&& (255 : Int32)) * (256 : Int32))) + (p2 &&& (255 : Int32))), .unset] [] _
    refine st1 _ ?_
    show oS p e below T1 m 39 #[oi p0, oi p1, oi p2, oi (p0 &&& (255 : Int32)), oi (p1 &&& (255 : Int32)), oi (p2 &&& (255 : Int32)), oi ((((p0 &&& (255 : Int32)) * (65536 : Int32)) + ((p1 &&& (255 : Int32)) * (256 : Int32))) + (p2 &&& (255 : Int32))), .unset] [(.ref b1)] _
    refine XS.dup X1.here hx rfl (hb hby at_39) rfl rfl ?_
    show oS p e below T1 m 40 #[oi p0, oi p1, oi p2, oi (p0 &&& (255 : Int32)), oi (p1 &&& (255 : Int32)), oi (p2 &&& (255 : Int32)), oi ((((p0 &&& (255 : Int32)) * (65536 : Int32)) + ((p1 &&& (255 : Int32)) * (256 : Int32))) + (p2 &&& (255 : Int32))), .unset] [(.ref b1), (.ref b1)] _
    refine XS.iload X1.here hx rfl (hb hby at_40) rfl ?_
    show oS p e below T1 m 42 #[oi p0, oi p1, oi p2, oi (p0 &&& (255 : Int32)), oi (p1 &&& (255 : Int32)), oi (p2 &&& (255 : Int32)), oi ((((p0 &&& (255 : Int32)) * (65536 : Int32)) + ((p1 &&& (255 : Int32)) * (256 : Int32))) + (p2 &&& (255 : Int32))), .unset] [(.int ((((p0 &&& (255 : Int32)) * (65536 : Int32)) + ((p1 &&& (255 : Int32)) * (256 : Int32))) + (p2 &&& (255 : Int32)))), (.ref b1), (.ref b1)] _
    refine st3.trans ?_
    show oS p e below T3 m 45 #[oi p0, oi p1, oi p2, oi (p0 &&& (255 : Int32)), oi (p1 &&& (255 : Int32)), oi (p2 &&& (255 : Int32)), oi ((((p0 &&& (255 : Int32)) * (65536 : Int32)) + ((p1 &&& (255 : Int32)) * (256 : Int32))) + (p2 &&& (255 : Int32))), .unset] [(.ref b1)] _
    refine XS.astore X3.here hx rfl (hb hby at_45) rfl rfl (l' := #[oi p0, oi p1, oi p2, oi (p0 &&& (255 : Int32)), oi (p1 &&& (255 : Int32)), oi (p2 &&& (255 : Int32)), oi ((((p0 &&& (255 : Int32)) * (65536 : Int32)) + ((p1 &&& (255 : Int32)) * (256 : Int32))) + (p2 &&& (255 : Int32))), oa b1]) rfl ?_
    show oS p e below T3 m 47 #[oi p0, oi p1, oi p2, oi (p0 &&& (255 : Int32)), oi (p1 &&& (255 : Int32)), oi (p2 &&& (255 : Int32)), oi ((((p0 &&& (255 : Int32)) * (65536 : Int32)) + ((p1 &&& (255 : Int32)) * (256 : Int32))) + (p2 &&& (255 : Int32))), oa b1] [] _
    refine XS.aload X3.here hx rfl (hb hby at_47) rfl rfl ?_
    show oS p e below T3 m 49 #[oi p0, oi p1, oi p2, oi (p0 &&& (255 : Int32)), oi (p1 &&& (255 : Int32)), oi (p2 &&& (255 : Int32)), oi ((((p0 &&& (255 : Int32)) * (65536 : Int32)) + ((p1 &&& (255 : Int32)) * (256 : Int32))) + (p2 &&& (255 : Int32))), oa b1] [(.ref b1)] _
    refine st5.trans ?_
    show oS p e below T5 m 52 #[oi p0, oi p1, oi p2, oi (p0 &&& (255 : Int32)), oi (p1 &&& (255 : Int32)), oi (p2 &&& (255 : Int32)), oi ((((p0 &&& (255 : Int32)) * (65536 : Int32)) + ((p1 &&& (255 : Int32)) * (256 : Int32))) + (p2 &&& (255 : Int32))), oa b1] [(.int (own_f4 ((((p0 &&& (255 : Int32)) * (65536 : Int32)) + ((p1 &&& (255 : Int32)) * (256 : Int32))) + (p2 &&& (255 : Int32)))))] _
    refine XS.iload X5.here hx rfl (hb hby at_52) rfl ?_
    show oS p e below T5 m 54 #[oi p0, oi p1, oi p2, oi (p0 &&& (255 : Int32)), oi (p1 &&& (255 : Int32)), oi (p2 &&& (255 : Int32)), oi ((((p0 &&& (255 : Int32)) * (65536 : Int32)) + ((p1 &&& (255 : Int32)) * (256 : Int32))) + (p2 &&& (255 : Int32))), oa b1] [(.int (p1 &&& (255 : Int32))), (.int (own_f4 ((((p0 &&& (255 : Int32)) * (65536 : Int32)) + ((p1 &&& (255 : Int32)) * (256 : Int32))) + (p2 &&& (255 : Int32)))))] _
    refine XS.icmpNo X5.here hx rfl (hb hby at_54) rfl (teq b6).2 ?_
    show oS p e below T5 m 57 #[oi p0, oi p1, oi p2, oi (p0 &&& (255 : Int32)), oi (p1 &&& (255 : Int32)), oi (p2 &&& (255 : Int32)), oi ((((p0 &&& (255 : Int32)) * (65536 : Int32)) + ((p1 &&& (255 : Int32)) * (256 : Int32))) + (p2 &&& (255 : Int32))), oa b1] [] _
    refine XS.iconst X5.here hx rfl (hb hby at_57) ?_
    show oS p e below T5 m 58 #[oi p0, oi p1, oi p2, oi (p0 &&& (255 : Int32)), oi (p1 &&& (255 : Int32)), oi (p2 &&& (255 : Int32)), oi ((((p0 &&& (255 : Int32)) * (65536 : Int32)) + ((p1 &&& (255 : Int32)) * (256 : Int32))) + (p2 &&& (255 : Int32))), oa b1] [(.int (1 : Int32))] _
    refine XS.goto X5.here hx rfl (pc0 := 58) (pc' := 62) rfl (hb hby at_58) (by decide) (by decide) ?_
    show oS p e below T5 m 62 #[oi p0, oi p1, oi p2, oi (p0 &&& (255 : Int32)), oi (p1 &&& (255 : Int32)), oi (p2 &&& (255 : Int32)), oi ((((p0 &&& (255 : Int32)) * (65536 : Int32)) + ((p1 &&& (255 : Int32)) * (256 : Int32))) + (p2 &&& (255 : Int32))), oa b1] [(.int (1 : Int32))] _
    exact retN X5 hx (t := .boolean) Bd.returns (by simp) (hb hby at_62) hr
  · show own_Q0 Z p0 p1 p2 h0 n0 _ T5.heap _
    rw [eq5]
    exact ⟨rfl, N5⟩
set_option maxRecDepth 65536 in
set_option maxHeartbeats 40000000 in
theorem own_comes {Post : Tables → Env → Array Value → State → Outcome → State → Prop} (hpost : ∀ tb e args s v u, (limb_1_1.after args s (.returned v) u = true ∧ limb_1_2.after args s (.returned v) u = true ∧ True) → FrameEnd s (.returned v) u (Jvm.fieldLocs frame_1_writes args s ++ Jvm.arrayLocs frame_1_arrays args s ++ Jvm.staticLocs frame_1_statics s) 16 128 → Post tb e args s (.returned v) u) :
    ArmFor flags0 classFile x code maxLocals ret World_1 tables_1 room_1 Calls_1 rest_1 Pre_1 Post := by
  intro l hfl _ _ p e ha hc hk s m args below hf hA hF happ hP
  obtain ⟨hcalls, hrest, hpre⟩ := hP
  obtain ⟨-, -, -, hnamed, -, -, -, hat⟩ := (Spec.applies_iff hf).mp happ
  obtain ⟨hg, hn⟩ := and_e (Cond.before_iff.mp (show (Jvm.Cond.and given_1 narrow_1).before args s = true from hpre))
  obtain ⟨gv1, gv2⟩ := and_e hg
  obtain ⟨gv3, gv4⟩ := and_e gv2
  obtain ⟨gv5, gv6⟩ := and_e gv4
  obtain ⟨w0, w1, w2, rfl⟩ : ∃ w0 w1 w2 : Value, args = #[w0, w1, w2] := by
    have hs : args.size = 3 := by simpa [Cond.value, given_1] using gv1
    obtain ⟨L⟩ := args
    match L, hs with
    | [w0, w1, w2], _ => exact ⟨w0, w1, w2, rfl⟩
  have hw := fun d (hd : d ∈ tables_1) => atoms_spec (ws := Jvm.Cond.code x code maxLocals ret :: tables_1) hat d (List.mem_cons_of_mem _ hd)
  have hfit : Fit s := fun {y c} hc i hi => by
    obtain ⟨ha, rfl⟩ := Array.getElem?_eq_some_iff.mp hc
    have q := List.all_eq_true.mp ((Array.all_eq_true_iff_forall_mem.mp hF) _ (Array.getElem_mem ha)) i (List.mem_range.mpr hi)
    simpa [Array.getElem?_eq_getElem hi] using q
  obtain ⟨i0, ei0⟩ := is_v gv3
  obtain rfl : w0 = (.int i0) := Option.some.inj ei0
  obtain ⟨i1, ei1⟩ := is_v gv5
  obtain rfl : w1 = (.int i1) := Option.some.inj ei1
  obtain ⟨i2, ei2⟩ := is_v gv6
  obtain rfl : w2 = (.int i2) := Option.some.inj ei2
  obtain ⟨n, o, h1, h2, h3, _, L, rfl, ⟨rfl, N⟩, hq⟩ := own_rm0 l s _ hw tables_1 i0 i1 i2  s.heap s.heap.size (Nat.le_refl _)  p e ha hc hk s m _ below hf ((Spec.applies_iff_loose hf).mp happ).1 ⟨rfl, State.Warmed39.refl s, rfl⟩ trivial
  refine ⟨n, _, h1, h2, h3, hpost _ _ _ _ _ _ ⟨Cond.after_iff.mpr rfl, Cond.after_iff.mpr (eq_i res_at (Term.int_eval (1)) rfl), trivial⟩ ⟨hq.1, hq.2.1, (hq.2.2.sift fun y hy => Or.inr (N y hy)).mono (by decide) (by decide)⟩⟩
theorem main_1_1 : Claimed_1_1 := own_comes fun _ _ _ _ _ _ h hF => ⟨h.1, hF⟩
theorem main_1_2 : Claimed_1_2 := own_comes fun _ _ _ _ _ _ h hF => ⟨h.2.1, hF⟩
end Jvm.Pilot.@@N@@
namespace Jvm.Pilot.@@N@@
open Jvm Jvm.ClassFile Sem Op Lib Jvm.Free Jvm.Stand Jvm.Pilot.@@N@@.Jvm.D
/-! MADE BY PROGRAM (witnessworld.py) out of the Statement's table words and the real class files: 10 classes; the members and pool entries that the words name. The judged class is class 1, her method 1. -/
namespace start1
open Jvm.ClassFile
def u (s : String) : CpInfo := .utf8 (stringToUtf16 s)
/-- a pool by its gaps: so many unusable entries, then the entry; so many at the end -/
def gap : Nat → List CpInfo → List CpInfo
  | 0, r => r
  | n + 1, r => .unusable :: gap n r
def poolList (es : List (Nat × CpInfo)) (last : Nat) : List CpInfo := es.foldr (fun e r => gap e.1 (e.2 :: r)) (gap last [])
def pool (es : List (Nat × CpInfo)) (last : Nat) : Array CpInfo := ⟨poolList es last⟩
def fileOf (pool : Array CpInfo) (this : Nat) (attrs : Array Attribute := #[]) (ms : Array MethodInfo := #[]) (fl : Nat := 33) (sup : Nat := 0) (ifs : Array Nat := #[]) (fds : Array FieldInfo := #[]) : ClassFile where
  minorVersion := 0
  majorVersion := 65
  constantPool := pool
  accessFlags := fl
  thisClass := this
  superClass := sup
  interfaces := ifs
  fields := fds
  methods := ms
  attributes := attrs
def plain (name : String) (sup : Option ClassId) : Class where
  name := name
  kind := .ordinary
  loader := none
  accessFlags := 33
  super := sup
  interfaces := #[]
  cf := none
  fields := #[]
  methods := #[]
  instanceTypes := #[]
  staticTypes := #[]
  resolved := #[]
  callSites := []
  init := .initialized
  statics := none
  mirror := none

def pool0 : Array CpInfo := pool [(5, u "<init>"), (0, u "()V"), (1, .class_ 10), (1, u "java/lang/Object")] 113

def k0c0 : Code := { maxStack := 0, maxLocals := 1, code := object_method_1_code, exceptionTable := #[], attributes := #[] }
def k0m0 : Method := { name := "<init>", desc := "()V", sig := { parameters := [], returnType := none }, accessFlags := 1, code := some k0c0 }
/-- java/lang/Object -/
def k0 : Class := { plain "java/lang/Object" none with
  accessFlags := 33
  interfaces := #[]
  cf := some (fileOf pool0 8 #[] #[{ accessFlags := 1, nameIndex := 5, descriptorIndex := 6, attributes := #[] }] 33 0 #[] #[])
  fields := #[]
  methods := #[k0m0]
  instanceTypes := #[]
  staticTypes := #[]
  resolved := Array.replicate 124 none
  statics := none }

def pool1 : Array CpInfo := pool [(2, .class_ 4), (1, u "java/lang/Object"), (0, u "<init>"), (0, u "()V"), (0, .integer 65536), (0, .class_ 9), (0, u "com/example/casement/casement/compositor/Color"), (0, .methodref 8 11), (0, .nameAndType 5 12), (0, u "(I)V"), (0, .methodref 8 14), (0, .nameAndType 15 16), (0, u "green"), (0, u "()I"), (0, .class_ 18), (0, u "com/example/casement/casement/compositor/ColorGreenPinLaw"), (2, u "law"), (0, u "(III)Z")] 3

def k1m0 : Method := { name := "<init>", desc := "()V", sig := { parameters := [], returnType := none }, accessFlags := 1, code := none }
def k1c1 : Code := { maxStack := 3, maxLocals := 8, code := code, exceptionTable := #[], attributes := #[] }
def k1m1 : Method := { name := "law", desc := "(III)Z", sig := { parameters := [.int, .int, .int], returnType := some .boolean }, accessFlags := 9, code := some k1c1 }
/-- com/example/casement/casement/compositor/ColorGreenPinLaw -/
def k1 : Class := { plain "com/example/casement/casement/compositor/ColorGreenPinLaw" (some 0) with
  accessFlags := 49
  interfaces := #[]
  cf := some (fileOf pool1 17 #[] #[{ accessFlags := 1, nameIndex := 5, descriptorIndex := 6, attributes := #[] }, { accessFlags := 9, nameIndex := 21, descriptorIndex := 22, attributes := #[] }] 49 2 #[] #[])
  fields := #[]
  methods := #[k1m0, k1m1]
  instanceTypes := #[]
  staticTypes := #[]
  resolved := Array.replicate 26 none
  statics := none }

def pool2 : Array CpInfo := pool [(1, .methodref 2 3), (0, .class_ 4), (0, .nameAndType 5 6), (0, u "java/lang/Object"), (0, u "<init>"), (0, u "()V"), (0, .class_ 8), (0, u "java/lang/Record")] 13

def k2c0 : Code := { maxStack := 1, maxLocals := 1, code := jdk_30_method_1_code, exceptionTable := #[], attributes := #[] }
def k2m0 : Method := { name := "<init>", desc := "()V", sig := { parameters := [], returnType := none }, accessFlags := 4, code := some k2c0 }
/-- java/lang/Record -/
def k2 : Class := { plain "java/lang/Record" (some 0) with
  accessFlags := 1057
  interfaces := #[]
  cf := some (fileOf pool2 7 #[] #[{ accessFlags := 4, nameIndex := 5, descriptorIndex := 6, attributes := #[] }] 1057 2 #[] #[])
  fields := #[]
  methods := #[k2m0]
  instanceTypes := #[]
  staticTypes := #[]
  resolved := Array.replicate 22 none
  statics := none }

def pool3 : Array CpInfo := pool [(1, .methodref 2 3), (0, .class_ 4), (0, .nameAndType 5 6), (0, u "java/lang/Record"), (0, u "<init>"), (0, u "()V"), (0, .integer 4278190080), (15, .fieldref 24 25), (0, .class_ 26), (0, .nameAndType 27 28), (0, u "com/example/casement/casement/compositor/Color"), (0, u "rgb"), (0, u "I"), (2, u "HEX"), (0, u "Ljava/util/regex/Pattern;"), (29, u "(I)V"), (43, u "()I"), (0, u "green")] 32

def k3c0 : Code := { maxStack := 3, maxLocals := 2, code := prog_7_method_1_code, exceptionTable := #[], attributes := #[] }
def k3m0 : Method := { name := "<init>", desc := "(I)V", sig := { parameters := [.int], returnType := none }, accessFlags := 1, code := some k3c0 }
def k3c1 : Code := { maxStack := 2, maxLocals := 1, code := prog_7_method_4_code, exceptionTable := #[], attributes := #[] }
def k3m1 : Method := { name := "green", desc := "()I", sig := { parameters := [], returnType := some .int }, accessFlags := 1, code := some k3c1 }
/-- com/example/casement/casement/compositor/Color -/
def k3 : Class := { plain "com/example/casement/casement/compositor/Color" (some 2) with
  accessFlags := 49
  interfaces := #[]
  cf := some (fileOf pool3 24 #[] #[{ accessFlags := 1, nameIndex := 5, descriptorIndex := 62, attributes := #[] }, { accessFlags := 1, nameIndex := 107, descriptorIndex := 106, attributes := #[] }] 49 2 #[] #[{ accessFlags := 18, nameIndex := 27, descriptorIndex := 28, attributes := #[] }, { accessFlags := 26, nameIndex := 31, descriptorIndex := 32, attributes := #[] }])
  fields := #[{ name := "rgb", type := .int, accessFlags := 18, slot := 0, constantValue := 0 }, { name := "HEX", type := (.object "java/util/regex/Pattern"), accessFlags := 26, slot := 0, constantValue := 0 }]
  methods := #[k3m0, k3m1]
  instanceTypes := #[.int]
  staticTypes := #[(.object "java/util/regex/Pattern")]
  resolved := Array.replicate 140 none
  statics := none }

def pool4 : Array CpInfo := pool [(1, u "java/lang/Cloneable"), (0, .class_ 1), (0, u "java/lang/Object"), (0, .class_ 3)] 3

/-- java/lang/Cloneable -/
def k4 : Class := { plain "java/lang/Cloneable" (some 0) with
  accessFlags := 1537
  interfaces := #[]
  cf := some (fileOf pool4 2 #[] #[] 1537 4 #[] #[])
  fields := #[]
  methods := #[]
  instanceTypes := #[]
  staticTypes := #[]
  resolved := Array.replicate 8 none
  statics := none }

def pool5 : Array CpInfo := pool [(1, u "java/io/Serializable"), (0, .class_ 1), (0, u "java/lang/Object"), (0, .class_ 3)] 3

/-- java/io/Serializable -/
def k5 : Class := { plain "java/io/Serializable" (some 0) with
  accessFlags := 1537
  interfaces := #[]
  cf := some (fileOf pool5 2 #[] #[] 1537 4 #[] #[])
  fields := #[]
  methods := #[]
  instanceTypes := #[]
  staticTypes := #[]
  resolved := Array.replicate 8 none
  statics := none }

/-- the primitive byte -/
def k6 : Class := { plain "byte" none with kind := .primitive 'B', accessFlags := 0x411 }
/-- [B -/
def k7 : Class := { plain "[B" (some 0) with kind := .array 6 .byte, interfaces := #[4, 5], accessFlags := 1041 }

/-- the primitive int -/
def k8 : Class := { plain "int" none with kind := .primitive 'I', accessFlags := 0x411 }
/-- [I -/
def k9 : Class := { plain "[I" (some 0) with kind := .array 8 .int, interfaces := #[4, 5], accessFlags := 1041 }

def heap : Heap := #[]
def classes : Array Class := #[k0, k1, k2, k3, k4, k5, k6, k7, k8, k9]
def interned : List (Array UInt16 × Addr) := []
def slotsUsed : Nat := 0
def theMethod : MethodId := ⟨1, 1⟩
def args0 : Array Value := #[.int 5, .int 6, .int 7]
def aboutOver (below : List Frame) : State where
  vm := { classes := classes, interned := interned.toArray }
  heap := heap
  slotsUsed := slotsUsed
  threads := #[{ frames := .invoking theMethod args0 :: below }]
def below0 : List Frame := [.native { method := ⟨0, 0⟩, args := #[] }]
def about1 : State := aboutOver below0
def p0 : Program := .bare "" "" ""
def e0 : Env := launch0.env 0 0 0
theorem w_frames : about1.frames = Frame.invoking theMethod args0 :: below0 := rfl
set_option maxRecDepth 65536 in
theorem w_args : argsFit about1.vm theMethod args0 = true := by decide +kernel
set_option maxRecDepth 65536 in
theorem w_heap : heapFits about1 = true := by decide +kernel
set_option maxRecDepth 65536 in
theorem w_runnable : about1.curStatus? = some .runnable := by decide +kernel
set_option maxRecDepth 65536 in
theorem w_alone : about1.alone = true := by decide +kernel
set_option maxRecDepth 65536 in
theorem w_named : about1.methodNamed? x = some theMethod := by decide +kernel
set_option maxRecDepth 65536 in
theorem w_hears : about1.hears theMethod below0 = true := by decide +kernel
set_option maxRecDepth 65536 in
theorem w_ripe : about1.ripe theMethod args0 below0 = true := by decide +kernel
theorem w_running : about1.status = .running := rfl
set_option maxRecDepth 65536 in
theorem w_room : about1.hasRoom e0.platform room_1 = true :=
  launch0.hasRoom_least _ room_1 (by decide +kernel) (by decide +kernel) (by decide +kernel) (by decide +kernel) (by decide +kernel) (by decide +kernel)
theorem allAtoms_all (ts : List Jvm.Cond) (a : Array Jvm.Value) (st : Jvm.State) : (allAtoms ts).before a st = ts.all (fun c => c.before a st) := by
  induction ts with
  | nil => rfl
  | cons c t ih =>
    show (Jvm.Cond.and c (allAtoms t)).before a st = _
    rw [Jvm.Cond.before_and, ih, List.all_cons]
def words1 : List Jvm.Cond := Jvm.Cond.code x code maxLocals ret :: tables_1
/-- a 'code' word, met by the world's own term for the bytes: nothing is compared byte by byte -/
theorem code_word {y : MethodName} {bytes : ByteArray} {mx : Nat} {rt : Option FieldType} {a : Array Value} {s : State} {m : MethodId} {meth : Method} {c : Code} (h1 : s.methodNamed? y = some m) (h2 : s.vm.method? m = some meth) (h3 : meth.code = some c) (h4 : c.code = bytes)
    (h5 : (c.maxLocals == mx && c.exceptionTable.isEmpty && decide (c.maxStack ≤ mostOperands) && decide (meth.sig.returnType = rt) && !meth.locks && decide (parseMethodDescriptor y.desc = some meth.sig)) = true) : (Jvm.Cond.code y bytes mx rt).before a s = true := by
  simp only [Bool.and_eq_true, beq_iff_eq, Bool.not_eq_true', decide_eq_true_eq] at h5
  obtain ⟨⟨⟨⟨⟨g1, g2⟩, g3⟩, g4⟩, g5⟩, g6⟩ := h5
  simp [Cond.before, Cond.holds, Cond.value, h1, h2, h3, h4, g1, g2, g3, g4, g5, g6]
def isCode : Jvm.Cond → Bool
  | .code _ _ _ _ => true
  | _ => false
theorem all_split {L : List Jvm.Cond} {P : Jvm.Cond → Bool} (h1 : L.all (fun c => isCode c || P c) = true) (h2 : ∀ c ∈ L.filter isCode, P c = true) : L.all P = true := by
  refine List.all_eq_true.mpr fun c hc => ?_
  have h := List.all_eq_true.mp h1 c hc
  rcases Bool.eq_false_or_eq_true (isCode c) with hi | hi
  · exact h2 c (List.mem_filter.mpr ⟨hc, hi⟩)
  · simpa [hi] using h
set_option maxRecDepth 65536 in
theorem w_c0 : (Jvm.Cond.code x code maxLocals ret).before args0 about1 = true := code_word (m := ⟨1, 1⟩) (meth := k1m1) (c := k1c1) (by decide +kernel) rfl rfl rfl (by decide +kernel)
set_option maxRecDepth 65536 in
theorem w_c1 : (Jvm.Cond.code ({ cls := "com/example/casement/casement/compositor/Color", name := "<init>", desc := "(I)V" } : Jvm.MethodName) prog_7_method_1_code (2 : Nat) (Option.none : Option Jvm.ClassFile.FieldType)).before args0 about1 = true := code_word (m := ⟨3, 0⟩) (meth := k3m0) (c := k3c0) (by decide +kernel) rfl rfl rfl (by decide +kernel)
set_option maxRecDepth 65536 in
theorem w_c2 : (Jvm.Cond.code ({ cls := "java/lang/Record", name := "<init>", desc := "()V" } : Jvm.MethodName) jdk_30_method_1_code (1 : Nat) (Option.none : Option Jvm.ClassFile.FieldType)).before args0 about1 = true := code_word (m := ⟨2, 0⟩) (meth := k2m0) (c := k2c0) (by decide +kernel) rfl rfl rfl (by decide +kernel)
set_option maxRecDepth 65536 in
theorem w_c3 : (Jvm.Cond.code ({ cls := "java/lang/Object", name := "<init>", desc := "()V" } : Jvm.MethodName) object_method_1_code (1 : Nat) (Option.none : Option Jvm.ClassFile.FieldType)).before args0 about1 = true := code_word (m := ⟨0, 0⟩) (meth := k0m0) (c := k0c0) (by decide +kernel) rfl rfl rfl (by decide +kernel)
set_option maxRecDepth 65536 in
theorem w_c4 : (Jvm.Cond.code ({ cls := "com/example/casement/casement/compositor/Color", name := "green", desc := "()I" } : Jvm.MethodName) prog_7_method_4_code (1 : Nat) (Option.some Jvm.ClassFile.FieldType.int)).before args0 about1 = true := code_word (m := ⟨3, 1⟩) (meth := k3m1) (c := k3c1) (by decide +kernel) rfl rfl rfl (by decide +kernel)
def codes1 : List Jvm.Cond := [Jvm.Cond.code x code maxLocals ret, Jvm.Cond.code ({ cls := "com/example/casement/casement/compositor/Color", name := "<init>", desc := "(I)V" } : Jvm.MethodName) prog_7_method_1_code (2 : Nat) (Option.none : Option Jvm.ClassFile.FieldType), Jvm.Cond.code ({ cls := "java/lang/Record", name := "<init>", desc := "()V" } : Jvm.MethodName) jdk_30_method_1_code (1 : Nat) (Option.none : Option Jvm.ClassFile.FieldType), Jvm.Cond.code ({ cls := "java/lang/Object", name := "<init>", desc := "()V" } : Jvm.MethodName) object_method_1_code (1 : Nat) (Option.none : Option Jvm.ClassFile.FieldType), Jvm.Cond.code ({ cls := "com/example/casement/casement/compositor/Color", name := "green", desc := "()I" } : Jvm.MethodName) prog_7_method_4_code (1 : Nat) (Option.some Jvm.ClassFile.FieldType.int)]
set_option maxRecDepth 65536 in
theorem codes_eq : words1.filter isCode = codes1 := rfl
theorem w_codes : ∀ c ∈ words1.filter isCode, c.before args0 about1 = true := by
  rw [codes_eq]
  intro c hc
  simp only [codes1, List.mem_cons, List.not_mem_nil, or_false] at hc
  rcases hc with rfl | rfl | rfl | rfl | rfl
  · exact w_c0
  · exact w_c1
  · exact w_c2
  · exact w_c3
  · exact w_c4
set_option maxRecDepth 65536 in
theorem w_t1 : words1.all (fun c => isCode c || c.before args0 about1) = true := by decide +kernel
theorem w_tables : (allAtoms (Jvm.Cond.code x code maxLocals ret :: tables_1)).before args0 about1 = true := by
  rw [allAtoms_all]
  show words1.all (fun c => c.before args0 about1) = true
  refine all_split ?_ w_codes
  rw [w_t1]
set_option maxRecDepth 65536 in
theorem w_case : (Jvm.Cond.and given_1 narrow_1).before args0 about1 = true := by decide +kernel
theorem w_applies : (headSpec (Jvm.Cond.code x code maxLocals ret :: tables_1) room_1).applies x e0.platform about1 = true :=
  (Spec.applies_iff w_frames).mpr ⟨w_running, w_runnable, w_alone, w_named, w_hears, w_ripe, w_room, w_tables⟩
theorem atStart : AtStart classFile x code maxLocals ret World_1 tables_1 room_1 Calls_1 rest_1 Pre_1 launch0 p0 e0 about1 theMethod args0 below0 :=
  ⟨lists_1, trivial, launch0.admits_env _ _ _, launch0.least_env, fairChoices_fair.cas, fairChoices_fair.clock, w_frames, w_args, w_heap, w_applies, trivial, trivial, w_case⟩
end start1
theorem witness_1 : WitnessClaimed_1 := ⟨start1.p0, start1.e0, start1.about1, start1.theMethod, start1.args0, start1.below0, start1.atStart⟩
end Jvm.Pilot.@@N@@
