import JvmDerived
import JvmDerived.Pilot.@@N@@Statement
import JvmDerived.Pilot.@@N@@Code
set_option linter.unusedVariables false
set_option linter.unusedSimpArgs false
namespace Jvm.Pilot.@@N@@
open Jvm Jvm.ClassFile Sem Op Lib Jvm.Free Jvm.Stand Jvm.LawKit Jvm.RoadKit Bundle Jvm.Pilot.@@N@@.Jvm.D
section OwnKit
variable {p : Program} {l : Launch} {e : Env} {R : Room} {s : State} {m : MethodId} {args : Array Value} {below : List Frame} {meth : Method} {c : Code} {T : State} {locs : List Loc} {cells slots : Nat} {Z : State} {h : Heap} {a : Addr} {k : ClassId} {z : Int32} {vs : List Value} {dv : Value}
theorem oLen (X : Stand p l e R s m args below meth c T locs cells slots) (hx : p.tables.exec = Jvm.exec) (hZ : Z.Warmed39 s.vm) (eT : T.heap = h) {ty : FieldType} (F : Arv Z h a k ty z vs dv) {g : JFrame} (hg : g.method = m) {rest : List Value} (hs : g.stack = .ref a :: rest) (hd : decode c.code g.pc = .ok (.arraylength, 1)) (target : State)
    (hr : Steps p.tables e below (T.setTop { g with pc := g.pc + 1, stack := .int z :: rest }) target) : Steps p.tables e below (T.setTop g) target := by
  obtain ⟨cl, A, -, S, M, -, -⟩ := F
  refine X.arraylength hx (by rw [eT]; exact A.1) (State.isArrayOf_alike hZ.alike A.2.1) hg hs hd target ?_
  rw [len_of S M]
  exact hr
theorem oLdI (X : Stand p l e R s m args below meth c T locs cells slots) (hx : p.tables.exec = Jvm.exec) (hZ : Z.Warmed39 s.vm) (eT : T.heap = h) (F : Arv Z h a k .int z vs dv) {j : Int32} {v : Value} (hj : ¬ j < 0 ∧ j < z) (hv : vs.getD j.toNatClampNeg dv = v) {g : JFrame} (hg : g.method = m) {rest : List Value} (hs : g.stack = .int j :: .ref a :: rest) (hd : decode c.code g.pc = .ok (.iaload, 1)) (target : State)
    (hr : Steps p.tables e below (T.setTop { g with pc := g.pc + 1, stack := v :: rest }) target) : Steps p.tables e below (T.setTop g) target := by
  obtain ⟨cl, A, -, S, -, H, -⟩ := F
  have hin := inb_of S hj
  exact X.iaload hx (by rw [eT]; exact A.1) (State.isArrayOf_alike hZ.alike A.2.1) A.2.2 hin (Has.at H hin hv) hg hs hd target hr
theorem oLdB (X : Stand p l e R s m args below meth c T locs cells slots) (hx : p.tables.exec = Jvm.exec) (hZ : Z.Warmed39 s.vm) (eT : T.heap = h) (F : Arv Z h a k .byte z vs dv) {j : Int32} {v : Value} (hj : ¬ j < 0 ∧ j < z) (hv : vs.getD j.toNatClampNeg dv = v) {g : JFrame} (hg : g.method = m) {rest : List Value} (hs : g.stack = .int j :: .ref a :: rest) (hd : decode c.code g.pc = .ok (.baload, 1)) (target : State)
    (hr : Steps p.tables e below (T.setTop { g with pc := g.pc + 1, stack := v :: rest }) target) : Steps p.tables e below (T.setTop g) target := by
  obtain ⟨cl, A, -, S, -, H, -⟩ := F
  have hin := inb_of S hj
  exact X.baloadBytes hx (by rw [eT]; exact A.1) (State.isArrayOf_alike hZ.alike A.2.1) A.2.2 hin (Has.at H hin hv) hg hs hd target hr
theorem oLdJ (X : Stand p l e R s m args below meth c T locs cells slots) (hx : p.tables.exec = Jvm.exec) (hZ : Z.Warmed39 s.vm) (eT : T.heap = h) (F : Arv Z h a k .long z vs dv) {j : Int32} {v : Value} (hj : ¬ j < 0 ∧ j < z) (hv : vs.getD j.toNatClampNeg dv = v) {g : JFrame} (hg : g.method = m) {rest : List Value} (hs : g.stack = .int j :: .ref a :: rest) (hd : decode c.code g.pc = .ok (.laload, 1)) (target : State)
    (hr : Steps p.tables e below (T.setTop { g with pc := g.pc + 1, stack := v :: rest }) target) : Steps p.tables e below (T.setTop g) target := by
  obtain ⟨cl, A, -, S, -, H, -⟩ := F
  have hin := inb_of S hj
  exact X.laload hx (by rw [eT]; exact A.1) (State.isArrayOf_alike hZ.alike A.2.1) A.2.2 hin (Has.at H hin hv) hg hs hd target hr
theorem oLdD (X : Stand p l e R s m args below meth c T locs cells slots) (hx : p.tables.exec = Jvm.exec) (hZ : Z.Warmed39 s.vm) (eT : T.heap = h) (F : Arv Z h a k .double z vs dv) {j : Int32} {v : Value} (hj : ¬ j < 0 ∧ j < z) (hv : vs.getD j.toNatClampNeg dv = v) {g : JFrame} (hg : g.method = m) {rest : List Value} (hs : g.stack = .int j :: .ref a :: rest) (hd : decode c.code g.pc = .ok (.daload, 1)) (target : State)
    (hr : Steps p.tables e below (T.setTop { g with pc := g.pc + 1, stack := v :: rest }) target) : Steps p.tables e below (T.setTop g) target := by
  obtain ⟨cl, A, -, S, -, H, -⟩ := F
  have hin := inb_of S hj
  exact X.daload hx (by rw [eT]; exact A.1) (State.isArrayOf_alike hZ.alike A.2.1) A.2.2 hin (Has.at H hin hv) hg hs hd target hr
theorem oStI (X : Stand p l e R s m args below meth c T locs cells slots) (hx : p.tables.exec = Jvm.exec) (hZ : Z.Warmed39 s.vm) (eT : T.heap = h) (F : Arv Z h a k .int z vs dv) {j : Int32} {x : Int32} (hj : ¬ j < 0 ∧ j < z) (i : Nat) (hi : j.toNatClampNeg = i) (hl : i < vs.length) {g : JFrame} (hg : g.method = m) {rest : List Value} (hs : g.stack = .int x :: .int j :: .ref a :: rest) (hd : decode c.code g.pc = .ok (.iastore, 1)) :
    ∃ T' h', Stand p l e R s m args below meth c T' (locs ++ [⟨a, j.toNatClampNeg⟩]) cells slots ∧ T'.heap = h' ∧ Wr h h' a j.toNatClampNeg (.int x) ∧ Arv Z h' a k .int z (vs.set i (.int x)) dv ∧ ∀ target, Steps p.tables e below (T'.setTop { g with pc := g.pc + 1, stack := rest }) target → Steps p.tables e below (T.setTop g) target := by
  obtain ⟨cl, A, q1, S, M, H, G⟩ := F
  obtain ⟨T', h', X', e', W, st⟩ := stI X hx hZ eT A (j := j) (inb_of S hj) hg hs hd
  exact ⟨T', h', X', e', W, Arv.set A q1 S M H G rfl W i hi hl, st⟩
theorem oStB (X : Stand p l e R s m args below meth c T locs cells slots) (hx : p.tables.exec = Jvm.exec) (hZ : Z.Warmed39 s.vm) (eT : T.heap = h) (F : Arv Z h a k .byte z vs dv) {j : Int32} {x : Int32} (hj : ¬ j < 0 ∧ j < z) (i : Nat) (hi : j.toNatClampNeg = i) (hl : i < vs.length) {g : JFrame} (hg : g.method = m) {rest : List Value} (hs : g.stack = .int x :: .int j :: .ref a :: rest) (hd : decode c.code g.pc = .ok (.bastore, 1)) :
    ∃ T' h', Stand p l e R s m args below meth c T' (locs ++ [⟨a, j.toNatClampNeg⟩]) cells slots ∧ T'.heap = h' ∧ Wr h h' a j.toNatClampNeg (.int (nar .byte x)) ∧ Arv Z h' a k .byte z (vs.set i (.int (nar .byte x))) dv ∧ ∀ target, Steps p.tables e below (T'.setTop { g with pc := g.pc + 1, stack := rest }) target → Steps p.tables e below (T.setTop g) target := by
  obtain ⟨cl, A, q1, S, M, H, G⟩ := F
  obtain ⟨T', h', X', e', W, st⟩ := stB X hx hZ eT A (j := j) (inb_of S hj) hg hs hd
  exact ⟨T', h', X', e', W, Arv.set A q1 S M H G (fits_nar_byte x) W i hi hl, st⟩
theorem oStJ (X : Stand p l e R s m args below meth c T locs cells slots) (hx : p.tables.exec = Jvm.exec) (hZ : Z.Warmed39 s.vm) (eT : T.heap = h) (F : Arv Z h a k .long z vs dv) {j : Int32} {x : Int64} (hj : ¬ j < 0 ∧ j < z) (i : Nat) (hi : j.toNatClampNeg = i) (hl : i < vs.length) {g : JFrame} (hg : g.method = m) {rest : List Value} (hs : g.stack = .long x :: .int j :: .ref a :: rest) (hd : decode c.code g.pc = .ok (.lastore, 1)) :
    ∃ T' h', Stand p l e R s m args below meth c T' (locs ++ [⟨a, j.toNatClampNeg⟩]) cells slots ∧ T'.heap = h' ∧ Wr h h' a j.toNatClampNeg (.long x) ∧ Arv Z h' a k .long z (vs.set i (.long x)) dv ∧ ∀ target, Steps p.tables e below (T'.setTop { g with pc := g.pc + 1, stack := rest }) target → Steps p.tables e below (T.setTop g) target := by
  obtain ⟨cl, A, q1, S, M, H, G⟩ := F
  obtain ⟨T', h', X', e', W, st⟩ := stJ X hx hZ eT A (j := j) (inb_of S hj) hg hs hd
  exact ⟨T', h', X', e', W, Arv.set A q1 S M H G rfl W i hi hl, st⟩
theorem oStD (X : Stand p l e R s m args below meth c T locs cells slots) (hx : p.tables.exec = Jvm.exec) (hZ : Z.Warmed39 s.vm) (eT : T.heap = h) (F : Arv Z h a k .double z vs dv) {j : Int32} {x : UInt64} (hj : ¬ j < 0 ∧ j < z) (i : Nat) (hi : j.toNatClampNeg = i) (hl : i < vs.length) {g : JFrame} (hg : g.method = m) {rest : List Value} (hs : g.stack = .double x :: .int j :: .ref a :: rest) (hd : decode c.code g.pc = .ok (.dastore, 1)) :
    ∃ T' h', Stand p l e R s m args below meth c T' (locs ++ [⟨a, j.toNatClampNeg⟩]) cells slots ∧ T'.heap = h' ∧ Wr h h' a j.toNatClampNeg (.double x) ∧ Arv Z h' a k .double z (vs.set i (.double x)) dv ∧ ∀ target, Steps p.tables e below (T'.setTop { g with pc := g.pc + 1, stack := rest }) target → Steps p.tables e below (T.setTop g) target := by
  obtain ⟨cl, A, q1, S, M, H, G⟩ := F
  obtain ⟨T', h', X', e', W, st⟩ := stD X hx hZ eT A (j := j) (inb_of S hj) hg hs hd
  exact ⟨T', h', X', e', W, Arv.set A q1 S M H G rfl W i hi hl, st⟩
end OwnKit
abbrev oi (x : Int32) : Slot := .val (.int x)
abbrev oj (x : Int64) : Slot := .val (.long x)
abbrev oa (x : Addr) : Slot := .val (.ref x)
abbrev od (x : UInt64) : Slot := .val (.double x)
abbrev oS (p : Program) (e : Env) (below : List Frame) (T : State) (m : MethodId) (pc : Nat) (L : Array Slot) (S : List Value) (t : State) : Prop := Steps p.tables e below (T.setTop (mkF m pc L S)) t
theorem own_ltp (x k : Int32) : (x < k) = (x.toInt < k.toInt) := propext Int32.lt_iff_toInt_lt
theorem own_eqp (x k : Int32) : (x = k) = (x.toInt = k.toInt) := propext Int32.toInt_inj.symm
theorem own_ltpL (x k : Int64) : (x < k) = (x.toInt < k.toInt) := propext Int64.lt_iff_toInt_lt
theorem own_eqpL (x k : Int64) : (x = k) = (x.toInt = k.toInt) := propext Int64.toInt_inj.symm
theorem own_of_range {P : Int32 → Prop} (n : Nat) (h : ∀ i : Fin n, P (Int32.ofNat i.1)) (x : Int32) (h0 : 0 ≤ x.toInt) (h1 : x.toInt < (n : Int)) : P x := by
  have e : Int32.ofNat x.toInt.toNat = x := by
    rw [← Int32.ofInt_eq_ofNat, Int.toNat_of_nonneg h0, Int32.ofInt_toInt]
  have q := h ⟨x.toInt.toNat, by omega⟩
  rwa [e] at q
theorem own_getD (ws : List Int32) (n : Nat) : (ws.map Value.int).getD n (.int (0 : Int32)) = .int (ws.getD n 0) := by
  simp only [List.getD_eq_getElem?_getD, List.getElem?_map]
  cases ws[n]? <;> rfl

theorem own_pn0 : plainName "java/lang/Record" = true := by first | (simp [plainName, overriddenIn]; done) | decide +kernel
theorem own_d2_0 : decode jdk_30_method_1_code 0 = .ok (.aload_n 0, 1) := by decide +kernel
theorem own_d2_1 : decode jdk_30_method_1_code 1 = .ok (.invokespecial 1, 3) := by decide +kernel
theorem own_d2_4 : decode jdk_30_method_1_code 4 = .ok (.return_, 1) := by decide +kernel
theorem own_ef2 (m : MethodId) (a0 : Addr) : entryFrame m #[(.ref a0)] 1 = mkF m 0 #[oa a0] [] := by first | (simp [entryFrame, mkF, argsToLocals, Value.category]; done) | rfl
def own_Q2 (Z : State) (a0 : Addr) (h0 : Heap) (n0 : Nat) (v : Option Value) (h : Heap) (L : List Loc) : Prop := v = none ∧ Fr n0 L ∧ h = h0
set_option maxRecDepth 65536 in
set_option maxHeartbeats 40000000 in
theorem own_rm2 (l : Launch) (Z : State) (av : Array Value) (hw : ∀ d ∈ tables_1, d.before av Z = true) (ws : List Jvm.Cond) (a0 : Addr) (h0 : Heap) (n0 : Nat) (Z0 : n0 ≤ h0.size) :
    MetFree l (⟨"java/lang/Record", "<init>", "()V"⟩ : MethodName) (head1 (Jvm.Cond.code (⟨"java/lang/Record", "<init>", "()V"⟩ : MethodName) jdk_30_method_1_code 1 none :: ws) ({ frames := 1, cells := 0, slots := 0, locals := 12 } : Room)) (fun a U => a = #[(.ref a0)] ∧ Z.Warmed39 U.vm ∧ U.heap = h0) (fun _ _ _ _ _ => True) (fun _ U o U' => ∃ v L, o = .returned v ∧ own_Q2 Z a0 h0 n0 v U'.heap L ∧ FrameEnd U o U' L ({ frames := 1, cells := 0, slots := 0, locals := 12 } : Room).cells ({ frames := 1, cells := 0, slots := 0, locals := 12 } : Room).slots) := by
  refine MetFree.of_bodySF (plainFor_of_name own_pn0) hisR ?_
  intro p e s m args below meth c s₁ Bd hml0 hP hK
  obtain ⟨rfl, hZ, hh⟩ := hP
  have hx := Bd.exec
  have hby := Bd.bytes
  have hml : c.maxLocals = 1 := hml0
  have hown : s.vm.findClass "java/lang/Record" = some m.cls := findClass_of_methodNamed Bd.named
  have hnm := (name_of_methodNamed Bd.named Bd.method).1
  have X0 : Stand p l e ({ frames := 1, cells := 0, slots := 0, locals := 12 } : Room) s m #[(.ref a0)] below meth c s₁ [] 0 0 := Stand.of_body Bd
  have e0 : s₁.heap = h0 := by rw [← hh, Bd.state]; rfl
  have N0 := Fr.nil n0
  have pre0 : ∀ t, Steps p.tables e below (s₁.setTop (mkF m 0 #[oa a0] [])) t → Steps p.tables e below (s₁.setTop (entryFrame m #[(.ref a0)] 1)) t := fun t k => castTop (own_ef2 m a0) k
  obtain ⟨T1, X1, e1, st1⟩ := initO X0 hx hZ hown (hw _ (List.mem_of_getElem? (i := 12) rfl)) (hw _ (List.mem_of_getElem? (i := 13) rfl)) (hw _ (List.mem_of_getElem? (i := 14) rfl)) e0 (g := (mkF m 1 #[oa a0] [(.ref a0)])) rfl (by rw [hml]; rfl) rfl (hb hby own_d2_1) (by decide) (W := 0) (by show 2 * 0 + _ ≤ _; exact Nat.le_of_eq rfl) (by decide)
  obtain ⟨fs, hr, hrun, hended, hW, hsame⟩ := X1.leave (v := none) (fun _ => rfl)
  refine ⟨_, _, pre0 _ ?_, hrun, hended, _, _, rfl, ?_, ⟨_, rfl⟩, hW, hsame.mono (by decide) (by decide)⟩
  · show oS p e below s₁ m 0 #[oa a0] [] _
    refine XS.aloadN X0.here hx rfl (hb hby own_d2_0) rfl rfl ?_
    show oS p e below s₁ m 1 #[oa a0] [(.ref a0)] _
    refine st1 _ ?_
    show oS p e below T1 m 4 #[oa a0] [] _
    exact X1.returnOut hx Bd.returns (hb hby own_d2_4) hr
  · show own_Q2 Z a0 h0 n0 _ T1.heap _
    rw [e1]
    exact ⟨rfl, N0, rfl⟩
theorem own_pd0 : parseMethodDescriptor "()V" = some ⟨[], none⟩ := by decide +kernel
theorem own_pn1 : plainName "com/example/spanwood/spanwood/repair/Check$Summary" = true := by first | (simp [plainName, overriddenIn]; done) | decide +kernel
theorem own_d1_0 : decode prog_28_method_1_code 0 = .ok (.aload_n 0, 1) := by decide +kernel
theorem own_d1_1 : decode prog_28_method_1_code 1 = .ok (.invokespecial 1, 3) := by decide +kernel
theorem own_d1_4 : decode prog_28_method_1_code 4 = .ok (.aload_n 0, 1) := by decide +kernel
theorem own_d1_5 : decode prog_28_method_1_code 5 = .ok (.lload_n 1, 1) := by decide +kernel
theorem own_d1_6 : decode prog_28_method_1_code 6 = .ok (.putfield 7, 3) := by decide +kernel
theorem own_d1_9 : decode prog_28_method_1_code 9 = .ok (.aload_n 0, 1) := by decide +kernel
theorem own_d1_10 : decode prog_28_method_1_code 10 = .ok (.lload_n 3, 1) := by decide +kernel
theorem own_d1_11 : decode prog_28_method_1_code 11 = .ok (.putfield 13, 3) := by decide +kernel
theorem own_d1_14 : decode prog_28_method_1_code 14 = .ok (.aload_n 0, 1) := by decide +kernel
theorem own_d1_15 : decode prog_28_method_1_code 15 = .ok (.lload 5, 2) := by decide +kernel
theorem own_d1_17 : decode prog_28_method_1_code 17 = .ok (.putfield 16, 3) := by decide +kernel
theorem own_d1_20 : decode prog_28_method_1_code 20 = .ok (.return_, 1) := by decide +kernel
theorem own_ef1 (m : MethodId) (a0 : Addr) (q1 : Int64) (q2 : Int64) (q3 : Int64) : entryFrame m #[(.ref a0), (.long q1), (.long q2), (.long q3)] 7 = mkF m 0 #[oa a0, oj q1, .second, oj q2, .second, oj q3, .second] [] := by first | (simp [entryFrame, mkF, argsToLocals, Value.category]; done) | rfl
def own_Q1 (Z : State) (a0 : Addr) (q1 : Int64) (q2 : Int64) (q3 : Int64) (h0 : Heap) (n0 : Nat) (v : Option Value) (h : Heap) (L : List Loc) : Prop := v = none ∧ Fr n0 L ∧ Keep h0 h [a0] ∧ Exa Z h a0 "com/example/spanwood/spanwood/repair/Check$Summary" ∧ Fld Z h a0 "com/example/spanwood/spanwood/repair/Check$Summary" "violations" "J" (.long q3)
set_option maxRecDepth 65536 in
set_option maxHeartbeats 40000000 in
theorem own_rm1 (l : Launch) (Z : State) (av : Array Value) (hw : ∀ d ∈ tables_1, d.before av Z = true) (ws : List Jvm.Cond) (a0 : Addr) (q1 : Int64) (q2 : Int64) (q3 : Int64) (h0 : Heap) (n0 : Nat) (Z0 : n0 ≤ h0.size) (E_a0 : Exa Z h0 a0 "com/example/spanwood/spanwood/repair/Check$Summary") (F_trees_a0 : Fld Z h0 a0 "com/example/spanwood/spanwood/repair/Check$Summary" "trees" "J" (.long (0 : Int64))) (F_nodes_a0 : Fld Z h0 a0 "com/example/spanwood/spanwood/repair/Check$Summary" "nodes" "J" (.long (0 : Int64))) (F_violations_a0 : Fld Z h0 a0 "com/example/spanwood/spanwood/repair/Check$Summary" "violations" "J" (.long (0 : Int64))) (g_a0 : n0 ≤ a0) :
    MetFree l (⟨"com/example/spanwood/spanwood/repair/Check$Summary", "<init>", "(JJJ)V"⟩ : MethodName) (head1 (Jvm.Cond.code (⟨"com/example/spanwood/spanwood/repair/Check$Summary", "<init>", "(JJJ)V"⟩ : MethodName) prog_28_method_1_code 7 none :: ws) ({ frames := 2, cells := 0, slots := 0, locals := 24 } : Room)) (fun a U => a = #[(.ref a0), (.long q1), (.long q2), (.long q3)] ∧ Z.Warmed39 U.vm ∧ U.heap = h0) (fun _ _ _ _ _ => True) (fun _ U o U' => ∃ v L, o = .returned v ∧ own_Q1 Z a0 q1 q2 q3 h0 n0 v U'.heap L ∧ FrameEnd U o U' L ({ frames := 2, cells := 0, slots := 0, locals := 24 } : Room).cells ({ frames := 2, cells := 0, slots := 0, locals := 24 } : Room).slots) := by
  refine MetFree.of_bodySF (plainFor_of_name own_pn1) hisR ?_
  intro p e s m args below meth c s₁ Bd hml0 hP hK
  obtain ⟨rfl, hZ, hh⟩ := hP
  have hx := Bd.exec
  have hby := Bd.bytes
  have hml : c.maxLocals = 7 := hml0
  have hown : s.vm.findClass "com/example/spanwood/spanwood/repair/Check$Summary" = some m.cls := findClass_of_methodNamed Bd.named
  have hnm := (name_of_methodNamed Bd.named Bd.method).1
  have X0 : Stand p l e ({ frames := 2, cells := 0, slots := 0, locals := 24 } : Room) s m #[(.ref a0), (.long q1), (.long q2), (.long q3)] below meth c s₁ [] 0 0 := Stand.of_body Bd
  have e0 : s₁.heap = h0 := by rw [← hh, Bd.state]; rfl
  have N0 := Fr.nil n0
  have pre0 : ∀ t, Steps p.tables e below (s₁.setTop (mkF m 0 #[oa a0, oj q1, .second, oj q2, .second, oj q3, .second] [])) t → Steps p.tables e below (s₁.setTop (entryFrame m #[(.ref a0), (.long q1), (.long q2), (.long q3)] 7)) t := fun t k => castTop (own_ef1 m a0 q1 q2 q3) k
  obtain ⟨_, _, ⟨T1, L1, k1, n1⟩, -, X1, ⟨Lc1, hQ1, l1, y1, z1⟩, st1⟩ := X0.specialBack hx (y := (⟨"java/lang/Record", "<init>", "()V"⟩ : MethodName)) rfl hown (mvT hZ (hw _ (List.mem_of_getElem? (i := 7) rfl))) (mvT hZ (hw _ (List.mem_of_getElem? (i := 8) rfl))) (mvT hZ (hw _ (List.mem_of_getElem? (i := 11) rfl))) (by decide) (backOf (W := 0) (own_rm2 l Z av hw [] a0 h0 n0 Z0 ) hZ (hw _ (List.mem_of_getElem? (i := 11) rfl)) (hw _ (List.mem_of_getElem? (i := 10) rfl)) (by decide) (by decide)) (g := (mkF m 1 #[oa a0, oj q1, .second, oj q2, .second, oj q3, .second] [(.ref a0)])) rfl (by rw [hml]; rfl) (Steps.refl _) (a := a0) (argsL := []) (rest := []) (lenOf own_pd0 rfl) rfl (by show 2 * 0 + _ ≤ _; exact Nat.le_of_eq rfl) (hb hby own_d1_1) (fun _ _ => ⟨rfl, e0, (by decide : 0 + 0 ≤ _), (by decide : 0 + 0 ≤ _)⟩)
  dsimp only [Pt.U, Pt.locs, Pt.cells, Pt.slots] at X1 l1 y1 z1 st1 hQ1
  subst l1 y1 z1
  obtain ⟨rfl, Nq1, eq1⟩ := hQ1
  have N1 := Fr.app N0 Nq1
  obtain ⟨T2, h2, X2, e2, W2, st2⟩ := putF X1 hx hZ hown (host := "") (Or.inl (hw _ (List.mem_of_getElem? (i := 15) rfl))) Via.refl eq1 F_trees_a0 E_a0 (Or.inr ⟨(hw _ (List.mem_of_getElem? (i := 16) rfl)), rfl, hnm⟩) (hw _ (List.mem_of_getElem? (i := 2) rfl)) (ty := .long) (by decide) rfl rfl (g := (mkF m 6 #[oa a0, oj q1, .second, oj q2, .second, oj q3, .second] [(.long q1), (.ref a0)])) rfl rfl (hb hby own_d1_6)
  have N2 := Fr.snoc X2 N1 g_a0
  have Z2 : n0 ≤ h2.size := Nat.le_trans Z0 (Keep.of_wr W2).1
  have F3 := E_a0.wr W2
  have F4 := F_nodes_a0.other W2 (Or.inr (slot_ne (Or.inr (hw _ (List.mem_of_getElem? (i := 18) rfl))) (Or.inr (hw _ (List.mem_of_getElem? (i := 16) rfl))) (by decide) (t := .long) (t' := .long) (by decide) (by decide)))
  have F5 := F_violations_a0.other W2 (Or.inr (slot_ne (Or.inr (hw _ (List.mem_of_getElem? (i := 20) rfl))) (Or.inr (hw _ (List.mem_of_getElem? (i := 16) rfl))) (by decide) (t := .long) (t' := .long) (by decide) (by decide)))
  have F_6 : Fld Z h2 a0 "com/example/spanwood/spanwood/repair/Check$Summary" "trees" "J" (.long q1) := F_trees_a0.same W2
  have K_7 : Keep h0 h2 [a0] := (Keep.refl h0 [a0]).wr W2 (Or.inl (List.mem_of_getElem? (i := 0) rfl))
  obtain ⟨T8, h8, X8, e8, W8, st8⟩ := putF X2 hx hZ hown (host := "") (Or.inl (hw _ (List.mem_of_getElem? (i := 17) rfl))) Via.refl e2 F4 F3 (Or.inr ⟨(hw _ (List.mem_of_getElem? (i := 18) rfl)), rfl, hnm⟩) (hw _ (List.mem_of_getElem? (i := 2) rfl)) (ty := .long) (by decide) rfl rfl (g := (mkF m 11 #[oa a0, oj q1, .second, oj q2, .second, oj q3, .second] [(.long q2), (.ref a0)])) rfl rfl (hb hby own_d1_11)
  have N8 := Fr.snoc X8 N2 g_a0
  have Z8 : n0 ≤ h8.size := Nat.le_trans Z2 (Keep.of_wr W8).1
  have F9 := F3.wr W8
  have F10 := F_6.other W8 (Or.inr (slot_ne (Or.inr (hw _ (List.mem_of_getElem? (i := 16) rfl))) (Or.inr (hw _ (List.mem_of_getElem? (i := 18) rfl))) (by decide) (t := .long) (t' := .long) (by decide) (by decide)))
  have F11 := F5.other W8 (Or.inr (slot_ne (Or.inr (hw _ (List.mem_of_getElem? (i := 20) rfl))) (Or.inr (hw _ (List.mem_of_getElem? (i := 18) rfl))) (by decide) (t := .long) (t' := .long) (by decide) (by decide)))
  have F_12 : Fld Z h8 a0 "com/example/spanwood/spanwood/repair/Check$Summary" "nodes" "J" (.long q2) := F4.same W8
  have K_13 : Keep h0 h8 [a0] := K_7.wr W8 (Or.inl (List.mem_of_getElem? (i := 0) rfl))
  obtain ⟨T14, h14, X14, e14, W14, st14⟩ := putF X8 hx hZ hown (host := "") (Or.inl (hw _ (List.mem_of_getElem? (i := 19) rfl))) Via.refl e8 F11 F9 (Or.inr ⟨(hw _ (List.mem_of_getElem? (i := 20) rfl)), rfl, hnm⟩) (hw _ (List.mem_of_getElem? (i := 2) rfl)) (ty := .long) (by decide) rfl rfl (g := (mkF m 17 #[oa a0, oj q1, .second, oj q2, .second, oj q3, .second] [(.long q3), (.ref a0)])) rfl rfl (hb hby own_d1_17)
  have N14 := Fr.snoc X14 N8 g_a0
  have Z14 : n0 ≤ h14.size := Nat.le_trans Z8 (Keep.of_wr W14).1
  have F15 := F9.wr W14
  have F16 := F10.other W14 (Or.inr (slot_ne (Or.inr (hw _ (List.mem_of_getElem? (i := 16) rfl))) (Or.inr (hw _ (List.mem_of_getElem? (i := 20) rfl))) (by decide) (t := .long) (t' := .long) (by decide) (by decide)))
  have F17 := F_12.other W14 (Or.inr (slot_ne (Or.inr (hw _ (List.mem_of_getElem? (i := 18) rfl))) (Or.inr (hw _ (List.mem_of_getElem? (i := 20) rfl))) (by decide) (t := .long) (t' := .long) (by decide) (by decide)))
  have F_18 : Fld Z h14 a0 "com/example/spanwood/spanwood/repair/Check$Summary" "violations" "J" (.long q3) := F11.same W14
  have K_19 : Keep h0 h14 [a0] := K_13.wr W14 (Or.inl (List.mem_of_getElem? (i := 0) rfl))
  obtain ⟨fs, hr, hrun, hended, hW, hsame⟩ := X14.leave (v := none) (fun _ => rfl)
  refine ⟨_, _, pre0 _ ?_, hrun, hended, _, _, rfl, ?_, ⟨_, rfl⟩, hW, hsame.mono (by decide) (by decide)⟩
  · show oS p e below s₁ m 0 #[oa a0, oj q1, .second, oj q2, .second, oj q3, .second] [] _
    refine XS.aloadN X0.here hx rfl (hb hby own_d1_0) rfl rfl ?_
    show oS p e below s₁ m 1 #[oa a0, oj q1, .second, oj q2, .second, oj q3, .second] [(.ref a0)] _
    refine st1.trans ?_
    show oS p e below T1 m 4 #[oa a0, oj q1, .second, oj q2, .second, oj q3, .second] [] _
    refine XS.aloadN X1.here hx rfl (hb hby own_d1_4) rfl rfl ?_
    show oS p e below T1 m 5 #[oa a0, oj q1, .second, oj q2, .second, oj q3, .second] [(.ref a0)] _
    refine XS.lloadN X1.here hx rfl (hb hby own_d1_5) rfl ?_
    show oS p e below T1 m 6 #[oa a0, oj q1, .second, oj q2, .second, oj q3, .second] [(.long q1), (.ref a0)] _
    refine st2 _ ?_
    show oS p e below T2 m 9 #[oa a0, oj q1, .second, oj q2, .second, oj q3, .second] [] _
    refine XS.aloadN X2.here hx rfl (hb hby own_d1_9) rfl rfl ?_
    show oS p e below T2 m 10 #[oa a0, oj q1, .second, oj q2, .second, oj q3, .second] [(.ref a0)] _
    refine XS.lloadN X2.here hx rfl (hb hby own_d1_10) rfl ?_
    show oS p e below T2 m 11 #[oa a0, oj q1, .second, oj q2, .second, oj q3, .second] [(.long q2), (.ref a0)] _
    refine st8 _ ?_
    show oS p e below T8 m 14 #[oa a0, oj q1, .second, oj q2, .second, oj q3, .second] [] _
    refine XS.aloadN X8.here hx rfl (hb hby own_d1_14) rfl rfl ?_
    show oS p e below T8 m 15 #[oa a0, oj q1, .second, oj q2, .second, oj q3, .second] [(.ref a0)] _
    refine XS.lload X8.here hx rfl (hb hby own_d1_15) rfl ?_
    show oS p e below T8 m 17 #[oa a0, oj q1, .second, oj q2, .second, oj q3, .second] [(.long q3), (.ref a0)] _
    refine st14 _ ?_
    show oS p e below T14 m 20 #[oa a0, oj q1, .second, oj q2, .second, oj q3, .second] [] _
    exact X14.returnOut hx Bd.returns (hb hby own_d1_20) hr
  · show own_Q1 Z a0 q1 q2 q3 h0 n0 _ T14.heap _
    rw [e14]
    exact ⟨rfl, N14, K_19, F15, F_18⟩
theorem own_d4_0 : decode prog_28_method_2_code 0 = .ok (.aload_n 0, 1) := by decide +kernel
theorem own_d4_1 : decode prog_28_method_2_code 1 = .ok (.getfield 16, 3) := by decide +kernel
theorem own_d4_4 : decode prog_28_method_2_code 4 = .ok (.lconst 0, 1) := by decide +kernel
theorem own_d4_5 : decode prog_28_method_2_code 5 = .ok (.lcmp, 1) := by decide +kernel
theorem own_d4_6 : decode prog_28_method_2_code 6 = .ok (.ifCond .ne 7, 3) := by decide +kernel
theorem own_d4_9 : decode prog_28_method_2_code 9 = .ok (.iconst 1, 1) := by decide +kernel
theorem own_d4_10 : decode prog_28_method_2_code 10 = .ok (.goto 4, 3) := by decide +kernel
theorem own_d4_13 : decode prog_28_method_2_code 13 = .ok (.iconst 0, 1) := by decide +kernel
theorem own_d4_14 : decode prog_28_method_2_code 14 = .ok (.ireturn, 1) := by decide +kernel
theorem own_ef4 (m : MethodId) (a0 : Addr) : entryFrame m #[(.ref a0)] 1 = mkF m 0 #[oa a0] [] := by first | (simp [entryFrame, mkF, argsToLocals, Value.category]; done) | rfl
def own_f4 (w : Int64) : Int32 := (if w = (0 : Int64) then (1 : Int32) else (0 : Int32))
def own_Q4 (Z : State) (a0 : Addr) (w : Int64) (h0 : Heap) (n0 : Nat) (v : Option Value) (h : Heap) (L : List Loc) : Prop := v = some (Value.int (own_f4 w)) ∧ Fr n0 L ∧ h = h0
set_option maxRecDepth 65536 in
set_option maxHeartbeats 40000000 in
theorem own_rm4 (l : Launch) (Z : State) (av : Array Value) (hw : ∀ d ∈ tables_1, d.before av Z = true) (ws : List Jvm.Cond) (a0 : Addr) (w : Int64) (h0 : Heap) (n0 : Nat) (Z0 : n0 ≤ h0.size) (F_violations_a0 : Fld Z h0 a0 "com/example/spanwood/spanwood/repair/Check$Summary" "violations" "J" (.long w)) :
    MetFree l (⟨"com/example/spanwood/spanwood/repair/Check$Summary", "sound", "()Z"⟩ : MethodName) (head1 (Jvm.Cond.code (⟨"com/example/spanwood/spanwood/repair/Check$Summary", "sound", "()Z"⟩ : MethodName) prog_28_method_2_code 1 (some .boolean) :: ws) ({ frames := 0, cells := 0, slots := 0, locals := 0 } : Room)) (fun a U => a = #[(.ref a0)] ∧ Z.Warmed39 U.vm ∧ U.heap = h0) (fun _ _ _ _ _ => True) (fun _ U o U' => ∃ v L, o = .returned v ∧ own_Q4 Z a0 w h0 n0 v U'.heap L ∧ FrameEnd U o U' L ({ frames := 0, cells := 0, slots := 0, locals := 0 } : Room).cells ({ frames := 0, cells := 0, slots := 0, locals := 0 } : Room).slots) := by
  refine MetFree.of_bodySF (plainFor_of_name own_pn1) hisR ?_
  intro p e s m args below meth c s₁ Bd hml0 hP hK
  obtain ⟨rfl, hZ, hh⟩ := hP
  have hx := Bd.exec
  have hby := Bd.bytes
  have hml : c.maxLocals = 1 := hml0
  have hown : s.vm.findClass "com/example/spanwood/spanwood/repair/Check$Summary" = some m.cls := findClass_of_methodNamed Bd.named
  have hnm := (name_of_methodNamed Bd.named Bd.method).1
  have X0 : Stand p l e ({ frames := 0, cells := 0, slots := 0, locals := 0 } : Room) s m #[(.ref a0)] below meth c s₁ [] 0 0 := Stand.of_body Bd
  have e0 : s₁.heap = h0 := by rw [← hh, Bd.state]; rfl
  have N0 := Fr.nil n0
  have pre0 : ∀ t, Steps p.tables e below (s₁.setTop (mkF m 0 #[oa a0] [])) t → Steps p.tables e below (s₁.setTop (entryFrame m #[(.ref a0)] 1)) t := fun t k => castTop (own_ef4 m a0) k
  obtain ⟨T1, X1, e1, st1⟩ := getF X0 hx hZ hown (host := "") (Or.inl (hw _ (List.mem_of_getElem? (i := 19) rfl))) Via.refl e0 F_violations_a0 (g := (mkF m 1 #[oa a0] [(.ref a0)])) rfl rfl (hb hby own_d4_1)
  have pre2 : ∀ t, Steps p.tables e below (T1.setTop (mkF m 6 #[oa a0] [(.int (lcmpW w (0 : Int64)))])) t → Steps p.tables e below (s₁.setTop (entryFrame m #[(.ref a0)] 1)) t := by
    intro t k
    refine pre0 t ?_
    show oS p e below s₁ m 0 #[oa a0] [] _
    refine XS.aloadN X0.here hx rfl (hb hby own_d4_0) rfl rfl ?_
    show oS p e below s₁ m 1 #[oa a0] [(.ref a0)] _
    refine st1 _ ?_
    show oS p e below T1 m 4 #[oa a0] [(.long w)] _
    refine XS.lconst X1.here hx rfl (hb hby own_d4_4) ?_
    show oS p e below T1 m 5 #[oa a0] [(.long (0 : Int64)), (.long w)] _
    refine XS.lcmp X1.here hx rfl (hb hby own_d4_5) rfl ?_
    exact k
  by_cases c3 : w = (0 : Int64)
  · skip
    obtain ⟨fs, hr, hrun, hended, hW, hsame⟩ := X1.leave (v := (some (.int (1 : Int32)))) (fun h => by rw [Bd.returns] at h; cases h)
    refine ⟨_, _, pre2 _ ?_, hrun, hended, _, _, rfl, ?_, ⟨_, rfl⟩, hW, hsame.mono (by decide) (by decide)⟩
    · show oS p e below T1 m 6 #[oa a0] [(.int (lcmpW w (0 : Int64)))] _
      refine XS.ifNo X1.here hx rfl (hb hby own_d4_6) rfl ((if0 _ _).trans (teq ((lw_eq w (0 : Int64)).mpr c3)).2) ?_
      show oS p e below T1 m 9 #[oa a0] [] _
      refine XS.iconst X1.here hx rfl (hb hby own_d4_9) ?_
      show oS p e below T1 m 10 #[oa a0] [(.int (1 : Int32))] _
      refine XS.goto X1.here hx rfl (pc0 := 10) (pc' := 14) rfl (hb hby own_d4_10) (by decide) (by decide) ?_
      show oS p e below T1 m 14 #[oa a0] [(.int (1 : Int32))] _
      exact retN X1 hx (t := .boolean) Bd.returns (by simp) (hb hby own_d4_14) hr
    · show own_Q4 Z a0 w h0 n0 _ T1.heap _
      rw [e1]
      exact ⟨congrArg (fun z => some (Value.int z)) (by rw [own_f4, if_pos c3]), N0, rfl⟩
  · skip
    obtain ⟨fs, hr, hrun, hended, hW, hsame⟩ := X1.leave (v := (some (.int (0 : Int32)))) (fun h => by rw [Bd.returns] at h; cases h)
    refine ⟨_, _, pre2 _ ?_, hrun, hended, _, _, rfl, ?_, ⟨_, rfl⟩, hW, hsame.mono (by decide) (by decide)⟩
    · show oS p e below T1 m 6 #[oa a0] [(.int (lcmpW w (0 : Int64)))] _
      refine XS.ifYes X1.here hx rfl (pc0 := 6) (pc' := 13) rfl (hb hby own_d4_6) rfl ((if0 _ _).trans (feq (fun q => c3 ((lw_eq w (0 : Int64)).mp q))).2) (by decide) (by decide) ?_
      show oS p e below T1 m 13 #[oa a0] [] _
      refine XS.iconst X1.here hx rfl (hb hby own_d4_13) ?_
      show oS p e below T1 m 14 #[oa a0] [(.int (0 : Int32))] _
      exact retN X1 hx (t := .boolean) Bd.returns (by simp) (hb hby own_d4_14) hr
    · show own_Q4 Z a0 w h0 n0 _ T1.heap _
      rw [e1]
      exact ⟨congrArg (fun z => some (Value.int z)) (by rw [own_f4, if_neg c3]), N0, rfl⟩
theorem own_eq (v : Int64) : own_f4 v = (if (0 : Int64) < v then (0 : Int32) else (if v < (0 : Int64) then (0 : Int32) else (1 : Int32))) := by
  unfold own_f4
  simp only [own_ltpL, own_eqpL, Int64.reduceToInt]
  repeat' split
  all_goals first | rfl | (exfalso; omega)
theorem own_pd1 : parseMethodDescriptor "(JJJ)V" = some ⟨[.long, .long, .long], none⟩ := by decide +kernel
theorem own_pd2 : parseMethodDescriptor "()Z" = some ⟨[], some .boolean⟩ := by decide +kernel
theorem own_pn2 : plainName "com/example/spanwood/spanwood/repair/CheckSoundPinLaw" = true := by first | (simp [plainName, overriddenIn]; done) | decide +kernel
theorem own_ef0 (m : MethodId) (q0 : Int64) (q1 : Int64) (q2 : Int64) (p3 : Int32) : entryFrame m #[(.long q0), (.long q1), (.long q2), (.int p3)] maxLocals = mkF m 0 #[oj q0, .second, oj q1, .second, oj q2, .second, oi p3, .unset, .unset, .unset, .unset, .unset] [] := by first | (simp [entryFrame, mkF, argsToLocals, Value.category, maxLocals]; done) | rfl
def own_Q0 (Z : State) (q0 : Int64) (q1 : Int64) (q2 : Int64) (p3 : Int32) (h0 : Heap) (n0 : Nat) (v : Option Value) (h : Heap) (L : List Loc) : Prop := v = some (Value.int (1 : Int32)) ∧ Fr n0 L
set_option maxRecDepth 65536 in
set_option maxHeartbeats 40000000 in
theorem own_rm0 (l : Launch) (Z : State) (av : Array Value) (hw : ∀ d ∈ tables_1, d.before av Z = true) (ws : List Jvm.Cond) (q0 : Int64) (q1 : Int64) (q2 : Int64) (p3 : Int32) (h0 : Heap) (n0 : Nat) (Z0 : n0 ≤ h0.size) :
    MetFree l x (head1 (Jvm.Cond.code x code maxLocals ret :: ws) room_1) (fun a U => a = #[(.long q0), (.long q1), (.long q2), (.int p3)] ∧ Z.Warmed39 U.vm ∧ U.heap = h0) (fun _ _ _ _ _ => True) (fun _ U o U' => ∃ v L, o = .returned v ∧ own_Q0 Z q0 q1 q2 p3 h0 n0 v U'.heap L ∧ FrameEnd U o U' L room_1.cells room_1.slots) := by
  refine MetFree.of_bodySF (plainFor_of_name own_pn2) hisR ?_
  intro p e s m args below meth c s₁ Bd hml0 hP hK
  obtain ⟨rfl, hZ, hh⟩ := hP
  have hx := Bd.exec
  have hby := Bd.bytes
  have hml : c.maxLocals = 12 := hml0
  have hown : s.vm.findClass "com/example/spanwood/spanwood/repair/CheckSoundPinLaw" = some m.cls := findClass_of_methodNamed Bd.named
  have hnm := (name_of_methodNamed Bd.named Bd.method).1
  have X0 : Stand p l e room_1 s m #[(.long q0), (.long q1), (.long q2), (.int p3)] below meth c s₁ [] 0 0 := Stand.of_body Bd
  have e0 : s₁.heap = h0 := by rw [← hh, Bd.state]; rfl
  have N0 := Fr.nil n0
  have pre0 : ∀ t, Steps p.tables e below (s₁.setTop (mkF m 0 #[oj q0, .second, oj q1, .second, oj q2, .second, oi p3, .unset, .unset, .unset, .unset, .unset] [])) t → Steps p.tables e below (s₁.setTop (entryFrame m #[(.long q0), (.long q1), (.long q2), (.int p3)] maxLocals)) t := fun t k => castTop (own_ef0 m q0 q1 q2 p3) k
  have pre1 : ∀ t, Steps p.tables e below (s₁.setTop (mkF m 8 #[oj q0, .second, oj q1, .second, oj q2, .second, oi p3, oi (p3 &&& (3 : Int32)), .unset, .unset, .unset, .unset] [(.int (p3 &&& (3 : Int32)))])) t → Steps p.tables e below (s₁.setTop (entryFrame m #[(.long q0), (.long q1), (.long q2), (.int p3)] maxLocals)) t := by
    intro t k
    refine pre0 t ?_
    show oS p e below s₁ m 0 #[oj q0, .second, oj q1, .second, oj q2, .second, oi p3, .unset, .unset, .unset, .unset, .unset] [] _
    refine XS.iload X0.here hx rfl (hb hby at_0) rfl ?_
    show oS p e below s₁ m 2 #[oj q0, .second, oj q1, .second, oj q2, .second, oi p3, .unset, .unset, .unset, .unset, .unset] [(.int p3)] _
    refine XS.iconst X0.here hx rfl (hb hby at_2) ?_
    show oS p e below s₁ m 3 #[oj q0, .second, oj q1, .second, oj q2, .second, oi p3, .unset, .unset, .unset, .unset, .unset] [(.int (3 : Int32)), (.int p3)] _
    refine XS.iand X0.here hx rfl (hb hby at_3) rfl ?_
    show oS p e below s₁ m 4 #[oj q0, .second, oj q1, .second, oj q2, .second, oi p3, .unset, .unset, .unset, .unset, .unset] [(.int (p3 &&& (3 : Int32)))] _
    refine XS.istore X0.here hx rfl (hb hby at_4) rfl (l' := #[oj q0, .second, oj q1, .second, oj q2, .second, oi p3, oi (p3 &&& (3 : Int32)), .unset, .unset, .unset, .unset]) rfl ?_
    show oS p e below s₁ m 6 #[oj q0, .second, oj q1, .second, oj q2, .second, oi p3, oi (p3 &&& (3 : Int32)), .unset, .unset, .unset, .unset] [] _
    refine XS.iload X0.here hx rfl (hb hby at_6) rfl ?_
    exact k
  obtain ⟨v5, hv5⟩ : ∃ z : Int64, z = (if (p3 &&& (3 : Int32)) = (0 : Int32) then (0 : Int64) else (if (p3 &&& (3 : Int32)) = (1 : Int32) then (1 : Int64) else (if (p3 &&& (3 : Int32)) = (2 : Int32) then (-1 : Int64) else q2))) := ⟨_, rfl⟩
  have pre6 : ∀ t, Steps p.tables e below (s₁.setTop (mkF m 47 #[oj q0, .second, oj q1, .second, oj q2, .second, oi p3, oi (p3 &&& (3 : Int32)), oj v5, .second, .unset, .unset] [])) t → Steps p.tables e below (s₁.setTop (entryFrame m #[(.long q0), (.long q1), (.long q2), (.int p3)] maxLocals)) t := by
    intro t k
    by_cases c2 : (p3 &&& (3 : Int32)) = (0 : Int32)
    · skip
      rw [show v5 = (0 : Int64) from hv5.trans (by rw [if_pos c2])] at k
      refine pre1 t ?_
      show oS p e below s₁ m 8 #[oj q0, .second, oj q1, .second, oj q2, .second, oi p3, oi (p3 &&& (3 : Int32)), .unset, .unset, .unset, .unset] [(.int (p3 &&& (3 : Int32)))] _
      refine XS.ifNo X0.here hx rfl (hb hby at_8) rfl ((if0 _ _).trans (teq c2).2) ?_
      show oS p e below s₁ m 11 #[oj q0, .second, oj q1, .second, oj q2, .second, oi p3, oi (p3 &&& (3 : Int32)), .unset, .unset, .unset, .unset] [] _
      refine XS.lconst X0.here hx rfl (hb hby at_11) ?_
      show oS p e below s₁ m 12 #[oj q0, .second, oj q1, .second, oj q2, .second, oi p3, oi (p3 &&& (3 : Int32)), .unset, .unset, .unset, .unset] [(.long (0 : Int64))] _
      refine XS.lstore X0.here hx rfl (hb hby at_12) rfl (l' := #[oj q0, .second, oj q1, .second, oj q2, .second, oi p3, oi (p3 &&& (3 : Int32)), oj (0 : Int64), .second, .unset, .unset]) rfl ?_
      show oS p e below s₁ m 14 #[oj q0, .second, oj q1, .second, oj q2, .second, oi p3, oi (p3 &&& (3 : Int32)), oj (0 : Int64), .second, .unset, .unset] [] _
      refine XS.goto X0.here hx rfl (pc0 := 14) (pc' := 47) rfl (hb hby at_14) (by decide) (by decide) ?_
      exact k
    · skip
      by_cases c3 : (p3 &&& (3 : Int32)) = (1 : Int32)
      · skip
        rw [show v5 = (1 : Int64) from hv5.trans (by rw [if_neg c2, if_pos c3])] at k
        refine pre1 t ?_
        show oS p e below s₁ m 8 #[oj q0, .second, oj q1, .second, oj q2, .second, oi p3, oi (p3 &&& (3 : Int32)), .unset, .unset, .unset, .unset] [(.int (p3 &&& (3 : Int32)))] _
        refine XS.ifYes X0.here hx rfl (pc0 := 8) (pc' := 17) rfl (hb hby at_8) rfl ((if0 _ _).trans (feq c2).2) (by decide) (by decide) ?_
        show oS p e below s₁ m 17 #[oj q0, .second, oj q1, .second, oj q2, .second, oi p3, oi (p3 &&& (3 : Int32)), .unset, .unset, .unset, .unset] [] _
        refine XS.iload X0.here hx rfl (hb hby at_17) rfl ?_
        show oS p e below s₁ m 19 #[oj q0, .second, oj q1, .second, oj q2, .second, oi p3, oi (p3 &&& (3 : Int32)), .unset, .unset, .unset, .unset] [(.int (p3 &&& (3 : Int32)))] _
        refine XS.iconst X0.here hx rfl (hb hby at_19) ?_
        show oS p e below s₁ m 20 #[oj q0, .second, oj q1, .second, oj q2, .second, oi p3, oi (p3 &&& (3 : Int32)), .unset, .unset, .unset, .unset] [(.int (1 : Int32)), (.int (p3 &&& (3 : Int32)))] _
        refine XS.icmpNo X0.here hx rfl (hb hby at_20) rfl (teq c3).2 ?_
        show oS p e below s₁ m 23 #[oj q0, .second, oj q1, .second, oj q2, .second, oi p3, oi (p3 &&& (3 : Int32)), .unset, .unset, .unset, .unset] [] _
        refine XS.lconst X0.here hx rfl (hb hby at_23) ?_
        show oS p e below s₁ m 24 #[oj q0, .second, oj q1, .second, oj q2, .second, oi p3, oi (p3 &&& (3 : Int32)), .unset, .unset, .unset, .unset] [(.long (1 : Int64))] _
        refine XS.lstore X0.here hx rfl (hb hby at_24) rfl (l' := #[oj q0, .second, oj q1, .second, oj q2, .second, oi p3, oi (p3 &&& (3 : Int32)), oj (1 : Int64), .second, .unset, .unset]) rfl ?_
        show oS p e below s₁ m 26 #[oj q0, .second, oj q1, .second, oj q2, .second, oi p3, oi (p3 &&& (3 : Int32)), oj (1 : Int64), .second, .unset, .unset] [] _
        refine XS.goto X0.here hx rfl (pc0 := 26) (pc' := 47) rfl (hb hby at_26) (by decide) (by decide) ?_
        exact k
      · skip
        by_cases c4 : (p3 &&& (3 : Int32)) = (2 : Int32)
        · skip
          rw [show v5 = (-1 : Int64) from hv5.trans (by rw [if_neg c2, if_neg c3, if_pos c4])] at k
          refine pre1 t ?_
          show oS p e below s₁ m 8 #[oj q0, .second, oj q1, .second, oj q2, .second, oi p3, oi (p3 &&& (3 : Int32)), .unset, .unset, .unset, .unset] [(.int (p3 &&& (3 : Int32)))] _
          refine XS.ifYes X0.here hx rfl (pc0 := 8) (pc' := 17) rfl (hb hby at_8) rfl ((if0 _ _).trans (feq c2).2) (by decide) (by decide) ?_
          show oS p e below s₁ m 17 #[oj q0, .second, oj q1, .second, oj q2, .second, oi p3, oi (p3 &&& (3 : Int32)), .unset, .unset, .unset, .unset] [] _
          refine XS.iload X0.here hx rfl (hb hby at_17) rfl ?_
          show oS p e below s₁ m 19 #[oj q0, .second, oj q1, .second, oj q2, .second, oi p3, oi (p3 &&& (3 : Int32)), .unset, .unset, .unset, .unset] [(.int (p3 &&& (3 : Int32)))] _
          refine XS.iconst X0.here hx rfl (hb hby at_19) ?_
          show oS p e below s₁ m 20 #[oj q0, .second, oj q1, .second, oj q2, .second, oi p3, oi (p3 &&& (3 : Int32)), .unset, .unset, .unset, .unset] [(.int (1 : Int32)), (.int (p3 &&& (3 : Int32)))] _
          refine XS.icmpYes X0.here hx rfl (pc0 := 20) (pc' := 29) rfl (hb hby at_20) rfl (feq c3).2 (by decide) (by decide) ?_
          show oS p e below s₁ m 29 #[oj q0, .second, oj q1, .second, oj q2, .second, oi p3, oi (p3 &&& (3 : Int32)), .unset, .unset, .unset, .unset] [] _
          refine XS.iload X0.here hx rfl (hb hby at_29) rfl ?_
          show oS p e below s₁ m 31 #[oj q0, .second, oj q1, .second, oj q2, .second, oi p3, oi (p3 &&& (3 : Int32)), .unset, .unset, .unset, .unset] [(.int (p3 &&& (3 : Int32)))] _
          refine XS.iconst X0.here hx rfl (hb hby at_31) ?_
          show oS p e below s₁ m 32 #[oj q0, .second, oj q1, .second, oj q2, .second, oi p3, oi (p3 &&& (3 : Int32)), .unset, .unset, .unset, .unset] [(.int (2 : Int32)), (.int (p3 &&& (3 : Int32)))] _
          refine XS.icmpNo X0.here hx rfl (hb hby at_32) rfl (teq c4).2 ?_
          show oS p e below s₁ m 35 #[oj q0, .second, oj q1, .second, oj q2, .second, oi p3, oi (p3 &&& (3 : Int32)), .unset, .unset, .unset, .unset] [] _
          refine X0.ldc2Long hx hown (mvT hZ (hw _ (List.mem_of_getElem? (i := 0) rfl))) (g := (mkF m 35 #[oj q0, .second, oj q1, .second, oj q2, .second, oi p3, oi (p3 &&& (3 : Int32)), .unset, .unset, .unset, .unset] [])) rfl (hb hby at_35) _ ?_
          show oS p e below s₁ m 38 #[oj q0, .second, oj q1, .second, oj q2, .second, oi p3, oi (p3 &&& (3 : Int32)), .unset, .unset, .unset, .unset] [(.long (-1 : Int64))] _
          refine XS.lstore X0.here hx rfl (hb hby at_38) rfl (l' := #[oj q0, .second, oj q1, .second, oj q2, .second, oi p3, oi (p3 &&& (3 : Int32)), oj (-1 : Int64), .second, .unset, .unset]) rfl ?_
          show oS p e below s₁ m 40 #[oj q0, .second, oj q1, .second, oj q2, .second, oi p3, oi (p3 &&& (3 : Int32)), oj (-1 : Int64), .second, .unset, .unset] [] _
          refine XS.goto X0.here hx rfl (pc0 := 40) (pc' := 47) rfl (hb hby at_40) (by decide) (by decide) ?_
          exact k
        · skip
          rw [show v5 = q2 from hv5.trans (by rw [if_neg c2, if_neg c3, if_neg c4])] at k
          refine pre1 t ?_
          show oS p e below s₁ m 8 #[oj q0, .second, oj q1, .second, oj q2, .second, oi p3, oi (p3 &&& (3 : Int32)), .unset, .unset, .unset, .unset] [(.int (p3 &&& (3 : Int32)))] _
          refine XS.ifYes X0.here hx rfl (pc0 := 8) (pc' := 17) rfl (hb hby at_8) rfl ((if0 _ _).trans (feq c2).2) (by decide) (by decide) ?_
          show oS p e below s₁ m 17 #[oj q0, .second, oj q1, .second, oj q2, .second, oi p3, oi (p3 &&& (3 : Int32)), .unset, .unset, .unset, .unset] [] _
          refine XS.iload X0.here hx rfl (hb hby at_17) rfl ?_
          show oS p e below s₁ m 19 #[oj q0, .second, oj q1, .second, oj q2, .second, oi p3, oi (p3 &&& (3 : Int32)), .unset, .unset, .unset, .unset] [(.int (p3 &&& (3 : Int32)))] _
          refine XS.iconst X0.here hx rfl (hb hby at_19) ?_
          show oS p e below s₁ m 20 #[oj q0, .second, oj q1, .second, oj q2, .second, oi p3, oi (p3 &&& (3 : Int32)), .unset, .unset, .unset, .unset] [(.int (1 : Int32)), (.int (p3 &&& (3 : Int32)))] _
          refine XS.icmpYes X0.here hx rfl (pc0 := 20) (pc' := 29) rfl (hb hby at_20) rfl (feq c3).2 (by decide) (by decide) ?_
          show oS p e below s₁ m 29 #[oj q0, .second, oj q1, .second, oj q2, .second, oi p3, oi (p3 &&& (3 : Int32)), .unset, .unset, .unset, .unset] [] _
          refine XS.iload X0.here hx rfl (hb hby at_29) rfl ?_
          show oS p e below s₁ m 31 #[oj q0, .second, oj q1, .second, oj q2, .second, oi p3, oi (p3 &&& (3 : Int32)), .unset, .unset, .unset, .unset] [(.int (p3 &&& (3 : Int32)))] _
          refine XS.iconst X0.here hx rfl (hb hby at_31) ?_
          show oS p e below s₁ m 32 #[oj q0, .second, oj q1, .second, oj q2, .second, oi p3, oi (p3 &&& (3 : Int32)), .unset, .unset, .unset, .unset] [(.int (2 : Int32)), (.int (p3 &&& (3 : Int32)))] _
          refine XS.icmpYes X0.here hx rfl (pc0 := 32) (pc' := 43) rfl (hb hby at_32) rfl (feq c4).2 (by decide) (by decide) ?_
          show oS p e below s₁ m 43 #[oj q0, .second, oj q1, .second, oj q2, .second, oi p3, oi (p3 &&& (3 : Int32)), .unset, .unset, .unset, .unset] [] _
          refine XS.lload X0.here hx rfl (hb hby at_43) rfl ?_
          show oS p e below s₁ m 45 #[oj q0, .second, oj q1, .second, oj q2, .second, oi p3, oi (p3 &&& (3 : Int32)), .unset, .unset, .unset, .unset] [(.long q2)] _
          refine XS.lstore X0.here hx rfl (hb hby at_45) rfl (l' := #[oj q0, .second, oj q1, .second, oj q2, .second, oi p3, oi (p3 &&& (3 : Int32)), oj q2, .second, .unset, .unset]) rfl ?_
          exact k
  obtain ⟨T7, h7, X7, e7, E7, A7, D7, -, st7⟩ := newO X0 hx hZ hown (hw _ (List.mem_of_getElem? (i := 1) rfl)) (hw _ (List.mem_of_getElem? (i := 2) rfl)) (hw _ (List.mem_of_getElem? (i := 3) rfl)) e0 (g := (mkF m 47 #[oj q0, .second, oj q1, .second, oj q2, .second, oi p3, oi (p3 &&& (3 : Int32)), oj v5, .second, .unset, .unset] [])) rfl (hb hby at_47) (by decide) (by decide)
  obtain ⟨b7, g7⟩ : ∃ z, z = h0.size := ⟨_, rfl⟩
  rw [← g7] at A7 D7 st7
  have g_b7 : n0 ≤ b7 := Nat.le_trans Z0 (Nat.le_of_eq g7.symm)
  have Z7 : n0 ≤ h7.size := Nat.le_trans Z0 E7.1
  have F_8 : Fld Z h7 b7 "com/example/spanwood/spanwood/repair/Check$Summary" "trees" "J" (.long (0 : Int64)) := D7 (Or.inr (hw _ (List.mem_of_getElem? (i := 16) rfl))) (ty := .long) (by decide)
  have F_9 : Fld Z h7 b7 "com/example/spanwood/spanwood/repair/Check$Summary" "nodes" "J" (.long (0 : Int64)) := D7 (Or.inr (hw _ (List.mem_of_getElem? (i := 18) rfl))) (ty := .long) (by decide)
  have F_10 : Fld Z h7 b7 "com/example/spanwood/spanwood/repair/Check$Summary" "violations" "J" (.long (0 : Int64)) := D7 (Or.inr (hw _ (List.mem_of_getElem? (i := 20) rfl))) (ty := .long) (by decide)
  obtain ⟨_, _, ⟨T11, L11, k11, n11⟩, -, X11, ⟨Lc11, hQ11, l11, y11, z11⟩, st11⟩ := X7.specialBack hx (y := (⟨"com/example/spanwood/spanwood/repair/Check$Summary", "<init>", "(JJJ)V"⟩ : MethodName)) rfl hown (mvT hZ (hw _ (List.mem_of_getElem? (i := 4) rfl))) (mvT hZ (hw _ (List.mem_of_getElem? (i := 5) rfl))) (mvT hZ (hw _ (List.mem_of_getElem? (i := 6) rfl))) (by decide) (backOf (W := 1) (own_rm1 l Z av hw [] b7 q0 q1 v5 h7 n0 Z7 A7 F_8 F_9 F_10 g_b7) hZ (hw _ (List.mem_of_getElem? (i := 6) rfl)) (hw _ (List.mem_of_getElem? (i := 3) rfl)) (by decide) (by decide)) (g := (mkF m 55 #[oj q0, .second, oj q1, .second, oj q2, .second, oi p3, oi (p3 &&& (3 : Int32)), oj v5, .second, .unset, .unset] [(.long v5), (.long q1), (.long q0), (.ref b7), (.ref b7)])) rfl (by rw [hml]; rfl) (Steps.refl _) (a := b7) (argsL := [(.long q0), (.long q1), (.long v5)]) (rest := [(.ref b7)]) (lenOf own_pd1 rfl) rfl (by show 2 * 0 + _ ≤ _; exact Nat.le_of_eq rfl) (hb hby at_55) (fun _ _ => ⟨rfl, e7, (by decide : 1 + 0 ≤ _), (by decide : 3 + 0 ≤ _)⟩)
  dsimp only [Pt.U, Pt.locs, Pt.cells, Pt.slots] at X11 l11 y11 z11 st11 hQ11
  subst l11 y11 z11
  obtain ⟨rfl, Nq11, Kq11, Oq11_0, Oq11_1⟩ := hQ11
  have N11 := Fr.app N0 Nq11
  have Z11 : n0 ≤ T11.heap.size := Nat.le_trans Z7 Kq11.1
  have F12 := A7.keep Kq11
  have pre13 : ∀ t, Steps p.tables e below (T11.setTop (mkF m 64 #[oj q0, .second, oj q1, .second, oj q2, .second, oi p3, oi (p3 &&& (3 : Int32)), oj v5, .second, oa b7, .unset] [(.int (lcmpW v5 (0 : Int64)))])) t → Steps p.tables e below (s₁.setTop (entryFrame m #[(.long q0), (.long q1), (.long q2), (.int p3)] maxLocals)) t := by
    intro t k
    refine pre6 t ?_
    show oS p e below s₁ m 47 #[oj q0, .second, oj q1, .second, oj q2, .second, oi p3, oi (p3 &&& (3 : Int32)), oj v5, .second, .unset, .unset] [] _
    refine st7 _ ?_
    show oS p e below T7 m 50 #[oj q0, .second, oj q1, .second, oj q2, .second, oi p3, oi (p3 &&& (3 : Int32)), oj v5, .second, .unset, .unset] [(.ref b7)] _
    refine XS.dup X7.here hx rfl (hb hby at_50) rfl rfl ?_
    show oS p e below T7 m 51 #[oj q0, .second, oj q1, .second, oj q2, .second, oi p3, oi (p3 &&& (3 : Int32)), oj v5, .second, .unset, .unset] [(.ref b7), (.ref b7)] _
    refine XS.lloadN X7.here hx rfl (hb hby at_51) rfl ?_
    show oS p e below T7 m 52 #[oj q0, .second, oj q1, .second, oj q2, .second, oi p3, oi (p3 &&& (3 : Int32)), oj v5, .second, .unset, .unset] [(.long q0), (.ref b7), (.ref b7)] _
    refine XS.lloadN X7.here hx rfl (hb hby at_52) rfl ?_
    show oS p e below T7 m 53 #[oj q0, .second, oj q1, .second, oj q2, .second, oi p3, oi (p3 &&& (3 : Int32)), oj v5, .second, .unset, .unset] [(.long q1), (.long q0), (.ref b7), (.ref b7)] _
    refine XS.lload X7.here hx rfl (hb hby at_53) rfl ?_
    show oS p e below T7 m 55 #[oj q0, .second, oj q1, .second, oj q2, .second, oi p3, oi (p3 &&& (3 : Int32)), oj v5, .second, .unset, .unset] [(.long v5), (.long q1), (.long q0), (.ref b7), (.ref b7)] _
    refine st11.trans ?_
    show oS p e below T11 m 58 #[oj q0, .second, oj q1, .second, oj q2, .second, oi p3, oi (p3 &&& (3 : Int32)), oj v5, .second, .unset, .unset] [(.ref b7)] _
    refine XS.astore X11.here hx rfl (hb hby at_58) rfl rfl (l' := #[oj q0, .second, oj q1, .second, oj q2, .second, oi p3, oi (p3 &&& (3 : Int32)), oj v5, .second, oa b7, .unset]) rfl ?_
    show oS p e below T11 m 60 #[oj q0, .second, oj q1, .second, oj q2, .second, oi p3, oi (p3 &&& (3 : Int32)), oj v5, .second, oa b7, .unset] [] _
    refine XS.lload X11.here hx rfl (hb hby at_60) rfl ?_
    show oS p e below T11 m 62 #[oj q0, .second, oj q1, .second, oj q2, .second, oi p3, oi (p3 &&& (3 : Int32)), oj v5, .second, oa b7, .unset] [(.long v5)] _
    refine XS.lconst X11.here hx rfl (hb hby at_62) ?_
    show oS p e below T11 m 63 #[oj q0, .second, oj q1, .second, oj q2, .second, oi p3, oi (p3 &&& (3 : Int32)), oj v5, .second, oa b7, .unset] [(.long (0 : Int64)), (.long v5)] _
    refine XS.lcmp X11.here hx rfl (hb hby at_63) rfl ?_
    exact k
  obtain ⟨v16, hv16⟩ : ∃ z : Int32, z = (if (0 : Int64) < v5 then (0 : Int32) else (if v5 < (0 : Int64) then (0 : Int32) else (1 : Int32))) := ⟨_, rfl⟩
  have pre17 : ∀ t, Steps p.tables e below (T11.setTop (mkF m 89 #[oj q0, .second, oj q1, .second, oj q2, .second, oi p3, oi (p3 &&& (3 : Int32)), oj v5, .second, oa b7, oi v16] [])) t → Steps p.tables e below (s₁.setTop (entryFrame m #[(.long q0), (.long q1), (.long q2), (.int p3)] maxLocals)) t := by
    intro t k
    by_cases c14 : (0 : Int64) < v5
    · skip
      rw [show v16 = (0 : Int32) from hv16.trans (by rw [if_pos c14])] at k
      refine pre13 t ?_
      show oS p e below T11 m 64 #[oj q0, .second, oj q1, .second, oj q2, .second, oi p3, oi (p3 &&& (3 : Int32)), oj v5, .second, oa b7, .unset] [(.int (lcmpW v5 (0 : Int64)))] _
      refine XS.ifNo X11.here hx rfl (hb hby at_64) rfl ((if0 _ _).trans (tlt ((lw_gt v5 (0 : Int64)).mpr c14)).2.2.2) ?_
      show oS p e below T11 m 67 #[oj q0, .second, oj q1, .second, oj q2, .second, oi p3, oi (p3 &&& (3 : Int32)), oj v5, .second, oa b7, .unset] [] _
      refine XS.iconst X11.here hx rfl (hb hby at_67) ?_
      show oS p e below T11 m 68 #[oj q0, .second, oj q1, .second, oj q2, .second, oi p3, oi (p3 &&& (3 : Int32)), oj v5, .second, oa b7, .unset] [(.int (0 : Int32))] _
      refine XS.istore X11.here hx rfl (hb hby at_68) rfl (l' := #[oj q0, .second, oj q1, .second, oj q2, .second, oi p3, oi (p3 &&& (3 : Int32)), oj v5, .second, oa b7, oi (0 : Int32)]) rfl ?_
      show oS p e below T11 m 70 #[oj q0, .second, oj q1, .second, oj q2, .second, oi p3, oi (p3 &&& (3 : Int32)), oj v5, .second, oa b7, oi (0 : Int32)] [] _
      refine XS.goto X11.here hx rfl (pc0 := 70) (pc' := 89) rfl (hb hby at_70) (by decide) (by decide) ?_
      exact k
    · skip
      by_cases c15 : v5 < (0 : Int64)
      · skip
        rw [show v16 = (0 : Int32) from hv16.trans (by rw [if_neg c14, if_pos c15])] at k
        refine pre13 t ?_
        show oS p e below T11 m 64 #[oj q0, .second, oj q1, .second, oj q2, .second, oi p3, oi (p3 &&& (3 : Int32)), oj v5, .second, oa b7, .unset] [(.int (lcmpW v5 (0 : Int64)))] _
        refine XS.ifYes X11.here hx rfl (pc0 := 64) (pc' := 73) rfl (hb hby at_64) rfl ((if0 _ _).trans (flt (fun q => c14 ((lw_gt v5 (0 : Int64)).mp q))).2.2.2) (by decide) (by decide) ?_
        show oS p e below T11 m 73 #[oj q0, .second, oj q1, .second, oj q2, .second, oi p3, oi (p3 &&& (3 : Int32)), oj v5, .second, oa b7, .unset] [] _
        refine XS.lload X11.here hx rfl (hb hby at_73) rfl ?_
        show oS p e below T11 m 75 #[oj q0, .second, oj q1, .second, oj q2, .second, oi p3, oi (p3 &&& (3 : Int32)), oj v5, .second, oa b7, .unset] [(.long v5)] _
        refine XS.lconst X11.here hx rfl (hb hby at_75) ?_
        show oS p e below T11 m 76 #[oj q0, .second, oj q1, .second, oj q2, .second, oi p3, oi (p3 &&& (3 : Int32)), oj v5, .second, oa b7, .unset] [(.long (0 : Int64)), (.long v5)] _
        refine XS.lcmp X11.here hx rfl (hb hby at_76) rfl ?_
        show oS p e below T11 m 77 #[oj q0, .second, oj q1, .second, oj q2, .second, oi p3, oi (p3 &&& (3 : Int32)), oj v5, .second, oa b7, .unset] [(.int (lcmpW v5 (0 : Int64)))] _
        refine XS.ifNo X11.here hx rfl (hb hby at_77) rfl ((if0 _ _).trans (tlt ((lw_lt v5 (0 : Int64)).mpr c15)).2.1) ?_
        show oS p e below T11 m 80 #[oj q0, .second, oj q1, .second, oj q2, .second, oi p3, oi (p3 &&& (3 : Int32)), oj v5, .second, oa b7, .unset] [] _
        refine XS.iconst X11.here hx rfl (hb hby at_80) ?_
        show oS p e below T11 m 81 #[oj q0, .second, oj q1, .second, oj q2, .second, oi p3, oi (p3 &&& (3 : Int32)), oj v5, .second, oa b7, .unset] [(.int (0 : Int32))] _
        refine XS.istore X11.here hx rfl (hb hby at_81) rfl (l' := #[oj q0, .second, oj q1, .second, oj q2, .second, oi p3, oi (p3 &&& (3 : Int32)), oj v5, .second, oa b7, oi (0 : Int32)]) rfl ?_
        show oS p e below T11 m 83 #[oj q0, .second, oj q1, .second, oj q2, .second, oi p3, oi (p3 &&& (3 : Int32)), oj v5, .second, oa b7, oi (0 : Int32)] [] _
        refine XS.goto X11.here hx rfl (pc0 := 83) (pc' := 89) rfl (hb hby at_83) (by decide) (by decide) ?_
        exact k
      · skip
        rw [show v16 = (1 : Int32) from hv16.trans (by rw [if_neg c14, if_neg c15])] at k
        refine pre13 t ?_
        show oS p e below T11 m 64 #[oj q0, .second, oj q1, .second, oj q2, .second, oi p3, oi (p3 &&& (3 : Int32)), oj v5, .second, oa b7, .unset] [(.int (lcmpW v5 (0 : Int64)))] _
        refine XS.ifYes X11.here hx rfl (pc0 := 64) (pc' := 73) rfl (hb hby at_64) rfl ((if0 _ _).trans (flt (fun q => c14 ((lw_gt v5 (0 : Int64)).mp q))).2.2.2) (by decide) (by decide) ?_
        show oS p e below T11 m 73 #[oj q0, .second, oj q1, .second, oj q2, .second, oi p3, oi (p3 &&& (3 : Int32)), oj v5, .second, oa b7, .unset] [] _
        refine XS.lload X11.here hx rfl (hb hby at_73) rfl ?_
        show oS p e below T11 m 75 #[oj q0, .second, oj q1, .second, oj q2, .second, oi p3, oi (p3 &&& (3 : Int32)), oj v5, .second, oa b7, .unset] [(.long v5)] _
        refine XS.lconst X11.here hx rfl (hb hby at_75) ?_
        show oS p e below T11 m 76 #[oj q0, .second, oj q1, .second, oj q2, .second, oi p3, oi (p3 &&& (3 : Int32)), oj v5, .second, oa b7, .unset] [(.long (0 : Int64)), (.long v5)] _
        refine XS.lcmp X11.here hx rfl (hb hby at_76) rfl ?_
        show oS p e below T11 m 77 #[oj q0, .second, oj q1, .second, oj q2, .second, oi p3, oi (p3 &&& (3 : Int32)), oj v5, .second, oa b7, .unset] [(.int (lcmpW v5 (0 : Int64)))] _
        refine XS.ifYes X11.here hx rfl (pc0 := 77) (pc' := 86) rfl (hb hby at_77) rfl ((if0 _ _).trans (flt (fun q => c15 ((lw_lt v5 (0 : Int64)).mp q))).2.1) (by decide) (by decide) ?_
        show oS p e below T11 m 86 #[oj q0, .second, oj q1, .second, oj q2, .second, oi p3, oi (p3 &&& (3 : Int32)), oj v5, .second, oa b7, .unset] [] _
        refine XS.iconst X11.here hx rfl (hb hby at_86) ?_
        show oS p e below T11 m 87 #[oj q0, .second, oj q1, .second, oj q2, .second, oi p3, oi (p3 &&& (3 : Int32)), oj v5, .second, oa b7, .unset] [(.int (1 : Int32))] _
        refine XS.istore X11.here hx rfl (hb hby at_87) rfl (l' := #[oj q0, .second, oj q1, .second, oj q2, .second, oi p3, oi (p3 &&& (3 : Int32)), oj v5, .second, oa b7, oi (1 : Int32)]) rfl ?_
        exact k
  obtain ⟨cq18, kq18, q18a, q18b, q18c⟩ := isOf hZ rfl Oq11_0
  obtain ⟨_, _, ⟨T18, L18, k18, n18⟩, -, X18, ⟨Lc18, hQ18, l18, y18, z18⟩, st18⟩ := X11.virtualBack hx (y := (⟨"com/example/spanwood/spanwood/repair/Check$Summary", "sound", "()Z"⟩ : MethodName)) (z := (⟨"com/example/spanwood/spanwood/repair/Check$Summary", "sound", "()Z"⟩ : MethodName)) hown (mvT hZ (hw _ (List.mem_of_getElem? (i := 21) rfl))) (mvT hZ (hw _ (List.mem_of_getElem? (i := 22) rfl))) (notFace_of_selects (args := #[]) (mvT hZ (hw _ (List.mem_of_getElem? (i := 24) rfl)))) (mvT hZ (hw _ (List.mem_of_getElem? (i := 24) rfl))) (mvT hZ (hw _ (List.mem_of_getElem? (i := 23) rfl))) (by decide) (backOf (W := 0) (own_rm4 l Z av hw [] b7 v5 T11.heap n0 Z11 Oq11_1) hZ (hw _ (List.mem_of_getElem? (i := 25) rfl)) (hw _ (List.mem_of_getElem? (i := 3) rfl)) (by decide) (by decide)) q18a q18c (g := (mkF m 91 #[oj q0, .second, oj q1, .second, oj q2, .second, oi p3, oi (p3 &&& (3 : Int32)), oj v5, .second, oa b7, oi v16] [(.ref b7)])) rfl (by rw [hml]; rfl) (Steps.refl _) (argsL := []) (rest := []) (lenOf own_pd2 rfl) rfl (by show 2 * 0 + _ ≤ _; exact Nat.le_of_eq rfl) (hb hby at_91) (fun _ _ => ⟨rfl, rfl, (by decide : 1 + 0 ≤ _), (by decide : 3 + 0 ≤ _)⟩)
  dsimp only [Pt.U, Pt.locs, Pt.cells, Pt.slots] at X18 l18 y18 z18 st18 hQ18
  subst l18 y18 z18
  obtain ⟨rfl, Nq18, eq18⟩ := hQ18
  have N18 := Fr.app N11 Nq18
  have b19 : (own_f4 v5) = v16 := by rw [hv16]; exact own_eq _
  obtain ⟨fs, hr, hrun, hended, hW, hsame⟩ := X18.leave (v := (some (.int (1 : Int32)))) (fun h => by rw [Bd.returns] at h; cases h)
  refine ⟨_, _, pre17 _ ?_, hrun, hended, _, _, rfl, ?_, ⟨_, rfl⟩, hW, hsame.mono (by decide) (by decide)⟩
  · show oS p e below T11 m 89 #[oj q0, .second, oj q1, .second, oj q2, .second, oi p3, oi (p3 &&& (3 : Int32)), oj v5, .second, oa b7, oi v16] [] _
    refine XS.aload X11.here hx rfl (hb hby at_89) rfl rfl ?_
    show oS p e below T11 m 91 #[oj q0, .second, oj q1, .second, oj q2, .second, oi p3, oi (p3 &&& (3 : Int32)), oj v5, .second, oa b7, oi v16] [(.ref b7)] _
    refine st18.trans ?_
    show oS p e below T18 m 94 #[oj q0, .second, oj q1, .second, oj q2, .second, oi p3, oi (p3 &&& (3 : Int32)), oj v5, .second, oa b7, oi v16] [(.int (own_f4 v5))] _
    refine XS.iload X18.here hx rfl (hb hby at_94) rfl ?_
    show oS p e below T18 m 96 #[oj q0, .second, oj q1, .second, oj q2, .second, oi p3, oi (p3 &&& (3 : Int32)), oj v5, .second, oa b7, oi v16] [(.int v16), (.int (own_f4 v5))] _
    refine XS.icmpNo X18.here hx rfl (hb hby at_96) rfl (teq b19).2 ?_
    show oS p e below T18 m 99 #[oj q0, .second, oj q1, .second, oj q2, .second, oi p3, oi (p3 &&& (3 : Int32)), oj v5, .second, oa b7, oi v16] [] _
    refine XS.iconst X18.here hx rfl (hb hby at_99) ?_
    show oS p e below T18 m 100 #[oj q0, .second, oj q1, .second, oj q2, .second, oi p3, oi (p3 &&& (3 : Int32)), oj v5, .second, oa b7, oi v16] [(.int (1 : Int32))] _
    refine XS.goto X18.here hx rfl (pc0 := 100) (pc' := 104) rfl (hb hby at_100) (by decide) (by decide) ?_
    show oS p e below T18 m 104 #[oj q0, .second, oj q1, .second, oj q2, .second, oi p3, oi (p3 &&& (3 : Int32)), oj v5, .second, oa b7, oi v16] [(.int (1 : Int32))] _
    exact retN X18 hx (t := .boolean) Bd.returns (by simp) (hb hby at_104) hr
  · show own_Q0 Z q0 q1 q2 p3 h0 n0 _ T18.heap _
    rw [eq18]
    exact ⟨rfl, N18⟩
set_option maxRecDepth 65536 in
set_option maxHeartbeats 40000000 in
theorem own_comes {Post : Tables → Env → Array Value → State → Outcome → State → Prop} (hpost : ∀ tb e args s v u, (limb_1_1.after args s (.returned v) u = true ∧ limb_1_2.after args s (.returned v) u = true ∧ True) → FrameEnd s (.returned v) u (Jvm.fieldLocs frame_1_writes args s ++ Jvm.arrayLocs frame_1_arrays args s ++ Jvm.staticLocs frame_1_statics s) 16 128 → Post tb e args s (.returned v) u) :
    ArmFor flags0 classFile x code maxLocals ret World_1 tables_1 room_1 Calls_1 rest_1 Pre_1 Post := by
  intro l hfl _ _ p e ha hc hk s m args below hf hA hF happ hP
  obtain ⟨hcalls, hrest, hpre⟩ := hP
  obtain ⟨-, -, -, hnamed, -, -, -, hat⟩ := (Spec.applies_iff hf).mp happ
  obtain ⟨hg, hn⟩ := and_e (Cond.before_iff.mp (show (Jvm.Cond.and given_1 narrow_1).before args s = true from hpre))
  obtain ⟨gv1, gv2⟩ := and_e hg
  obtain ⟨gv3, gv4⟩ := and_e gv2
  obtain ⟨gv5, gv6⟩ := and_e gv4
  obtain ⟨gv7, gv8⟩ := and_e gv6
  obtain ⟨w0, w1, w2, w3, rfl⟩ : ∃ w0 w1 w2 w3 : Value, args = #[w0, w1, w2, w3] := by
    have hs : args.size = 4 := by simpa [Cond.value, given_1] using gv1
    obtain ⟨L⟩ := args
    match L, hs with
    | [w0, w1, w2, w3], _ => exact ⟨w0, w1, w2, w3, rfl⟩
  have hw := fun d (hd : d ∈ tables_1) => atoms_spec (ws := Jvm.Cond.code x code maxLocals ret :: tables_1) hat d (List.mem_cons_of_mem _ hd)
  have hfit : Fit s := fun {y c} hc i hi => by
    obtain ⟨ha, rfl⟩ := Array.getElem?_eq_some_iff.mp hc
    have q := List.all_eq_true.mp ((Array.all_eq_true_iff_forall_mem.mp hF) _ (Array.getElem_mem ha)) i (List.mem_range.mpr hi)
    simpa [Array.getElem?_eq_getElem hi] using q
  obtain ⟨i0, ei0⟩ := isL_v gv3
  obtain rfl : w0 = (.long i0) := Option.some.inj ei0
  obtain ⟨i1, ei1⟩ := isL_v gv5
  obtain rfl : w1 = (.long i1) := Option.some.inj ei1
  obtain ⟨i2, ei2⟩ := isL_v gv7
  obtain rfl : w2 = (.long i2) := Option.some.inj ei2
  obtain ⟨i3, ei3⟩ := is_v gv8
  obtain rfl : w3 = (.int i3) := Option.some.inj ei3
  obtain ⟨n, o, h1, h2, h3, _, L, rfl, ⟨rfl, N⟩, hq⟩ := own_rm0 l s _ hw tables_1 i0 i1 i2 i3  s.heap s.heap.size (Nat.le_refl _)  p e ha hc hk s m _ below hf ((Spec.applies_iff_loose hf).mp happ).1 ⟨rfl, State.Warmed39.refl s, rfl⟩ trivial
  refine ⟨n, _, h1, h2, h3, hpost _ _ _ _ _ _ ⟨Cond.after_iff.mpr rfl, Cond.after_iff.mpr (eq_i res_at (Term.int_eval (1)) rfl), trivial⟩ ⟨hq.1, hq.2.1, (hq.2.2.sift fun y hy => Or.inr (N y hy)).mono (by decide) (by decide)⟩⟩
theorem main_1_1 : Claimed_1_1 := own_comes fun _ _ _ _ _ _ h hF => ⟨h.1, hF⟩
theorem main_1_2 : Claimed_1_2 := own_comes fun _ _ _ _ _ _ h hF => ⟨h.2.1, hF⟩
end Jvm.Pilot.@@N@@
namespace Jvm.Pilot.@@N@@
open Jvm Jvm.ClassFile Sem Op Lib Jvm.Free Jvm.Stand Jvm.Pilot.@@N@@.Jvm.D
/-! MADE BY PROGRAM (witnessworld.py) out of the Statement's table words and the real class files: 10 classes; the members and pool entries that the words name. The judged class is class 1, her method 1. -/
namespace start1
open Jvm.ClassFile
def u (s : String) : CpInfo := .utf8 (stringToUtf16 s)
/-- a pool by its gaps: so many unusable entries, then the entry; so many at the end -/
def gap : Nat → List CpInfo → List CpInfo
  | 0, r => r
  | n + 1, r => .unusable :: gap n r
def poolList (es : List (Nat × CpInfo)) (last : Nat) : List CpInfo := es.foldr (fun e r => gap e.1 (e.2 :: r)) (gap last [])
def pool (es : List (Nat × CpInfo)) (last : Nat) : Array CpInfo := ⟨poolList es last⟩
def fileOf (pool : Array CpInfo) (this : Nat) (attrs : Array Attribute := #[]) (ms : Array MethodInfo := #[]) (fl : Nat := 33) (sup : Nat := 0) (ifs : Array Nat := #[]) (fds : Array FieldInfo := #[]) : ClassFile where
  minorVersion := 0
  majorVersion := 65
  constantPool := pool
  accessFlags := fl
  thisClass := this
  superClass := sup
  interfaces := ifs
  fields := fds
  methods := ms
  attributes := attrs
def plain (name : String) (sup : Option ClassId) : Class where
  name := name
  kind := .ordinary
  loader := none
  accessFlags := 33
  super := sup
  interfaces := #[]
  cf := none
  fields := #[]
  methods := #[]
  instanceTypes := #[]
  staticTypes := #[]
  resolved := #[]
  callSites := []
  init := .initialized
  statics := none
  mirror := none

def pool0 : Array CpInfo := pool [(5, u "<init>"), (0, u "()V"), (1, .class_ 10), (1, u "java/lang/Object")] 113

def k0c0 : Code := { maxStack := 0, maxLocals := 1, code := object_method_1_code, exceptionTable := #[], attributes := #[] }
def k0m0 : Method := { name := "<init>", desc := "()V", sig := { parameters := [], returnType := none }, accessFlags := 1, code := some k0c0 }
/-- java/lang/Object -/
def k0 : Class := { plain "java/lang/Object" none with
  accessFlags := 33
  interfaces := #[]
  cf := some (fileOf pool0 8 #[] #[{ accessFlags := 1, nameIndex := 5, descriptorIndex := 6, attributes := #[] }] 33 0 #[] #[])
  fields := #[]
  methods := #[k0m0]
  instanceTypes := #[]
  staticTypes := #[]
  resolved := Array.replicate 124 none
  statics := none }

def pool1 : Array CpInfo := pool [(2, .class_ 4), (1, u "java/lang/Object"), (0, u "<init>"), (0, u "()V"), (0, .long 18446744073709551615), (1, .class_ 10), (0, u "com/example/spanwood/spanwood/repair/Check$Summary"), (0, .methodref 9 12), (0, .nameAndType 5 13), (0, u "(JJJ)V"), (0, .methodref 9 15), (0, .nameAndType 16 17), (0, u "sound"), (0, u "()Z"), (0, .class_ 19), (0, u "com/example/spanwood/spanwood/repair/CheckSoundPinLaw"), (2, u "law"), (0, u "(JJJI)Z")] 7

def k1m0 : Method := { name := "<init>", desc := "()V", sig := { parameters := [], returnType := none }, accessFlags := 1, code := none }
def k1c1 : Code := { maxStack := 8, maxLocals := 12, code := code, exceptionTable := #[], attributes := #[] }
def k1m1 : Method := { name := "law", desc := "(JJJI)Z", sig := { parameters := [.long, .long, .long, .int], returnType := some .boolean }, accessFlags := 9, code := some k1c1 }
/-- com/example/spanwood/spanwood/repair/CheckSoundPinLaw -/
def k1 : Class := { plain "com/example/spanwood/spanwood/repair/CheckSoundPinLaw" (some 0) with
  accessFlags := 49
  interfaces := #[]
  cf := some (fileOf pool1 18 #[] #[{ accessFlags := 1, nameIndex := 5, descriptorIndex := 6, attributes := #[] }, { accessFlags := 9, nameIndex := 22, descriptorIndex := 23, attributes := #[] }] 49 2 #[] #[])
  fields := #[]
  methods := #[k1m0, k1m1]
  instanceTypes := #[]
  staticTypes := #[]
  resolved := Array.replicate 31 none
  statics := none }

def pool2 : Array CpInfo := pool [(1, .methodref 2 3), (0, .class_ 4), (0, .nameAndType 5 6), (0, u "java/lang/Object"), (0, u "<init>"), (0, u "()V"), (0, .class_ 8), (0, u "java/lang/Record")] 13

def k2c0 : Code := { maxStack := 1, maxLocals := 1, code := jdk_30_method_1_code, exceptionTable := #[], attributes := #[] }
def k2m0 : Method := { name := "<init>", desc := "()V", sig := { parameters := [], returnType := none }, accessFlags := 4, code := some k2c0 }
/-- java/lang/Record -/
def k2 : Class := { plain "java/lang/Record" (some 0) with
  accessFlags := 1057
  interfaces := #[]
  cf := some (fileOf pool2 7 #[] #[{ accessFlags := 4, nameIndex := 5, descriptorIndex := 6, attributes := #[] }] 1057 2 #[] #[])
  fields := #[]
  methods := #[k2m0]
  instanceTypes := #[]
  staticTypes := #[]
  resolved := Array.replicate 22 none
  statics := none }

def pool3 : Array CpInfo := pool [(1, .methodref 2 3), (0, .class_ 4), (0, .nameAndType 5 6), (0, u "java/lang/Record"), (0, u "<init>"), (0, u "()V"), (0, .fieldref 8 9), (0, .class_ 10), (0, .nameAndType 11 12), (0, u "com/example/spanwood/spanwood/repair/Check$Summary"), (0, u "trees"), (0, u "J"), (0, .fieldref 8 14), (0, .nameAndType 15 12), (0, u "nodes"), (0, .fieldref 8 17), (0, .nameAndType 18 12), (0, u "violations"), (12, u "(JJJ)V"), (3, u "sound"), (0, u "()Z"), (8, .class_ 46), (0, u "com/example/spanwood/spanwood/repair/Check")] 21

def k3c0 : Code := { maxStack := 3, maxLocals := 7, code := prog_28_method_1_code, exceptionTable := #[], attributes := #[] }
def k3m0 : Method := { name := "<init>", desc := "(JJJ)V", sig := { parameters := [.long, .long, .long], returnType := none }, accessFlags := 1, code := some k3c0 }
def k3c1 : Code := { maxStack := 4, maxLocals := 1, code := prog_28_method_2_code, exceptionTable := #[], attributes := #[] }
def k3m1 : Method := { name := "sound", desc := "()Z", sig := { parameters := [], returnType := some .boolean }, accessFlags := 1, code := some k3c1 }
/-- com/example/spanwood/spanwood/repair/Check$Summary -/
def k3 : Class := { plain "com/example/spanwood/spanwood/repair/Check$Summary" (some 2) with
  accessFlags := 49
  interfaces := #[]
  cf := some (fileOf pool3 8 #[.nestHost 45] #[{ accessFlags := 1, nameIndex := 5, descriptorIndex := 31, attributes := #[] }, { accessFlags := 1, nameIndex := 35, descriptorIndex := 36, attributes := #[] }] 49 2 #[] #[{ accessFlags := 18, nameIndex := 11, descriptorIndex := 12, attributes := #[] }, { accessFlags := 18, nameIndex := 15, descriptorIndex := 12, attributes := #[] }, { accessFlags := 18, nameIndex := 18, descriptorIndex := 12, attributes := #[] }])
  fields := #[{ name := "trees", type := .long, accessFlags := 18, slot := 0, constantValue := 0 }, { name := "nodes", type := .long, accessFlags := 18, slot := 1, constantValue := 0 }, { name := "violations", type := .long, accessFlags := 18, slot := 2, constantValue := 0 }]
  methods := #[k3m0, k3m1]
  instanceTypes := #[.long, .long, .long]
  staticTypes := #[]
  resolved := Array.replicate 68 none
  statics := none }

def pool4 : Array CpInfo := pool [(1, u "java/lang/Cloneable"), (0, .class_ 1), (0, u "java/lang/Object"), (0, .class_ 3)] 3

/-- java/lang/Cloneable -/
def k4 : Class := { plain "java/lang/Cloneable" (some 0) with
  accessFlags := 1537
  interfaces := #[]
  cf := some (fileOf pool4 2 #[] #[] 1537 4 #[] #[])
  fields := #[]
  methods := #[]
  instanceTypes := #[]
  staticTypes := #[]
  resolved := Array.replicate 8 none
  statics := none }

def pool5 : Array CpInfo := pool [(1, u "java/io/Serializable"), (0, .class_ 1), (0, u "java/lang/Object"), (0, .class_ 3)] 3

/-- java/io/Serializable -/
def k5 : Class := { plain "java/io/Serializable" (some 0) with
  accessFlags := 1537
  interfaces := #[]
  cf := some (fileOf pool5 2 #[] #[] 1537 4 #[] #[])
  fields := #[]
  methods := #[]
  instanceTypes := #[]
  staticTypes := #[]
  resolved := Array.replicate 8 none
  statics := none }

/-- the primitive byte -/
def k6 : Class := { plain "byte" none with kind := .primitive 'B', accessFlags := 0x411 }
/-- [B -/
def k7 : Class := { plain "[B" (some 0) with kind := .array 6 .byte, interfaces := #[4, 5], accessFlags := 1041 }

/-- the primitive int -/
def k8 : Class := { plain "int" none with kind := .primitive 'I', accessFlags := 0x411 }
/-- [I -/
def k9 : Class := { plain "[I" (some 0) with kind := .array 8 .int, interfaces := #[4, 5], accessFlags := 1041 }

def heap : Heap := #[]
def classes : Array Class := #[k0, k1, k2, k3, k4, k5, k6, k7, k8, k9]
def interned : List (Array UInt16 × Addr) := []
def slotsUsed : Nat := 0
def theMethod : MethodId := ⟨1, 1⟩
def args0 : Array Value := #[.long 5, .long 6, .long 7, .int 3]
def aboutOver (below : List Frame) : State where
  vm := { classes := classes, interned := interned.toArray }
  heap := heap
  slotsUsed := slotsUsed
  threads := #[{ frames := .invoking theMethod args0 :: below }]
def below0 : List Frame := [.native { method := ⟨0, 0⟩, args := #[] }]
def about1 : State := aboutOver below0
def p0 : Program := .bare "" "" ""
def e0 : Env := launch0.env 0 0 0
theorem w_frames : about1.frames = Frame.invoking theMethod args0 :: below0 := rfl
set_option maxRecDepth 65536 in
theorem w_args : argsFit about1.vm theMethod args0 = true := by decide +kernel
set_option maxRecDepth 65536 in
theorem w_heap : heapFits about1 = true := by decide +kernel
set_option maxRecDepth 65536 in
theorem w_runnable : about1.curStatus? = some .runnable := by decide +kernel
set_option maxRecDepth 65536 in
theorem w_alone : about1.alone = true := by decide +kernel
set_option maxRecDepth 65536 in
theorem w_named : about1.methodNamed? x = some theMethod := by decide +kernel
set_option maxRecDepth 65536 in
theorem w_hears : about1.hears theMethod below0 = true := by decide +kernel
set_option maxRecDepth 65536 in
theorem w_ripe : about1.ripe theMethod args0 below0 = true := by decide +kernel
theorem w_running : about1.status = .running := rfl
set_option maxRecDepth 65536 in
theorem w_room : about1.hasRoom e0.platform room_1 = true :=
  launch0.hasRoom_least _ room_1 (by decide +kernel) (by decide +kernel) (by decide +kernel) (by decide +kernel) (by decide +kernel) (by decide +kernel)
theorem allAtoms_all (ts : List Jvm.Cond) (a : Array Jvm.Value) (st : Jvm.State) : (allAtoms ts).before a st = ts.all (fun c => c.before a st) := by
  induction ts with
  | nil => rfl
  | cons c t ih =>
    show (Jvm.Cond.and c (allAtoms t)).before a st = _
    rw [Jvm.Cond.before_and, ih, List.all_cons]
def words1 : List Jvm.Cond := Jvm.Cond.code x code maxLocals ret :: tables_1
/-- a 'code' word, met by the world's own term for the bytes: nothing is compared byte by byte -/
theorem code_word {y : MethodName} {bytes : ByteArray} {mx : Nat} {rt : Option FieldType} {a : Array Value} {s : State} {m : MethodId} {meth : Method} {c : Code} (h1 : s.methodNamed? y = some m) (h2 : s.vm.method? m = some meth) (h3 : meth.code = some c) (h4 : c.code = bytes)
    (h5 : (c.maxLocals == mx && c.exceptionTable.isEmpty && decide (c.maxStack ≤ mostOperands) && decide (meth.sig.returnType = rt) && !meth.locks && decide (parseMethodDescriptor y.desc = some meth.sig)) = true) : (Jvm.Cond.code y bytes mx rt).before a s = true := by
  simp only [Bool.and_eq_true, beq_iff_eq, Bool.not_eq_true', decide_eq_true_eq] at h5
  obtain ⟨⟨⟨⟨⟨g1, g2⟩, g3⟩, g4⟩, g5⟩, g6⟩ := h5
  simp [Cond.before, Cond.holds, Cond.value, h1, h2, h3, h4, g1, g2, g3, g4, g5, g6]
def isCode : Jvm.Cond → Bool
  | .code _ _ _ _ => true
  | _ => false
theorem all_split {L : List Jvm.Cond} {P : Jvm.Cond → Bool} (h1 : L.all (fun c => isCode c || P c) = true) (h2 : ∀ c ∈ L.filter isCode, P c = true) : L.all P = true := by
  refine List.all_eq_true.mpr fun c hc => ?_
  have h := List.all_eq_true.mp h1 c hc
  rcases Bool.eq_false_or_eq_true (isCode c) with hi | hi
  · exact h2 c (List.mem_filter.mpr ⟨hc, hi⟩)
  · simpa [hi] using h
set_option maxRecDepth 65536 in
theorem w_c0 : (Jvm.Cond.code x code maxLocals ret).before args0 about1 = true := code_word (m := ⟨1, 1⟩) (meth := k1m1) (c := k1c1) (by decide +kernel) rfl rfl rfl (by decide +kernel)
set_option maxRecDepth 65536 in
theorem w_c1 : (Jvm.Cond.code ({ cls := "com/example/spanwood/spanwood/repair/Check$Summary", name := "<init>", desc := "(JJJ)V" } : Jvm.MethodName) prog_28_method_1_code (7 : Nat) (Option.none : Option Jvm.ClassFile.FieldType)).before args0 about1 = true := code_word (m := ⟨3, 0⟩) (meth := k3m0) (c := k3c0) (by decide +kernel) rfl rfl rfl (by decide +kernel)
set_option maxRecDepth 65536 in
theorem w_c2 : (Jvm.Cond.code ({ cls := "java/lang/Record", name := "<init>", desc := "()V" } : Jvm.MethodName) jdk_30_method_1_code (1 : Nat) (Option.none : Option Jvm.ClassFile.FieldType)).before args0 about1 = true := code_word (m := ⟨2, 0⟩) (meth := k2m0) (c := k2c0) (by decide +kernel) rfl rfl rfl (by decide +kernel)
set_option maxRecDepth 65536 in
theorem w_c3 : (Jvm.Cond.code ({ cls := "java/lang/Object", name := "<init>", desc := "()V" } : Jvm.MethodName) object_method_1_code (1 : Nat) (Option.none : Option Jvm.ClassFile.FieldType)).before args0 about1 = true := code_word (m := ⟨0, 0⟩) (meth := k0m0) (c := k0c0) (by decide +kernel) rfl rfl rfl (by decide +kernel)
set_option maxRecDepth 65536 in
theorem w_c4 : (Jvm.Cond.code ({ cls := "com/example/spanwood/spanwood/repair/Check$Summary", name := "sound", desc := "()Z" } : Jvm.MethodName) prog_28_method_2_code (1 : Nat) (Option.some Jvm.ClassFile.FieldType.boolean)).before args0 about1 = true := code_word (m := ⟨3, 1⟩) (meth := k3m1) (c := k3c1) (by decide +kernel) rfl rfl rfl (by decide +kernel)
def codes1 : List Jvm.Cond := [Jvm.Cond.code x code maxLocals ret, Jvm.Cond.code ({ cls := "com/example/spanwood/spanwood/repair/Check$Summary", name := "<init>", desc := "(JJJ)V" } : Jvm.MethodName) prog_28_method_1_code (7 : Nat) (Option.none : Option Jvm.ClassFile.FieldType), Jvm.Cond.code ({ cls := "java/lang/Record", name := "<init>", desc := "()V" } : Jvm.MethodName) jdk_30_method_1_code (1 : Nat) (Option.none : Option Jvm.ClassFile.FieldType), Jvm.Cond.code ({ cls := "java/lang/Object", name := "<init>", desc := "()V" } : Jvm.MethodName) object_method_1_code (1 : Nat) (Option.none : Option Jvm.ClassFile.FieldType), Jvm.Cond.code ({ cls := "com/example/spanwood/spanwood/repair/Check$Summary", name := "sound", desc := "()Z" } : Jvm.MethodName) prog_28_method_2_code (1 : Nat) (Option.some Jvm.ClassFile.FieldType.boolean)]
set_option maxRecDepth 65536 in
theorem codes_eq : words1.filter isCode = codes1 := rfl
theorem w_codes : ∀ c ∈ words1.filter isCode, c.before args0 about1 = true := by
  rw [codes_eq]
  intro c hc
  simp only [codes1, List.mem_cons, List.not_mem_nil, or_false] at hc
  rcases hc with rfl | rfl | rfl | rfl | rfl
  · exact w_c0
  · exact w_c1
  · exact w_c2
  · exact w_c3
  · exact w_c4
set_option maxRecDepth 65536 in
theorem w_t1 : (words1.take 24).all (fun c => isCode c || c.before args0 about1) = true := by decide +kernel
set_option maxRecDepth 65536 in
theorem w_t2 : (words1.drop 24).all (fun c => isCode c || c.before args0 about1) = true := by decide +kernel
theorem w_tables : (allAtoms (Jvm.Cond.code x code maxLocals ret :: tables_1)).before args0 about1 = true := by
  rw [allAtoms_all]
  show words1.all (fun c => c.before args0 about1) = true
  refine all_split ?_ w_codes
  rw [← List.take_append_drop 24 words1, List.all_append, w_t1, w_t2]
  rfl
set_option maxRecDepth 65536 in
theorem w_case : (Jvm.Cond.and given_1 narrow_1).before args0 about1 = true := by decide +kernel
theorem w_applies : (headSpec (Jvm.Cond.code x code maxLocals ret :: tables_1) room_1).applies x e0.platform about1 = true :=
  (Spec.applies_iff w_frames).mpr ⟨w_running, w_runnable, w_alone, w_named, w_hears, w_ripe, w_room, w_tables⟩
theorem atStart : AtStart classFile x code maxLocals ret World_1 tables_1 room_1 Calls_1 rest_1 Pre_1 launch0 p0 e0 about1 theMethod args0 below0 :=
  ⟨lists_1, trivial, launch0.admits_env _ _ _, launch0.least_env, fairChoices_fair.cas, fairChoices_fair.clock, w_frames, w_args, w_heap, w_applies, trivial, trivial, w_case⟩
end start1
theorem witness_1 : WitnessClaimed_1 := ⟨start1.p0, start1.e0, start1.about1, start1.theMethod, start1.args0, start1.below0, start1.atStart⟩
end Jvm.Pilot.@@N@@
