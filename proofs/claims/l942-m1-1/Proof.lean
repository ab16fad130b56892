import JvmDerived
import JvmDerived.Pilot.@@N@@Statement
import JvmDerived.Pilot.@@N@@Code
set_option linter.unusedVariables false
set_option linter.unusedSimpArgs false
namespace Jvm.Pilot.@@N@@
open Jvm Jvm.ClassFile Sem Op Lib Jvm.Free Jvm.Stand Jvm.LawKit Jvm.RoadKit Bundle Jvm.Pilot.@@N@@.Jvm.D
section OwnKit
variable {p : Program} {l : Launch} {e : Env} {R : Room} {s : State} {m : MethodId} {args : Array Value} {below : List Frame} {meth : Method} {c : Code} {T : State} {locs : List Loc} {cells slots : Nat} {Z : State} {h : Heap} {a : Addr} {k : ClassId} {z : Int32} {vs : List Value} {dv : Value}
theorem oLen (X : Stand p l e R s m args below meth c T locs cells slots) (hx : p.tables.exec = Jvm.exec) (hZ : Z.Warmed39 s.vm) (eT : T.heap = h) {ty : FieldType} (F : Arv Z h a k ty z vs dv) {g : JFrame} (hg : g.method = m) {rest : List Value} (hs : g.stack = .ref a :: rest) (hd : decode c.code g.pc = .ok (.arraylength, 1)) (target : State)
    (hr : Steps p.tables e below (T.setTop { g with pc := g.pc + 1, stack := .int z :: rest }) target) : Steps p.tables e below (T.setTop g) target := by
  obtain ⟨cl, A, -, S, M, -, -⟩ := F
  refine X.arraylength hx (by rw [eT]; exact A.1) (State.isArrayOf_alike hZ.alike A.2.1) hg hs hd target ?_
  rw [len_of S M]
  exact hr
theorem oLdI (X : Stand p l e R s m args below meth c T locs cells slots) (hx : p.tables.exec = Jvm.exec) (hZ : Z.Warmed39 s.vm) (eT : T.heap = h) (F : Arv Z h a k .int z vs dv) {j : Int32} {v : Value} (hj : ¬ j < 0 ∧ j < z) (hv : vs.getD j.toNatClampNeg dv = v) {g : JFrame} (hg : g.method = m) {rest : List Value} (hs : g.stack = .int j :: .ref a :: rest) (hd : decode c.code g.pc = .ok (.iaload, 1)) (target : State)
    (hr : Steps p.tables e below (T.setTop { g with pc := g.pc + 1, stack := v :: rest }) target) : Steps p.tables e below (T.setTop g) target := by
  obtain ⟨cl, A, -, S, -, H, -⟩ := F
  have hin := inb_of S hj
  exact X.iaload hx (by rw [eT]; exact A.1) (State.isArrayOf_alike hZ.alike A.2.1) A.2.2 hin (Has.at H hin hv) hg hs hd target hr
theorem oLdB (X : Stand p l e R s m args below meth c T locs cells slots) (hx : p.tables.exec = Jvm.exec) (hZ : Z.Warmed39 s.vm) (eT : T.heap = h) (F : Arv Z h a k .byte z vs dv) {j : Int32} {v : Value} (hj : ¬ j < 0 ∧ j < z) (hv : vs.getD j.toNatClampNeg dv = v) {g : JFrame} (hg : g.method = m) {rest : List Value} (hs : g.stack = .int j :: .ref a :: rest) (hd : decode c.code g.pc = .ok (.baload, 1)) (target : State)
    (hr : Steps p.tables e below (T.setTop { g with pc := g.pc + 1, stack := v :: rest }) target) : Steps p.tables e below (T.setTop g) target := by
  obtain ⟨cl, A, -, S, -, H, -⟩ := F
  have hin := inb_of S hj
  exact X.baloadBytes hx (by rw [eT]; exact A.1) (State.isArrayOf_alike hZ.alike A.2.1) A.2.2 hin (Has.at H hin hv) hg hs hd target hr
theorem oLdJ (X : Stand p l e R s m args below meth c T locs cells slots) (hx : p.tables.exec = Jvm.exec) (hZ : Z.Warmed39 s.vm) (eT : T.heap = h) (F : Arv Z h a k .long z vs dv) {j : Int32} {v : Value} (hj : ¬ j < 0 ∧ j < z) (hv : vs.getD j.toNatClampNeg dv = v) {g : JFrame} (hg : g.method = m) {rest : List Value} (hs : g.stack = .int j :: .ref a :: rest) (hd : decode c.code g.pc = .ok (.laload, 1)) (target : State)
    (hr : Steps p.tables e below (T.setTop { g with pc := g.pc + 1, stack := v :: rest }) target) : Steps p.tables e below (T.setTop g) target := by
  obtain ⟨cl, A, -, S, -, H, -⟩ := F
  have hin := inb_of S hj
  exact X.laload hx (by rw [eT]; exact A.1) (State.isArrayOf_alike hZ.alike A.2.1) A.2.2 hin (Has.at H hin hv) hg hs hd target hr
theorem oLdD (X : Stand p l e R s m args below meth c T locs cells slots) (hx : p.tables.exec = Jvm.exec) (hZ : Z.Warmed39 s.vm) (eT : T.heap = h) (F : Arv Z h a k .double z vs dv) {j : Int32} {v : Value} (hj : ¬ j < 0 ∧ j < z) (hv : vs.getD j.toNatClampNeg dv = v) {g : JFrame} (hg : g.method = m) {rest : List Value} (hs : g.stack = .int j :: .ref a :: rest) (hd : decode c.code g.pc = .ok (.daload, 1)) (target : State)
    (hr : Steps p.tables e below (T.setTop { g with pc := g.pc + 1, stack := v :: rest }) target) : Steps p.tables e below (T.setTop g) target := by
  obtain ⟨cl, A, -, S, -, H, -⟩ := F
  have hin := inb_of S hj
  exact X.daload hx (by rw [eT]; exact A.1) (State.isArrayOf_alike hZ.alike A.2.1) A.2.2 hin (Has.at H hin hv) hg hs hd target hr
theorem oStI (X : Stand p l e R s m args below meth c T locs cells slots) (hx : p.tables.exec = Jvm.exec) (hZ : Z.Warmed39 s.vm) (eT : T.heap = h) (F : Arv Z h a k .int z vs dv) {j : Int32} {x : Int32} (hj : ¬ j < 0 ∧ j < z) (i : Nat) (hi : j.toNatClampNeg = i) (hl : i < vs.length) {g : JFrame} (hg : g.method = m) {rest : List Value} (hs : g.stack = .int x :: .int j :: .ref a :: rest) (hd : decode c.code g.pc = .ok (.iastore, 1)) :
    ∃ T' h', Stand p l e R s m args below meth c T' (locs ++ [⟨a, j.toNatClampNeg⟩]) cells slots ∧ T'.heap = h' ∧ Wr h h' a j.toNatClampNeg (.int x) ∧ Arv Z h' a k .int z (vs.set i (.int x)) dv ∧ ∀ target, Steps p.tables e below (T'.setTop { g with pc := g.pc + 1, stack := rest }) target → Steps p.tables e below (T.setTop g) target := by
  obtain ⟨cl, A, q1, S, M, H, G⟩ := F
  obtain ⟨T', h', X', e', W, st⟩ := stI X hx hZ eT A (j := j) (inb_of S hj) hg hs hd
  exact ⟨T', h', X', e', W, Arv.set A q1 S M H G rfl W i hi hl, st⟩
theorem oStB (X : Stand p l e R s m args below meth c T locs cells slots) (hx : p.tables.exec = Jvm.exec) (hZ : Z.Warmed39 s.vm) (eT : T.heap = h) (F : Arv Z h a k .byte z vs dv) {j : Int32} {x : Int32} (hj : ¬ j < 0 ∧ j < z) (i : Nat) (hi : j.toNatClampNeg = i) (hl : i < vs.length) {g : JFrame} (hg : g.method = m) {rest : List Value} (hs : g.stack = .int x :: .int j :: .ref a :: rest) (hd : decode c.code g.pc = .ok (.bastore, 1)) :
    ∃ T' h', Stand p l e R s m args below meth c T' (locs ++ [⟨a, j.toNatClampNeg⟩]) cells slots ∧ T'.heap = h' ∧ Wr h h' a j.toNatClampNeg (.int (nar .byte x)) ∧ Arv Z h' a k .byte z (vs.set i (.int (nar .byte x))) dv ∧ ∀ target, Steps p.tables e below (T'.setTop { g with pc := g.pc + 1, stack := rest }) target → Steps p.tables e below (T.setTop g) target := by
  obtain ⟨cl, A, q1, S, M, H, G⟩ := F
  obtain ⟨T', h', X', e', W, st⟩ := stB X hx hZ eT A (j := j) (inb_of S hj) hg hs hd
  exact ⟨T', h', X', e', W, Arv.set A q1 S M H G (fits_nar_byte x) W i hi hl, st⟩
theorem oStJ (X : Stand p l e R s m args below meth c T locs cells slots) (hx : p.tables.exec = Jvm.exec) (hZ : Z.Warmed39 s.vm) (eT : T.heap = h) (F : Arv Z h a k .long z vs dv) {j : Int32} {x : Int64} (hj : ¬ j < 0 ∧ j < z) (i : Nat) (hi : j.toNatClampNeg = i) (hl : i < vs.length) {g : JFrame} (hg : g.method = m) {rest : List Value} (hs : g.stack = .long x :: .int j :: .ref a :: rest) (hd : decode c.code g.pc = .ok (.lastore, 1)) :
    ∃ T' h', Stand p l e R s m args below meth c T' (locs ++ [⟨a, j.toNatClampNeg⟩]) cells slots ∧ T'.heap = h' ∧ Wr h h' a j.toNatClampNeg (.long x) ∧ Arv Z h' a k .long z (vs.set i (.long x)) dv ∧ ∀ target, Steps p.tables e below (T'.setTop { g with pc := g.pc + 1, stack := rest }) target → Steps p.tables e below (T.setTop g) target := by
  obtain ⟨cl, A, q1, S, M, H, G⟩ := F
  obtain ⟨T', h', X', e', W, st⟩ := stJ X hx hZ eT A (j := j) (inb_of S hj) hg hs hd
  exact ⟨T', h', X', e', W, Arv.set A q1 S M H G rfl W i hi hl, st⟩
theorem oStD (X : Stand p l e R s m args below meth c T locs cells slots) (hx : p.tables.exec = Jvm.exec) (hZ : Z.Warmed39 s.vm) (eT : T.heap = h) (F : Arv Z h a k .double z vs dv) {j : Int32} {x : UInt64} (hj : ¬ j < 0 ∧ j < z) (i : Nat) (hi : j.toNatClampNeg = i) (hl : i < vs.length) {g : JFrame} (hg : g.method = m) {rest : List Value} (hs : g.stack = .double x :: .int j :: .ref a :: rest) (hd : decode c.code g.pc = .ok (.dastore, 1)) :
    ∃ T' h', Stand p l e R s m args below meth c T' (locs ++ [⟨a, j.toNatClampNeg⟩]) cells slots ∧ T'.heap = h' ∧ Wr h h' a j.toNatClampNeg (.double x) ∧ Arv Z h' a k .double z (vs.set i (.double x)) dv ∧ ∀ target, Steps p.tables e below (T'.setTop { g with pc := g.pc + 1, stack := rest }) target → Steps p.tables e below (T.setTop g) target := by
  obtain ⟨cl, A, q1, S, M, H, G⟩ := F
  obtain ⟨T', h', X', e', W, st⟩ := stD X hx hZ eT A (j := j) (inb_of S hj) hg hs hd
  exact ⟨T', h', X', e', W, Arv.set A q1 S M H G rfl W i hi hl, st⟩
end OwnKit
abbrev oi (x : Int32) : Slot := .val (.int x)
abbrev oj (x : Int64) : Slot := .val (.long x)
abbrev oa (x : Addr) : Slot := .val (.ref x)
abbrev od (x : UInt64) : Slot := .val (.double x)
abbrev oS (p : Program) (e : Env) (below : List Frame) (T : State) (m : MethodId) (pc : Nat) (L : Array Slot) (S : List Value) (t : State) : Prop := Steps p.tables e below (T.setTop (mkF m pc L S)) t
theorem own_ltp (x k : Int32) : (x < k) = (x.toInt < k.toInt) := propext Int32.lt_iff_toInt_lt
theorem own_eqp (x k : Int32) : (x = k) = (x.toInt = k.toInt) := propext Int32.toInt_inj.symm
theorem own_ltpL (x k : Int64) : (x < k) = (x.toInt < k.toInt) := propext Int64.lt_iff_toInt_lt
theorem own_eqpL (x k : Int64) : (x = k) = (x.toInt = k.toInt) := propext Int64.toInt_inj.symm
theorem own_of_range {P : Int32 → Prop} (n : Nat) (h : ∀ i : Fin n, P (Int32.ofNat i.1)) (x : Int32) (h0 : 0 ≤ x.toInt) (h1 : x.toInt < (n : Int)) : P x := by
  have e : Int32.ofNat x.toInt.toNat = x := by
    rw [← Int32.ofInt_eq_ofNat, Int.toNat_of_nonneg h0, Int32.ofInt_toInt]
  have q := h ⟨x.toInt.toNat, by omega⟩
  rwa [e] at q
theorem own_getD (ws : List Int32) (n : Nat) : (ws.map Value.int).getD n (.int (0 : Int32)) = .int (ws.getD n 0) := by
  simp only [List.getD_eq_getElem?_getD, List.getElem?_map]
  cases ws[n]? <;> rfl

theorem own_d1_0 : decode jdk_29_method_69_code 0 = .ok (.iload_n 0, 1) := by decide +kernel
theorem own_d1_1 : decode jdk_29_method_69_code 1 = .ok (.iload_n 1, 1) := by decide +kernel
theorem own_d1_2 : decode jdk_29_method_69_code 2 = .ok (.if_icmp .gt 7, 3) := by decide +kernel
theorem own_d1_5 : decode jdk_29_method_69_code 5 = .ok (.iload_n 0, 1) := by decide +kernel
theorem own_d1_6 : decode jdk_29_method_69_code 6 = .ok (.goto 4, 3) := by decide +kernel
theorem own_d1_9 : decode jdk_29_method_69_code 9 = .ok (.iload_n 1, 1) := by decide +kernel
theorem own_d1_10 : decode jdk_29_method_69_code 10 = .ok (.ireturn, 1) := by decide +kernel
theorem own_ef1 (m : MethodId) (p0 : Int32) (p1 : Int32) : entryFrame m #[(.int p0), (.int p1)] 2 = mkF m 0 #[oi p0, oi p1] [] := by first | (simp [entryFrame, mkF, argsToLocals, Value.category]; done) | rfl
def own_f1 (p0 : Int32) (p1 : Int32) : Int32 := (if p1 < p0 then p1 else p0)
def own_Q1 (Z : State) (p0 : Int32) (p1 : Int32) (h0 : Heap) (n0 : Nat) (v : Option Value) (h : Heap) (L : List Loc) : Prop := v = some (Value.int (own_f1 p0 p1)) ∧ Fr n0 L ∧ h = h0
set_option maxRecDepth 65536 in
set_option maxHeartbeats 40000000 in
theorem own_rm1 (l : Launch) (Z : State) (av : Array Value) (hw : ∀ d ∈ tables_1, d.before av Z = true) (ws : List Jvm.Cond) (p0 : Int32) (p1 : Int32) (h0 : Heap) (n0 : Nat) (Z0 : n0 ≤ h0.size) :
    MetFree l (⟨"java/lang/Math", "min", "(II)I"⟩ : MethodName) (head1 (Jvm.Cond.code (⟨"java/lang/Math", "min", "(II)I"⟩ : MethodName) jdk_29_method_69_code 2 (some .int) :: ws) ({ frames := 0, cells := 0, slots := 0, locals := 0 } : Room)) (fun a U => a = #[(.int p0), (.int p1)] ∧ Z.Warmed39 U.vm ∧ U.heap = h0) (fun _ _ _ _ _ => True) (fun _ U o U' => ∃ v L, o = .returned v ∧ own_Q1 Z p0 p1 h0 n0 v U'.heap L ∧ FrameEnd U o U' L ({ frames := 0, cells := 0, slots := 0, locals := 0 } : Room).cells ({ frames := 0, cells := 0, slots := 0, locals := 0 } : Room).slots) := by
  refine MetFree.of_bodySF (Jvm.Free.JP.mathPlain rfl (by decide +kernel)) hisR ?_
  intro p e s m args below meth c s₁ Bd hml0 hP hK
  obtain ⟨rfl, hZ, hh⟩ := hP
  have hx := Bd.exec
  have hby := Bd.bytes
  have hml : c.maxLocals = 2 := hml0
  have hown : s.vm.findClass "java/lang/Math" = some m.cls := findClass_of_methodNamed Bd.named
  have hnm := (name_of_methodNamed Bd.named Bd.method).1
  have X0 : Stand p l e ({ frames := 0, cells := 0, slots := 0, locals := 0 } : Room) s m #[(.int p0), (.int p1)] below meth c s₁ [] 0 0 := Stand.of_body Bd
  have e0 : s₁.heap = h0 := by rw [← hh, Bd.state]; rfl
  have N0 := Fr.nil n0
  have pre0 : ∀ t, Steps p.tables e below (s₁.setTop (mkF m 0 #[oi p0, oi p1] [])) t → Steps p.tables e below (s₁.setTop (entryFrame m #[(.int p0), (.int p1)] 2)) t := fun t k => castTop (own_ef1 m p0 p1) k
  have pre1 : ∀ t, Steps p.tables e below (s₁.setTop (mkF m 2 #[oi p0, oi p1] [(.int p1), (.int p0)])) t → Steps p.tables e below (s₁.setTop (entryFrame m #[(.int p0), (.int p1)] 2)) t := by
    intro t k
    refine pre0 t ?_
    show oS p e below s₁ m 0 #[oi p0, oi p1] [] _
    refine XS.iloadN X0.here hx rfl (hb hby own_d1_0) rfl ?_
    show oS p e below s₁ m 1 #[oi p0, oi p1] [(.int p0)] _
    refine XS.iloadN X0.here hx rfl (hb hby own_d1_1) rfl ?_
    exact k
  by_cases c2 : p1 < p0
  · skip
    obtain ⟨fs, hr, hrun, hended, hW, hsame⟩ := X0.leave (v := (some (.int p1))) (fun h => by rw [Bd.returns] at h; cases h)
    refine ⟨_, _, pre1 _ ?_, hrun, hended, _, _, rfl, ?_, ⟨_, rfl⟩, hW, hsame.mono (by decide) (by decide)⟩
    · show oS p e below s₁ m 2 #[oi p0, oi p1] [(.int p1), (.int p0)] _
      refine XS.icmpYes X0.here hx rfl (pc0 := 2) (pc' := 9) rfl (hb hby own_d1_2) rfl (tlt c2).2.2.1 (by decide) (by decide) ?_
      show oS p e below s₁ m 9 #[oi p0, oi p1] [] _
      refine XS.iloadN X0.here hx rfl (hb hby own_d1_9) rfl ?_
      show oS p e below s₁ m 10 #[oi p0, oi p1] [(.int p1)] _
      exact retOut X0 hx Bd.returns rfl (Or.inl ⟨rfl, Or.inl rfl, _, rfl⟩) (hb hby own_d1_10) hr
    · show own_Q1 Z p0 p1 h0 n0 _ s₁.heap _
      rw [e0]
      exact ⟨congrArg (fun z => some (Value.int z)) (by rw [own_f1, if_pos c2]), N0, rfl⟩
  · skip
    obtain ⟨fs, hr, hrun, hended, hW, hsame⟩ := X0.leave (v := (some (.int p0))) (fun h => by rw [Bd.returns] at h; cases h)
    refine ⟨_, _, pre1 _ ?_, hrun, hended, _, _, rfl, ?_, ⟨_, rfl⟩, hW, hsame.mono (by decide) (by decide)⟩
    · show oS p e below s₁ m 2 #[oi p0, oi p1] [(.int p1), (.int p0)] _
      refine XS.icmpNo X0.here hx rfl (hb hby own_d1_2) rfl (flt c2).2.2.1 ?_
      show oS p e below s₁ m 5 #[oi p0, oi p1] [] _
      refine XS.iloadN X0.here hx rfl (hb hby own_d1_5) rfl ?_
      show oS p e below s₁ m 6 #[oi p0, oi p1] [(.int p0)] _
      refine XS.goto X0.here hx rfl (pc0 := 6) (pc' := 10) rfl (hb hby own_d1_6) (by decide) (by decide) ?_
      show oS p e below s₁ m 10 #[oi p0, oi p1] [(.int p0)] _
      exact retOut X0 hx Bd.returns rfl (Or.inl ⟨rfl, Or.inl rfl, _, rfl⟩) (hb hby own_d1_10) hr
    · show own_Q1 Z p0 p1 h0 n0 _ s₁.heap _
      rw [e0]
      exact ⟨congrArg (fun z => some (Value.int z)) (by rw [own_f1, if_neg c2]), N0, rfl⟩
theorem own_pn0 : plainName "com/example/trawl_tables/trawltables/TrigramSet" = true := by first | (simp [plainName, overriddenIn]; done) | decide +kernel
theorem own_d2_0 : decode prog_18_method_15_code 0 = .ok (.iload_n 1, 1) := by decide +kernel
theorem own_d2_1 : decode prog_18_method_15_code 1 = .ok (.iload_n 2, 1) := by decide +kernel
theorem own_d2_2 : decode prog_18_method_15_code 2 = .ok (.iadd, 1) := by decide +kernel
theorem own_d2_3 : decode prog_18_method_15_code 3 = .ok (.iload_n 0, 1) := by decide +kernel
theorem own_d2_4 : decode prog_18_method_15_code 4 = .ok (.isub, 1) := by decide +kernel
theorem own_d2_5 : decode prog_18_method_15_code 5 = .ok (.istore_n 3, 1) := by decide +kernel
theorem own_d2_6 : decode prog_18_method_15_code 6 = .ok (.iload_n 3, 1) := by decide +kernel
theorem own_d2_7 : decode prog_18_method_15_code 7 = .ok (.ifCond .ne 9, 3) := by decide +kernel
theorem own_d2_10 : decode prog_18_method_15_code 10 = .ok (.dconst 0, 1) := by decide +kernel
theorem own_d2_11 : decode prog_18_method_15_code 11 = .ok (.dstore 4, 2) := by decide +kernel
theorem own_d2_13 : decode prog_18_method_15_code 13 = .ok (.goto 10, 3) := by decide +kernel
theorem own_d2_16 : decode prog_18_method_15_code 16 = .ok (.iload_n 0, 1) := by decide +kernel
theorem own_d2_17 : decode prog_18_method_15_code 17 = .ok (.i2d, 1) := by decide +kernel
theorem own_d2_18 : decode prog_18_method_15_code 18 = .ok (.iload_n 3, 1) := by decide +kernel
theorem own_d2_19 : decode prog_18_method_15_code 19 = .ok (.i2d, 1) := by decide +kernel
theorem own_d2_20 : decode prog_18_method_15_code 20 = .ok (.ddiv, 1) := by decide +kernel
theorem own_d2_21 : decode prog_18_method_15_code 21 = .ok (.dstore 4, 2) := by decide +kernel
theorem own_d2_23 : decode prog_18_method_15_code 23 = .ok (.dload 4, 2) := by decide +kernel
theorem own_d2_25 : decode prog_18_method_15_code 25 = .ok (.dreturn, 1) := by decide +kernel
theorem own_ef2 (m : MethodId) (p0 : Int32) (p1 : Int32) (p2 : Int32) : entryFrame m #[(.int p0), (.int p1), (.int p2)] 6 = mkF m 0 #[oi p0, oi p1, oi p2, .unset, .unset, .unset] [] := by first | (simp [entryFrame, mkF, argsToLocals, Value.category]; done) | rfl
def own_f2 (p0 : Int32) (p1 : Int32) (p2 : Int32) : UInt64 := (if ((p1 + p2) - p0) = (0 : Int32) then FP.dconst0 else (FP.ddiv (FP.i2d p0) (FP.i2d ((p1 + p2) - p0))))
def own_Q2 (Z : State) (p0 : Int32) (p1 : Int32) (p2 : Int32) (h0 : Heap) (n0 : Nat) (v : Option Value) (h : Heap) (L : List Loc) : Prop := v = some (Value.double (own_f2 p0 p1 p2)) ∧ Fr n0 L ∧ h = h0
set_option maxRecDepth 65536 in
set_option maxHeartbeats 40000000 in
theorem own_rm2 (l : Launch) (Z : State) (av : Array Value) (hw : ∀ d ∈ tables_1, d.before av Z = true) (ws : List Jvm.Cond) (p0 : Int32) (p1 : Int32) (p2 : Int32) (h0 : Heap) (n0 : Nat) (Z0 : n0 ≤ h0.size) :
    MetFree l (⟨"com/example/trawl_tables/trawltables/TrigramSet", "jaccard", "(III)D"⟩ : MethodName) (head1 (Jvm.Cond.code (⟨"com/example/trawl_tables/trawltables/TrigramSet", "jaccard", "(III)D"⟩ : MethodName) prog_18_method_15_code 6 (some .double) :: ws) ({ frames := 0, cells := 0, slots := 0, locals := 0 } : Room)) (fun a U => a = #[(.int p0), (.int p1), (.int p2)] ∧ Z.Warmed39 U.vm ∧ U.heap = h0) (fun _ _ _ _ _ => True) (fun _ U o U' => ∃ v L, o = .returned v ∧ own_Q2 Z p0 p1 p2 h0 n0 v U'.heap L ∧ FrameEnd U o U' L ({ frames := 0, cells := 0, slots := 0, locals := 0 } : Room).cells ({ frames := 0, cells := 0, slots := 0, locals := 0 } : Room).slots) := by
  refine MetFree.of_bodySF (plainFor_of_name own_pn0) hisR ?_
  intro p e s m args below meth c s₁ Bd hml0 hP hK
  obtain ⟨rfl, hZ, hh⟩ := hP
  have hx := Bd.exec
  have hby := Bd.bytes
  have hml : c.maxLocals = 6 := hml0
  have hown : s.vm.findClass "com/example/trawl_tables/trawltables/TrigramSet" = some m.cls := findClass_of_methodNamed Bd.named
  have hnm := (name_of_methodNamed Bd.named Bd.method).1
  have X0 : Stand p l e ({ frames := 0, cells := 0, slots := 0, locals := 0 } : Room) s m #[(.int p0), (.int p1), (.int p2)] below meth c s₁ [] 0 0 := Stand.of_body Bd
  have e0 : s₁.heap = h0 := by rw [← hh, Bd.state]; rfl
  have N0 := Fr.nil n0
  have pre0 : ∀ t, Steps p.tables e below (s₁.setTop (mkF m 0 #[oi p0, oi p1, oi p2, .unset, .unset, .unset] [])) t → Steps p.tables e below (s₁.setTop (entryFrame m #[(.int p0), (.int p1), (.int p2)] 6)) t := fun t k => castTop (own_ef2 m p0 p1 p2) k
  have pre1 : ∀ t, Steps p.tables e below (s₁.setTop (mkF m 7 #[oi p0, oi p1, oi p2, oi ((p1 + p2) - p0), .unset, .unset] [(.int ((p1 + p2) - p0))])) t → Steps p.tables e below (s₁.setTop (entryFrame m #[(.int p0), (.int p1), (.int p2)] 6)) t := by
    intro t k
    refine pre0 t ?_
    show oS p e below s₁ m 0 #[oi p0, oi p1, oi p2, .unset, .unset, .unset] [] _
    refine XS.iloadN X0.here hx rfl (hb hby own_d2_0) rfl ?_
    show oS p e below s₁ m 1 #[oi p0, oi p1, oi p2, .unset, .unset, .unset] [(.int p1)] _
    refine XS.iloadN X0.here hx rfl (hb hby own_d2_1) rfl ?_
    show oS p e below s₁ m 2 #[oi p0, oi p1, oi p2, .unset, .unset, .unset] [(.int p2), (.int p1)] _
    refine XS.iadd X0.here hx rfl (hb hby own_d2_2) rfl ?_
    show oS p e below s₁ m 3 #[oi p0, oi p1, oi p2, .unset, .unset, .unset] [(.int (p1 + p2))] _
    refine XS.iloadN X0.here hx rfl (hb hby own_d2_3) rfl ?_
    show oS p e below s₁ m 4 #[oi p0, oi p1, oi p2, .unset, .unset, .unset] [(.int p0), (.int (p1 + p2))] _
    refine XS.isub X0.here hx rfl (hb hby own_d2_4) rfl ?_
    show oS p e below s₁ m 5 #[oi p0, oi p1, oi p2, .unset, .unset, .unset] [(.int ((p1 + p2) - p0))] _
    refine XS.istoreN X0.here hx rfl (hb hby own_d2_5) rfl (l' := #[oi p0, oi p1, oi p2, oi ((p1 + p2) - p0), .unset, .unset]) rfl ?_
    show oS p e below s₁ m 6 #[oi p0, oi p1, oi p2, oi ((p1 + p2) - p0), .unset, .unset] [] _
    refine XS.iloadN X0.here hx rfl (hb hby own_d2_6) rfl ?_
    exact k
  by_cases c2 : ((p1 + p2) - p0) = (0 : Int32)
  · skip
    obtain ⟨fs, hr, hrun, hended, hW, hsame⟩ := X0.leave (v := (some (.double FP.dconst0))) (fun h => by rw [Bd.returns] at h; cases h)
    refine ⟨_, _, pre1 _ ?_, hrun, hended, _, _, rfl, ?_, ⟨_, rfl⟩, hW, hsame.mono (by decide) (by decide)⟩
    · show oS p e below s₁ m 7 #[oi p0, oi p1, oi p2, oi ((p1 + p2) - p0), .unset, .unset] [(.int ((p1 + p2) - p0))] _
      refine XS.ifNo X0.here hx rfl (hb hby own_d2_7) rfl ((if0 _ _).trans (teq c2).2) ?_
      show oS p e below s₁ m 10 #[oi p0, oi p1, oi p2, oi ((p1 + p2) - p0), .unset, .unset] [] _
      refine XS.dconst0 X0.here hx rfl (hb hby own_d2_10) rfl ?_
      show oS p e below s₁ m 11 #[oi p0, oi p1, oi p2, oi ((p1 + p2) - p0), .unset, .unset] [(.double FP.dconst0)] _
      refine XS.dstore X0.here hx rfl (hb hby own_d2_11) rfl (l' := #[oi p0, oi p1, oi p2, oi ((p1 + p2) - p0), od FP.dconst0, .second]) rfl ?_
      show oS p e below s₁ m 13 #[oi p0, oi p1, oi p2, oi ((p1 + p2) - p0), od FP.dconst0, .second] [] _
      refine XS.goto X0.here hx rfl (pc0 := 13) (pc' := 23) rfl (hb hby own_d2_13) (by decide) (by decide) ?_
      show oS p e below s₁ m 23 #[oi p0, oi p1, oi p2, oi ((p1 + p2) - p0), od FP.dconst0, .second] [] _
      refine XS.dload X0.here hx rfl (hb hby own_d2_23) rfl ?_
      show oS p e below s₁ m 25 #[oi p0, oi p1, oi p2, oi ((p1 + p2) - p0), od FP.dconst0, .second] [(.double FP.dconst0)] _
      exact retOut X0 hx Bd.returns rfl (Or.inr (Or.inr (Or.inl ⟨rfl, rfl, _, rfl⟩))) (hb hby own_d2_25) hr
    · show own_Q2 Z p0 p1 p2 h0 n0 _ s₁.heap _
      rw [e0]
      exact ⟨congrArg (fun z => some (Value.double z)) (by rw [own_f2, if_pos c2]), N0, rfl⟩
  · skip
    obtain ⟨fs, hr, hrun, hended, hW, hsame⟩ := X0.leave (v := (some (.double (FP.ddiv (FP.i2d p0) (FP.i2d ((p1 + p2) - p0)))))) (fun h => by rw [Bd.returns] at h; cases h)
    refine ⟨_, _, pre1 _ ?_, hrun, hended, _, _, rfl, ?_, ⟨_, rfl⟩, hW, hsame.mono (by decide) (by decide)⟩
    · show oS p e below s₁ m 7 #[oi p0, oi p1, oi p2, oi ((p1 + p2) - p0), .unset, .unset] [(.int ((p1 + p2) - p0))] _
      refine XS.ifYes X0.here hx rfl (pc0 := 7) (pc' := 16) rfl (hb hby own_d2_7) rfl ((if0 _ _).trans (feq c2).2) (by decide) (by decide) ?_
      show oS p e below s₁ m 16 #[oi p0, oi p1, oi p2, oi ((p1 + p2) - p0), .unset, .unset] [] _
      refine XS.iloadN X0.here hx rfl (hb hby own_d2_16) rfl ?_
      show oS p e below s₁ m 17 #[oi p0, oi p1, oi p2, oi ((p1 + p2) - p0), .unset, .unset] [(.int p0)] _
      refine XS.i2dS X0.here hx rfl (hb hby own_d2_17) rfl rfl ?_
      show oS p e below s₁ m 18 #[oi p0, oi p1, oi p2, oi ((p1 + p2) - p0), .unset, .unset] [(.double (FP.i2d p0))] _
      refine XS.iloadN X0.here hx rfl (hb hby own_d2_18) rfl ?_
      show oS p e below s₁ m 19 #[oi p0, oi p1, oi p2, oi ((p1 + p2) - p0), .unset, .unset] [(.int ((p1 + p2) - p0)), (.double (FP.i2d p0))] _
      refine XS.i2dS X0.here hx rfl (hb hby own_d2_19) rfl rfl ?_
      show oS p e below s₁ m 20 #[oi p0, oi p1, oi p2, oi ((p1 + p2) - p0), .unset, .unset] [(.double (FP.i2d ((p1 + p2) - p0))), (.double (FP.i2d p0))] _
      refine XS.ddivS X0.here hx rfl (hb hby own_d2_20) rfl (Jvm.Free.Fl.ddiv_out (Jvm.Free.Fl.i2d_fin _).noNaN (Jvm.Free.Fl.i2d_fin _) (Jvm.Free.Fl.i2d_nz c2)) rfl ?_
      show oS p e below s₁ m 21 #[oi p0, oi p1, oi p2, oi ((p1 + p2) - p0), .unset, .unset] [(.double (FP.ddiv (FP.i2d p0) (FP.i2d ((p1 + p2) - p0))))] _
      refine XS.dstore X0.here hx rfl (hb hby own_d2_21) rfl (l' := #[oi p0, oi p1, oi p2, oi ((p1 + p2) - p0), od (FP.ddiv (FP.i2d p0) (FP.i2d ((p1 + p2) - p0))), .second]) rfl ?_
      show oS p e below s₁ m 23 #[oi p0, oi p1, oi p2, oi ((p1 + p2) - p0), od (FP.ddiv (FP.i2d p0) (FP.i2d ((p1 + p2) - p0))), .second] [] _
      refine XS.dload X0.here hx rfl (hb hby own_d2_23) rfl ?_
      show oS p e below s₁ m 25 #[oi p0, oi p1, oi p2, oi ((p1 + p2) - p0), od (FP.ddiv (FP.i2d p0) (FP.i2d ((p1 + p2) - p0))), .second] [(.double (FP.ddiv (FP.i2d p0) (FP.i2d ((p1 + p2) - p0))))] _
      exact retOut X0 hx Bd.returns rfl (Or.inr (Or.inr (Or.inl ⟨rfl, rfl, _, rfl⟩))) (hb hby own_d2_25) hr
    · show own_Q2 Z p0 p1 p2 h0 n0 _ s₁.heap _
      rw [e0]
      exact ⟨congrArg (fun z => some (Value.double z)) (by rw [own_f2, if_neg c2]), N0, rfl⟩
theorem own_sz (x : Int32) : 0 ≤ (x &&& (1073741823 : Int32)).toInt ∧ (x &&& (1073741823 : Int32)).toInt < 1073741824 := by
  have h : (x &&& (1073741823 : Int32)).toInt = x.toInt % 1073741824 := c_mask x 1073741823 30 (by decide) (by decide)
  rw [h]; omega
theorem own_min (a b : Int32) (ha : 0 ≤ a.toInt ∧ a.toInt < 1073741824) (hb : 0 ≤ b.toInt ∧ b.toInt < 1073741824) : 0 ≤ (own_f1 a b).toInt ∧ (own_f1 a b).toInt ≤ a.toInt ∧ (own_f1 a b).toInt ≤ b.toInt := by
  unfold own_f1
  simp only [own_ltp]
  split <;> omega
theorem own_nz {v : Int32} (h : 0 ≤ v.toInt) (h' : v.toInt < 1073741824) : (v + (1 : Int32)).toInt = v.toInt + 1 := by
  have h2 := c_iadd v 1
  have h3 := rng32 (v + 1)
  simp only [Int32.reduceToInt] at h2
  omega
theorem own_nz' {v : Int32} (h : 0 ≤ v.toInt) (h' : v.toInt < 1073741824) : (v + (1 : Int32)) ≠ 0 := by
  have := own_nz h h'
  intro q
  rw [q] at this
  simp only [Int32.reduceToInt] at this
  omega
theorem own_rem (x v : Int32) (h : 0 ≤ v.toInt) (h' : v.toInt < 1073741824) : 0 ≤ ((x &&& (2147483647 : Int32)) % (v + (1 : Int32))).toInt ∧ ((x &&& (2147483647 : Int32)) % (v + (1 : Int32))).toInt ≤ v.toInt := by
  have e : (x &&& (2147483647 : Int32)).toInt = x.toInt % 2147483648 := c_mask x 2147483647 31 (by decide) (by decide)
  have e2 := own_nz h h'
  have e3 := (c_iremV (x &&& 2147483647) (v + 1)).1 (by omega) (by omega)
  omega
theorem own_U {a b s : Int32} (ha : 0 ≤ a.toInt ∧ a.toInt < 1073741824) (hb : 0 ≤ b.toInt ∧ b.toInt < 1073741824) (hs : 0 ≤ s.toInt ∧ s.toInt ≤ a.toInt ∧ s.toInt ≤ b.toInt) : (((a.toInt64 - s.toInt64) + (b.toInt64 - s.toInt64)) + s.toInt64) = ((a + b) - s).toInt64 ∧ ((b + a) - s) = ((a + b) - s) := by
  have h1 := c_lsub a.toInt64 s.toInt64
  have h2 := c_lsub b.toInt64 s.toInt64
  have h3 := c_ladd (a.toInt64 - s.toInt64) (b.toInt64 - s.toInt64)
  have h4 := c_ladd ((a.toInt64 - s.toInt64) + (b.toInt64 - s.toInt64)) s.toInt64
  have k1 := c_iadd a b
  have k2 := c_isub (a + b) s
  have e1 := c_i2l a
  have e2 := c_i2l b
  have e3 := c_i2l s
  have e4 := c_i2l ((a + b) - s)
  have r1 := rng64 (a.toInt64 - s.toInt64)
  have r2 := rng64 (b.toInt64 - s.toInt64)
  have r3 := rng64 ((a.toInt64 - s.toInt64) + (b.toInt64 - s.toInt64))
  have r4 := rng64 (((a.toInt64 - s.toInt64) + (b.toInt64 - s.toInt64)) + s.toInt64)
  have r5 := rng32 (a + b)
  have r6 := rng32 ((a + b) - s)
  refine ⟨Int64.toInt_inj.mp ?_, by rw [Int32.add_comm b a]⟩
  omega
theorem own_z64 {x : Int32} : x.toInt64 = (0 : Int64) ↔ x = (0 : Int32) := by
  rw [← Int64.toInt_inj, ← Int32.toInt_inj, c_i2l]
  simp only [Int32.reduceToInt, Int64.reduceToInt]
theorem own_d0 : Jvm.Free.Fl.NoNaN64 FP.dconst0 := by unfold Jvm.Free.Fl.NoNaN64; decide
theorem own_jz {a b s : Int32} (h : ((a + b) - s) = (0 : Int32)) : own_f2 s a b = FP.dconst0 := by
  unfold own_f2; rw [if_pos h]
theorem own_jn {a b s : Int32} (h : ¬ ((a + b) - s) = (0 : Int32)) : own_f2 s a b = FP.ddiv (FP.i2d s) (FP.l2d ((a + b) - s).toInt64) := by
  unfold own_f2; rw [if_neg h, i2d_w ((a + b) - s)]
theorem own_nan {a b s : Int32} (h : ¬ ((a + b) - s).toInt64 = (0 : Int64)) : Jvm.Free.Fl.NoNaN64 (FP.ddiv (FP.i2d s) (FP.l2d ((a + b) - s).toInt64)) :=
  Jvm.Free.Fl.ddiv_out (Jvm.Free.Fl.i2d_fin _).noNaN (Jvm.Free.Fl.l2d_fin _) (Jvm.Free.Fl.l2d_nz h)
theorem own_pd0 : parseMethodDescriptor "(II)I" = some ⟨[.int, .int], some .int⟩ := by decide +kernel
theorem own_pd1 : parseMethodDescriptor "(III)D" = some ⟨[.int, .int, .int], some .double⟩ := by decide +kernel
theorem own_pn1 : plainName "com/example/trawl_tables/trawltables/TrigramSetJaccardPinLaw" = true := by first | (simp [plainName, overriddenIn]; done) | decide +kernel
theorem own_ef0 (m : MethodId) (p0 : Int32) (p1 : Int32) (p2 : Int32) (p3 : Int32) : entryFrame m #[(.int p0), (.int p1), (.int p2), (.int p3)] maxLocals = mkF m 0 #[oi p0, oi p1, oi p2, oi p3, .unset, .unset, .unset, .unset, .unset, .unset, .unset, .unset, .unset, .unset, .unset, .unset, .unset, .unset, .unset, .unset, .unset] [] := by first | (simp [entryFrame, mkF, argsToLocals, Value.category, maxLocals]; done) | rfl
def own_Q0 (Z : State) (p0 : Int32) (p1 : Int32) (p2 : Int32) (p3 : Int32) (h0 : Heap) (n0 : Nat) (v : Option Value) (h : Heap) (L : List Loc) : Prop := v = some (Value.int (1 : Int32)) ∧ Fr n0 L
set_option maxRecDepth 65536 in
set_option maxHeartbeats 40000000 in
theorem own_rm0 (l : Launch) (Z : State) (av : Array Value) (hw : ∀ d ∈ tables_1, d.before av Z = true) (ws : List Jvm.Cond) (p0 : Int32) (p1 : Int32) (p2 : Int32) (p3 : Int32) (h0 : Heap) (n0 : Nat) (Z0 : n0 ≤ h0.size) :
    MetFree l x (head1 (Jvm.Cond.code x code maxLocals ret :: ws) room_1) (fun a U => a = #[(.int p0), (.int p1), (.int p2), (.int p3)] ∧ Z.Warmed39 U.vm ∧ U.heap = h0) (fun _ _ _ _ _ => True) (fun _ U o U' => ∃ v L, o = .returned v ∧ own_Q0 Z p0 p1 p2 p3 h0 n0 v U'.heap L ∧ FrameEnd U o U' L room_1.cells room_1.slots) := by
  refine MetFree.of_bodySF (plainFor_of_name own_pn1) hisR ?_
  intro p e s m args below meth c s₁ Bd hml0 hP hK
  obtain ⟨rfl, hZ, hh⟩ := hP
  have hx := Bd.exec
  have hby := Bd.bytes
  have hml : c.maxLocals = 21 := hml0
  have hown : s.vm.findClass "com/example/trawl_tables/trawltables/TrigramSetJaccardPinLaw" = some m.cls := findClass_of_methodNamed Bd.named
  have hnm := (name_of_methodNamed Bd.named Bd.method).1
  have X0 : Stand p l e room_1 s m #[(.int p0), (.int p1), (.int p2), (.int p3)] below meth c s₁ [] 0 0 := Stand.of_body Bd
  have e0 : s₁.heap = h0 := by rw [← hh, Bd.state]; rfl
  have N0 := Fr.nil n0
  have pre0 : ∀ t, Steps p.tables e below (s₁.setTop (mkF m 0 #[oi p0, oi p1, oi p2, oi p3, .unset, .unset, .unset, .unset, .unset, .unset, .unset, .unset, .unset, .unset, .unset, .unset, .unset, .unset, .unset, .unset, .unset] [])) t → Steps p.tables e below (s₁.setTop (entryFrame m #[(.int p0), (.int p1), (.int p2), (.int p3)] maxLocals)) t := fun t k => castTop (own_ef0 m p0 p1 p2 p3) k
  have pre1 : ∀ t, Steps p.tables e below (s₁.setTop (mkF m 15 #[oi p0, oi p1, oi p2, oi p3, oi (p0 &&& (1073741823 : Int32)), oi (p1 &&& (1073741823 : Int32)), .unset, .unset, .unset, .unset, .unset, .unset, .unset, .unset, .unset, .unset, .unset, .unset, .unset, .unset, .unset] [(.int (p3 &&& (4 : Int32)))])) t → Steps p.tables e below (s₁.setTop (entryFrame m #[(.int p0), (.int p1), (.int p2), (.int p3)] maxLocals)) t := by
    intro t k
    refine pre0 t ?_
    show oS p e below s₁ m 0 #[oi p0, oi p1, oi p2, oi p3, .unset, .unset, .unset, .unset, .unset, .unset, .unset, .unset, .unset, .unset, .unset, .unset, .unset, .unset, .unset, .unset, .unset] [] _
    refine XS.iloadN X0.here hx rfl (hb hby at_0) rfl ?_
    show oS p e below s₁ m 1 #[oi p0, oi p1, oi p2, oi p3, .unset, .unset, .unset, .unset, .unset, .unset, .unset, .unset, .unset, .unset, .unset, .unset, .unset, .unset, .unset, .unset, .unset] [(.int p0)] _
    refine X0.ldcInt hx hown (mvT hZ (hw _ (List.mem_of_getElem? (i := 0) rfl))) (g := (mkF m 1 #[oi p0, oi p1, oi p2, oi p3, .unset, .unset, .unset, .unset, .unset, .unset, .unset, .unset, .unset, .unset, .unset, .unset, .unset, .unset, .unset, .unset, .unset] [(.int p0)])) rfl (hb hby at_1) _ ?_
    show oS p e below s₁ m 3 #[oi p0, oi p1, oi p2, oi p3, .unset, .unset, .unset, .unset, .unset, .unset, .unset, .unset, .unset, .unset, .unset, .unset, .unset, .unset, .unset, .unset, .unset] [(.int (1073741823 : Int32)), (.int p0)] _
    refine XS.iand X0.here hx rfl (hb hby at_3) rfl ?_
    show oS p e below s₁ m 4 #[oi p0, oi p1, oi p2, oi p3, .unset, .unset, .unset, .unset, .unset, .unset, .unset, .unset, .unset, .unset, .unset, .unset, .unset, .unset, .unset, .unset, .unset] [(.int (p0 &&& (1073741823 : Int32)))] _
    refine XS.istore X0.here hx rfl (hb hby at_4) rfl (l' := #[oi p0, oi p1, oi p2, oi p3, oi (p0 &&& (1073741823 : Int32)), .unset, .unset, .unset, .unset, .unset, .unset, .unset, .unset, .unset, .unset, .unset, .unset, .unset, .unset, .unset, .unset]) rfl ?_
    show oS p e below s₁ m 6 #[oi p0, oi p1, oi p2, oi p3, oi (p0 &&& (1073741823 : Int32)), .unset, .unset, .unset, .unset, .unset, .unset, .unset, .unset, .unset, .unset, .unset, .unset, .unset, .unset, .unset, .unset] [] _
    refine XS.iloadN X0.here hx rfl (hb hby at_6) rfl ?_
    show oS p e below s₁ m 7 #[oi p0, oi p1, oi p2, oi p3, oi (p0 &&& (1073741823 : Int32)), .unset, .unset, .unset, .unset, .unset, .unset, .unset, .unset, .unset, .unset, .unset, .unset, .unset, .unset, .unset, .unset] [(.int p1)] _
    refine X0.ldcInt hx hown (mvT hZ (hw _ (List.mem_of_getElem? (i := 0) rfl))) (g := (mkF m 7 #[oi p0, oi p1, oi p2, oi p3, oi (p0 &&& (1073741823 : Int32)), .unset, .unset, .unset, .unset, .unset, .unset, .unset, .unset, .unset, .unset, .unset, .unset, .unset, .unset, .unset, .unset] [(.int p1)])) rfl (hb hby at_7) _ ?_
    show oS p e below s₁ m 9 #[oi p0, oi p1, oi p2, oi p3, oi (p0 &&& (1073741823 : Int32)), .unset, .unset, .unset, .unset, .unset, .unset, .unset, .unset, .unset, .unset, .unset, .unset, .unset, .unset, .unset, .unset] [(.int (1073741823 : Int32)), (.int p1)] _
    refine XS.iand X0.here hx rfl (hb hby at_9) rfl ?_
    show oS p e below s₁ m 10 #[oi p0, oi p1, oi p2, oi p3, oi (p0 &&& (1073741823 : Int32)), .unset, .unset, .unset, .unset, .unset, .unset, .unset, .unset, .unset, .unset, .unset, .unset, .unset, .unset, .unset, .unset] [(.int (p1 &&& (1073741823 : Int32)))] _
    refine XS.istore X0.here hx rfl (hb hby at_10) rfl (l' := #[oi p0, oi p1, oi p2, oi p3, oi (p0 &&& (1073741823 : Int32)), oi (p1 &&& (1073741823 : Int32)), .unset, .unset, .unset, .unset, .unset, .unset, .unset, .unset, .unset, .unset, .unset, .unset, .unset, .unset, .unset]) rfl ?_
    show oS p e below s₁ m 12 #[oi p0, oi p1, oi p2, oi p3, oi (p0 &&& (1073741823 : Int32)), oi (p1 &&& (1073741823 : Int32)), .unset, .unset, .unset, .unset, .unset, .unset, .unset, .unset, .unset, .unset, .unset, .unset, .unset, .unset, .unset] [] _
    refine XS.iloadN X0.here hx rfl (hb hby at_12) rfl ?_
    show oS p e below s₁ m 13 #[oi p0, oi p1, oi p2, oi p3, oi (p0 &&& (1073741823 : Int32)), oi (p1 &&& (1073741823 : Int32)), .unset, .unset, .unset, .unset, .unset, .unset, .unset, .unset, .unset, .unset, .unset, .unset, .unset, .unset, .unset] [(.int p3)] _
    refine XS.iconst X0.here hx rfl (hb hby at_13) ?_
    show oS p e below s₁ m 14 #[oi p0, oi p1, oi p2, oi p3, oi (p0 &&& (1073741823 : Int32)), oi (p1 &&& (1073741823 : Int32)), .unset, .unset, .unset, .unset, .unset, .unset, .unset, .unset, .unset, .unset, .unset, .unset, .unset, .unset, .unset] [(.int (4 : Int32)), (.int p3)] _
    refine XS.iand X0.here hx rfl (hb hby at_14) rfl ?_
    exact k
  obtain ⟨v3, hv3⟩ : ∃ z : Int32, z = (if (p3 &&& (4 : Int32)) = (0 : Int32) then (p1 &&& (1073741823 : Int32)) else (p0 &&& (1073741823 : Int32))) := ⟨_, rfl⟩
  have pre4 : ∀ t, Steps p.tables e below (s₁.setTop (mkF m 22 #[oi p0, oi p1, oi p2, oi p3, oi (p0 &&& (1073741823 : Int32)), oi v3, .unset, .unset, .unset, .unset, .unset, .unset, .unset, .unset, .unset, .unset, .unset, .unset, .unset, .unset, .unset] [])) t → Steps p.tables e below (s₁.setTop (entryFrame m #[(.int p0), (.int p1), (.int p2), (.int p3)] maxLocals)) t := by
    intro t k
    by_cases c2 : (p3 &&& (4 : Int32)) = (0 : Int32)
    · skip
      rw [show v3 = (p1 &&& (1073741823 : Int32)) from hv3.trans (by rw [if_pos c2])] at k
      refine pre1 t ?_
      show oS p e below s₁ m 15 #[oi p0, oi p1, oi p2, oi p3, oi (p0 &&& (1073741823 : Int32)), oi (p1 &&& (1073741823 : Int32)), .unset, .unset, .unset, .unset, .unset, .unset, .unset, .unset, .unset, .unset, .unset, .unset, .unset, .unset, .unset] [(.int (p3 &&& (4 : Int32)))] _
      refine XS.ifYes X0.here hx rfl (pc0 := 15) (pc' := 22) rfl (hb hby at_15) rfl ((if0 _ _).trans (teq c2).1) (by decide) (by decide) ?_
      exact k
    · skip
      rw [show v3 = (p0 &&& (1073741823 : Int32)) from hv3.trans (by rw [if_neg c2])] at k
      refine pre1 t ?_
      show oS p e below s₁ m 15 #[oi p0, oi p1, oi p2, oi p3, oi (p0 &&& (1073741823 : Int32)), oi (p1 &&& (1073741823 : Int32)), .unset, .unset, .unset, .unset, .unset, .unset, .unset, .unset, .unset, .unset, .unset, .unset, .unset, .unset, .unset] [(.int (p3 &&& (4 : Int32)))] _
      refine XS.ifNo X0.here hx rfl (hb hby at_15) rfl ((if0 _ _).trans (feq c2).1) ?_
      show oS p e below s₁ m 18 #[oi p0, oi p1, oi p2, oi p3, oi (p0 &&& (1073741823 : Int32)), oi (p1 &&& (1073741823 : Int32)), .unset, .unset, .unset, .unset, .unset, .unset, .unset, .unset, .unset, .unset, .unset, .unset, .unset, .unset, .unset] [] _
      refine XS.iload X0.here hx rfl (hb hby at_18) rfl ?_
      show oS p e below s₁ m 20 #[oi p0, oi p1, oi p2, oi p3, oi (p0 &&& (1073741823 : Int32)), oi (p1 &&& (1073741823 : Int32)), .unset, .unset, .unset, .unset, .unset, .unset, .unset, .unset, .unset, .unset, .unset, .unset, .unset, .unset, .unset] [(.int (p0 &&& (1073741823 : Int32)))] _
      refine XS.istore X0.here hx rfl (hb hby at_20) rfl (l' := #[oi p0, oi p1, oi p2, oi p3, oi (p0 &&& (1073741823 : Int32)), oi (p0 &&& (1073741823 : Int32)), .unset, .unset, .unset, .unset, .unset, .unset, .unset, .unset, .unset, .unset, .unset, .unset, .unset, .unset, .unset]) rfl ?_
      exact k
  have r5a : 0 ≤ v3.toInt ∧ v3.toInt < 1073741824 := by rw [hv3]; split <;> exact own_sz _
  have pre5 : ∀ t, Steps p.tables e below (s₁.setTop (mkF m 28 #[oi p0, oi p1, oi p2, oi p3, oi (p0 &&& (1073741823 : Int32)), oi v3, .unset, .unset, .unset, .unset, .unset, .unset, .unset, .unset, .unset, .unset, .unset, .unset, .unset, .unset, .unset] [(.int (24 : Int32)), (.int (p3 &&& (24 : Int32)))])) t → Steps p.tables e below (s₁.setTop (entryFrame m #[(.int p0), (.int p1), (.int p2), (.int p3)] maxLocals)) t := by
    intro t k
    refine pre4 t ?_
    show oS p e below s₁ m 22 #[oi p0, oi p1, oi p2, oi p3, oi (p0 &&& (1073741823 : Int32)), oi v3, .unset, .unset, .unset, .unset, .unset, .unset, .unset, .unset, .unset, .unset, .unset, .unset, .unset, .unset, .unset] [] _
    refine XS.iloadN X0.here hx rfl (hb hby at_22) rfl ?_
    show oS p e below s₁ m 23 #[oi p0, oi p1, oi p2, oi p3, oi (p0 &&& (1073741823 : Int32)), oi v3, .unset, .unset, .unset, .unset, .unset, .unset, .unset, .unset, .unset, .unset, .unset, .unset, .unset, .unset, .unset] [(.int p3)] _
    refine XS.bipush X0.here hx rfl (hb hby at_23) ?_
    show oS p e below s₁ m 25 #[oi p0, oi p1, oi p2, oi p3, oi (p0 &&& (1073741823 : Int32)), oi v3, .unset, .unset, .unset, .unset, .unset, .unset, .unset, .unset, .unset, .unset, .unset, .unset, .unset, .unset, .unset] [(.int (24 : Int32)), (.int p3)] _
    refine XS.iand X0.here hx rfl (hb hby at_25) rfl ?_
    show oS p e below s₁ m 26 #[oi p0, oi p1, oi p2, oi p3, oi (p0 &&& (1073741823 : Int32)), oi v3, .unset, .unset, .unset, .unset, .unset, .unset, .unset, .unset, .unset, .unset, .unset, .unset, .unset, .unset, .unset] [(.int (p3 &&& (24 : Int32)))] _
    refine XS.bipush X0.here hx rfl (hb hby at_26) ?_
    exact k
  obtain ⟨v7, hv7⟩ : ∃ z : Int32, z = (if (p3 &&& (24 : Int32)) = (24 : Int32) then (0 : Int32) else (p0 &&& (1073741823 : Int32))) := ⟨_, rfl⟩
  obtain ⟨v8, hv8⟩ : ∃ z : Int32, z = (if (p3 &&& (24 : Int32)) = (24 : Int32) then (0 : Int32) else v3) := ⟨_, rfl⟩
  have pre9 : ∀ t, Steps p.tables e below (s₁.setTop (mkF m 37 #[oi p0, oi p1, oi p2, oi p3, oi v7, oi v8, .unset, .unset, .unset, .unset, .unset, .unset, .unset, .unset, .unset, .unset, .unset, .unset, .unset, .unset, .unset] [])) t → Steps p.tables e below (s₁.setTop (entryFrame m #[(.int p0), (.int p1), (.int p2), (.int p3)] maxLocals)) t := by
    intro t k
    by_cases c6 : (p3 &&& (24 : Int32)) = (24 : Int32)
    · skip
      rw [show v7 = (0 : Int32) from hv7.trans (by rw [if_pos c6])] at k
      rw [show v8 = (0 : Int32) from hv8.trans (by rw [if_pos c6])] at k
      refine pre5 t ?_
      show oS p e below s₁ m 28 #[oi p0, oi p1, oi p2, oi p3, oi (p0 &&& (1073741823 : Int32)), oi v3, .unset, .unset, .unset, .unset, .unset, .unset, .unset, .unset, .unset, .unset, .unset, .unset, .unset, .unset, .unset] [(.int (24 : Int32)), (.int (p3 &&& (24 : Int32)))] _
      refine XS.icmpNo X0.here hx rfl (hb hby at_28) rfl (teq c6).2 ?_
      show oS p e below s₁ m 31 #[oi p0, oi p1, oi p2, oi p3, oi (p0 &&& (1073741823 : Int32)), oi v3, .unset, .unset, .unset, .unset, .unset, .unset, .unset, .unset, .unset, .unset, .unset, .unset, .unset, .unset, .unset] [] _
      refine XS.iconst X0.here hx rfl (hb hby at_31) ?_
      show oS p e below s₁ m 32 #[oi p0, oi p1, oi p2, oi p3, oi (p0 &&& (1073741823 : Int32)), oi v3, .unset, .unset, .unset, .unset, .unset, .unset, .unset, .unset, .unset, .unset, .unset, .unset, .unset, .unset, .unset] [(.int (0 : Int32))] _
      refine XS.istore X0.here hx rfl (hb hby at_32) rfl (l' := #[oi p0, oi p1, oi p2, oi p3, oi (0 : Int32), oi v3, .unset, .unset, .unset, .unset, .unset, .unset, .unset, .unset, .unset, .unset, .unset, .unset, .unset, .unset, .unset]) rfl ?_
      show oS p e below s₁ m 34 #[oi p0, oi p1, oi p2, oi p3, oi (0 : Int32), oi v3, .unset, .unset, .unset, .unset, .unset, .unset, .unset, .unset, .unset, .unset, .unset, .unset, .unset, .unset, .unset] [] _
      refine XS.iconst X0.here hx rfl (hb hby at_34) ?_
      show oS p e below s₁ m 35 #[oi p0, oi p1, oi p2, oi p3, oi (0 : Int32), oi v3, .unset, .unset, .unset, .unset, .unset, .unset, .unset, .unset, .unset, .unset, .unset, .unset, .unset, .unset, .unset] [(.int (0 : Int32))] _
      refine XS.istore X0.here hx rfl (hb hby at_35) rfl (l' := #[oi p0, oi p1, oi p2, oi p3, oi (0 : Int32), oi (0 : Int32), .unset, .unset, .unset, .unset, .unset, .unset, .unset, .unset, .unset, .unset, .unset, .unset, .unset, .unset, .unset]) rfl ?_
      exact k
    · skip
      rw [show v7 = (p0 &&& (1073741823 : Int32)) from hv7.trans (by rw [if_neg c6])] at k
      rw [show v8 = v3 from hv8.trans (by rw [if_neg c6])] at k
      refine pre5 t ?_
      show oS p e below s₁ m 28 #[oi p0, oi p1, oi p2, oi p3, oi (p0 &&& (1073741823 : Int32)), oi v3, .unset, .unset, .unset, .unset, .unset, .unset, .unset, .unset, .unset, .unset, .unset, .unset, .unset, .unset, .unset] [(.int (24 : Int32)), (.int (p3 &&& (24 : Int32)))] _
      refine XS.icmpYes X0.here hx rfl (pc0 := 28) (pc' := 37) rfl (hb hby at_28) rfl (feq c6).2 (by decide) (by decide) ?_
      exact k
  have r4 : 0 ≤ v7.toInt ∧ v7.toInt < 1073741824 := by
    rw [hv7]
    split
    · exact ⟨by decide, by decide⟩
    · exact own_sz _
  have r5 : 0 ≤ v8.toInt ∧ v8.toInt < 1073741824 := by
    rw [hv8]
    split
    · exact ⟨by decide, by decide⟩
    · exact r5a
  obtain ⟨_, _, ⟨T10, L10, k10, n10⟩, -, X10, ⟨Lc10, hQ10, l10, y10, z10⟩, st10⟩ := Jvm.LawKit.callS X0 hx (y := (⟨"java/lang/Math", "min", "(II)I"⟩ : MethodName)) hown (mvT hZ (hw _ (List.mem_of_getElem? (i := 1) rfl))) (mvT hZ (hw _ (List.mem_of_getElem? (i := 2) rfl))) (mvT hZ (hw _ (List.mem_of_getElem? (i := 3) rfl))) (mvT hZ (hw _ (List.mem_of_getElem? (i := 4) rfl))) (by decide) (backOf (W := 0) (own_rm1 l Z av hw [] v7 v8 h0 n0 Z0 ) hZ (hw _ (List.mem_of_getElem? (i := 4) rfl)) (hw _ (List.mem_of_getElem? (i := 3) rfl)) (by decide) (by decide)) (g := (mkF m 41 #[oi p0, oi p1, oi p2, oi p3, oi v7, oi v8, .unset, .unset, .unset, .unset, .unset, .unset, .unset, .unset, .unset, .unset, .unset, .unset, .unset, .unset, .unset] [(.int v8), (.int v7)])) rfl (by rw [hml]; rfl) (argsL := [(.int v7), (.int v8)]) (rest := []) (lenOf own_pd0 rfl) rfl (by show 2 * 0 + _ ≤ _; exact Nat.le_of_eq rfl) (hb hby at_41) (fun _ _ => ⟨rfl, e0, (by decide : 0 + 0 ≤ _), (by decide : 0 + 0 ≤ _)⟩)
  dsimp only [Pt.U, Pt.locs, Pt.cells, Pt.slots] at X10 l10 y10 z10 st10 hQ10
  subst l10 y10 z10
  obtain ⟨rfl, Nq10, eq10⟩ := hQ10
  have N10 := Fr.app N0 Nq10
  have pre11 : ∀ t, Steps p.tables e below (T10.setTop (mkF m 44 #[oi p0, oi p1, oi p2, oi p3, oi v7, oi v8, .unset, .unset, .unset, .unset, .unset, .unset, .unset, .unset, .unset, .unset, .unset, .unset, .unset, .unset, .unset] [(.int (own_f1 v7 v8))])) t → Steps p.tables e below (s₁.setTop (entryFrame m #[(.int p0), (.int p1), (.int p2), (.int p3)] maxLocals)) t := by
    intro t k
    refine pre9 t ?_
    show oS p e below s₁ m 37 #[oi p0, oi p1, oi p2, oi p3, oi v7, oi v8, .unset, .unset, .unset, .unset, .unset, .unset, .unset, .unset, .unset, .unset, .unset, .unset, .unset, .unset, .unset] [] _
    refine XS.iload X0.here hx rfl (hb hby at_37) rfl ?_
    show oS p e below s₁ m 39 #[oi p0, oi p1, oi p2, oi p3, oi v7, oi v8, .unset, .unset, .unset, .unset, .unset, .unset, .unset, .unset, .unset, .unset, .unset, .unset, .unset, .unset, .unset] [(.int v7)] _
    refine XS.iload X0.here hx rfl (hb hby at_39) rfl ?_
    show oS p e below s₁ m 41 #[oi p0, oi p1, oi p2, oi p3, oi v7, oi v8, .unset, .unset, .unset, .unset, .unset, .unset, .unset, .unset, .unset, .unset, .unset, .unset, .unset, .unset, .unset] [(.int v8), (.int v7)] _
    refine st10 _ ?_
    exact k
  obtain ⟨vm, hvm⟩ : ∃ z : Int32, z = (own_f1 v7 v8) := ⟨_, rfl⟩
  rw [← hvm] at pre11
  have rm : 0 ≤ vm.toInt ∧ vm.toInt ≤ v7.toInt ∧ vm.toInt ≤ v8.toInt := by rw [hvm]; exact own_min _ _ r4 r5
  have rm2 : vm.toInt < 1073741824 := by omega
  have hmin : (vm + (1 : Int32)) ≠ 0 := own_nz' rm.1 rm2
  have pre12 : ∀ t, Steps p.tables e below (T10.setTop (mkF m 53 #[oi p0, oi p1, oi p2, oi p3, oi v7, oi v8, oi vm, oi (p3 &&& (3 : Int32)), .unset, .unset, .unset, .unset, .unset, .unset, .unset, .unset, .unset, .unset, .unset, .unset, .unset] [(.int (p3 &&& (3 : Int32)))])) t → Steps p.tables e below (s₁.setTop (entryFrame m #[(.int p0), (.int p1), (.int p2), (.int p3)] maxLocals)) t := by
    intro t k
    refine pre11 t ?_
    show oS p e below T10 m 44 #[oi p0, oi p1, oi p2, oi p3, oi v7, oi v8, .unset, .unset, .unset, .unset, .unset, .unset, .unset, .unset, .unset, .unset, .unset, .unset, .unset, .unset, .unset] [(.int vm)] _
    refine XS.istore X10.here hx rfl (hb hby at_44) rfl (l' := #[oi p0, oi p1, oi p2, oi p3, oi v7, oi v8, oi vm, .unset, .unset, .unset, .unset, .unset, .unset, .unset, .unset, .unset, .unset, .unset, .unset, .unset, .unset]) rfl ?_
    show oS p e below T10 m 46 #[oi p0, oi p1, oi p2, oi p3, oi v7, oi v8, oi vm, .unset, .unset, .unset, .unset, .unset, .unset, .unset, .unset, .unset, .unset, .unset, .unset, .unset, .unset] [] _
    refine XS.iloadN X10.here hx rfl (hb hby at_46) rfl ?_
    show oS p e below T10 m 47 #[oi p0, oi p1, oi p2, oi p3, oi v7, oi v8, oi vm, .unset, .unset, .unset, .unset, .unset, .unset, .unset, .unset, .unset, .unset, .unset, .unset, .unset, .unset] [(.int p3)] _
    refine XS.iconst X10.here hx rfl (hb hby at_47) ?_
    show oS p e below T10 m 48 #[oi p0, oi p1, oi p2, oi p3, oi v7, oi v8, oi vm, .unset, .unset, .unset, .unset, .unset, .unset, .unset, .unset, .unset, .unset, .unset, .unset, .unset, .unset] [(.int (3 : Int32)), (.int p3)] _
    refine XS.iand X10.here hx rfl (hb hby at_48) rfl ?_
    show oS p e below T10 m 49 #[oi p0, oi p1, oi p2, oi p3, oi v7, oi v8, oi vm, .unset, .unset, .unset, .unset, .unset, .unset, .unset, .unset, .unset, .unset, .unset, .unset, .unset, .unset] [(.int (p3 &&& (3 : Int32)))] _
    refine XS.istore X10.here hx rfl (hb hby at_49) rfl (l' := #[oi p0, oi p1, oi p2, oi p3, oi v7, oi v8, oi vm, oi (p3 &&& (3 : Int32)), .unset, .unset, .unset, .unset, .unset, .unset, .unset, .unset, .unset, .unset, .unset, .unset, .unset]) rfl ?_
    show oS p e below T10 m 51 #[oi p0, oi p1, oi p2, oi p3, oi v7, oi v8, oi vm, oi (p3 &&& (3 : Int32)), .unset, .unset, .unset, .unset, .unset, .unset, .unset, .unset, .unset, .unset, .unset, .unset, .unset] [] _
    refine XS.iload X10.here hx rfl (hb hby at_51) rfl ?_
    exact k
  obtain ⟨v15, hv15⟩ : ∃ z : Int32, z = (if (p3 &&& (3 : Int32)) = (0 : Int32) then (0 : Int32) else (if (p3 &&& (3 : Int32)) = (1 : Int32) then vm else ((p2 &&& (2147483647 : Int32)) % (vm + (1 : Int32))))) := ⟨_, rfl⟩
  have pre16 : ∀ t, Steps p.tables e below (T10.setTop (mkF m 86 #[oi p0, oi p1, oi p2, oi p3, oi v7, oi v8, oi vm, oi (p3 &&& (3 : Int32)), oi v15, .unset, .unset, .unset, .unset, .unset, .unset, .unset, .unset, .unset, .unset, .unset, .unset] [])) t → Steps p.tables e below (s₁.setTop (entryFrame m #[(.int p0), (.int p1), (.int p2), (.int p3)] maxLocals)) t := by
    intro t k
    by_cases c13 : (p3 &&& (3 : Int32)) = (0 : Int32)
    · skip
      rw [show v15 = (0 : Int32) from hv15.trans (by rw [if_pos c13])] at k
      refine pre12 t ?_
      show oS p e below T10 m 53 #[oi p0, oi p1, oi p2, oi p3, oi v7, oi v8, oi vm, oi (p3 &&& (3 : Int32)), .unset, .unset, .unset, .unset, .unset, .unset, .unset, .unset, .unset, .unset, .unset, .unset, .unset] [(.int (p3 &&& (3 : Int32)))] _
      refine XS.ifNo X10.here hx rfl (hb hby at_53) rfl ((if0 _ _).trans (teq c13).2) ?_
      show oS p e below T10 m 56 #[oi p0, oi p1, oi p2, oi p3, oi v7, oi v8, oi vm, oi (p3 &&& (3 : Int32)), .unset, .unset, .unset, .unset, .unset, .unset, .unset, .unset, .unset, .unset, .unset, .unset, .unset] [] _
      refine XS.iconst X10.here hx rfl (hb hby at_56) ?_
      show oS p e below T10 m 57 #[oi p0, oi p1, oi p2, oi p3, oi v7, oi v8, oi vm, oi (p3 &&& (3 : Int32)), .unset, .unset, .unset, .unset, .unset, .unset, .unset, .unset, .unset, .unset, .unset, .unset, .unset] [(.int (0 : Int32))] _
      refine XS.istore X10.here hx rfl (hb hby at_57) rfl (l' := #[oi p0, oi p1, oi p2, oi p3, oi v7, oi v8, oi vm, oi (p3 &&& (3 : Int32)), oi (0 : Int32), .unset, .unset, .unset, .unset, .unset, .unset, .unset, .unset, .unset, .unset, .unset, .unset]) rfl ?_
      show oS p e below T10 m 59 #[oi p0, oi p1, oi p2, oi p3, oi v7, oi v8, oi vm, oi (p3 &&& (3 : Int32)), oi (0 : Int32), .unset, .unset, .unset, .unset, .unset, .unset, .unset, .unset, .unset, .unset, .unset, .unset] [] _
      refine XS.goto X10.here hx rfl (pc0 := 59) (pc' := 86) rfl (hb hby at_59) (by decide) (by decide) ?_
      exact k
    · skip
      by_cases c14 : (p3 &&& (3 : Int32)) = (1 : Int32)
      · skip
        rw [show v15 = vm from hv15.trans (by rw [if_neg c13, if_pos c14])] at k
        refine pre12 t ?_
        show oS p e below T10 m 53 #[oi p0, oi p1, oi p2, oi p3, oi v7, oi v8, oi vm, oi (p3 &&& (3 : Int32)), .unset, .unset, .unset, .unset, .unset, .unset, .unset, .unset, .unset, .unset, .unset, .unset, .unset] [(.int (p3 &&& (3 : Int32)))] _
        refine XS.ifYes X10.here hx rfl (pc0 := 53) (pc' := 62) rfl (hb hby at_53) rfl ((if0 _ _).trans (feq c13).2) (by decide) (by decide) ?_
        show oS p e below T10 m 62 #[oi p0, oi p1, oi p2, oi p3, oi v7, oi v8, oi vm, oi (p3 &&& (3 : Int32)), .unset, .unset, .unset, .unset, .unset, .unset, .unset, .unset, .unset, .unset, .unset, .unset, .unset] [] _
        refine XS.iload X10.here hx rfl (hb hby at_62) rfl ?_
        show oS p e below T10 m 64 #[oi p0, oi p1, oi p2, oi p3, oi v7, oi v8, oi vm, oi (p3 &&& (3 : Int32)), .unset, .unset, .unset, .unset, .unset, .unset, .unset, .unset, .unset, .unset, .unset, .unset, .unset] [(.int (p3 &&& (3 : Int32)))] _
        refine XS.iconst X10.here hx rfl (hb hby at_64) ?_
        show oS p e below T10 m 65 #[oi p0, oi p1, oi p2, oi p3, oi v7, oi v8, oi vm, oi (p3 &&& (3 : Int32)), .unset, .unset, .unset, .unset, .unset, .unset, .unset, .unset, .unset, .unset, .unset, .unset, .unset] [(.int (1 : Int32)), (.int (p3 &&& (3 : Int32)))] _
        refine XS.icmpNo X10.here hx rfl (hb hby at_65) rfl (teq c14).2 ?_
        show oS p e below T10 m 68 #[oi p0, oi p1, oi p2, oi p3, oi v7, oi v8, oi vm, oi (p3 &&& (3 : Int32)), .unset, .unset, .unset, .unset, .unset, .unset, .unset, .unset, .unset, .unset, .unset, .unset, .unset] [] _
        refine XS.iload X10.here hx rfl (hb hby at_68) rfl ?_
        show oS p e below T10 m 70 #[oi p0, oi p1, oi p2, oi p3, oi v7, oi v8, oi vm, oi (p3 &&& (3 : Int32)), .unset, .unset, .unset, .unset, .unset, .unset, .unset, .unset, .unset, .unset, .unset, .unset, .unset] [(.int vm)] _
        refine XS.istore X10.here hx rfl (hb hby at_70) rfl (l' := #[oi p0, oi p1, oi p2, oi p3, oi v7, oi v8, oi vm, oi (p3 &&& (3 : Int32)), oi vm, .unset, .unset, .unset, .unset, .unset, .unset, .unset, .unset, .unset, .unset, .unset, .unset]) rfl ?_
        show oS p e below T10 m 72 #[oi p0, oi p1, oi p2, oi p3, oi v7, oi v8, oi vm, oi (p3 &&& (3 : Int32)), oi vm, .unset, .unset, .unset, .unset, .unset, .unset, .unset, .unset, .unset, .unset, .unset, .unset] [] _
        refine XS.goto X10.here hx rfl (pc0 := 72) (pc' := 86) rfl (hb hby at_72) (by decide) (by decide) ?_
        exact k
      · skip
        rw [show v15 = ((p2 &&& (2147483647 : Int32)) % (vm + (1 : Int32))) from hv15.trans (by rw [if_neg c13, if_neg c14])] at k
        refine pre12 t ?_
        show oS p e below T10 m 53 #[oi p0, oi p1, oi p2, oi p3, oi v7, oi v8, oi vm, oi (p3 &&& (3 : Int32)), .unset, .unset, .unset, .unset, .unset, .unset, .unset, .unset, .unset, .unset, .unset, .unset, .unset] [(.int (p3 &&& (3 : Int32)))] _
        refine XS.ifYes X10.here hx rfl (pc0 := 53) (pc' := 62) rfl (hb hby at_53) rfl ((if0 _ _).trans (feq c13).2) (by decide) (by decide) ?_
        show oS p e below T10 m 62 #[oi p0, oi p1, oi p2, oi p3, oi v7, oi v8, oi vm, oi (p3 &&& (3 : Int32)), .unset, .unset, .unset, .unset, .unset, .unset, .unset, .unset, .unset, .unset, .unset, .unset, .unset] [] _
        refine XS.iload X10.here hx rfl (hb hby at_62) rfl ?_
        show oS p e below T10 m 64 #[oi p0, oi p1, oi p2, oi p3, oi v7, oi v8, oi vm, oi (p3 &&& (3 : Int32)), .unset, .unset, .unset, .unset, .unset, .unset, .unset, .unset, .unset, .unset, .unset, .unset, .unset] [(.int (p3 &&& (3 : Int32)))] _
        refine XS.iconst X10.here hx rfl (hb hby at_64) ?_
        show oS p e below T10 m 65 #[oi p0, oi p1, oi p2, oi p3, oi v7, oi v8, oi vm, oi (p3 &&& (3 : Int32)), .unset, .unset, .unset, .unset, .unset, .unset, .unset, .unset, .unset, .unset, .unset, .unset, .unset] [(.int (1 : Int32)), (.int (p3 &&& (3 : Int32)))] _
        refine XS.icmpYes X10.here hx rfl (pc0 := 65) (pc' := 75) rfl (hb hby at_65) rfl (feq c14).2 (by decide) (by decide) ?_
        show oS p e below T10 m 75 #[oi p0, oi p1, oi p2, oi p3, oi v7, oi v8, oi vm, oi (p3 &&& (3 : Int32)), .unset, .unset, .unset, .unset, .unset, .unset, .unset, .unset, .unset, .unset, .unset, .unset, .unset] [] _
        refine XS.iloadN X10.here hx rfl (hb hby at_75) rfl ?_
        show oS p e below T10 m 76 #[oi p0, oi p1, oi p2, oi p3, oi v7, oi v8, oi vm, oi (p3 &&& (3 : Int32)), .unset, .unset, .unset, .unset, .unset, .unset, .unset, .unset, .unset, .unset, .unset, .unset, .unset] [(.int p2)] _
        refine X10.ldcInt hx hown (mvT hZ (hw _ (List.mem_of_getElem? (i := 9) rfl))) (g := (mkF m 76 #[oi p0, oi p1, oi p2, oi p3, oi v7, oi v8, oi vm, oi (p3 &&& (3 : Int32)), .unset, .unset, .unset, .unset, .unset, .unset, .unset, .unset, .unset, .unset, .unset, .unset, .unset] [(.int p2)])) rfl (hb hby at_76) _ ?_
        show oS p e below T10 m 78 #[oi p0, oi p1, oi p2, oi p3, oi v7, oi v8, oi vm, oi (p3 &&& (3 : Int32)), .unset, .unset, .unset, .unset, .unset, .unset, .unset, .unset, .unset, .unset, .unset, .unset, .unset] [(.int (2147483647 : Int32)), (.int p2)] _
        refine XS.iand X10.here hx rfl (hb hby at_78) rfl ?_
        show oS p e below T10 m 79 #[oi p0, oi p1, oi p2, oi p3, oi v7, oi v8, oi vm, oi (p3 &&& (3 : Int32)), .unset, .unset, .unset, .unset, .unset, .unset, .unset, .unset, .unset, .unset, .unset, .unset, .unset] [(.int (p2 &&& (2147483647 : Int32)))] _
        refine XS.iload X10.here hx rfl (hb hby at_79) rfl ?_
        show oS p e below T10 m 81 #[oi p0, oi p1, oi p2, oi p3, oi v7, oi v8, oi vm, oi (p3 &&& (3 : Int32)), .unset, .unset, .unset, .unset, .unset, .unset, .unset, .unset, .unset, .unset, .unset, .unset, .unset] [(.int vm), (.int (p2 &&& (2147483647 : Int32)))] _
        refine XS.iconst X10.here hx rfl (hb hby at_81) ?_
        show oS p e below T10 m 82 #[oi p0, oi p1, oi p2, oi p3, oi v7, oi v8, oi vm, oi (p3 &&& (3 : Int32)), .unset, .unset, .unset, .unset, .unset, .unset, .unset, .unset, .unset, .unset, .unset, .unset, .unset] [(.int (1 : Int32)), (.int vm), (.int (p2 &&& (2147483647 : Int32)))] _
        refine XS.iadd X10.here hx rfl (hb hby at_82) rfl ?_
        show oS p e below T10 m 83 #[oi p0, oi p1, oi p2, oi p3, oi v7, oi v8, oi vm, oi (p3 &&& (3 : Int32)), .unset, .unset, .unset, .unset, .unset, .unset, .unset, .unset, .unset, .unset, .unset, .unset, .unset] [(.int (vm + (1 : Int32))), (.int (p2 &&& (2147483647 : Int32)))] _
        refine Jvm.RoadKit.iremM X10 hx rfl (hb hby at_83) rfl hmin ?_
        show oS p e below T10 m 84 #[oi p0, oi p1, oi p2, oi p3, oi v7, oi v8, oi vm, oi (p3 &&& (3 : Int32)), .unset, .unset, .unset, .unset, .unset, .unset, .unset, .unset, .unset, .unset, .unset, .unset, .unset] [(.int ((p2 &&& (2147483647 : Int32)) % (vm + (1 : Int32))))] _
        refine XS.istore X10.here hx rfl (hb hby at_84) rfl (l' := #[oi p0, oi p1, oi p2, oi p3, oi v7, oi v8, oi vm, oi (p3 &&& (3 : Int32)), oi ((p2 &&& (2147483647 : Int32)) % (vm + (1 : Int32))), .unset, .unset, .unset, .unset, .unset, .unset, .unset, .unset, .unset, .unset, .unset, .unset]) rfl ?_
        exact k
  have rs0 : 0 ≤ v15.toInt ∧ v15.toInt ≤ vm.toInt := by
    rw [hv15]
    split
    · exact ⟨by decide, rm.1⟩
    · split
      · exact ⟨rm.1, Int.le_refl _⟩
      · exact own_rem _ _ rm.1 rm2
  have rs : 0 ≤ v15.toInt ∧ v15.toInt ≤ v7.toInt ∧ v15.toInt ≤ v8.toInt := by omega
  obtain ⟨eU, eD⟩ := own_U r4 r5 rs
  have pre17 : ∀ t, Steps p.tables e below (T10.setTop (mkF m 115 #[oi p0, oi p1, oi p2, oi p3, oi v7, oi v8, oi vm, oi (p3 &&& (3 : Int32)), oi v15, oj ((v7.toInt64) - (v15.toInt64)), .second, oj ((v8.toInt64) - (v15.toInt64)), .second, oj ((((v7.toInt64) - (v15.toInt64)) + ((v8.toInt64) - (v15.toInt64))) + (v15.toInt64)), .second, .unset, .unset, .unset, .unset, .unset, .unset] [])) t → Steps p.tables e below (s₁.setTop (entryFrame m #[(.int p0), (.int p1), (.int p2), (.int p3)] maxLocals)) t := by
    intro t k
    refine pre16 t ?_
    show oS p e below T10 m 86 #[oi p0, oi p1, oi p2, oi p3, oi v7, oi v8, oi vm, oi (p3 &&& (3 : Int32)), oi v15, .unset, .unset, .unset, .unset, .unset, .unset, .unset, .unset, .unset, .unset, .unset, .unset] [] _
    refine XS.iload X10.here hx rfl (hb hby at_86) rfl ?_
    show oS p e below T10 m 88 #[oi p0, oi p1, oi p2, oi p3, oi v7, oi v8, oi vm, oi (p3 &&& (3 : Int32)), oi v15, .unset, .unset, .unset, .unset, .unset, .unset, .unset, .unset, .unset, .unset, .unset, .unset] [(.int v7)] _
    refine XS.i2l X10.here hx rfl (hb hby at_88) rfl ?_
    show oS p e below T10 m 89 #[oi p0, oi p1, oi p2, oi p3, oi v7, oi v8, oi vm, oi (p3 &&& (3 : Int32)), oi v15, .unset, .unset, .unset, .unset, .unset, .unset, .unset, .unset, .unset, .unset, .unset, .unset] [(.long (v7.toInt64))] _
    refine XS.iload X10.here hx rfl (hb hby at_89) rfl ?_
    show oS p e below T10 m 91 #[oi p0, oi p1, oi p2, oi p3, oi v7, oi v8, oi vm, oi (p3 &&& (3 : Int32)), oi v15, .unset, .unset, .unset, .unset, .unset, .unset, .unset, .unset, .unset, .unset, .unset, .unset] [(.int v15), (.long (v7.toInt64))] _
    refine XS.i2l X10.here hx rfl (hb hby at_91) rfl ?_
    show oS p e below T10 m 92 #[oi p0, oi p1, oi p2, oi p3, oi v7, oi v8, oi vm, oi (p3 &&& (3 : Int32)), oi v15, .unset, .unset, .unset, .unset, .unset, .unset, .unset, .unset, .unset, .unset, .unset, .unset] [(.long (v15.toInt64)), (.long (v7.toInt64))] _
    refine XS.lsub X10.here hx rfl (hb hby at_92) rfl ?_
    show oS p e below T10 m 93 #[oi p0, oi p1, oi p2, oi p3, oi v7, oi v8, oi vm, oi (p3 &&& (3 : Int32)), oi v15, .unset, .unset, .unset, .unset, .unset, .unset, .unset, .unset, .unset, .unset, .unset, .unset] [(.long ((v7.toInt64) - (v15.toInt64)))] _
    refine XS.lstore X10.here hx rfl (hb hby at_93) rfl (l' := #[oi p0, oi p1, oi p2, oi p3, oi v7, oi v8, oi vm, oi (p3 &&& (3 : Int32)), oi v15, oj ((v7.toInt64) - (v15.toInt64)), .second, .unset, .unset, .unset, .unset, .unset, .unset, .unset, .unset, .unset, .unset]) rfl ?_
    show oS p e below T10 m 95 #[oi p0, oi p1, oi p2, oi p3, oi v7, oi v8, oi vm, oi (p3 &&& (3 : Int32)), oi v15, oj ((v7.toInt64) - (v15.toInt64)), .second, .unset, .unset, .unset, .unset, .unset, .unset, .unset, .unset, .unset, .unset] [] _
    refine XS.iload X10.here hx rfl (hb hby at_95) rfl ?_
    show oS p e below T10 m 97 #[oi p0, oi p1, oi p2, oi p3, oi v7, oi v8, oi vm, oi (p3 &&& (3 : Int32)), oi v15, oj ((v7.toInt64) - (v15.toInt64)), .second, .unset, .unset, .unset, .unset, .unset, .unset, .unset, .unset, .unset, .unset] [(.int v8)] _
    refine XS.i2l X10.here hx rfl (hb hby at_97) rfl ?_
    show oS p e below T10 m 98 #[oi p0, oi p1, oi p2, oi p3, oi v7, oi v8, oi vm, oi (p3 &&& (3 : Int32)), oi v15, oj ((v7.toInt64) - (v15.toInt64)), .second, .unset, .unset, .unset, .unset, .unset, .unset, .unset, .unset, .unset, .unset] [(.long (v8.toInt64))] _
    refine XS.iload X10.here hx rfl (hb hby at_98) rfl ?_
    show oS p e below T10 m 100 #[oi p0, oi p1, oi p2, oi p3, oi v7, oi v8, oi vm, oi (p3 &&& (3 : Int32)), oi v15, oj ((v7.toInt64) - (v15.toInt64)), .second, .unset, .unset, .unset, .unset, .unset, .unset, .unset, .unset, .unset, .unset] [(.int v15), (.long (v8.toInt64))] _
    refine XS.i2l X10.here hx rfl (hb hby at_100) rfl ?_
    show oS p e below T10 m 101 #[oi p0, oi p1, oi p2, oi p3, oi v7, oi v8, oi vm, oi (p3 &&& (3 : Int32)), oi v15, oj ((v7.toInt64) - (v15.toInt64)), .second, .unset, .unset, .unset, .unset, .unset, .unset, .unset, .unset, .unset, .unset] [(.long (v15.toInt64)), (.long (v8.toInt64))] _
    refine XS.lsub X10.here hx rfl (hb hby at_101) rfl ?_
    show oS p e below T10 m 102 #[oi p0, oi p1, oi p2, oi p3, oi v7, oi v8, oi vm, oi (p3 &&& (3 : Int32)), oi v15, oj ((v7.toInt64) - (v15.toInt64)), .second, .unset, .unset, .unset, .unset, .unset, .unset, .unset, .unset, .unset, .unset] [(.long ((v8.toInt64) - (v15.toInt64)))] _
    refine XS.lstore X10.here hx rfl (hb hby at_102) rfl (l' := #[oi p0, oi p1, oi p2, oi p3, oi v7, oi v8, oi vm, oi (p3 &&& (3 : Int32)), oi v15, oj ((v7.toInt64) - (v15.toInt64)), .second, oj ((v8.toInt64) - (v15.toInt64)), .second, .unset, .unset, .unset, .unset, .unset, .unset, .unset, .unset]) rfl ?_
    show oS p e below T10 m 104 #[oi p0, oi p1, oi p2, oi p3, oi v7, oi v8, oi vm, oi (p3 &&& (3 : Int32)), oi v15, oj ((v7.toInt64) - (v15.toInt64)), .second, oj ((v8.toInt64) - (v15.toInt64)), .second, .unset, .unset, .unset, .unset, .unset, .unset, .unset, .unset] [] _
    refine XS.lload X10.here hx rfl (hb hby at_104) rfl ?_
    show oS p e below T10 m 106 #[oi p0, oi p1, oi p2, oi p3, oi v7, oi v8, oi vm, oi (p3 &&& (3 : Int32)), oi v15, oj ((v7.toInt64) - (v15.toInt64)), .second, oj ((v8.toInt64) - (v15.toInt64)), .second, .unset, .unset, .unset, .unset, .unset, .unset, .unset, .unset] [(.long ((v7.toInt64) - (v15.toInt64)))] _
    refine XS.lload X10.here hx rfl (hb hby at_106) rfl ?_
    show oS p e below T10 m 108 #[oi p0, oi p1, oi p2, oi p3, oi v7, oi v8, oi vm, oi (p3 &&& (3 : Int32)), oi v15, oj ((v7.toInt64) - (v15.toInt64)), .second, oj ((v8.toInt64) - (v15.toInt64)), .second, .unset, .unset, .unset, .unset, .unset, .unset, .unset, .unset] [(.long ((v8.toInt64) - (v15.toInt64))), (.long ((v7.toInt64) - (v15.toInt64)))] _
    refine XS.ladd X10.here hx rfl (hb hby at_108) rfl ?_
    show oS p e below T10 m 109 #[oi p0, oi p1, oi p2, oi p3, oi v7, oi v8, oi vm, oi (p3 &&& (3 : Int32)), oi v15, oj ((v7.toInt64) - (v15.toInt64)), .second, oj ((v8.toInt64) - (v15.toInt64)), .second, .unset, .unset, .unset, .unset, .unset, .unset, .unset, .unset] [(.long (((v7.toInt64) - (v15.toInt64)) + ((v8.toInt64) - (v15.toInt64))))] _
    refine XS.iload X10.here hx rfl (hb hby at_109) rfl ?_
    show oS p e below T10 m 111 #[oi p0, oi p1, oi p2, oi p3, oi v7, oi v8, oi vm, oi (p3 &&& (3 : Int32)), oi v15, oj ((v7.toInt64) - (v15.toInt64)), .second, oj ((v8.toInt64) - (v15.toInt64)), .second, .unset, .unset, .unset, .unset, .unset, .unset, .unset, .unset] [(.int v15), (.long (((v7.toInt64) - (v15.toInt64)) + ((v8.toInt64) - (v15.toInt64))))] _
    refine XS.i2l X10.here hx rfl (hb hby at_111) rfl ?_
    show oS p e below T10 m 112 #[oi p0, oi p1, oi p2, oi p3, oi v7, oi v8, oi vm, oi (p3 &&& (3 : Int32)), oi v15, oj ((v7.toInt64) - (v15.toInt64)), .second, oj ((v8.toInt64) - (v15.toInt64)), .second, .unset, .unset, .unset, .unset, .unset, .unset, .unset, .unset] [(.long (v15.toInt64)), (.long (((v7.toInt64) - (v15.toInt64)) + ((v8.toInt64) - (v15.toInt64))))] _
    refine XS.ladd X10.here hx rfl (hb hby at_112) rfl ?_
    show oS p e below T10 m 113 #[oi p0, oi p1, oi p2, oi p3, oi v7, oi v8, oi vm, oi (p3 &&& (3 : Int32)), oi v15, oj ((v7.toInt64) - (v15.toInt64)), .second, oj ((v8.toInt64) - (v15.toInt64)), .second, .unset, .unset, .unset, .unset, .unset, .unset, .unset, .unset] [(.long ((((v7.toInt64) - (v15.toInt64)) + ((v8.toInt64) - (v15.toInt64))) + (v15.toInt64)))] _
    refine XS.lstore X10.here hx rfl (hb hby at_113) rfl (l' := #[oi p0, oi p1, oi p2, oi p3, oi v7, oi v8, oi vm, oi (p3 &&& (3 : Int32)), oi v15, oj ((v7.toInt64) - (v15.toInt64)), .second, oj ((v8.toInt64) - (v15.toInt64)), .second, oj ((((v7.toInt64) - (v15.toInt64)) + ((v8.toInt64) - (v15.toInt64))) + (v15.toInt64)), .second, .unset, .unset, .unset, .unset, .unset, .unset]) rfl ?_
    exact k
  have rw_18 : ((((v7.toInt64) - (v15.toInt64)) + ((v8.toInt64) - (v15.toInt64))) + (v15.toInt64)) = ((v7 + v8) - v15).toInt64 := eU
  rw [rw_18] at pre17
  have pre19 : ∀ t, Steps p.tables e below (T10.setTop (mkF m 119 #[oi p0, oi p1, oi p2, oi p3, oi v7, oi v8, oi vm, oi (p3 &&& (3 : Int32)), oi v15, oj ((v7.toInt64) - (v15.toInt64)), .second, oj ((v8.toInt64) - (v15.toInt64)), .second, oj ((v7 + v8) - v15).toInt64, .second, .unset, .unset, .unset, .unset, .unset, .unset] [(.int (lcmpW ((v7 + v8) - v15).toInt64 (0 : Int64)))])) t → Steps p.tables e below (s₁.setTop (entryFrame m #[(.int p0), (.int p1), (.int p2), (.int p3)] maxLocals)) t := by
    intro t k
    refine pre17 t ?_
    show oS p e below T10 m 115 #[oi p0, oi p1, oi p2, oi p3, oi v7, oi v8, oi vm, oi (p3 &&& (3 : Int32)), oi v15, oj ((v7.toInt64) - (v15.toInt64)), .second, oj ((v8.toInt64) - (v15.toInt64)), .second, oj ((v7 + v8) - v15).toInt64, .second, .unset, .unset, .unset, .unset, .unset, .unset] [] _
    refine XS.lload X10.here hx rfl (hb hby at_115) rfl ?_
    show oS p e below T10 m 117 #[oi p0, oi p1, oi p2, oi p3, oi v7, oi v8, oi vm, oi (p3 &&& (3 : Int32)), oi v15, oj ((v7.toInt64) - (v15.toInt64)), .second, oj ((v8.toInt64) - (v15.toInt64)), .second, oj ((v7 + v8) - v15).toInt64, .second, .unset, .unset, .unset, .unset, .unset, .unset] [(.long ((v7 + v8) - v15).toInt64)] _
    refine XS.lconst X10.here hx rfl (hb hby at_117) ?_
    show oS p e below T10 m 118 #[oi p0, oi p1, oi p2, oi p3, oi v7, oi v8, oi vm, oi (p3 &&& (3 : Int32)), oi v15, oj ((v7.toInt64) - (v15.toInt64)), .second, oj ((v8.toInt64) - (v15.toInt64)), .second, oj ((v7 + v8) - v15).toInt64, .second, .unset, .unset, .unset, .unset, .unset, .unset] [(.long (0 : Int64)), (.long ((v7 + v8) - v15).toInt64)] _
    refine XS.lcmp X10.here hx rfl (hb hby at_118) rfl ?_
    exact k
  by_cases c20 : ((v7 + v8) - v15).toInt64 = (0 : Int64)
  · skip
    obtain ⟨_, _, ⟨T21, L21, k21, n21⟩, -, X21, ⟨Lc21, hQ21, l21, y21, z21⟩, st21⟩ := Jvm.LawKit.callS X10 hx (y := (⟨"com/example/trawl_tables/trawltables/TrigramSet", "jaccard", "(III)D"⟩ : MethodName)) hown (mvT hZ (hw _ (List.mem_of_getElem? (i := 5) rfl))) (mvT hZ (hw _ (List.mem_of_getElem? (i := 6) rfl))) (mvT hZ (hw _ (List.mem_of_getElem? (i := 7) rfl))) (mvT hZ (hw _ (List.mem_of_getElem? (i := 8) rfl))) (by decide) (backOf (W := 0) (own_rm2 l Z av hw [] v15 v7 v8 h0 n0 Z0 ) hZ (hw _ (List.mem_of_getElem? (i := 8) rfl)) (hw _ (List.mem_of_getElem? (i := 7) rfl)) (by decide) (by decide)) (g := (mkF m 143 #[oi p0, oi p1, oi p2, oi p3, oi v7, oi v8, oi vm, oi (p3 &&& (3 : Int32)), oi v15, oj ((v7.toInt64) - (v15.toInt64)), .second, oj ((v8.toInt64) - (v15.toInt64)), .second, oj ((v7 + v8) - v15).toInt64, .second, od FP.dconst0, .second, .unset, .unset, .unset, .unset] [(.int v8), (.int v7), (.int v15)])) rfl (by rw [hml]; rfl) (argsL := [(.int v15), (.int v7), (.int v8)]) (rest := []) (lenOf own_pd1 rfl) rfl (by show 2 * 0 + _ ≤ _; exact Nat.le_of_eq rfl) (hb hby at_143) (fun _ _ => ⟨rfl, eq10, (by decide : 0 + 0 ≤ _), (by decide : 0 + 0 ≤ _)⟩)
    dsimp only [Pt.U, Pt.locs, Pt.cells, Pt.slots] at X21 l21 y21 z21 st21 hQ21
    subst l21 y21 z21
    obtain ⟨rfl, Nq21, eq21⟩ := hQ21
    have N21 := Fr.app N10 Nq21
    obtain ⟨_, _, ⟨T22, L22, k22, n22⟩, -, X22, ⟨Lc22, hQ22, l22, y22, z22⟩, st22⟩ := Jvm.LawKit.callS X21 hx (y := (⟨"com/example/trawl_tables/trawltables/TrigramSet", "jaccard", "(III)D"⟩ : MethodName)) hown (mvT hZ (hw _ (List.mem_of_getElem? (i := 5) rfl))) (mvT hZ (hw _ (List.mem_of_getElem? (i := 6) rfl))) (mvT hZ (hw _ (List.mem_of_getElem? (i := 7) rfl))) (mvT hZ (hw _ (List.mem_of_getElem? (i := 8) rfl))) (by decide) (backOf (W := 0) (own_rm2 l Z av hw [] v15 v8 v7 h0 n0 Z0 ) hZ (hw _ (List.mem_of_getElem? (i := 8) rfl)) (hw _ (List.mem_of_getElem? (i := 7) rfl)) (by decide) (by decide)) (g := (mkF m 154 #[oi p0, oi p1, oi p2, oi p3, oi v7, oi v8, oi vm, oi (p3 &&& (3 : Int32)), oi v15, oj ((v7.toInt64) - (v15.toInt64)), .second, oj ((v8.toInt64) - (v15.toInt64)), .second, oj ((v7 + v8) - v15).toInt64, .second, od FP.dconst0, .second, od (own_f2 v15 v7 v8), .second, .unset, .unset] [(.int v7), (.int v8), (.int v15)])) rfl (by rw [hml]; rfl) (argsL := [(.int v15), (.int v8), (.int v7)]) (rest := []) (lenOf own_pd1 rfl) rfl (by show 2 * 0 + _ ≤ _; exact Nat.le_of_eq rfl) (hb hby at_154) (fun _ _ => ⟨rfl, eq21, (by decide : 0 + 0 ≤ _), (by decide : 0 + 0 ≤ _)⟩)
    dsimp only [Pt.U, Pt.locs, Pt.cells, Pt.slots] at X22 l22 y22 z22 st22 hQ22
    subst l22 y22 z22
    obtain ⟨rfl, Nq22, eq22⟩ := hQ22
    have N22 := Fr.app N21 Nq22
    have b23 : (0 : Int32) = (0 : Int32) := (by decide)
    have b24 : (0 : Int32) = (0 : Int32) := (by decide)
    obtain ⟨fs, hr, hrun, hended, hW, hsame⟩ := X22.leave (v := (some (.int (1 : Int32)))) (fun h => by rw [Bd.returns] at h; cases h)
    refine ⟨_, _, pre19 _ ?_, hrun, hended, _, _, rfl, ?_, ⟨_, rfl⟩, hW, hsame.mono (by decide) (by decide)⟩
    · show oS p e below T10 m 119 #[oi p0, oi p1, oi p2, oi p3, oi v7, oi v8, oi vm, oi (p3 &&& (3 : Int32)), oi v15, oj ((v7.toInt64) - (v15.toInt64)), .second, oj ((v8.toInt64) - (v15.toInt64)), .second, oj ((v7 + v8) - v15).toInt64, .second, .unset, .unset, .unset, .unset, .unset, .unset] [(.int (lcmpW ((v7 + v8) - v15).toInt64 (0 : Int64)))] _
      refine XS.ifNo X10.here hx rfl (hb hby at_119) rfl ((if0 _ _).trans (teq ((lw_eq ((v7 + v8) - v15).toInt64 (0 : Int64)).mpr c20)).2) ?_
      show oS p e below T10 m 122 #[oi p0, oi p1, oi p2, oi p3, oi v7, oi v8, oi vm, oi (p3 &&& (3 : Int32)), oi v15, oj ((v7.toInt64) - (v15.toInt64)), .second, oj ((v8.toInt64) - (v15.toInt64)), .second, oj ((v7 + v8) - v15).toInt64, .second, .unset, .unset, .unset, .unset, .unset, .unset] [] _
      refine XS.dconst0 X10.here hx rfl (hb hby at_122) rfl ?_
      show oS p e below T10 m 123 #[oi p0, oi p1, oi p2, oi p3, oi v7, oi v8, oi vm, oi (p3 &&& (3 : Int32)), oi v15, oj ((v7.toInt64) - (v15.toInt64)), .second, oj ((v8.toInt64) - (v15.toInt64)), .second, oj ((v7 + v8) - v15).toInt64, .second, .unset, .unset, .unset, .unset, .unset, .unset] [(.double FP.dconst0)] _
      refine XS.dstore X10.here hx rfl (hb hby at_123) rfl (l' := #[oi p0, oi p1, oi p2, oi p3, oi v7, oi v8, oi vm, oi (p3 &&& (3 : Int32)), oi v15, oj ((v7.toInt64) - (v15.toInt64)), .second, oj ((v8.toInt64) - (v15.toInt64)), .second, oj ((v7 + v8) - v15).toInt64, .second, od FP.dconst0, .second, .unset, .unset, .unset, .unset]) rfl ?_
      show oS p e below T10 m 125 #[oi p0, oi p1, oi p2, oi p3, oi v7, oi v8, oi vm, oi (p3 &&& (3 : Int32)), oi v15, oj ((v7.toInt64) - (v15.toInt64)), .second, oj ((v8.toInt64) - (v15.toInt64)), .second, oj ((v7 + v8) - v15).toInt64, .second, od FP.dconst0, .second, .unset, .unset, .unset, .unset] [] _
      refine XS.goto X10.here hx rfl (pc0 := 125) (pc' := 137) rfl (hb hby at_125) (by decide) (by decide) ?_
      show oS p e below T10 m 137 #[oi p0, oi p1, oi p2, oi p3, oi v7, oi v8, oi vm, oi (p3 &&& (3 : Int32)), oi v15, oj ((v7.toInt64) - (v15.toInt64)), .second, oj ((v8.toInt64) - (v15.toInt64)), .second, oj ((v7 + v8) - v15).toInt64, .second, od FP.dconst0, .second, .unset, .unset, .unset, .unset] [] _
      refine XS.iload X10.here hx rfl (hb hby at_137) rfl ?_
      show oS p e below T10 m 139 #[oi p0, oi p1, oi p2, oi p3, oi v7, oi v8, oi vm, oi (p3 &&& (3 : Int32)), oi v15, oj ((v7.toInt64) - (v15.toInt64)), .second, oj ((v8.toInt64) - (v15.toInt64)), .second, oj ((v7 + v8) - v15).toInt64, .second, od FP.dconst0, .second, .unset, .unset, .unset, .unset] [(.int v15)] _
      refine XS.iload X10.here hx rfl (hb hby at_139) rfl ?_
      show oS p e below T10 m 141 #[oi p0, oi p1, oi p2, oi p3, oi v7, oi v8, oi vm, oi (p3 &&& (3 : Int32)), oi v15, oj ((v7.toInt64) - (v15.toInt64)), .second, oj ((v8.toInt64) - (v15.toInt64)), .second, oj ((v7 + v8) - v15).toInt64, .second, od FP.dconst0, .second, .unset, .unset, .unset, .unset] [(.int v7), (.int v15)] _
      refine XS.iload X10.here hx rfl (hb hby at_141) rfl ?_
      show oS p e below T10 m 143 #[oi p0, oi p1, oi p2, oi p3, oi v7, oi v8, oi vm, oi (p3 &&& (3 : Int32)), oi v15, oj ((v7.toInt64) - (v15.toInt64)), .second, oj ((v8.toInt64) - (v15.toInt64)), .second, oj ((v7 + v8) - v15).toInt64, .second, od FP.dconst0, .second, .unset, .unset, .unset, .unset] [(.int v8), (.int v7), (.int v15)] _
      refine st21 _ ?_
      show oS p e below T21 m 146 #[oi p0, oi p1, oi p2, oi p3, oi v7, oi v8, oi vm, oi (p3 &&& (3 : Int32)), oi v15, oj ((v7.toInt64) - (v15.toInt64)), .second, oj ((v8.toInt64) - (v15.toInt64)), .second, oj ((v7 + v8) - v15).toInt64, .second, od FP.dconst0, .second, .unset, .unset, .unset, .unset] [(.double (own_f2 v15 v7 v8))] _
      refine XS.dstore X21.here hx rfl (hb hby at_146) rfl (l' := #[oi p0, oi p1, oi p2, oi p3, oi v7, oi v8, oi vm, oi (p3 &&& (3 : Int32)), oi v15, oj ((v7.toInt64) - (v15.toInt64)), .second, oj ((v8.toInt64) - (v15.toInt64)), .second, oj ((v7 + v8) - v15).toInt64, .second, od FP.dconst0, .second, od (own_f2 v15 v7 v8), .second, .unset, .unset]) rfl ?_
      show oS p e below T21 m 148 #[oi p0, oi p1, oi p2, oi p3, oi v7, oi v8, oi vm, oi (p3 &&& (3 : Int32)), oi v15, oj ((v7.toInt64) - (v15.toInt64)), .second, oj ((v8.toInt64) - (v15.toInt64)), .second, oj ((v7 + v8) - v15).toInt64, .second, od FP.dconst0, .second, od (own_f2 v15 v7 v8), .second, .unset, .unset] [] _
      refine XS.iload X21.here hx rfl (hb hby at_148) rfl ?_
      show oS p e below T21 m 150 #[oi p0, oi p1, oi p2, oi p3, oi v7, oi v8, oi vm, oi (p3 &&& (3 : Int32)), oi v15, oj ((v7.toInt64) - (v15.toInt64)), .second, oj ((v8.toInt64) - (v15.toInt64)), .second, oj ((v7 + v8) - v15).toInt64, .second, od FP.dconst0, .second, od (own_f2 v15 v7 v8), .second, .unset, .unset] [(.int v15)] _
      refine XS.iload X21.here hx rfl (hb hby at_150) rfl ?_
      show oS p e below T21 m 152 #[oi p0, oi p1, oi p2, oi p3, oi v7, oi v8, oi vm, oi (p3 &&& (3 : Int32)), oi v15, oj ((v7.toInt64) - (v15.toInt64)), .second, oj ((v8.toInt64) - (v15.toInt64)), .second, oj ((v7 + v8) - v15).toInt64, .second, od FP.dconst0, .second, od (own_f2 v15 v7 v8), .second, .unset, .unset] [(.int v8), (.int v15)] _
      refine XS.iload X21.here hx rfl (hb hby at_152) rfl ?_
      show oS p e below T21 m 154 #[oi p0, oi p1, oi p2, oi p3, oi v7, oi v8, oi vm, oi (p3 &&& (3 : Int32)), oi v15, oj ((v7.toInt64) - (v15.toInt64)), .second, oj ((v8.toInt64) - (v15.toInt64)), .second, oj ((v7 + v8) - v15).toInt64, .second, od FP.dconst0, .second, od (own_f2 v15 v7 v8), .second, .unset, .unset] [(.int v7), (.int v8), (.int v15)] _
      refine st22 _ ?_
      show oS p e below T22 m 157 #[oi p0, oi p1, oi p2, oi p3, oi v7, oi v8, oi vm, oi (p3 &&& (3 : Int32)), oi v15, oj ((v7.toInt64) - (v15.toInt64)), .second, oj ((v8.toInt64) - (v15.toInt64)), .second, oj ((v7 + v8) - v15).toInt64, .second, od FP.dconst0, .second, od (own_f2 v15 v7 v8), .second, .unset, .unset] [(.double (own_f2 v15 v8 v7))] _
      refine XS.dstore X22.here hx rfl (hb hby at_157) rfl (l' := #[oi p0, oi p1, oi p2, oi p3, oi v7, oi v8, oi vm, oi (p3 &&& (3 : Int32)), oi v15, oj ((v7.toInt64) - (v15.toInt64)), .second, oj ((v8.toInt64) - (v15.toInt64)), .second, oj ((v7 + v8) - v15).toInt64, .second, od FP.dconst0, .second, od (own_f2 v15 v7 v8), .second, od (own_f2 v15 v8 v7), .second]) rfl ?_
      show oS p e below T22 m 159 #[oi p0, oi p1, oi p2, oi p3, oi v7, oi v8, oi vm, oi (p3 &&& (3 : Int32)), oi v15, oj ((v7.toInt64) - (v15.toInt64)), .second, oj ((v8.toInt64) - (v15.toInt64)), .second, oj ((v7 + v8) - v15).toInt64, .second, od FP.dconst0, .second, od (own_f2 v15 v7 v8), .second, od (own_f2 v15 v8 v7), .second] [] _
      refine XS.dload X22.here hx rfl (hb hby at_159) rfl ?_
      show oS p e below T22 m 161 #[oi p0, oi p1, oi p2, oi p3, oi v7, oi v8, oi vm, oi (p3 &&& (3 : Int32)), oi v15, oj ((v7.toInt64) - (v15.toInt64)), .second, oj ((v8.toInt64) - (v15.toInt64)), .second, oj ((v7 + v8) - v15).toInt64, .second, od FP.dconst0, .second, od (own_f2 v15 v7 v8), .second, od (own_f2 v15 v8 v7), .second] [(.double (own_f2 v15 v7 v8))] _
      refine XS.dload X22.here hx rfl (hb hby at_161) rfl ?_
      show oS p e below T22 m 163 #[oi p0, oi p1, oi p2, oi p3, oi v7, oi v8, oi vm, oi (p3 &&& (3 : Int32)), oi v15, oj ((v7.toInt64) - (v15.toInt64)), .second, oj ((v8.toInt64) - (v15.toInt64)), .second, oj ((v7 + v8) - v15).toInt64, .second, od FP.dconst0, .second, od (own_f2 v15 v7 v8), .second, od (own_f2 v15 v8 v7), .second] [(.double FP.dconst0), (.double (own_f2 v15 v7 v8))] _
      refine XS.dcmpS X22.here hx rfl (hb hby at_163) rfl (dcmpV_eq (own_jz (own_z64.mp c20)) (by rw [own_jz (own_z64.mp c20)]; exact own_d0) _) ?_
      show oS p e below T22 m 164 #[oi p0, oi p1, oi p2, oi p3, oi v7, oi v8, oi vm, oi (p3 &&& (3 : Int32)), oi v15, oj ((v7.toInt64) - (v15.toInt64)), .second, oj ((v8.toInt64) - (v15.toInt64)), .second, oj ((v7 + v8) - v15).toInt64, .second, od FP.dconst0, .second, od (own_f2 v15 v7 v8), .second, od (own_f2 v15 v8 v7), .second] [(.int (0 : Int32))] _
      refine XS.ifNo X22.here hx rfl (hb hby at_164) rfl ((if0 _ _).trans (teq b23).2) ?_
      show oS p e below T22 m 167 #[oi p0, oi p1, oi p2, oi p3, oi v7, oi v8, oi vm, oi (p3 &&& (3 : Int32)), oi v15, oj ((v7.toInt64) - (v15.toInt64)), .second, oj ((v8.toInt64) - (v15.toInt64)), .second, oj ((v7 + v8) - v15).toInt64, .second, od FP.dconst0, .second, od (own_f2 v15 v7 v8), .second, od (own_f2 v15 v8 v7), .second] [] _
      refine XS.dload X22.here hx rfl (hb hby at_167) rfl ?_
      show oS p e below T22 m 169 #[oi p0, oi p1, oi p2, oi p3, oi v7, oi v8, oi vm, oi (p3 &&& (3 : Int32)), oi v15, oj ((v7.toInt64) - (v15.toInt64)), .second, oj ((v8.toInt64) - (v15.toInt64)), .second, oj ((v7 + v8) - v15).toInt64, .second, od FP.dconst0, .second, od (own_f2 v15 v7 v8), .second, od (own_f2 v15 v8 v7), .second] [(.double (own_f2 v15 v8 v7))] _
      refine XS.dload X22.here hx rfl (hb hby at_169) rfl ?_
      show oS p e below T22 m 171 #[oi p0, oi p1, oi p2, oi p3, oi v7, oi v8, oi vm, oi (p3 &&& (3 : Int32)), oi v15, oj ((v7.toInt64) - (v15.toInt64)), .second, oj ((v8.toInt64) - (v15.toInt64)), .second, oj ((v7 + v8) - v15).toInt64, .second, od FP.dconst0, .second, od (own_f2 v15 v7 v8), .second, od (own_f2 v15 v8 v7), .second] [(.double FP.dconst0), (.double (own_f2 v15 v8 v7))] _
      refine XS.dcmpS X22.here hx rfl (hb hby at_171) rfl (dcmpV_eq (own_jz (by rw [eD]; exact own_z64.mp c20)) (by rw [own_jz (by rw [eD]; exact own_z64.mp c20)]; exact own_d0) _) ?_
      show oS p e below T22 m 172 #[oi p0, oi p1, oi p2, oi p3, oi v7, oi v8, oi vm, oi (p3 &&& (3 : Int32)), oi v15, oj ((v7.toInt64) - (v15.toInt64)), .second, oj ((v8.toInt64) - (v15.toInt64)), .second, oj ((v7 + v8) - v15).toInt64, .second, od FP.dconst0, .second, od (own_f2 v15 v7 v8), .second, od (own_f2 v15 v8 v7), .second] [(.int (0 : Int32))] _
      refine XS.ifNo X22.here hx rfl (hb hby at_172) rfl ((if0 _ _).trans (teq b24).2) ?_
      show oS p e below T22 m 175 #[oi p0, oi p1, oi p2, oi p3, oi v7, oi v8, oi vm, oi (p3 &&& (3 : Int32)), oi v15, oj ((v7.toInt64) - (v15.toInt64)), .second, oj ((v8.toInt64) - (v15.toInt64)), .second, oj ((v7 + v8) - v15).toInt64, .second, od FP.dconst0, .second, od (own_f2 v15 v7 v8), .second, od (own_f2 v15 v8 v7), .second] [] _
      refine XS.iconst X22.here hx rfl (hb hby at_175) ?_
      show oS p e below T22 m 176 #[oi p0, oi p1, oi p2, oi p3, oi v7, oi v8, oi vm, oi (p3 &&& (3 : Int32)), oi v15, oj ((v7.toInt64) - (v15.toInt64)), .second, oj ((v8.toInt64) - (v15.toInt64)), .second, oj ((v7 + v8) - v15).toInt64, .second, od FP.dconst0, .second, od (own_f2 v15 v7 v8), .second, od (own_f2 v15 v8 v7), .second] [(.int (1 : Int32))] _
      refine XS.goto X22.here hx rfl (pc0 := 176) (pc' := 180) rfl (hb hby at_176) (by decide) (by decide) ?_
      show oS p e below T22 m 180 #[oi p0, oi p1, oi p2, oi p3, oi v7, oi v8, oi vm, oi (p3 &&& (3 : Int32)), oi v15, oj ((v7.toInt64) - (v15.toInt64)), .second, oj ((v8.toInt64) - (v15.toInt64)), .second, oj ((v7 + v8) - v15).toInt64, .second, od FP.dconst0, .second, od (own_f2 v15 v7 v8), .second, od (own_f2 v15 v8 v7), .second] [(.int (1 : Int32))] _
      exact retN X22 hx (t := .boolean) Bd.returns (by simp) (hb hby at_180) hr
    · show own_Q0 Z p0 p1 p2 p3 h0 n0 _ T22.heap _
      rw [eq22]
      exact ⟨rfl, N22⟩
  · skip
    obtain ⟨_, _, ⟨T25, L25, k25, n25⟩, -, X25, ⟨Lc25, hQ25, l25, y25, z25⟩, st25⟩ := Jvm.LawKit.callS X10 hx (y := (⟨"com/example/trawl_tables/trawltables/TrigramSet", "jaccard", "(III)D"⟩ : MethodName)) hown (mvT hZ (hw _ (List.mem_of_getElem? (i := 5) rfl))) (mvT hZ (hw _ (List.mem_of_getElem? (i := 6) rfl))) (mvT hZ (hw _ (List.mem_of_getElem? (i := 7) rfl))) (mvT hZ (hw _ (List.mem_of_getElem? (i := 8) rfl))) (by decide) (backOf (W := 0) (own_rm2 l Z av hw [] v15 v7 v8 h0 n0 Z0 ) hZ (hw _ (List.mem_of_getElem? (i := 8) rfl)) (hw _ (List.mem_of_getElem? (i := 7) rfl)) (by decide) (by decide)) (g := (mkF m 143 #[oi p0, oi p1, oi p2, oi p3, oi v7, oi v8, oi vm, oi (p3 &&& (3 : Int32)), oi v15, oj ((v7.toInt64) - (v15.toInt64)), .second, oj ((v8.toInt64) - (v15.toInt64)), .second, oj ((v7 + v8) - v15).toInt64, .second, od (FP.ddiv (FP.i2d v15) (FP.l2d ((v7 + v8) - v15).toInt64)), .second, .unset, .unset, .unset, .unset] [(.int v8), (.int v7), (.int v15)])) rfl (by rw [hml]; rfl) (argsL := [(.int v15), (.int v7), (.int v8)]) (rest := []) (lenOf own_pd1 rfl) rfl (by show 2 * 0 + _ ≤ _; exact Nat.le_of_eq rfl) (hb hby at_143) (fun _ _ => ⟨rfl, eq10, (by decide : 0 + 0 ≤ _), (by decide : 0 + 0 ≤ _)⟩)
    dsimp only [Pt.U, Pt.locs, Pt.cells, Pt.slots] at X25 l25 y25 z25 st25 hQ25
    subst l25 y25 z25
    obtain ⟨rfl, Nq25, eq25⟩ := hQ25
    have N25 := Fr.app N10 Nq25
    obtain ⟨_, _, ⟨T26, L26, k26, n26⟩, -, X26, ⟨Lc26, hQ26, l26, y26, z26⟩, st26⟩ := Jvm.LawKit.callS X25 hx (y := (⟨"com/example/trawl_tables/trawltables/TrigramSet", "jaccard", "(III)D"⟩ : MethodName)) hown (mvT hZ (hw _ (List.mem_of_getElem? (i := 5) rfl))) (mvT hZ (hw _ (List.mem_of_getElem? (i := 6) rfl))) (mvT hZ (hw _ (List.mem_of_getElem? (i := 7) rfl))) (mvT hZ (hw _ (List.mem_of_getElem? (i := 8) rfl))) (by decide) (backOf (W := 0) (own_rm2 l Z av hw [] v15 v8 v7 h0 n0 Z0 ) hZ (hw _ (List.mem_of_getElem? (i := 8) rfl)) (hw _ (List.mem_of_getElem? (i := 7) rfl)) (by decide) (by decide)) (g := (mkF m 154 #[oi p0, oi p1, oi p2, oi p3, oi v7, oi v8, oi vm, oi (p3 &&& (3 : Int32)), oi v15, oj ((v7.toInt64) - (v15.toInt64)), .second, oj ((v8.toInt64) - (v15.toInt64)), .second, oj ((v7 + v8) - v15).toInt64, .second, od (FP.ddiv (FP.i2d v15) (FP.l2d ((v7 + v8) - v15).toInt64)), .second, od (own_f2 v15 v7 v8), .second, .unset, .unset] [(.int v7), (.int v8), (.int v15)])) rfl (by rw [hml]; rfl) (argsL := [(.int v15), (.int v8), (.int v7)]) (rest := []) (lenOf own_pd1 rfl) rfl (by show 2 * 0 + _ ≤ _; exact Nat.le_of_eq rfl) (hb hby at_154) (fun _ _ => ⟨rfl, eq25, (by decide : 0 + 0 ≤ _), (by decide : 0 + 0 ≤ _)⟩)
    dsimp only [Pt.U, Pt.locs, Pt.cells, Pt.slots] at X26 l26 y26 z26 st26 hQ26
    subst l26 y26 z26
    obtain ⟨rfl, Nq26, eq26⟩ := hQ26
    have N26 := Fr.app N25 Nq26
    have b27 : (0 : Int32) = (0 : Int32) := (by decide)
    have b28 : (0 : Int32) = (0 : Int32) := (by decide)
    obtain ⟨fs, hr, hrun, hended, hW, hsame⟩ := X26.leave (v := (some (.int (1 : Int32)))) (fun h => by rw [Bd.returns] at h; cases h)
    refine ⟨_, _, pre19 _ ?_, hrun, hended, _, _, rfl, ?_, ⟨_, rfl⟩, hW, hsame.mono (by decide) (by decide)⟩
    · show oS p e below T10 m 119 #[oi p0, oi p1, oi p2, oi p3, oi v7, oi v8, oi vm, oi (p3 &&& (3 : Int32)), oi v15, oj ((v7.toInt64) - (v15.toInt64)), .second, oj ((v8.toInt64) - (v15.toInt64)), .second, oj ((v7 + v8) - v15).toInt64, .second, .unset, .unset, .unset, .unset, .unset, .unset] [(.int (lcmpW ((v7 + v8) - v15).toInt64 (0 : Int64)))] _
      refine XS.ifYes X10.here hx rfl (pc0 := 119) (pc' := 128) rfl (hb hby at_119) rfl ((if0 _ _).trans (feq (fun q => c20 ((lw_eq ((v7 + v8) - v15).toInt64 (0 : Int64)).mp q))).2) (by decide) (by decide) ?_
      show oS p e below T10 m 128 #[oi p0, oi p1, oi p2, oi p3, oi v7, oi v8, oi vm, oi (p3 &&& (3 : Int32)), oi v15, oj ((v7.toInt64) - (v15.toInt64)), .second, oj ((v8.toInt64) - (v15.toInt64)), .second, oj ((v7 + v8) - v15).toInt64, .second, .unset, .unset, .unset, .unset, .unset, .unset] [] _
      refine XS.iload X10.here hx rfl (hb hby at_128) rfl ?_
      show oS p e below T10 m 130 #[oi p0, oi p1, oi p2, oi p3, oi v7, oi v8, oi vm, oi (p3 &&& (3 : Int32)), oi v15, oj ((v7.toInt64) - (v15.toInt64)), .second, oj ((v8.toInt64) - (v15.toInt64)), .second, oj ((v7 + v8) - v15).toInt64, .second, .unset, .unset, .unset, .unset, .unset, .unset] [(.int v15)] _
      refine XS.i2dS X10.here hx rfl (hb hby at_130) rfl rfl ?_
      show oS p e below T10 m 131 #[oi p0, oi p1, oi p2, oi p3, oi v7, oi v8, oi vm, oi (p3 &&& (3 : Int32)), oi v15, oj ((v7.toInt64) - (v15.toInt64)), .second, oj ((v8.toInt64) - (v15.toInt64)), .second, oj ((v7 + v8) - v15).toInt64, .second, .unset, .unset, .unset, .unset, .unset, .unset] [(.double (FP.i2d v15))] _
      refine XS.lload X10.here hx rfl (hb hby at_131) rfl ?_
      show oS p e below T10 m 133 #[oi p0, oi p1, oi p2, oi p3, oi v7, oi v8, oi vm, oi (p3 &&& (3 : Int32)), oi v15, oj ((v7.toInt64) - (v15.toInt64)), .second, oj ((v8.toInt64) - (v15.toInt64)), .second, oj ((v7 + v8) - v15).toInt64, .second, .unset, .unset, .unset, .unset, .unset, .unset] [(.long ((v7 + v8) - v15).toInt64), (.double (FP.i2d v15))] _
      refine XS.l2dS X10.here hx rfl (hb hby at_133) rfl rfl ?_
      show oS p e below T10 m 134 #[oi p0, oi p1, oi p2, oi p3, oi v7, oi v8, oi vm, oi (p3 &&& (3 : Int32)), oi v15, oj ((v7.toInt64) - (v15.toInt64)), .second, oj ((v8.toInt64) - (v15.toInt64)), .second, oj ((v7 + v8) - v15).toInt64, .second, .unset, .unset, .unset, .unset, .unset, .unset] [(.double (FP.l2d ((v7 + v8) - v15).toInt64)), (.double (FP.i2d v15))] _
      refine XS.ddivS X10.here hx rfl (hb hby at_134) rfl (own_nan c20) rfl ?_
      show oS p e below T10 m 135 #[oi p0, oi p1, oi p2, oi p3, oi v7, oi v8, oi vm, oi (p3 &&& (3 : Int32)), oi v15, oj ((v7.toInt64) - (v15.toInt64)), .second, oj ((v8.toInt64) - (v15.toInt64)), .second, oj ((v7 + v8) - v15).toInt64, .second, .unset, .unset, .unset, .unset, .unset, .unset] [(.double (FP.ddiv (FP.i2d v15) (FP.l2d ((v7 + v8) - v15).toInt64)))] _
      refine XS.dstore X10.here hx rfl (hb hby at_135) rfl (l' := #[oi p0, oi p1, oi p2, oi p3, oi v7, oi v8, oi vm, oi (p3 &&& (3 : Int32)), oi v15, oj ((v7.toInt64) - (v15.toInt64)), .second, oj ((v8.toInt64) - (v15.toInt64)), .second, oj ((v7 + v8) - v15).toInt64, .second, od (FP.ddiv (FP.i2d v15) (FP.l2d ((v7 + v8) - v15).toInt64)), .second, .unset, .unset, .unset, .unset]) rfl ?_
      show oS p e below T10 m 137 #[oi p0, oi p1, oi p2, oi p3, oi v7, oi v8, oi vm, oi (p3 &&& (3 : Int32)), oi v15, oj ((v7.toInt64) - (v15.toInt64)), .second, oj ((v8.toInt64) - (v15.toInt64)), .second, oj ((v7 + v8) - v15).toInt64, .second, od (FP.ddiv (FP.i2d v15) (FP.l2d ((v7 + v8) - v15).toInt64)), .second, .unset, .unset, .unset, .unset] [] _
      refine XS.iload X10.here hx rfl (hb hby at_137) rfl ?_
      show oS p e below T10 m 139 #[oi p0, oi p1, oi p2, oi p3, oi v7, oi v8, oi vm, oi (p3 &&& (3 : Int32)), oi v15, oj ((v7.toInt64) - (v15.toInt64)), .second, oj ((v8.toInt64) - (v15.toInt64)), .second, oj ((v7 + v8) - v15).toInt64, .second, od (FP.ddiv (FP.i2d v15) (FP.l2d ((v7 + v8) - v15).toInt64)), .second, .unset, .unset, .unset, .unset] [(.int v15)] _
      refine XS.iload X10.here hx rfl (hb hby at_139) rfl ?_
      show oS p e below T10 m 141 #[oi p0, oi p1, oi p2, oi p3, oi v7, oi v8, oi vm, oi (p3 &&& (3 : Int32)), oi v15, oj ((v7.toInt64) - (v15.toInt64)), .second, oj ((v8.toInt64) - (v15.toInt64)), .second, oj ((v7 + v8) - v15).toInt64, .second, od (FP.ddiv (FP.i2d v15) (FP.l2d ((v7 + v8) - v15).toInt64)), .second, .unset, .unset, .unset, .unset] [(.int v7), (.int v15)] _
      refine XS.iload X10.here hx rfl (hb hby at_141) rfl ?_
      show oS p e below T10 m 143 #[oi p0, oi p1, oi p2, oi p3, oi v7, oi v8, oi vm, oi (p3 &&& (3 : Int32)), oi v15, oj ((v7.toInt64) - (v15.toInt64)), .second, oj ((v8.toInt64) - (v15.toInt64)), .second, oj ((v7 + v8) - v15).toInt64, .second, od (FP.ddiv (FP.i2d v15) (FP.l2d ((v7 + v8) - v15).toInt64)), .second, .unset, .unset, .unset, .unset] [(.int v8), (.int v7), (.int v15)] _
      refine st25 _ ?_
      show oS p e below T25 m 146 #[oi p0, oi p1, oi p2, oi p3, oi v7, oi v8, oi vm, oi (p3 &&& (3 : Int32)), oi v15, oj ((v7.toInt64) - (v15.toInt64)), .second, oj ((v8.toInt64) - (v15.toInt64)), .second, oj ((v7 + v8) - v15).toInt64, .second, od (FP.ddiv (FP.i2d v15) (FP.l2d ((v7 + v8) - v15).toInt64)), .second, .unset, .unset, .unset, .unset] [(.double (own_f2 v15 v7 v8))] _
      refine XS.dstore X25.here hx rfl (hb hby at_146) rfl (l' := #[oi p0, oi p1, oi p2, oi p3, oi v7, oi v8, oi vm, oi (p3 &&& (3 : Int32)), oi v15, oj ((v7.toInt64) - (v15.toInt64)), .second, oj ((v8.toInt64) - (v15.toInt64)), .second, oj ((v7 + v8) - v15).toInt64, .second, od (FP.ddiv (FP.i2d v15) (FP.l2d ((v7 + v8) - v15).toInt64)), .second, od (own_f2 v15 v7 v8), .second, .unset, .unset]) rfl ?_
      show oS p e below T25 m 148 #[oi p0, oi p1, oi p2, oi p3, oi v7, oi v8, oi vm, oi (p3 &&& (3 : Int32)), oi v15, oj ((v7.toInt64) - (v15.toInt64)), .second, oj ((v8.toInt64) - (v15.toInt64)), .second, oj ((v7 + v8) - v15).toInt64, .second, od (FP.ddiv (FP.i2d v15) (FP.l2d ((v7 + v8) - v15).toInt64)), .second, od (own_f2 v15 v7 v8), .second, .unset, .unset] [] _
      refine XS.iload X25.here hx rfl (hb hby at_148) rfl ?_
      show oS p e below T25 m 150 #[oi p0, oi p1, oi p2, oi p3, oi v7, oi v8, oi vm, oi (p3 &&& (3 : Int32)), oi v15, oj ((v7.toInt64) - (v15.toInt64)), .second, oj ((v8.toInt64) - (v15.toInt64)), .second, oj ((v7 + v8) - v15).toInt64, .second, od (FP.ddiv (FP.i2d v15) (FP.l2d ((v7 + v8) - v15).toInt64)), .second, od (own_f2 v15 v7 v8), .second, .unset, .unset] [(.int v15)] _
      refine XS.iload X25.here hx rfl (hb hby at_150) rfl ?_
      show oS p e below T25 m 152 #[oi p0, oi p1, oi p2, oi p3, oi v7, oi v8, oi vm, oi (p3 &&& (3 : Int32)), oi v15, oj ((v7.toInt64) - (v15.toInt64)), .second, oj ((v8.toInt64) - (v15.toInt64)), .second, oj ((v7 + v8) - v15).toInt64, .second, od (FP.ddiv (FP.i2d v15) (FP.l2d ((v7 + v8) - v15).toInt64)), .second, od (own_f2 v15 v7 v8), .second, .unset, .unset] [(.int v8), (.int v15)] _
      refine XS.iload X25.here hx rfl (hb hby at_152) rfl ?_
      show oS p e below T25 m 154 #[oi p0, oi p1, oi p2, oi p3, oi v7, oi v8, oi vm, oi (p3 &&& (3 : Int32)), oi v15, oj ((v7.toInt64) - (v15.toInt64)), .second, oj ((v8.toInt64) - (v15.toInt64)), .second, oj ((v7 + v8) - v15).toInt64, .second, od (FP.ddiv (FP.i2d v15) (FP.l2d ((v7 + v8) - v15).toInt64)), .second, od (own_f2 v15 v7 v8), .second, .unset, .unset] [(.int v7), (.int v8), (.int v15)] _
      refine st26 _ ?_
      show oS p e below T26 m 157 #[oi p0, oi p1, oi p2, oi p3, oi v7, oi v8, oi vm, oi (p3 &&& (3 : Int32)), oi v15, oj ((v7.toInt64) - (v15.toInt64)), .second, oj ((v8.toInt64) - (v15.toInt64)), .second, oj ((v7 + v8) - v15).toInt64, .second, od (FP.ddiv (FP.i2d v15) (FP.l2d ((v7 + v8) - v15).toInt64)), .second, od (own_f2 v15 v7 v8), .second, .unset, .unset] [(.double (own_f2 v15 v8 v7))] _
      refine XS.dstore X26.here hx rfl (hb hby at_157) rfl (l' := #[oi p0, oi p1, oi p2, oi p3, oi v7, oi v8, oi vm, oi (p3 &&& (3 : Int32)), oi v15, oj ((v7.toInt64) - (v15.toInt64)), .second, oj ((v8.toInt64) - (v15.toInt64)), .second, oj ((v7 + v8) - v15).toInt64, .second, od (FP.ddiv (FP.i2d v15) (FP.l2d ((v7 + v8) - v15).toInt64)), .second, od (own_f2 v15 v7 v8), .second, od (own_f2 v15 v8 v7), .second]) rfl ?_
      show oS p e below T26 m 159 #[oi p0, oi p1, oi p2, oi p3, oi v7, oi v8, oi vm, oi (p3 &&& (3 : Int32)), oi v15, oj ((v7.toInt64) - (v15.toInt64)), .second, oj ((v8.toInt64) - (v15.toInt64)), .second, oj ((v7 + v8) - v15).toInt64, .second, od (FP.ddiv (FP.i2d v15) (FP.l2d ((v7 + v8) - v15).toInt64)), .second, od (own_f2 v15 v7 v8), .second, od (own_f2 v15 v8 v7), .second] [] _
      refine XS.dload X26.here hx rfl (hb hby at_159) rfl ?_
      show oS p e below T26 m 161 #[oi p0, oi p1, oi p2, oi p3, oi v7, oi v8, oi vm, oi (p3 &&& (3 : Int32)), oi v15, oj ((v7.toInt64) - (v15.toInt64)), .second, oj ((v8.toInt64) - (v15.toInt64)), .second, oj ((v7 + v8) - v15).toInt64, .second, od (FP.ddiv (FP.i2d v15) (FP.l2d ((v7 + v8) - v15).toInt64)), .second, od (own_f2 v15 v7 v8), .second, od (own_f2 v15 v8 v7), .second] [(.double (own_f2 v15 v7 v8))] _
      refine XS.dload X26.here hx rfl (hb hby at_161) rfl ?_
      show oS p e below T26 m 163 #[oi p0, oi p1, oi p2, oi p3, oi v7, oi v8, oi vm, oi (p3 &&& (3 : Int32)), oi v15, oj ((v7.toInt64) - (v15.toInt64)), .second, oj ((v8.toInt64) - (v15.toInt64)), .second, oj ((v7 + v8) - v15).toInt64, .second, od (FP.ddiv (FP.i2d v15) (FP.l2d ((v7 + v8) - v15).toInt64)), .second, od (own_f2 v15 v7 v8), .second, od (own_f2 v15 v8 v7), .second] [(.double (FP.ddiv (FP.i2d v15) (FP.l2d ((v7 + v8) - v15).toInt64))), (.double (own_f2 v15 v7 v8))] _
      refine XS.dcmpS X26.here hx rfl (hb hby at_163) rfl (dcmpV_eq (own_jn (fun q => c20 (own_z64.mpr q))) (by rw [(own_jn (fun q => c20 (own_z64.mpr q)))]; exact own_nan c20) _) ?_
      show oS p e below T26 m 164 #[oi p0, oi p1, oi p2, oi p3, oi v7, oi v8, oi vm, oi (p3 &&& (3 : Int32)), oi v15, oj ((v7.toInt64) - (v15.toInt64)), .second, oj ((v8.toInt64) - (v15.toInt64)), .second, oj ((v7 + v8) - v15).toInt64, .second, od (FP.ddiv (FP.i2d v15) (FP.l2d ((v7 + v8) - v15).toInt64)), .second, od (own_f2 v15 v7 v8), .second, od (own_f2 v15 v8 v7), .second] [(.int (0 : Int32))] _
      refine XS.ifNo X26.here hx rfl (hb hby at_164) rfl ((if0 _ _).trans (teq b27).2) ?_
      show oS p e below T26 m 167 #[oi p0, oi p1, oi p2, oi p3, oi v7, oi v8, oi vm, oi (p3 &&& (3 : Int32)), oi v15, oj ((v7.toInt64) - (v15.toInt64)), .second, oj ((v8.toInt64) - (v15.toInt64)), .second, oj ((v7 + v8) - v15).toInt64, .second, od (FP.ddiv (FP.i2d v15) (FP.l2d ((v7 + v8) - v15).toInt64)), .second, od (own_f2 v15 v7 v8), .second, od (own_f2 v15 v8 v7), .second] [] _
      refine XS.dload X26.here hx rfl (hb hby at_167) rfl ?_
      show oS p e below T26 m 169 #[oi p0, oi p1, oi p2, oi p3, oi v7, oi v8, oi vm, oi (p3 &&& (3 : Int32)), oi v15, oj ((v7.toInt64) - (v15.toInt64)), .second, oj ((v8.toInt64) - (v15.toInt64)), .second, oj ((v7 + v8) - v15).toInt64, .second, od (FP.ddiv (FP.i2d v15) (FP.l2d ((v7 + v8) - v15).toInt64)), .second, od (own_f2 v15 v7 v8), .second, od (own_f2 v15 v8 v7), .second] [(.double (own_f2 v15 v8 v7))] _
      refine XS.dload X26.here hx rfl (hb hby at_169) rfl ?_
      show oS p e below T26 m 171 #[oi p0, oi p1, oi p2, oi p3, oi v7, oi v8, oi vm, oi (p3 &&& (3 : Int32)), oi v15, oj ((v7.toInt64) - (v15.toInt64)), .second, oj ((v8.toInt64) - (v15.toInt64)), .second, oj ((v7 + v8) - v15).toInt64, .second, od (FP.ddiv (FP.i2d v15) (FP.l2d ((v7 + v8) - v15).toInt64)), .second, od (own_f2 v15 v7 v8), .second, od (own_f2 v15 v8 v7), .second] [(.double (FP.ddiv (FP.i2d v15) (FP.l2d ((v7 + v8) - v15).toInt64))), (.double (own_f2 v15 v8 v7))] _
      refine XS.dcmpS X26.here hx rfl (hb hby at_171) rfl (dcmpV_eq ((own_jn (fun q => c20 (own_z64.mpr (eD ▸ q)))).trans (by rw [eD])) (by rw [(own_jn (fun q => c20 (own_z64.mpr (eD ▸ q)))), eD]; exact own_nan c20) _) ?_
      show oS p e below T26 m 172 #[oi p0, oi p1, oi p2, oi p3, oi v7, oi v8, oi vm, oi (p3 &&& (3 : Int32)), oi v15, oj ((v7.toInt64) - (v15.toInt64)), .second, oj ((v8.toInt64) - (v15.toInt64)), .second, oj ((v7 + v8) - v15).toInt64, .second, od (FP.ddiv (FP.i2d v15) (FP.l2d ((v7 + v8) - v15).toInt64)), .second, od (own_f2 v15 v7 v8), .second, od (own_f2 v15 v8 v7), .second] [(.int (0 : Int32))] _
      refine XS.ifNo X26.here hx rfl (hb hby at_172) rfl ((if0 _ _).trans (teq b28).2) ?_
      show oS p e below T26 m 175 #[oi p0, oi p1, oi p2, oi p3, oi v7, oi v8, oi vm, oi (p3 &&& (3 : Int32)), oi v15, oj ((v7.toInt64) - (v15.toInt64)), .second, oj ((v8.toInt64) - (v15.toInt64)), .second, oj ((v7 + v8) - v15).toInt64, .second, od (FP.ddiv (FP.i2d v15) (FP.l2d ((v7 + v8) - v15).toInt64)), .second, od (own_f2 v15 v7 v8), .second, od (own_f2 v15 v8 v7), .second] [] _
      refine XS.iconst X26.here hx rfl (hb hby at_175) ?_
      show oS p e below T26 m 176 #[oi p0, oi p1, oi p2, oi p3, oi v7, oi v8, oi vm, oi (p3 &&& (3 : Int32)), oi v15, oj ((v7.toInt64) - (v15.toInt64)), .second, oj ((v8.toInt64) - (v15.toInt64)), .second, oj ((v7 + v8) - v15).toInt64, .second, od (FP.ddiv (FP.i2d v15) (FP.l2d ((v7 + v8) - v15).toInt64)), .second, od (own_f2 v15 v7 v8), .second, od (own_f2 v15 v8 v7), .second] [(.int (1 : Int32))] _
      refine XS.goto X26.here hx rfl (pc0 := 176) (pc' := 180) rfl (hb hby at_176) (by decide) (by decide) ?_
      show oS p e below T26 m 180 #[oi p0, oi p1, oi p2, oi p3, oi v7, oi v8, oi vm, oi (p3 &&& (3 : Int32)), oi v15, oj ((v7.toInt64) - (v15.toInt64)), .second, oj ((v8.toInt64) - (v15.toInt64)), .second, oj ((v7 + v8) - v15).toInt64, .second, od (FP.ddiv (FP.i2d v15) (FP.l2d ((v7 + v8) - v15).toInt64)), .second, od (own_f2 v15 v7 v8), .second, od (own_f2 v15 v8 v7), .second] [(.int (1 : Int32))] _
      exact retN X26 hx (t := .boolean) Bd.returns (by simp) (hb hby at_180) hr
    · show own_Q0 Z p0 p1 p2 p3 h0 n0 _ T26.heap _
      rw [eq26]
      exact ⟨rfl, N26⟩
set_option maxRecDepth 65536 in
set_option maxHeartbeats 40000000 in
theorem own_comes {Post : Tables → Env → Array Value → State → Outcome → State → Prop} (hpost : ∀ tb e args s v u, (limb_1_1.after args s (.returned v) u = true ∧ limb_1_2.after args s (.returned v) u = true ∧ True) → FrameEnd s (.returned v) u (Jvm.fieldLocs frame_1_writes args s ++ Jvm.arrayLocs frame_1_arrays args s ++ Jvm.staticLocs frame_1_statics s) 0 0 → Post tb e args s (.returned v) u) :
    ArmFor flags0 classFile x code maxLocals ret World_1 tables_1 room_1 Calls_1 rest_1 Pre_1 Post := by
  intro l hfl _ _ p e ha hc hk s m args below hf hA hF happ hP
  obtain ⟨hcalls, hrest, hpre⟩ := hP
  obtain ⟨-, -, -, hnamed, -, -, -, hat⟩ := (Spec.applies_iff hf).mp happ
  obtain ⟨hg, hn⟩ := and_e (Cond.before_iff.mp (show (Jvm.Cond.and given_1 narrow_1).before args s = true from hpre))
  obtain ⟨gv1, gv2⟩ := and_e hg
  obtain ⟨gv3, gv4⟩ := and_e gv2
  obtain ⟨gv5, gv6⟩ := and_e gv4
  obtain ⟨gv7, gv8⟩ := and_e gv6
  obtain ⟨w0, w1, w2, w3, rfl⟩ : ∃ w0 w1 w2 w3 : Value, args = #[w0, w1, w2, w3] := by
    have hs : args.size = 4 := by simpa [Cond.value, given_1] using gv1
    obtain ⟨L⟩ := args
    match L, hs with
    | [w0, w1, w2, w3], _ => exact ⟨w0, w1, w2, w3, rfl⟩
  have hw := fun d (hd : d ∈ tables_1) => atoms_spec (ws := Jvm.Cond.code x code maxLocals ret :: tables_1) hat d (List.mem_cons_of_mem _ hd)
  have hfit : Fit s := fun {y c} hc i hi => by
    obtain ⟨ha, rfl⟩ := Array.getElem?_eq_some_iff.mp hc
    have q := List.all_eq_true.mp ((Array.all_eq_true_iff_forall_mem.mp hF) _ (Array.getElem_mem ha)) i (List.mem_range.mpr hi)
    simpa [Array.getElem?_eq_getElem hi] using q
  obtain ⟨i0, ei0⟩ := is_v gv3
  obtain rfl : w0 = (.int i0) := Option.some.inj ei0
  obtain ⟨i1, ei1⟩ := is_v gv5
  obtain rfl : w1 = (.int i1) := Option.some.inj ei1
  obtain ⟨i2, ei2⟩ := is_v gv7
  obtain rfl : w2 = (.int i2) := Option.some.inj ei2
  obtain ⟨i3, ei3⟩ := is_v gv8
  obtain rfl : w3 = (.int i3) := Option.some.inj ei3
  obtain ⟨n, o, h1, h2, h3, _, L, rfl, ⟨rfl, N⟩, hq⟩ := own_rm0 l s _ hw tables_1 i0 i1 i2 i3  s.heap s.heap.size (Nat.le_refl _)  p e ha hc hk s m _ below hf ((Spec.applies_iff_loose hf).mp happ).1 ⟨rfl, State.Warmed39.refl s, rfl⟩ trivial
  refine ⟨n, _, h1, h2, h3, hpost _ _ _ _ _ _ ⟨Cond.after_iff.mpr rfl, Cond.after_iff.mpr (eq_i res_at (Term.int_eval (1)) rfl), trivial⟩ ⟨hq.1, hq.2.1, (hq.2.2.sift fun y hy => Or.inr (N y hy)).mono (by decide) (by decide)⟩⟩
theorem main_1_1 : Claimed_1_1 := own_comes fun _ _ _ _ _ _ h hF => ⟨h.1, hF⟩
theorem main_1_2 : Claimed_1_2 := own_comes fun _ _ _ _ _ _ h hF => ⟨h.2.1, hF⟩
end Jvm.Pilot.@@N@@
namespace Jvm.Pilot.@@N@@
open Jvm Jvm.ClassFile Sem Op Lib Jvm.Free Jvm.Stand Jvm.Pilot.@@N@@.Jvm.D
/-! MADE BY PROGRAM (witnessworld.py) out of the Statement's table words and the real class files: 10 classes; the members and pool entries that the words name. The judged class is class 1, her method 1. -/
namespace start1
open Jvm.ClassFile
def u (s : String) : CpInfo := .utf8 (stringToUtf16 s)
/-- a pool by its gaps: so many unusable entries, then the entry; so many at the end -/
def gap : Nat → List CpInfo → List CpInfo
  | 0, r => r
  | n + 1, r => .unusable :: gap n r
def poolList (es : List (Nat × CpInfo)) (last : Nat) : List CpInfo := es.foldr (fun e r => gap e.1 (e.2 :: r)) (gap last [])
def pool (es : List (Nat × CpInfo)) (last : Nat) : Array CpInfo := ⟨poolList es last⟩
def fileOf (pool : Array CpInfo) (this : Nat) (attrs : Array Attribute := #[]) (ms : Array MethodInfo := #[]) (fl : Nat := 33) (sup : Nat := 0) (ifs : Array Nat := #[]) (fds : Array FieldInfo := #[]) : ClassFile where
  minorVersion := 0
  majorVersion := 65
  constantPool := pool
  accessFlags := fl
  thisClass := this
  superClass := sup
  interfaces := ifs
  fields := fds
  methods := ms
  attributes := attrs
def plain (name : String) (sup : Option ClassId) : Class where
  name := name
  kind := .ordinary
  loader := none
  accessFlags := 33
  super := sup
  interfaces := #[]
  cf := none
  fields := #[]
  methods := #[]
  instanceTypes := #[]
  staticTypes := #[]
  resolved := #[]
  callSites := []
  init := .initialized
  statics := none
  mirror := none

def pool0 : Array CpInfo := pool [(5, u "<init>"), (0, u "()V"), (1, .class_ 10), (1, u "java/lang/Object")] 113

def k0m0 : Method := { name := "<init>", desc := "()V", sig := { parameters := [], returnType := none }, accessFlags := 1, code := none }
/-- java/lang/Object -/
def k0 : Class := { plain "java/lang/Object" none with
  accessFlags := 33
  interfaces := #[]
  cf := some (fileOf pool0 8 #[] #[{ accessFlags := 1, nameIndex := 5, descriptorIndex := 6, attributes := #[] }] 33 0 #[] #[])
  fields := #[]
  methods := #[k0m0]
  instanceTypes := #[]
  staticTypes := #[]
  resolved := Array.replicate 124 none
  statics := none }

def pool1 : Array CpInfo := pool [(2, .class_ 4), (1, u "java/lang/Object"), (0, u "<init>"), (0, u "()V"), (0, .integer 1073741823), (0, .methodref 9 10), (0, .class_ 11), (0, .nameAndType 12 13), (0, u "java/lang/Math"), (0, u "min"), (0, u "(II)I"), (0, .integer 2147483647), (0, .methodref 16 17), (0, .class_ 18), (0, .nameAndType 19 20), (0, u "com/example/trawl_tables/trawltables/TrigramSet"), (0, u "jaccard"), (0, u "(III)D"), (0, .class_ 22), (0, u "com/example/trawl_tables/trawltables/TrigramSetJaccardPinLaw"), (2, u "law"), (0, u "(IIII)Z")] 3

def k1m0 : Method := { name := "<init>", desc := "()V", sig := { parameters := [], returnType := none }, accessFlags := 2, code := none }
def k1c1 : Code := { maxStack := 4, maxLocals := 21, code := code, exceptionTable := #[], attributes := #[] }
def k1m1 : Method := { name := "law", desc := "(IIII)Z", sig := { parameters := [.int, .int, .int, .int], returnType := some .boolean }, accessFlags := 9, code := some k1c1 }
/-- com/example/trawl_tables/trawltables/TrigramSetJaccardPinLaw -/
def k1 : Class := { plain "com/example/trawl_tables/trawltables/TrigramSetJaccardPinLaw" (some 0) with
  accessFlags := 49
  interfaces := #[]
  cf := some (fileOf pool1 21 #[] #[{ accessFlags := 2, nameIndex := 5, descriptorIndex := 6, attributes := #[] }, { accessFlags := 9, nameIndex := 25, descriptorIndex := 26, attributes := #[] }] 49 2 #[] #[])
  fields := #[]
  methods := #[k1m0, k1m1]
  instanceTypes := #[]
  staticTypes := #[]
  resolved := Array.replicate 30 none
  statics := none }

def pool2 : Array CpInfo := pool [(1, .class_ 2), (0, u "java/lang/Math"), (1, .class_ 6), (1, u "java/lang/Object"), (0, u "<init>"), (0, u "()V"), (89, .class_ 100), (1, u "java/lang/Math$RandomNumberGeneratorHolder"), (71, u "negativeZeroFloatBits"), (0, u "J"), (2, u "negativeZeroDoubleBits"), (24, u "min"), (43, u "$assertionsDisabled"), (0, u "Z"), (88, u "(II)I"), (2, u "twoToTheDoubleScaleDown"), (0, u "D"), (4, u "twoToTheDoubleScaleUp"), (9, u "E"), (3, u "PI"), (2, u "TAU"), (2, u "DEGREES_TO_RADIANS"), (0, u "RADIANS_TO_DEGREES")] 94

def k2m0 : Method := { name := "<init>", desc := "()V", sig := { parameters := [], returnType := none }, accessFlags := 2, code := none }
def k2c1 : Code := { maxStack := 2, maxLocals := 2, code := jdk_29_method_69_code, exceptionTable := #[], attributes := #[] }
def k2m1 : Method := { name := "min", desc := "(II)I", sig := { parameters := [.int, .int], returnType := some .int }, accessFlags := 9, code := some k2c1 }
/-- java/lang/Math -/
def k2 : Class := { plain "java/lang/Math" (some 0) with
  accessFlags := 49
  interfaces := #[]
  cf := some (fileOf pool2 1 #[.nestMembers #[98]] #[{ accessFlags := 2, nameIndex := 7, descriptorIndex := 8, attributes := #[] }, { accessFlags := 9, nameIndex := 201, descriptorIndex := 335, attributes := #[] }] 49 4 #[] #[{ accessFlags := 25, nameIndex := 354, descriptorIndex := 339, attributes := #[] }, { accessFlags := 25, nameIndex := 358, descriptorIndex := 339, attributes := #[] }, { accessFlags := 25, nameIndex := 361, descriptorIndex := 339, attributes := #[] }, { accessFlags := 26, nameIndex := 364, descriptorIndex := 339, attributes := #[] }, { accessFlags := 26, nameIndex := 365, descriptorIndex := 339, attributes := #[] }, { accessFlags := 26, nameIndex := 172, descriptorIndex := 173, attributes := #[] }, { accessFlags := 26, nameIndex := 176, descriptorIndex := 173, attributes := #[] }, { accessFlags := 8, nameIndex := 344, descriptorIndex := 339, attributes := #[] }, { accessFlags := 8, nameIndex := 338, descriptorIndex := 339, attributes := #[] }, { accessFlags := 4120, nameIndex := 245, descriptorIndex := 246, attributes := #[] }])
  fields := #[{ name := "E", type := .double, accessFlags := 25, slot := 0, constantValue := 0 }, { name := "PI", type := .double, accessFlags := 25, slot := 1, constantValue := 0 }, { name := "TAU", type := .double, accessFlags := 25, slot := 2, constantValue := 0 }, { name := "DEGREES_TO_RADIANS", type := .double, accessFlags := 26, slot := 3, constantValue := 0 }, { name := "RADIANS_TO_DEGREES", type := .double, accessFlags := 26, slot := 4, constantValue := 0 }, { name := "negativeZeroFloatBits", type := .long, accessFlags := 26, slot := 5, constantValue := 0 }, { name := "negativeZeroDoubleBits", type := .long, accessFlags := 26, slot := 6, constantValue := 0 }, { name := "twoToTheDoubleScaleUp", type := .double, accessFlags := 8, slot := 7, constantValue := 0 }, { name := "twoToTheDoubleScaleDown", type := .double, accessFlags := 8, slot := 8, constantValue := 0 }, { name := "$assertionsDisabled", type := .boolean, accessFlags := 4120, slot := 9, constantValue := 0 }]
  methods := #[k2m0, k2m1]
  instanceTypes := #[]
  staticTypes := #[.double, .double, .double, .double, .double, .long, .long, .double, .double, .boolean]
  resolved := Array.replicate 460 none
  statics := none }

def pool3 : Array CpInfo := pool [(1, .class_ 2), (0, u "com/example/trawl_tables/trawltables/TrigramSet"), (1, .class_ 6), (1, u "java/lang/Object"), (4, u "codes"), (0, u "[J"), (53, u "PADDED_START"), (0, u "J"), (60, u "jaccard"), (0, u "(III)D"), (14, u "PAD"), (0, u "Ljava/lang/String;"), (1, u "PAD_CODE_POINT"), (0, u "I"), (1, u "BITS_PER_CODE_POINT"), (1, u "CODE_POINT_MASK"), (0, u "GRAM_MASK")] 30

def k3c0 : Code := { maxStack := 4, maxLocals := 6, code := prog_18_method_15_code, exceptionTable := #[], attributes := #[] }
def k3m0 : Method := { name := "jaccard", desc := "(III)D", sig := { parameters := [.int, .int, .int], returnType := some .double }, accessFlags := 8, code := some k3c0 }
/-- com/example/trawl_tables/trawltables/TrigramSet -/
def k3 : Class := { plain "com/example/trawl_tables/trawltables/TrigramSet" (some 0) with
  accessFlags := 33
  interfaces := #[]
  cf := some (fileOf pool3 1 #[] #[{ accessFlags := 8, nameIndex := 128, descriptorIndex := 129, attributes := #[] }] 33 4 #[] #[{ accessFlags := 26, nameIndex := 144, descriptorIndex := 145, attributes := #[] }, { accessFlags := 26, nameIndex := 147, descriptorIndex := 148, attributes := #[] }, { accessFlags := 26, nameIndex := 150, descriptorIndex := 148, attributes := #[] }, { accessFlags := 26, nameIndex := 152, descriptorIndex := 67, attributes := #[] }, { accessFlags := 26, nameIndex := 153, descriptorIndex := 67, attributes := #[] }, { accessFlags := 26, nameIndex := 66, descriptorIndex := 67, attributes := #[] }, { accessFlags := 18, nameIndex := 11, descriptorIndex := 12, attributes := #[] }])
  fields := #[{ name := "PAD", type := (.object "java/lang/String"), accessFlags := 26, slot := 0, constantValue := 0 }, { name := "PAD_CODE_POINT", type := .int, accessFlags := 26, slot := 1, constantValue := 0 }, { name := "BITS_PER_CODE_POINT", type := .int, accessFlags := 26, slot := 2, constantValue := 0 }, { name := "CODE_POINT_MASK", type := .long, accessFlags := 26, slot := 3, constantValue := 0 }, { name := "GRAM_MASK", type := .long, accessFlags := 26, slot := 4, constantValue := 0 }, { name := "PADDED_START", type := .long, accessFlags := 26, slot := 5, constantValue := 0 }, { name := "codes", type := (.array .long), accessFlags := 18, slot := 0, constantValue := 0 }]
  methods := #[k3m0]
  instanceTypes := #[(.array .long)]
  staticTypes := #[(.object "java/lang/String"), .int, .int, .long, .long, .long]
  resolved := Array.replicate 184 none
  statics := none }

def pool4 : Array CpInfo := pool [(1, u "java/lang/Cloneable"), (0, .class_ 1), (0, u "java/lang/Object"), (0, .class_ 3)] 3

/-- java/lang/Cloneable -/
def k4 : Class := { plain "java/lang/Cloneable" (some 0) with
  accessFlags := 1537
  interfaces := #[]
  cf := some (fileOf pool4 2 #[] #[] 1537 4 #[] #[])
  fields := #[]
  methods := #[]
  instanceTypes := #[]
  staticTypes := #[]
  resolved := Array.replicate 8 none
  statics := none }

def pool5 : Array CpInfo := pool [(1, u "java/io/Serializable"), (0, .class_ 1), (0, u "java/lang/Object"), (0, .class_ 3)] 3

/-- java/io/Serializable -/
def k5 : Class := { plain "java/io/Serializable" (some 0) with
  accessFlags := 1537
  interfaces := #[]
  cf := some (fileOf pool5 2 #[] #[] 1537 4 #[] #[])
  fields := #[]
  methods := #[]
  instanceTypes := #[]
  staticTypes := #[]
  resolved := Array.replicate 8 none
  statics := none }

/-- the primitive byte -/
def k6 : Class := { plain "byte" none with kind := .primitive 'B', accessFlags := 0x411 }
/-- [B -/
def k7 : Class := { plain "[B" (some 0) with kind := .array 6 .byte, interfaces := #[4, 5], accessFlags := 1041 }

/-- the primitive int -/
def k8 : Class := { plain "int" none with kind := .primitive 'I', accessFlags := 0x411 }
/-- [I -/
def k9 : Class := { plain "[I" (some 0) with kind := .array 8 .int, interfaces := #[4, 5], accessFlags := 1041 }

def heap : Heap := #[]
def classes : Array Class := #[k0, k1, k2, k3, k4, k5, k6, k7, k8, k9]
def interned : List (Array UInt16 × Addr) := []
def slotsUsed : Nat := 0
def theMethod : MethodId := ⟨1, 1⟩
def args0 : Array Value := #[.int 5, .int 6, .int 7, .int 2]
def aboutOver (below : List Frame) : State where
  vm := { classes := classes, interned := interned.toArray }
  heap := heap
  slotsUsed := slotsUsed
  threads := #[{ frames := .invoking theMethod args0 :: below }]
def below0 : List Frame := [.native { method := ⟨0, 0⟩, args := #[] }]
def about1 : State := aboutOver below0
def p0 : Program := .bare "" "" ""
def e0 : Env := launch0.env 0 0 0
theorem w_frames : about1.frames = Frame.invoking theMethod args0 :: below0 := rfl
set_option maxRecDepth 65536 in
theorem w_args : argsFit about1.vm theMethod args0 = true := by decide +kernel
set_option maxRecDepth 65536 in
theorem w_heap : heapFits about1 = true := by decide +kernel
set_option maxRecDepth 65536 in
theorem w_runnable : about1.curStatus? = some .runnable := by decide +kernel
set_option maxRecDepth 65536 in
theorem w_alone : about1.alone = true := by decide +kernel
set_option maxRecDepth 65536 in
theorem w_named : about1.methodNamed? x = some theMethod := by decide +kernel
set_option maxRecDepth 65536 in
theorem w_hears : about1.hears theMethod below0 = true := by decide +kernel
set_option maxRecDepth 65536 in
theorem w_ripe : about1.ripe theMethod args0 below0 = true := by decide +kernel
theorem w_running : about1.status = .running := rfl
set_option maxRecDepth 65536 in
theorem w_room : about1.hasRoom e0.platform room_1 = true :=
  launch0.hasRoom_least _ room_1 (by decide +kernel) (by decide +kernel) (by decide +kernel) (by decide +kernel) (by decide +kernel) (by decide +kernel)
theorem allAtoms_all (ts : List Jvm.Cond) (a : Array Jvm.Value) (st : Jvm.State) : (allAtoms ts).before a st = ts.all (fun c => c.before a st) := by
  induction ts with
  | nil => rfl
  | cons c t ih =>
    show (Jvm.Cond.and c (allAtoms t)).before a st = _
    rw [Jvm.Cond.before_and, ih, List.all_cons]
def words1 : List Jvm.Cond := Jvm.Cond.code x code maxLocals ret :: tables_1
/-- a 'code' word, met by the world's own term for the bytes: nothing is compared byte by byte -/
theorem code_word {y : MethodName} {bytes : ByteArray} {mx : Nat} {rt : Option FieldType} {a : Array Value} {s : State} {m : MethodId} {meth : Method} {c : Code} (h1 : s.methodNamed? y = some m) (h2 : s.vm.method? m = some meth) (h3 : meth.code = some c) (h4 : c.code = bytes)
    (h5 : (c.maxLocals == mx && c.exceptionTable.isEmpty && decide (c.maxStack ≤ mostOperands) && decide (meth.sig.returnType = rt) && !meth.locks && decide (parseMethodDescriptor y.desc = some meth.sig)) = true) : (Jvm.Cond.code y bytes mx rt).before a s = true := by
  simp only [Bool.and_eq_true, beq_iff_eq, Bool.not_eq_true', decide_eq_true_eq] at h5
  obtain ⟨⟨⟨⟨⟨g1, g2⟩, g3⟩, g4⟩, g5⟩, g6⟩ := h5
  simp [Cond.before, Cond.holds, Cond.value, h1, h2, h3, h4, g1, g2, g3, g4, g5, g6]
def isCode : Jvm.Cond → Bool
  | .code _ _ _ _ => true
  | _ => false
theorem all_split {L : List Jvm.Cond} {P : Jvm.Cond → Bool} (h1 : L.all (fun c => isCode c || P c) = true) (h2 : ∀ c ∈ L.filter isCode, P c = true) : L.all P = true := by
  refine List.all_eq_true.mpr fun c hc => ?_
  have h := List.all_eq_true.mp h1 c hc
  rcases Bool.eq_false_or_eq_true (isCode c) with hi | hi
  · exact h2 c (List.mem_filter.mpr ⟨hc, hi⟩)
  · simpa [hi] using h
set_option maxRecDepth 65536 in
theorem w_c0 : (Jvm.Cond.code x code maxLocals ret).before args0 about1 = true := code_word (m := ⟨1, 1⟩) (meth := k1m1) (c := k1c1) (by decide +kernel) rfl rfl rfl (by decide +kernel)
set_option maxRecDepth 65536 in
theorem w_c1 : (Jvm.Cond.code ({ cls := "java/lang/Math", name := "min", desc := "(II)I" } : Jvm.MethodName) jdk_29_method_69_code (2 : Nat) (Option.some Jvm.ClassFile.FieldType.int)).before args0 about1 = true := code_word (m := ⟨2, 1⟩) (meth := k2m1) (c := k2c1) (by decide +kernel) rfl rfl rfl (by decide +kernel)
set_option maxRecDepth 65536 in
theorem w_c2 : (Jvm.Cond.code ({ cls := "com/example/trawl_tables/trawltables/TrigramSet", name := "jaccard", desc := "(III)D" } : Jvm.MethodName) prog_18_method_15_code (6 : Nat) (Option.some Jvm.ClassFile.FieldType.double)).before args0 about1 = true := code_word (m := ⟨3, 0⟩) (meth := k3m0) (c := k3c0) (by decide +kernel) rfl rfl rfl (by decide +kernel)
def codes1 : List Jvm.Cond := [Jvm.Cond.code x code maxLocals ret, Jvm.Cond.code ({ cls := "java/lang/Math", name := "min", desc := "(II)I" } : Jvm.MethodName) jdk_29_method_69_code (2 : Nat) (Option.some Jvm.ClassFile.FieldType.int), Jvm.Cond.code ({ cls := "com/example/trawl_tables/trawltables/TrigramSet", name := "jaccard", desc := "(III)D" } : Jvm.MethodName) prog_18_method_15_code (6 : Nat) (Option.some Jvm.ClassFile.FieldType.double)]
set_option maxRecDepth 65536 in
theorem codes_eq : words1.filter isCode = codes1 := rfl
theorem w_codes : ∀ c ∈ words1.filter isCode, c.before args0 about1 = true := by
  rw [codes_eq]
  intro c hc
  simp only [codes1, List.mem_cons, List.not_mem_nil, or_false] at hc
  rcases hc with rfl | rfl | rfl
  · exact w_c0
  · exact w_c1
  · exact w_c2
set_option maxRecDepth 65536 in
theorem w_t1 : words1.all (fun c => isCode c || c.before args0 about1) = true := by decide +kernel
theorem w_tables : (allAtoms (Jvm.Cond.code x code maxLocals ret :: tables_1)).before args0 about1 = true := by
  rw [allAtoms_all]
  show words1.all (fun c => c.before args0 about1) = true
  refine all_split ?_ w_codes
  rw [w_t1]
set_option maxRecDepth 65536 in
theorem w_case : (Jvm.Cond.and given_1 narrow_1).before args0 about1 = true := by decide +kernel
theorem w_applies : (headSpec (Jvm.Cond.code x code maxLocals ret :: tables_1) room_1).applies x e0.platform about1 = true :=
  (Spec.applies_iff w_frames).mpr ⟨w_running, w_runnable, w_alone, w_named, w_hears, w_ripe, w_room, w_tables⟩
theorem atStart : AtStart classFile x code maxLocals ret World_1 tables_1 room_1 Calls_1 rest_1 Pre_1 launch0 p0 e0 about1 theMethod args0 below0 :=
  ⟨lists_1, trivial, launch0.admits_env _ _ _, launch0.least_env, fairChoices_fair.cas, fairChoices_fair.clock, w_frames, w_args, w_heap, w_applies, trivial, trivial, w_case⟩
end start1
theorem witness_1 : WitnessClaimed_1 := ⟨start1.p0, start1.e0, start1.about1, start1.theMethod, start1.args0, start1.below0, start1.atStart⟩
end Jvm.Pilot.@@N@@
