import JvmDerived
import JvmDerived.Pilot.@@N@@Statement
import JvmDerived.Pilot.@@N@@Code
set_option linter.unusedVariables false
set_option linter.unusedSimpArgs false
namespace Jvm.Pilot.@@N@@
open Jvm Jvm.ClassFile Sem Op Lib Jvm.Free Jvm.Stand Jvm.LawKit Jvm.RoadKit Bundle Jvm.Pilot.@@N@@.Jvm.D
section OwnKit
variable {p : Program} {l : Launch} {e : Env} {R : Room} {s : State} {m : MethodId} {args : Array Value} {below : List Frame} {meth : Method} {c : Code} {T : State} {locs : List Loc} {cells slots : Nat} {Z : State} {h : Heap} {a : Addr} {k : ClassId} {z : Int32} {vs : List Value} {dv : Value}
theorem oLen (X : Stand p l e R s m args below meth c T locs cells slots) (hx : p.tables.exec = Jvm.exec) (hZ : Z.Warmed39 s.vm) (eT : T.heap = h) {ty : FieldType} (F : Arv Z h a k ty z vs dv) {pc : Nat} {Ls : Array Slot} {rest : List Value} (hd : decode c.code pc = .ok (.arraylength, 1)) {target : State}
    (hr : Steps p.tables e below (T.setTop (mkF m (pc + 1) Ls (.int z :: rest))) target) : Steps p.tables e below (T.setTop (mkF m pc Ls (.ref a :: rest))) target := by
  obtain ⟨cl, A, -, S, M, -, -⟩ := F
  refine X.arraylength hx (by rw [eT]; exact A.1) (State.isArrayOf_alike hZ.alike A.2.1) (g := mkF m pc Ls (.ref a :: rest)) rfl rfl hd target ?_
  rw [len_of S M]
  exact hr
theorem oLdI (X : Stand p l e R s m args below meth c T locs cells slots) (hx : p.tables.exec = Jvm.exec) (hZ : Z.Warmed39 s.vm) (eT : T.heap = h) (F : Arv Z h a k .int z vs dv) {j : Int32} {v : Value} (hj : ¬ j < 0 ∧ j < z) (hv : vs.getD j.toNatClampNeg dv = v) {pc : Nat} {Ls : Array Slot} {rest : List Value} (hd : decode c.code pc = .ok (.iaload, 1)) {target : State}
    (hr : Steps p.tables e below (T.setTop (mkF m (pc + 1) Ls (v :: rest))) target) : Steps p.tables e below (T.setTop (mkF m pc Ls (.int j :: .ref a :: rest))) target := by
  obtain ⟨cl, A, -, S, -, H, -⟩ := F
  have hin := inb_of S hj
  exact X.iaload hx (by rw [eT]; exact A.1) (State.isArrayOf_alike hZ.alike A.2.1) A.2.2 hin (Has.at H hin hv) (g := mkF m pc Ls (.int j :: .ref a :: rest)) rfl rfl hd target hr
theorem oLdB (X : Stand p l e R s m args below meth c T locs cells slots) (hx : p.tables.exec = Jvm.exec) (hZ : Z.Warmed39 s.vm) (eT : T.heap = h) (F : Arv Z h a k .byte z vs dv) {j : Int32} {v : Value} (hj : ¬ j < 0 ∧ j < z) (hv : vs.getD j.toNatClampNeg dv = v) {pc : Nat} {Ls : Array Slot} {rest : List Value} (hd : decode c.code pc = .ok (.baload, 1)) {target : State}
    (hr : Steps p.tables e below (T.setTop (mkF m (pc + 1) Ls (v :: rest))) target) : Steps p.tables e below (T.setTop (mkF m pc Ls (.int j :: .ref a :: rest))) target := by
  obtain ⟨cl, A, -, S, -, H, -⟩ := F
  have hin := inb_of S hj
  exact X.baloadBytes hx (by rw [eT]; exact A.1) (State.isArrayOf_alike hZ.alike A.2.1) A.2.2 hin (Has.at H hin hv) (g := mkF m pc Ls (.int j :: .ref a :: rest)) rfl rfl hd target hr
theorem oLdJ (X : Stand p l e R s m args below meth c T locs cells slots) (hx : p.tables.exec = Jvm.exec) (hZ : Z.Warmed39 s.vm) (eT : T.heap = h) (F : Arv Z h a k .long z vs dv) {j : Int32} {v : Value} (hj : ¬ j < 0 ∧ j < z) (hv : vs.getD j.toNatClampNeg dv = v) {pc : Nat} {Ls : Array Slot} {rest : List Value} (hd : decode c.code pc = .ok (.laload, 1)) {target : State}
    (hr : Steps p.tables e below (T.setTop (mkF m (pc + 1) Ls (v :: rest))) target) : Steps p.tables e below (T.setTop (mkF m pc Ls (.int j :: .ref a :: rest))) target := by
  obtain ⟨cl, A, -, S, -, H, -⟩ := F
  have hin := inb_of S hj
  exact X.laload hx (by rw [eT]; exact A.1) (State.isArrayOf_alike hZ.alike A.2.1) A.2.2 hin (Has.at H hin hv) (g := mkF m pc Ls (.int j :: .ref a :: rest)) rfl rfl hd target hr
theorem oLdD (X : Stand p l e R s m args below meth c T locs cells slots) (hx : p.tables.exec = Jvm.exec) (hZ : Z.Warmed39 s.vm) (eT : T.heap = h) (F : Arv Z h a k .double z vs dv) {j : Int32} {v : Value} (hj : ¬ j < 0 ∧ j < z) (hv : vs.getD j.toNatClampNeg dv = v) {pc : Nat} {Ls : Array Slot} {rest : List Value} (hd : decode c.code pc = .ok (.daload, 1)) {target : State}
    (hr : Steps p.tables e below (T.setTop (mkF m (pc + 1) Ls (v :: rest))) target) : Steps p.tables e below (T.setTop (mkF m pc Ls (.int j :: .ref a :: rest))) target := by
  obtain ⟨cl, A, -, S, -, H, -⟩ := F
  have hin := inb_of S hj
  exact X.daload hx (by rw [eT]; exact A.1) (State.isArrayOf_alike hZ.alike A.2.1) A.2.2 hin (Has.at H hin hv) (g := mkF m pc Ls (.int j :: .ref a :: rest)) rfl rfl hd target hr
theorem oStI (X : Stand p l e R s m args below meth c T locs cells slots) (hx : p.tables.exec = Jvm.exec) (hZ : Z.Warmed39 s.vm) (eT : T.heap = h) (F : Arv Z h a k .int z vs dv) {j : Int32} {x : Int32} (hj : ¬ j < 0 ∧ j < z) (i : Nat) (hi : j.toNatClampNeg = i) (hl : i < vs.length) {g : JFrame} (hg : g.method = m) {rest : List Value} (hs : g.stack = .int x :: .int j :: .ref a :: rest) (hd : decode c.code g.pc = .ok (.iastore, 1)) :
    ∃ T' h', Stand p l e R s m args below meth c T' (locs ++ [⟨a, j.toNatClampNeg⟩]) cells slots ∧ T'.heap = h' ∧ Wr h h' a j.toNatClampNeg (.int x) ∧ Arv Z h' a k .int z (vs.set i (.int x)) dv ∧ ∀ target, Steps p.tables e below (T'.setTop { g with pc := g.pc + 1, stack := rest }) target → Steps p.tables e below (T.setTop g) target := by
  obtain ⟨cl, A, q1, S, M, H, G⟩ := F
  obtain ⟨T', h', X', e', W, st⟩ := stI X hx hZ eT A (j := j) (inb_of S hj) hg hs hd
  exact ⟨T', h', X', e', W, Arv.set A q1 S M H G rfl W i hi hl, st⟩
theorem oStB (X : Stand p l e R s m args below meth c T locs cells slots) (hx : p.tables.exec = Jvm.exec) (hZ : Z.Warmed39 s.vm) (eT : T.heap = h) (F : Arv Z h a k .byte z vs dv) {j : Int32} {x : Int32} (hj : ¬ j < 0 ∧ j < z) (i : Nat) (hi : j.toNatClampNeg = i) (hl : i < vs.length) {g : JFrame} (hg : g.method = m) {rest : List Value} (hs : g.stack = .int x :: .int j :: .ref a :: rest) (hd : decode c.code g.pc = .ok (.bastore, 1)) :
    ∃ T' h', Stand p l e R s m args below meth c T' (locs ++ [⟨a, j.toNatClampNeg⟩]) cells slots ∧ T'.heap = h' ∧ Wr h h' a j.toNatClampNeg (.int (nar .byte x)) ∧ Arv Z h' a k .byte z (vs.set i (.int (nar .byte x))) dv ∧ ∀ target, Steps p.tables e below (T'.setTop { g with pc := g.pc + 1, stack := rest }) target → Steps p.tables e below (T.setTop g) target := by
  obtain ⟨cl, A, q1, S, M, H, G⟩ := F
  obtain ⟨T', h', X', e', W, st⟩ := stB X hx hZ eT A (j := j) (inb_of S hj) hg hs hd
  exact ⟨T', h', X', e', W, Arv.set A q1 S M H G (fits_nar_byte x) W i hi hl, st⟩
theorem oStJ (X : Stand p l e R s m args below meth c T locs cells slots) (hx : p.tables.exec = Jvm.exec) (hZ : Z.Warmed39 s.vm) (eT : T.heap = h) (F : Arv Z h a k .long z vs dv) {j : Int32} {x : Int64} (hj : ¬ j < 0 ∧ j < z) (i : Nat) (hi : j.toNatClampNeg = i) (hl : i < vs.length) {g : JFrame} (hg : g.method = m) {rest : List Value} (hs : g.stack = .long x :: .int j :: .ref a :: rest) (hd : decode c.code g.pc = .ok (.lastore, 1)) :
    ∃ T' h', Stand p l e R s m args below meth c T' (locs ++ [⟨a, j.toNatClampNeg⟩]) cells slots ∧ T'.heap = h' ∧ Wr h h' a j.toNatClampNeg (.long x) ∧ Arv Z h' a k .long z (vs.set i (.long x)) dv ∧ ∀ target, Steps p.tables e below (T'.setTop { g with pc := g.pc + 1, stack := rest }) target → Steps p.tables e below (T.setTop g) target := by
  obtain ⟨cl, A, q1, S, M, H, G⟩ := F
  obtain ⟨T', h', X', e', W, st⟩ := stJ X hx hZ eT A (j := j) (inb_of S hj) hg hs hd
  exact ⟨T', h', X', e', W, Arv.set A q1 S M H G rfl W i hi hl, st⟩
theorem oStD (X : Stand p l e R s m args below meth c T locs cells slots) (hx : p.tables.exec = Jvm.exec) (hZ : Z.Warmed39 s.vm) (eT : T.heap = h) (F : Arv Z h a k .double z vs dv) {j : Int32} {x : UInt64} (hj : ¬ j < 0 ∧ j < z) (i : Nat) (hi : j.toNatClampNeg = i) (hl : i < vs.length) {g : JFrame} (hg : g.method = m) {rest : List Value} (hs : g.stack = .double x :: .int j :: .ref a :: rest) (hd : decode c.code g.pc = .ok (.dastore, 1)) :
    ∃ T' h', Stand p l e R s m args below meth c T' (locs ++ [⟨a, j.toNatClampNeg⟩]) cells slots ∧ T'.heap = h' ∧ Wr h h' a j.toNatClampNeg (.double x) ∧ Arv Z h' a k .double z (vs.set i (.double x)) dv ∧ ∀ target, Steps p.tables e below (T'.setTop { g with pc := g.pc + 1, stack := rest }) target → Steps p.tables e below (T.setTop g) target := by
  obtain ⟨cl, A, q1, S, M, H, G⟩ := F
  obtain ⟨T', h', X', e', W, st⟩ := stD X hx hZ eT A (j := j) (inb_of S hj) hg hs hd
  exact ⟨T', h', X', e', W, Arv.set A q1 S M H G rfl W i hi hl, st⟩
theorem oOpq {n0 : Nat} (X : Stand p l e R s m args below meth c T locs cells slots) (N : Fr n0 locs) : ∃ L, Stand p l e R s m args below meth c T L cells slots ∧ Fr n0 L := ⟨_, X, N⟩
end OwnKit
abbrev oi (x : Int32) : Slot := .val (.int x)
abbrev oj (x : Int64) : Slot := .val (.long x)
abbrev oa (x : Addr) : Slot := .val (.ref x)
abbrev od (x : UInt64) : Slot := .val (.double x)
abbrev oS (p : Program) (e : Env) (below : List Frame) (T : State) (m : MethodId) (pc : Nat) (L : Array Slot) (S : List Value) (t : State) : Prop := Steps p.tables e below (T.setTop (mkF m pc L S)) t
theorem own_ltp (x k : Int32) : (x < k) = (x.toInt < k.toInt) := propext Int32.lt_iff_toInt_lt
theorem own_eqp (x k : Int32) : (x = k) = (x.toInt = k.toInt) := propext Int32.toInt_inj.symm
theorem own_ltpL (x k : Int64) : (x < k) = (x.toInt < k.toInt) := propext Int64.lt_iff_toInt_lt
theorem own_eqpL (x k : Int64) : (x = k) = (x.toInt = k.toInt) := propext Int64.toInt_inj.symm
theorem own_of_range {P : Int32 → Prop} (n : Nat) (h : ∀ i : Fin n, P (Int32.ofNat i.1)) (x : Int32) (h0 : 0 ≤ x.toInt) (h1 : x.toInt < (n : Int)) : P x := by
  have e : Int32.ofNat x.toInt.toNat = x := by
    rw [← Int32.ofInt_eq_ofNat, Int.toNat_of_nonneg h0, Int32.ofInt_toInt]
  have q := h ⟨x.toInt.toNat, by omega⟩
  rwa [e] at q
theorem own_getD (ws : List Int32) (n : Nat) : (ws.map Value.int).getD n (.int (0 : Int32)) = .int (ws.getD n 0) := by
  simp only [List.getD_eq_getElem?_getD, List.getElem?_map]
  cases ws[n]? <;> rfl

theorem own_d1_0 : decode jdk_29_method_69_code 0 = .ok (.iload_n 0, 1) := by decide +kernel
theorem own_d1_1 : decode jdk_29_method_69_code 1 = .ok (.iload_n 1, 1) := by decide +kernel
theorem own_d1_2 : decode jdk_29_method_69_code 2 = .ok (.if_icmp .gt 7, 3) := by decide +kernel
theorem own_d1_5 : decode jdk_29_method_69_code 5 = .ok (.iload_n 0, 1) := by decide +kernel
theorem own_d1_6 : decode jdk_29_method_69_code 6 = .ok (.goto 4, 3) := by decide +kernel
theorem own_d1_9 : decode jdk_29_method_69_code 9 = .ok (.iload_n 1, 1) := by decide +kernel
theorem own_d1_10 : decode jdk_29_method_69_code 10 = .ok (.ireturn, 1) := by decide +kernel
theorem own_ef1 (m : MethodId) (p0 : Int32) (p1 : Int32) : entryFrame m #[(.int p0), (.int p1)] 2 = mkF m 0 #[oi p0, oi p1] [] := by first | (simp [entryFrame, mkF, argsToLocals, Value.category]; done) | rfl
def own_f1 (p0 : Int32) (p1 : Int32) : Int32 := (if p1 < p0 then p1 else p0)
def own_Q1 (Z : State) (p0 : Int32) (p1 : Int32) (h0 : Heap) (n0 : Nat) (v : Option Value) (h : Heap) (L : List Loc) : Prop := v = some (Value.int (own_f1 p0 p1)) ∧ Fr n0 L ∧ h = h0
set_option maxRecDepth 65536 in
set_option maxHeartbeats 40000000 in
theorem own_rm1 (l : Launch) (Z : State) (av : Array Value) (hw : ∀ d ∈ tables_1, d.before av Z = true) (ws : List Jvm.Cond) (p0 : Int32) (p1 : Int32) (h0 : Heap) (n0 : Nat) (Z0 : n0 ≤ h0.size) :
    MetFree l (⟨"java/lang/Math", "min", "(II)I"⟩ : MethodName) (head1 (Jvm.Cond.code (⟨"java/lang/Math", "min", "(II)I"⟩ : MethodName) jdk_29_method_69_code 2 (some .int) :: ws) ({ frames := 0, cells := 0, slots := 0, locals := 0 } : Room)) (fun a U => a = #[(.int p0), (.int p1)] ∧ Z.Warmed39 U.vm ∧ U.heap = h0) (fun _ _ _ _ _ => True) (fun _ U o U' => ∃ v L, o = .returned v ∧ own_Q1 Z p0 p1 h0 n0 v U'.heap L ∧ FrameEnd U o U' L ({ frames := 0, cells := 0, slots := 0, locals := 0 } : Room).cells ({ frames := 0, cells := 0, slots := 0, locals := 0 } : Room).slots) := by
  refine MetFree.of_bodySF (Jvm.Free.JP.mathPlain rfl (by decide +kernel)) hisR ?_
  intro p e s m args below meth c s₁ Bd hml0 hP hK
  obtain ⟨rfl, hZ, hh⟩ := hP
  have hx := Bd.exec
  have hby := Bd.bytes
  have hml : c.maxLocals = 2 := hml0
  have hown : s.vm.findClass "java/lang/Math" = some m.cls := findClass_of_methodNamed Bd.named
  have hnm := (name_of_methodNamed Bd.named Bd.method).1
  have X0 : Stand p l e ({ frames := 0, cells := 0, slots := 0, locals := 0 } : Room) s m #[(.int p0), (.int p1)] below meth c s₁ [] 0 0 := Stand.of_body Bd
  have e0 : s₁.heap = h0 := by rw [← hh, Bd.state]; rfl
  have N0 := Fr.nil n0
  have pre0 : ∀ t, Steps p.tables e below (s₁.setTop (mkF m 0 #[oi p0, oi p1] [])) t → Steps p.tables e below (s₁.setTop (entryFrame m #[(.int p0), (.int p1)] 2)) t := fun t k => castTop (own_ef1 m p0 p1) k
  have pre1 : ∀ t, Steps p.tables e below (s₁.setTop (mkF m 2 #[oi p0, oi p1] [(.int p1), (.int p0)])) t → Steps p.tables e below (s₁.setTop (entryFrame m #[(.int p0), (.int p1)] 2)) t := by
    intro t k
    refine pre0 t ?_
    show oS p e below s₁ m 0 #[oi p0, oi p1] [] _
    refine XS.iloadN X0.here hx rfl (hb hby own_d1_0) rfl ?_
    refine XS.iloadN X0.here hx rfl (hb hby own_d1_1) rfl ?_
    exact k
  by_cases c2 : p1 < p0
  · skip
    obtain ⟨fs, hr, hrun, hended, hW, hsame⟩ := X0.leave (v := (some (.int p1))) (fun h => by rw [Bd.returns] at h; cases h)
    refine ⟨_, _, pre1 _ ?_, hrun, hended, _, _, rfl, ?_, ⟨_, rfl⟩, hW, hsame.mono (by decide) (by decide)⟩
    · show oS p e below s₁ m 2 #[oi p0, oi p1] [(.int p1), (.int p0)] _
      refine XS.icmpYes X0.here hx rfl (pc0 := 2) (pc' := 9) rfl (hb hby own_d1_2) rfl (tlt c2).2.2.1 (by decide) (by decide) ?_
      refine XS.iloadN X0.here hx rfl (hb hby own_d1_9) rfl ?_
      show oS p e below s₁ m 10 #[oi p0, oi p1] [(.int p1)] _
      exact retOut X0 hx Bd.returns rfl (Or.inl ⟨rfl, Or.inl rfl, _, rfl⟩) (hb hby own_d1_10) hr
    · show own_Q1 Z p0 p1 h0 n0 _ s₁.heap _
      rw [e0]
      exact ⟨congrArg (fun z => some (Value.int z)) (by rw [own_f1, if_pos c2]), N0, rfl⟩
  · skip
    obtain ⟨fs, hr, hrun, hended, hW, hsame⟩ := X0.leave (v := (some (.int p0))) (fun h => by rw [Bd.returns] at h; cases h)
    refine ⟨_, _, pre1 _ ?_, hrun, hended, _, _, rfl, ?_, ⟨_, rfl⟩, hW, hsame.mono (by decide) (by decide)⟩
    · show oS p e below s₁ m 2 #[oi p0, oi p1] [(.int p1), (.int p0)] _
      refine XS.icmpNo X0.here hx rfl (hb hby own_d1_2) rfl (flt c2).2.2.1 ?_
      refine XS.iloadN X0.here hx rfl (hb hby own_d1_5) rfl ?_
      refine XS.goto X0.here hx rfl (pc0 := 6) (pc' := 10) rfl (hb hby own_d1_6) (by decide) (by decide) ?_
      show oS p e below s₁ m 10 #[oi p0, oi p1] [(.int p0)] _
      exact retOut X0 hx Bd.returns rfl (Or.inl ⟨rfl, Or.inl rfl, _, rfl⟩) (hb hby own_d1_10) hr
    · show own_Q1 Z p0 p1 h0 n0 _ s₁.heap _
      rw [e0]
      exact ⟨congrArg (fun z => some (Value.int z)) (by rw [own_f1, if_neg c2]), N0, rfl⟩
theorem own_d2_0 : decode jdk_29_method_65_code 0 = .ok (.iload_n 0, 1) := by decide +kernel
theorem own_d2_1 : decode jdk_29_method_65_code 1 = .ok (.iload_n 1, 1) := by decide +kernel
theorem own_d2_2 : decode jdk_29_method_65_code 2 = .ok (.if_icmp .lt 7, 3) := by decide +kernel
theorem own_d2_5 : decode jdk_29_method_65_code 5 = .ok (.iload_n 0, 1) := by decide +kernel
theorem own_d2_6 : decode jdk_29_method_65_code 6 = .ok (.goto 4, 3) := by decide +kernel
theorem own_d2_9 : decode jdk_29_method_65_code 9 = .ok (.iload_n 1, 1) := by decide +kernel
theorem own_d2_10 : decode jdk_29_method_65_code 10 = .ok (.ireturn, 1) := by decide +kernel
theorem own_ef2 (m : MethodId) (p0 : Int32) (p1 : Int32) : entryFrame m #[(.int p0), (.int p1)] 2 = mkF m 0 #[oi p0, oi p1] [] := by first | (simp [entryFrame, mkF, argsToLocals, Value.category]; done) | rfl
def own_f2 (p0 : Int32) (p1 : Int32) : Int32 := (if p0 < p1 then p1 else p0)
def own_Q2 (Z : State) (p0 : Int32) (p1 : Int32) (h0 : Heap) (n0 : Nat) (v : Option Value) (h : Heap) (L : List Loc) : Prop := v = some (Value.int (own_f2 p0 p1)) ∧ Fr n0 L ∧ h = h0
set_option maxRecDepth 65536 in
set_option maxHeartbeats 40000000 in
theorem own_rm2 (l : Launch) (Z : State) (av : Array Value) (hw : ∀ d ∈ tables_1, d.before av Z = true) (ws : List Jvm.Cond) (p0 : Int32) (p1 : Int32) (h0 : Heap) (n0 : Nat) (Z0 : n0 ≤ h0.size) :
    MetFree l (⟨"java/lang/Math", "max", "(II)I"⟩ : MethodName) (head1 (Jvm.Cond.code (⟨"java/lang/Math", "max", "(II)I"⟩ : MethodName) jdk_29_method_65_code 2 (some .int) :: ws) ({ frames := 0, cells := 0, slots := 0, locals := 0 } : Room)) (fun a U => a = #[(.int p0), (.int p1)] ∧ Z.Warmed39 U.vm ∧ U.heap = h0) (fun _ _ _ _ _ => True) (fun _ U o U' => ∃ v L, o = .returned v ∧ own_Q2 Z p0 p1 h0 n0 v U'.heap L ∧ FrameEnd U o U' L ({ frames := 0, cells := 0, slots := 0, locals := 0 } : Room).cells ({ frames := 0, cells := 0, slots := 0, locals := 0 } : Room).slots) := by
  refine MetFree.of_bodySF (Jvm.Free.JP.mathPlain rfl (by decide +kernel)) hisR ?_
  intro p e s m args below meth c s₁ Bd hml0 hP hK
  obtain ⟨rfl, hZ, hh⟩ := hP
  have hx := Bd.exec
  have hby := Bd.bytes
  have hml : c.maxLocals = 2 := hml0
  have hown : s.vm.findClass "java/lang/Math" = some m.cls := findClass_of_methodNamed Bd.named
  have hnm := (name_of_methodNamed Bd.named Bd.method).1
  have X0 : Stand p l e ({ frames := 0, cells := 0, slots := 0, locals := 0 } : Room) s m #[(.int p0), (.int p1)] below meth c s₁ [] 0 0 := Stand.of_body Bd
  have e0 : s₁.heap = h0 := by rw [← hh, Bd.state]; rfl
  have N0 := Fr.nil n0
  have pre0 : ∀ t, Steps p.tables e below (s₁.setTop (mkF m 0 #[oi p0, oi p1] [])) t → Steps p.tables e below (s₁.setTop (entryFrame m #[(.int p0), (.int p1)] 2)) t := fun t k => castTop (own_ef2 m p0 p1) k
  have pre1 : ∀ t, Steps p.tables e below (s₁.setTop (mkF m 2 #[oi p0, oi p1] [(.int p1), (.int p0)])) t → Steps p.tables e below (s₁.setTop (entryFrame m #[(.int p0), (.int p1)] 2)) t := by
    intro t k
    refine pre0 t ?_
    show oS p e below s₁ m 0 #[oi p0, oi p1] [] _
    refine XS.iloadN X0.here hx rfl (hb hby own_d2_0) rfl ?_
    refine XS.iloadN X0.here hx rfl (hb hby own_d2_1) rfl ?_
    exact k
  by_cases c2 : p0 < p1
  · skip
    obtain ⟨fs, hr, hrun, hended, hW, hsame⟩ := X0.leave (v := (some (.int p1))) (fun h => by rw [Bd.returns] at h; cases h)
    refine ⟨_, _, pre1 _ ?_, hrun, hended, _, _, rfl, ?_, ⟨_, rfl⟩, hW, hsame.mono (by decide) (by decide)⟩
    · show oS p e below s₁ m 2 #[oi p0, oi p1] [(.int p1), (.int p0)] _
      refine XS.icmpYes X0.here hx rfl (pc0 := 2) (pc' := 9) rfl (hb hby own_d2_2) rfl (tlt c2).1 (by decide) (by decide) ?_
      refine XS.iloadN X0.here hx rfl (hb hby own_d2_9) rfl ?_
      show oS p e below s₁ m 10 #[oi p0, oi p1] [(.int p1)] _
      exact retOut X0 hx Bd.returns rfl (Or.inl ⟨rfl, Or.inl rfl, _, rfl⟩) (hb hby own_d2_10) hr
    · show own_Q2 Z p0 p1 h0 n0 _ s₁.heap _
      rw [e0]
      exact ⟨congrArg (fun z => some (Value.int z)) (by rw [own_f2, if_pos c2]), N0, rfl⟩
  · skip
    obtain ⟨fs, hr, hrun, hended, hW, hsame⟩ := X0.leave (v := (some (.int p0))) (fun h => by rw [Bd.returns] at h; cases h)
    refine ⟨_, _, pre1 _ ?_, hrun, hended, _, _, rfl, ?_, ⟨_, rfl⟩, hW, hsame.mono (by decide) (by decide)⟩
    · show oS p e below s₁ m 2 #[oi p0, oi p1] [(.int p1), (.int p0)] _
      refine XS.icmpNo X0.here hx rfl (hb hby own_d2_2) rfl (flt c2).1 ?_
      refine XS.iloadN X0.here hx rfl (hb hby own_d2_5) rfl ?_
      refine XS.goto X0.here hx rfl (pc0 := 6) (pc' := 10) rfl (hb hby own_d2_6) (by decide) (by decide) ?_
      show oS p e below s₁ m 10 #[oi p0, oi p1] [(.int p0)] _
      exact retOut X0 hx Bd.returns rfl (Or.inl ⟨rfl, Or.inl rfl, _, rfl⟩) (hb hby own_d2_10) hr
    · show own_Q2 Z p0 p1 h0 n0 _ s₁.heap _
      rw [e0]
      exact ⟨congrArg (fun z => some (Value.int z)) (by rw [own_f2, if_neg c2]), N0, rfl⟩
theorem own_pn0 : plainName "com/example/strict_anon/strictanon/service/RecordSetsUnionPinLaw" = true := by first | (simp [plainName, overriddenIn]; done) | decide +kernel
theorem own_d7_0 : decode method_3_code 0 = .ok (.aload_n 0, 1) := by decide +kernel
theorem own_d7_1 : decode method_3_code 1 = .ok (.arraylength, 1) := by decide +kernel
theorem own_d7_2 : decode method_3_code 2 = .ok (.ifCond .le 10, 3) := by decide +kernel
theorem own_d7_12 : decode method_3_code 12 = .ok (.aload_n 0, 1) := by decide +kernel
theorem own_d7_13 : decode method_3_code 13 = .ok (.arraylength, 1) := by decide +kernel
theorem own_d7_14 : decode method_3_code 14 = .ok (.iconst 1, 1) := by decide +kernel
theorem own_d7_15 : decode method_3_code 15 = .ok (.if_icmp .le 10, 3) := by decide +kernel
theorem own_d7_25 : decode method_3_code 25 = .ok (.aload_n 0, 1) := by decide +kernel
theorem own_d7_26 : decode method_3_code 26 = .ok (.arraylength, 1) := by decide +kernel
theorem own_d7_27 : decode method_3_code 27 = .ok (.iconst 2, 1) := by decide +kernel
theorem own_d7_28 : decode method_3_code 28 = .ok (.if_icmp .le 10, 3) := by decide +kernel
theorem own_d7_38 : decode method_3_code 38 = .ok (.aload_n 0, 1) := by decide +kernel
theorem own_d7_39 : decode method_3_code 39 = .ok (.arraylength, 1) := by decide +kernel
theorem own_d7_40 : decode method_3_code 40 = .ok (.iconst 3, 1) := by decide +kernel
theorem own_d7_41 : decode method_3_code 41 = .ok (.if_icmp .le 14, 3) := by decide +kernel
theorem own_d7_55 : decode method_3_code 55 = .ok (.iconst 0, 1) := by decide +kernel
theorem own_d7_56 : decode method_3_code 56 = .ok (.ireturn, 1) := by decide +kernel
theorem own_ef7_0 (m : MethodId) (a0 : Addr) (p1 : Int32) : entryFrame m #[(.ref a0), (.int p1)] 2 = mkF m 0 #[oa a0, oi p1] [] := by first | (simp [entryFrame, mkF, argsToLocals, Value.category]; done) | rfl
def own_f7_0 (p1 : Int32) : Int32 := (0 : Int32)
def own_Q7_0 (Z : State) (a0 : Addr) (p1 : Int32) (k_a0 : ClassId) (h0 : Heap) (n0 : Nat) (v : Option Value) (h : Heap) (L : List Loc) : Prop := v = some (Value.int (own_f7_0 p1)) ∧ Fr n0 L ∧ h = h0
set_option maxRecDepth 65536 in
set_option maxHeartbeats 40000000 in
theorem own_rm7_0 (l : Launch) (Z : State) (av : Array Value) (hw : ∀ d ∈ tables_1, d.before av Z = true) (ws : List Jvm.Cond) (a0 : Addr) (p1 : Int32) (k_a0 : ClassId) (h0 : Heap) (n0 : Nat) (Z0 : n0 ≤ h0.size) (V_a0 : Arv Z h0 a0 k_a0 .int (0 : Int32) [] (.int (0 : Int32))) :
    MetFree l (⟨"com/example/strict_anon/strictanon/service/RecordSetsUnionPinLaw", "contains", "([II)Z"⟩ : MethodName) (head1 (Jvm.Cond.code (⟨"com/example/strict_anon/strictanon/service/RecordSetsUnionPinLaw", "contains", "([II)Z"⟩ : MethodName) method_3_code 2 (some .boolean) :: ws) ({ frames := 0, cells := 0, slots := 0, locals := 0 } : Room)) (fun a U => a = #[(.ref a0), (.int p1)] ∧ Z.Warmed39 U.vm ∧ U.heap = h0) (fun _ _ _ _ _ => True) (fun _ U o U' => ∃ v L, o = .returned v ∧ own_Q7_0 Z a0 p1 k_a0 h0 n0 v U'.heap L ∧ FrameEnd U o U' L ({ frames := 0, cells := 0, slots := 0, locals := 0 } : Room).cells ({ frames := 0, cells := 0, slots := 0, locals := 0 } : Room).slots) := by
  refine MetFree.of_bodySF (plainFor_of_name own_pn0) hisR ?_
  intro p e s m args below meth c s₁ Bd hml0 hP hK
  obtain ⟨rfl, hZ, hh⟩ := hP
  have hx := Bd.exec
  have hby := Bd.bytes
  have hml : c.maxLocals = 2 := hml0
  have hown : s.vm.findClass "com/example/strict_anon/strictanon/service/RecordSetsUnionPinLaw" = some m.cls := findClass_of_methodNamed Bd.named
  have hnm := (name_of_methodNamed Bd.named Bd.method).1
  have X0 : Stand p l e ({ frames := 0, cells := 0, slots := 0, locals := 0 } : Room) s m #[(.ref a0), (.int p1)] below meth c s₁ [] 0 0 := Stand.of_body Bd
  have e0 : s₁.heap = h0 := by rw [← hh, Bd.state]; rfl
  have N0 := Fr.nil n0
  have pre0 : ∀ t, Steps p.tables e below (s₁.setTop (mkF m 0 #[oa a0, oi p1] [])) t → Steps p.tables e below (s₁.setTop (entryFrame m #[(.ref a0), (.int p1)] 2)) t := fun t k => castTop (own_ef7_0 m a0 p1) k
  have b1 : ¬ ((0 : Int32) < (0 : Int32)) := (by decide)
  have b2 : ¬ ((1 : Int32) < (0 : Int32)) := (by decide)
  have b3 : ¬ ((2 : Int32) < (0 : Int32)) := (by decide)
  have b4 : ¬ ((3 : Int32) < (0 : Int32)) := (by decide)
  obtain ⟨fs, hr, hrun, hended, hW, hsame⟩ := X0.leave (v := (some (.int (0 : Int32)))) (fun h => by rw [Bd.returns] at h; cases h)
  refine ⟨_, _, pre0 _ ?_, hrun, hended, _, _, rfl, ?_, ⟨_, rfl⟩, hW, hsame.mono (by decide) (by decide)⟩
  · show oS p e below s₁ m 0 #[oa a0, oi p1] [] _
    refine XS.aloadN X0.here hx rfl (hb hby own_d7_0) rfl rfl ?_
    show oS p e below s₁ m 1 #[oa a0, oi p1] [(.ref a0)] _
    refine oLen X0 hx hZ e0 V_a0 (hb hby own_d7_1) ?_
    show oS p e below s₁ m 2 #[oa a0, oi p1] [(.int (0 : Int32))] _
    refine XS.ifYes X0.here hx rfl (pc0 := 2) (pc' := 12) rfl (hb hby own_d7_2) rfl ((if0 _ _).trans (flt b1).2.2.2) (by decide) (by decide) ?_
    refine XS.aloadN X0.here hx rfl (hb hby own_d7_12) rfl rfl ?_
    show oS p e below s₁ m 13 #[oa a0, oi p1] [(.ref a0)] _
    refine oLen X0 hx hZ e0 V_a0 (hb hby own_d7_13) ?_
    refine XS.iconst X0.here hx rfl (hb hby own_d7_14) ?_
    show oS p e below s₁ m 15 #[oa a0, oi p1] [(.int (1 : Int32)), (.int (0 : Int32))] _
    refine XS.icmpYes X0.here hx rfl (pc0 := 15) (pc' := 25) rfl (hb hby own_d7_15) rfl (flt b2).2.2.2 (by decide) (by decide) ?_
    refine XS.aloadN X0.here hx rfl (hb hby own_d7_25) rfl rfl ?_
    show oS p e below s₁ m 26 #[oa a0, oi p1] [(.ref a0)] _
    refine oLen X0 hx hZ e0 V_a0 (hb hby own_d7_26) ?_
    refine XS.iconst X0.here hx rfl (hb hby own_d7_27) ?_
    show oS p e below s₁ m 28 #[oa a0, oi p1] [(.int (2 : Int32)), (.int (0 : Int32))] _
    refine XS.icmpYes X0.here hx rfl (pc0 := 28) (pc' := 38) rfl (hb hby own_d7_28) rfl (flt b3).2.2.2 (by decide) (by decide) ?_
    refine XS.aloadN X0.here hx rfl (hb hby own_d7_38) rfl rfl ?_
    show oS p e below s₁ m 39 #[oa a0, oi p1] [(.ref a0)] _
    refine oLen X0 hx hZ e0 V_a0 (hb hby own_d7_39) ?_
    refine XS.iconst X0.here hx rfl (hb hby own_d7_40) ?_
    show oS p e below s₁ m 41 #[oa a0, oi p1] [(.int (3 : Int32)), (.int (0 : Int32))] _
    refine XS.icmpYes X0.here hx rfl (pc0 := 41) (pc' := 55) rfl (hb hby own_d7_41) rfl (flt b4).2.2.2 (by decide) (by decide) ?_
    refine XS.iconst X0.here hx rfl (hb hby own_d7_55) ?_
    show oS p e below s₁ m 56 #[oa a0, oi p1] [(.int (0 : Int32))] _
    exact retN X0 hx (t := .boolean) Bd.returns (by simp) (hb hby own_d7_56) hr
  · show own_Q7_0 Z a0 p1 k_a0 h0 n0 _ s₁.heap _
    rw [e0]
    exact ⟨congrArg (fun z => some (Value.int z)) (by rw [own_f7_0]), N0, rfl⟩
theorem own_d7_5 : decode method_3_code 5 = .ok (.aload_n 0, 1) := by decide +kernel
theorem own_d7_6 : decode method_3_code 6 = .ok (.iconst 0, 1) := by decide +kernel
theorem own_d7_7 : decode method_3_code 7 = .ok (.iaload, 1) := by decide +kernel
theorem own_d7_8 : decode method_3_code 8 = .ok (.iload_n 1, 1) := by decide +kernel
theorem own_d7_9 : decode method_3_code 9 = .ok (.if_icmp .eq 42, 3) := by decide +kernel
theorem own_d7_51 : decode method_3_code 51 = .ok (.iconst 1, 1) := by decide +kernel
theorem own_d7_52 : decode method_3_code 52 = .ok (.goto 4, 3) := by decide +kernel
theorem own_ef7_1 (m : MethodId) (a0 : Addr) (p1 : Int32) : entryFrame m #[(.ref a0), (.int p1)] 2 = mkF m 0 #[oa a0, oi p1] [] := by first | (simp [entryFrame, mkF, argsToLocals, Value.category]; done) | rfl
def own_f7_1 (w0 : Int32) (p1 : Int32) : Int32 := (if w0 = p1 then (1 : Int32) else (0 : Int32))
def own_Q7_1 (Z : State) (a0 : Addr) (p1 : Int32) (k_a0 : ClassId) (w0 : Int32) (h0 : Heap) (n0 : Nat) (v : Option Value) (h : Heap) (L : List Loc) : Prop := v = some (Value.int (own_f7_1 w0 p1)) ∧ Fr n0 L ∧ h = h0
set_option maxRecDepth 65536 in
set_option maxHeartbeats 40000000 in
theorem own_rm7_1 (l : Launch) (Z : State) (av : Array Value) (hw : ∀ d ∈ tables_1, d.before av Z = true) (ws : List Jvm.Cond) (a0 : Addr) (p1 : Int32) (k_a0 : ClassId) (w0 : Int32) (h0 : Heap) (n0 : Nat) (Z0 : n0 ≤ h0.size) (V_a0 : Arv Z h0 a0 k_a0 .int (1 : Int32) [(.int w0)] (.int (0 : Int32))) :
    MetFree l (⟨"com/example/strict_anon/strictanon/service/RecordSetsUnionPinLaw", "contains", "([II)Z"⟩ : MethodName) (head1 (Jvm.Cond.code (⟨"com/example/strict_anon/strictanon/service/RecordSetsUnionPinLaw", "contains", "([II)Z"⟩ : MethodName) method_3_code 2 (some .boolean) :: ws) ({ frames := 0, cells := 0, slots := 0, locals := 0 } : Room)) (fun a U => a = #[(.ref a0), (.int p1)] ∧ Z.Warmed39 U.vm ∧ U.heap = h0) (fun _ _ _ _ _ => True) (fun _ U o U' => ∃ v L, o = .returned v ∧ own_Q7_1 Z a0 p1 k_a0 w0 h0 n0 v U'.heap L ∧ FrameEnd U o U' L ({ frames := 0, cells := 0, slots := 0, locals := 0 } : Room).cells ({ frames := 0, cells := 0, slots := 0, locals := 0 } : Room).slots) := by
  refine MetFree.of_bodySF (plainFor_of_name own_pn0) hisR ?_
  intro p e s m args below meth c s₁ Bd hml0 hP hK
  obtain ⟨rfl, hZ, hh⟩ := hP
  have hx := Bd.exec
  have hby := Bd.bytes
  have hml : c.maxLocals = 2 := hml0
  have hown : s.vm.findClass "com/example/strict_anon/strictanon/service/RecordSetsUnionPinLaw" = some m.cls := findClass_of_methodNamed Bd.named
  have hnm := (name_of_methodNamed Bd.named Bd.method).1
  have X0 : Stand p l e ({ frames := 0, cells := 0, slots := 0, locals := 0 } : Room) s m #[(.ref a0), (.int p1)] below meth c s₁ [] 0 0 := Stand.of_body Bd
  have e0 : s₁.heap = h0 := by rw [← hh, Bd.state]; rfl
  have N0 := Fr.nil n0
  have pre0 : ∀ t, Steps p.tables e below (s₁.setTop (mkF m 0 #[oa a0, oi p1] [])) t → Steps p.tables e below (s₁.setTop (entryFrame m #[(.ref a0), (.int p1)] 2)) t := fun t k => castTop (own_ef7_1 m a0 p1) k
  have b1 : (0 : Int32) < (1 : Int32) := (by decide)
  have pre2 : ∀ t, Steps p.tables e below (s₁.setTop (mkF m 9 #[oa a0, oi p1] [(.int p1), (.int w0)])) t → Steps p.tables e below (s₁.setTop (entryFrame m #[(.ref a0), (.int p1)] 2)) t := by
    intro t k
    refine pre0 t ?_
    show oS p e below s₁ m 0 #[oa a0, oi p1] [] _
    refine XS.aloadN X0.here hx rfl (hb hby own_d7_0) rfl rfl ?_
    show oS p e below s₁ m 1 #[oa a0, oi p1] [(.ref a0)] _
    refine oLen X0 hx hZ e0 V_a0 (hb hby own_d7_1) ?_
    show oS p e below s₁ m 2 #[oa a0, oi p1] [(.int (1 : Int32))] _
    refine XS.ifNo X0.here hx rfl (hb hby own_d7_2) rfl ((if0 _ _).trans (tlt b1).2.2.2) ?_
    refine XS.aloadN X0.here hx rfl (hb hby own_d7_5) rfl rfl ?_
    refine XS.iconst X0.here hx rfl (hb hby own_d7_6) ?_
    show oS p e below s₁ m 7 #[oa a0, oi p1] [(.int (0 : Int32)), (.ref a0)] _
    refine oLdI X0 hx hZ e0 V_a0 (v := (.int w0)) ⟨by decide, by decide⟩ rfl (hb hby own_d7_7) ?_
    refine XS.iloadN X0.here hx rfl (hb hby own_d7_8) rfl ?_
    exact k
  by_cases c3 : w0 = p1
  · skip
    obtain ⟨fs, hr, hrun, hended, hW, hsame⟩ := X0.leave (v := (some (.int (1 : Int32)))) (fun h => by rw [Bd.returns] at h; cases h)
    refine ⟨_, _, pre2 _ ?_, hrun, hended, _, _, rfl, ?_, ⟨_, rfl⟩, hW, hsame.mono (by decide) (by decide)⟩
    · show oS p e below s₁ m 9 #[oa a0, oi p1] [(.int p1), (.int w0)] _
      refine XS.icmpYes X0.here hx rfl (pc0 := 9) (pc' := 51) rfl (hb hby own_d7_9) rfl (teq c3).1 (by decide) (by decide) ?_
      refine XS.iconst X0.here hx rfl (hb hby own_d7_51) ?_
      refine XS.goto X0.here hx rfl (pc0 := 52) (pc' := 56) rfl (hb hby own_d7_52) (by decide) (by decide) ?_
      show oS p e below s₁ m 56 #[oa a0, oi p1] [(.int (1 : Int32))] _
      exact retN X0 hx (t := .boolean) Bd.returns (by simp) (hb hby own_d7_56) hr
    · show own_Q7_1 Z a0 p1 k_a0 w0 h0 n0 _ s₁.heap _
      rw [e0]
      exact ⟨congrArg (fun z => some (Value.int z)) (by rw [own_f7_1, if_pos c3]), N0, rfl⟩
  · skip
    have b4 : ¬ ((1 : Int32) < (1 : Int32)) := (by decide)
    have b5 : ¬ ((2 : Int32) < (1 : Int32)) := (by decide)
    have b6 : ¬ ((3 : Int32) < (1 : Int32)) := (by decide)
    obtain ⟨fs, hr, hrun, hended, hW, hsame⟩ := X0.leave (v := (some (.int (0 : Int32)))) (fun h => by rw [Bd.returns] at h; cases h)
    refine ⟨_, _, pre2 _ ?_, hrun, hended, _, _, rfl, ?_, ⟨_, rfl⟩, hW, hsame.mono (by decide) (by decide)⟩
    · show oS p e below s₁ m 9 #[oa a0, oi p1] [(.int p1), (.int w0)] _
      refine XS.icmpNo X0.here hx rfl (hb hby own_d7_9) rfl (feq c3).1 ?_
      refine XS.aloadN X0.here hx rfl (hb hby own_d7_12) rfl rfl ?_
      show oS p e below s₁ m 13 #[oa a0, oi p1] [(.ref a0)] _
      refine oLen X0 hx hZ e0 V_a0 (hb hby own_d7_13) ?_
      refine XS.iconst X0.here hx rfl (hb hby own_d7_14) ?_
      show oS p e below s₁ m 15 #[oa a0, oi p1] [(.int (1 : Int32)), (.int (1 : Int32))] _
      refine XS.icmpYes X0.here hx rfl (pc0 := 15) (pc' := 25) rfl (hb hby own_d7_15) rfl (flt b4).2.2.2 (by decide) (by decide) ?_
      refine XS.aloadN X0.here hx rfl (hb hby own_d7_25) rfl rfl ?_
      show oS p e below s₁ m 26 #[oa a0, oi p1] [(.ref a0)] _
      refine oLen X0 hx hZ e0 V_a0 (hb hby own_d7_26) ?_
      refine XS.iconst X0.here hx rfl (hb hby own_d7_27) ?_
      show oS p e below s₁ m 28 #[oa a0, oi p1] [(.int (2 : Int32)), (.int (1 : Int32))] _
      refine XS.icmpYes X0.here hx rfl (pc0 := 28) (pc' := 38) rfl (hb hby own_d7_28) rfl (flt b5).2.2.2 (by decide) (by decide) ?_
      refine XS.aloadN X0.here hx rfl (hb hby own_d7_38) rfl rfl ?_
      show oS p e below s₁ m 39 #[oa a0, oi p1] [(.ref a0)] _
      refine oLen X0 hx hZ e0 V_a0 (hb hby own_d7_39) ?_
      refine XS.iconst X0.here hx rfl (hb hby own_d7_40) ?_
      show oS p e below s₁ m 41 #[oa a0, oi p1] [(.int (3 : Int32)), (.int (1 : Int32))] _
      refine XS.icmpYes X0.here hx rfl (pc0 := 41) (pc' := 55) rfl (hb hby own_d7_41) rfl (flt b6).2.2.2 (by decide) (by decide) ?_
      refine XS.iconst X0.here hx rfl (hb hby own_d7_55) ?_
      show oS p e below s₁ m 56 #[oa a0, oi p1] [(.int (0 : Int32))] _
      exact retN X0 hx (t := .boolean) Bd.returns (by simp) (hb hby own_d7_56) hr
    · show own_Q7_1 Z a0 p1 k_a0 w0 h0 n0 _ s₁.heap _
      rw [e0]
      exact ⟨congrArg (fun z => some (Value.int z)) (by rw [own_f7_1, if_neg c3]), N0, rfl⟩
theorem own_d7_18 : decode method_3_code 18 = .ok (.aload_n 0, 1) := by decide +kernel
theorem own_d7_19 : decode method_3_code 19 = .ok (.iconst 1, 1) := by decide +kernel
theorem own_d7_20 : decode method_3_code 20 = .ok (.iaload, 1) := by decide +kernel
theorem own_d7_21 : decode method_3_code 21 = .ok (.iload_n 1, 1) := by decide +kernel
theorem own_d7_22 : decode method_3_code 22 = .ok (.if_icmp .eq 29, 3) := by decide +kernel
theorem own_ef7_2 (m : MethodId) (a0 : Addr) (p1 : Int32) : entryFrame m #[(.ref a0), (.int p1)] 2 = mkF m 0 #[oa a0, oi p1] [] := by first | (simp [entryFrame, mkF, argsToLocals, Value.category]; done) | rfl
def own_f7_2 (w0 : Int32) (w1 : Int32) (p1 : Int32) : Int32 := (if w0 = p1 then (1 : Int32) else (if w1 = p1 then (1 : Int32) else (0 : Int32)))
def own_Q7_2 (Z : State) (a0 : Addr) (p1 : Int32) (k_a0 : ClassId) (w0 : Int32) (w1 : Int32) (h0 : Heap) (n0 : Nat) (v : Option Value) (h : Heap) (L : List Loc) : Prop := v = some (Value.int (own_f7_2 w0 w1 p1)) ∧ Fr n0 L ∧ h = h0
set_option maxRecDepth 65536 in
set_option maxHeartbeats 40000000 in
theorem own_rm7_2 (l : Launch) (Z : State) (av : Array Value) (hw : ∀ d ∈ tables_1, d.before av Z = true) (ws : List Jvm.Cond) (a0 : Addr) (p1 : Int32) (k_a0 : ClassId) (w0 : Int32) (w1 : Int32) (h0 : Heap) (n0 : Nat) (Z0 : n0 ≤ h0.size) (V_a0 : Arv Z h0 a0 k_a0 .int (2 : Int32) [(.int w0), (.int w1)] (.int (0 : Int32))) :
    MetFree l (⟨"com/example/strict_anon/strictanon/service/RecordSetsUnionPinLaw", "contains", "([II)Z"⟩ : MethodName) (head1 (Jvm.Cond.code (⟨"com/example/strict_anon/strictanon/service/RecordSetsUnionPinLaw", "contains", "([II)Z"⟩ : MethodName) method_3_code 2 (some .boolean) :: ws) ({ frames := 0, cells := 0, slots := 0, locals := 0 } : Room)) (fun a U => a = #[(.ref a0), (.int p1)] ∧ Z.Warmed39 U.vm ∧ U.heap = h0) (fun _ _ _ _ _ => True) (fun _ U o U' => ∃ v L, o = .returned v ∧ own_Q7_2 Z a0 p1 k_a0 w0 w1 h0 n0 v U'.heap L ∧ FrameEnd U o U' L ({ frames := 0, cells := 0, slots := 0, locals := 0 } : Room).cells ({ frames := 0, cells := 0, slots := 0, locals := 0 } : Room).slots) := by
  refine MetFree.of_bodySF (plainFor_of_name own_pn0) hisR ?_
  intro p e s m args below meth c s₁ Bd hml0 hP hK
  obtain ⟨rfl, hZ, hh⟩ := hP
  have hx := Bd.exec
  have hby := Bd.bytes
  have hml : c.maxLocals = 2 := hml0
  have hown : s.vm.findClass "com/example/strict_anon/strictanon/service/RecordSetsUnionPinLaw" = some m.cls := findClass_of_methodNamed Bd.named
  have hnm := (name_of_methodNamed Bd.named Bd.method).1
  have X0 : Stand p l e ({ frames := 0, cells := 0, slots := 0, locals := 0 } : Room) s m #[(.ref a0), (.int p1)] below meth c s₁ [] 0 0 := Stand.of_body Bd
  have e0 : s₁.heap = h0 := by rw [← hh, Bd.state]; rfl
  have N0 := Fr.nil n0
  have pre0 : ∀ t, Steps p.tables e below (s₁.setTop (mkF m 0 #[oa a0, oi p1] [])) t → Steps p.tables e below (s₁.setTop (entryFrame m #[(.ref a0), (.int p1)] 2)) t := fun t k => castTop (own_ef7_2 m a0 p1) k
  have b1 : (0 : Int32) < (2 : Int32) := (by decide)
  have pre2 : ∀ t, Steps p.tables e below (s₁.setTop (mkF m 9 #[oa a0, oi p1] [(.int p1), (.int w0)])) t → Steps p.tables e below (s₁.setTop (entryFrame m #[(.ref a0), (.int p1)] 2)) t := by
    intro t k
    refine pre0 t ?_
    show oS p e below s₁ m 0 #[oa a0, oi p1] [] _
    refine XS.aloadN X0.here hx rfl (hb hby own_d7_0) rfl rfl ?_
    show oS p e below s₁ m 1 #[oa a0, oi p1] [(.ref a0)] _
    refine oLen X0 hx hZ e0 V_a0 (hb hby own_d7_1) ?_
    show oS p e below s₁ m 2 #[oa a0, oi p1] [(.int (2 : Int32))] _
    refine XS.ifNo X0.here hx rfl (hb hby own_d7_2) rfl ((if0 _ _).trans (tlt b1).2.2.2) ?_
    refine XS.aloadN X0.here hx rfl (hb hby own_d7_5) rfl rfl ?_
    refine XS.iconst X0.here hx rfl (hb hby own_d7_6) ?_
    show oS p e below s₁ m 7 #[oa a0, oi p1] [(.int (0 : Int32)), (.ref a0)] _
    refine oLdI X0 hx hZ e0 V_a0 (v := (.int w0)) ⟨by decide, by decide⟩ rfl (hb hby own_d7_7) ?_
    refine XS.iloadN X0.here hx rfl (hb hby own_d7_8) rfl ?_
    exact k
  by_cases c3 : w0 = p1
  · skip
    obtain ⟨fs, hr, hrun, hended, hW, hsame⟩ := X0.leave (v := (some (.int (1 : Int32)))) (fun h => by rw [Bd.returns] at h; cases h)
    refine ⟨_, _, pre2 _ ?_, hrun, hended, _, _, rfl, ?_, ⟨_, rfl⟩, hW, hsame.mono (by decide) (by decide)⟩
    · show oS p e below s₁ m 9 #[oa a0, oi p1] [(.int p1), (.int w0)] _
      refine XS.icmpYes X0.here hx rfl (pc0 := 9) (pc' := 51) rfl (hb hby own_d7_9) rfl (teq c3).1 (by decide) (by decide) ?_
      refine XS.iconst X0.here hx rfl (hb hby own_d7_51) ?_
      refine XS.goto X0.here hx rfl (pc0 := 52) (pc' := 56) rfl (hb hby own_d7_52) (by decide) (by decide) ?_
      show oS p e below s₁ m 56 #[oa a0, oi p1] [(.int (1 : Int32))] _
      exact retN X0 hx (t := .boolean) Bd.returns (by simp) (hb hby own_d7_56) hr
    · show own_Q7_2 Z a0 p1 k_a0 w0 w1 h0 n0 _ s₁.heap _
      rw [e0]
      exact ⟨congrArg (fun z => some (Value.int z)) (by rw [own_f7_2, if_pos c3]), N0, rfl⟩
  · skip
    have b4 : (1 : Int32) < (2 : Int32) := (by decide)
    have pre5 : ∀ t, Steps p.tables e below (s₁.setTop (mkF m 22 #[oa a0, oi p1] [(.int p1), (.int w1)])) t → Steps p.tables e below (s₁.setTop (entryFrame m #[(.ref a0), (.int p1)] 2)) t := by
      intro t k
      refine pre2 t ?_
      show oS p e below s₁ m 9 #[oa a0, oi p1] [(.int p1), (.int w0)] _
      refine XS.icmpNo X0.here hx rfl (hb hby own_d7_9) rfl (feq c3).1 ?_
      refine XS.aloadN X0.here hx rfl (hb hby own_d7_12) rfl rfl ?_
      show oS p e below s₁ m 13 #[oa a0, oi p1] [(.ref a0)] _
      refine oLen X0 hx hZ e0 V_a0 (hb hby own_d7_13) ?_
      refine XS.iconst X0.here hx rfl (hb hby own_d7_14) ?_
      show oS p e below s₁ m 15 #[oa a0, oi p1] [(.int (1 : Int32)), (.int (2 : Int32))] _
      refine XS.icmpNo X0.here hx rfl (hb hby own_d7_15) rfl (tlt b4).2.2.2 ?_
      refine XS.aloadN X0.here hx rfl (hb hby own_d7_18) rfl rfl ?_
      refine XS.iconst X0.here hx rfl (hb hby own_d7_19) ?_
      show oS p e below s₁ m 20 #[oa a0, oi p1] [(.int (1 : Int32)), (.ref a0)] _
      refine oLdI X0 hx hZ e0 V_a0 (v := (.int w1)) ⟨by decide, by decide⟩ rfl (hb hby own_d7_20) ?_
      refine XS.iloadN X0.here hx rfl (hb hby own_d7_21) rfl ?_
      exact k
    by_cases c6 : w1 = p1
    · skip
      obtain ⟨fs, hr, hrun, hended, hW, hsame⟩ := X0.leave (v := (some (.int (1 : Int32)))) (fun h => by rw [Bd.returns] at h; cases h)
      refine ⟨_, _, pre5 _ ?_, hrun, hended, _, _, rfl, ?_, ⟨_, rfl⟩, hW, hsame.mono (by decide) (by decide)⟩
      · show oS p e below s₁ m 22 #[oa a0, oi p1] [(.int p1), (.int w1)] _
        refine XS.icmpYes X0.here hx rfl (pc0 := 22) (pc' := 51) rfl (hb hby own_d7_22) rfl (teq c6).1 (by decide) (by decide) ?_
        refine XS.iconst X0.here hx rfl (hb hby own_d7_51) ?_
        refine XS.goto X0.here hx rfl (pc0 := 52) (pc' := 56) rfl (hb hby own_d7_52) (by decide) (by decide) ?_
        show oS p e below s₁ m 56 #[oa a0, oi p1] [(.int (1 : Int32))] _
        exact retN X0 hx (t := .boolean) Bd.returns (by simp) (hb hby own_d7_56) hr
      · show own_Q7_2 Z a0 p1 k_a0 w0 w1 h0 n0 _ s₁.heap _
        rw [e0]
        exact ⟨congrArg (fun z => some (Value.int z)) (by rw [own_f7_2, if_neg c3, if_pos c6]), N0, rfl⟩
    · skip
      have b7 : ¬ ((2 : Int32) < (2 : Int32)) := (by decide)
      have b8 : ¬ ((3 : Int32) < (2 : Int32)) := (by decide)
      obtain ⟨fs, hr, hrun, hended, hW, hsame⟩ := X0.leave (v := (some (.int (0 : Int32)))) (fun h => by rw [Bd.returns] at h; cases h)
      refine ⟨_, _, pre5 _ ?_, hrun, hended, _, _, rfl, ?_, ⟨_, rfl⟩, hW, hsame.mono (by decide) (by decide)⟩
      · show oS p e below s₁ m 22 #[oa a0, oi p1] [(.int p1), (.int w1)] _
        refine XS.icmpNo X0.here hx rfl (hb hby own_d7_22) rfl (feq c6).1 ?_
        refine XS.aloadN X0.here hx rfl (hb hby own_d7_25) rfl rfl ?_
        show oS p e below s₁ m 26 #[oa a0, oi p1] [(.ref a0)] _
        refine oLen X0 hx hZ e0 V_a0 (hb hby own_d7_26) ?_
        refine XS.iconst X0.here hx rfl (hb hby own_d7_27) ?_
        show oS p e below s₁ m 28 #[oa a0, oi p1] [(.int (2 : Int32)), (.int (2 : Int32))] _
        refine XS.icmpYes X0.here hx rfl (pc0 := 28) (pc' := 38) rfl (hb hby own_d7_28) rfl (flt b7).2.2.2 (by decide) (by decide) ?_
        refine XS.aloadN X0.here hx rfl (hb hby own_d7_38) rfl rfl ?_
        show oS p e below s₁ m 39 #[oa a0, oi p1] [(.ref a0)] _
        refine oLen X0 hx hZ e0 V_a0 (hb hby own_d7_39) ?_
        refine XS.iconst X0.here hx rfl (hb hby own_d7_40) ?_
        show oS p e below s₁ m 41 #[oa a0, oi p1] [(.int (3 : Int32)), (.int (2 : Int32))] _
        refine XS.icmpYes X0.here hx rfl (pc0 := 41) (pc' := 55) rfl (hb hby own_d7_41) rfl (flt b8).2.2.2 (by decide) (by decide) ?_
        refine XS.iconst X0.here hx rfl (hb hby own_d7_55) ?_
        show oS p e below s₁ m 56 #[oa a0, oi p1] [(.int (0 : Int32))] _
        exact retN X0 hx (t := .boolean) Bd.returns (by simp) (hb hby own_d7_56) hr
      · show own_Q7_2 Z a0 p1 k_a0 w0 w1 h0 n0 _ s₁.heap _
        rw [e0]
        exact ⟨congrArg (fun z => some (Value.int z)) (by rw [own_f7_2, if_neg c3, if_neg c6]), N0, rfl⟩
theorem own_d7_31 : decode method_3_code 31 = .ok (.aload_n 0, 1) := by decide +kernel
theorem own_d7_32 : decode method_3_code 32 = .ok (.iconst 2, 1) := by decide +kernel
theorem own_d7_33 : decode method_3_code 33 = .ok (.iaload, 1) := by decide +kernel
theorem own_d7_34 : decode method_3_code 34 = .ok (.iload_n 1, 1) := by decide +kernel
theorem own_d7_35 : decode method_3_code 35 = .ok (.if_icmp .eq 16, 3) := by decide +kernel
theorem own_ef7_3 (m : MethodId) (a0 : Addr) (p1 : Int32) : entryFrame m #[(.ref a0), (.int p1)] 2 = mkF m 0 #[oa a0, oi p1] [] := by first | (simp [entryFrame, mkF, argsToLocals, Value.category]; done) | rfl
def own_f7_3 (w0 : Int32) (w1 : Int32) (w2 : Int32) (p1 : Int32) : Int32 := (if w0 = p1 then (1 : Int32) else (if w1 = p1 then (1 : Int32) else (if w2 = p1 then (1 : Int32) else (0 : Int32))))
def own_Q7_3 (Z : State) (a0 : Addr) (p1 : Int32) (k_a0 : ClassId) (w0 : Int32) (w1 : Int32) (w2 : Int32) (h0 : Heap) (n0 : Nat) (v : Option Value) (h : Heap) (L : List Loc) : Prop := v = some (Value.int (own_f7_3 w0 w1 w2 p1)) ∧ Fr n0 L ∧ h = h0
set_option maxRecDepth 65536 in
set_option maxHeartbeats 40000000 in
theorem own_rm7_3 (l : Launch) (Z : State) (av : Array Value) (hw : ∀ d ∈ tables_1, d.before av Z = true) (ws : List Jvm.Cond) (a0 : Addr) (p1 : Int32) (k_a0 : ClassId) (w0 : Int32) (w1 : Int32) (w2 : Int32) (h0 : Heap) (n0 : Nat) (Z0 : n0 ≤ h0.size) (V_a0 : Arv Z h0 a0 k_a0 .int (3 : Int32) [(.int w0), (.int w1), (.int w2)] (.int (0 : Int32))) :
    MetFree l (⟨"com/example/strict_anon/strictanon/service/RecordSetsUnionPinLaw", "contains", "([II)Z"⟩ : MethodName) (head1 (Jvm.Cond.code (⟨"com/example/strict_anon/strictanon/service/RecordSetsUnionPinLaw", "contains", "([II)Z"⟩ : MethodName) method_3_code 2 (some .boolean) :: ws) ({ frames := 0, cells := 0, slots := 0, locals := 0 } : Room)) (fun a U => a = #[(.ref a0), (.int p1)] ∧ Z.Warmed39 U.vm ∧ U.heap = h0) (fun _ _ _ _ _ => True) (fun _ U o U' => ∃ v L, o = .returned v ∧ own_Q7_3 Z a0 p1 k_a0 w0 w1 w2 h0 n0 v U'.heap L ∧ FrameEnd U o U' L ({ frames := 0, cells := 0, slots := 0, locals := 0 } : Room).cells ({ frames := 0, cells := 0, slots := 0, locals := 0 } : Room).slots) := by
  refine MetFree.of_bodySF (plainFor_of_name own_pn0) hisR ?_
  intro p e s m args below meth c s₁ Bd hml0 hP hK
  obtain ⟨rfl, hZ, hh⟩ := hP
  have hx := Bd.exec
  have hby := Bd.bytes
  have hml : c.maxLocals = 2 := hml0
  have hown : s.vm.findClass "com/example/strict_anon/strictanon/service/RecordSetsUnionPinLaw" = some m.cls := findClass_of_methodNamed Bd.named
  have hnm := (name_of_methodNamed Bd.named Bd.method).1
  have X0 : Stand p l e ({ frames := 0, cells := 0, slots := 0, locals := 0 } : Room) s m #[(.ref a0), (.int p1)] below meth c s₁ [] 0 0 := Stand.of_body Bd
  have e0 : s₁.heap = h0 := by rw [← hh, Bd.state]; rfl
  have N0 := Fr.nil n0
  have pre0 : ∀ t, Steps p.tables e below (s₁.setTop (mkF m 0 #[oa a0, oi p1] [])) t → Steps p.tables e below (s₁.setTop (entryFrame m #[(.ref a0), (.int p1)] 2)) t := fun t k => castTop (own_ef7_3 m a0 p1) k
  have b1 : (0 : Int32) < (3 : Int32) := (by decide)
  have pre2 : ∀ t, Steps p.tables e below (s₁.setTop (mkF m 9 #[oa a0, oi p1] [(.int p1), (.int w0)])) t → Steps p.tables e below (s₁.setTop (entryFrame m #[(.ref a0), (.int p1)] 2)) t := by
    intro t k
    refine pre0 t ?_
    show oS p e below s₁ m 0 #[oa a0, oi p1] [] _
    refine XS.aloadN X0.here hx rfl (hb hby own_d7_0) rfl rfl ?_
    show oS p e below s₁ m 1 #[oa a0, oi p1] [(.ref a0)] _
    refine oLen X0 hx hZ e0 V_a0 (hb hby own_d7_1) ?_
    show oS p e below s₁ m 2 #[oa a0, oi p1] [(.int (3 : Int32))] _
    refine XS.ifNo X0.here hx rfl (hb hby own_d7_2) rfl ((if0 _ _).trans (tlt b1).2.2.2) ?_
    refine XS.aloadN X0.here hx rfl (hb hby own_d7_5) rfl rfl ?_
    refine XS.iconst X0.here hx rfl (hb hby own_d7_6) ?_
    show oS p e below s₁ m 7 #[oa a0, oi p1] [(.int (0 : Int32)), (.ref a0)] _
    refine oLdI X0 hx hZ e0 V_a0 (v := (.int w0)) ⟨by decide, by decide⟩ rfl (hb hby own_d7_7) ?_
    refine XS.iloadN X0.here hx rfl (hb hby own_d7_8) rfl ?_
    exact k
  by_cases c3 : w0 = p1
  · skip
    obtain ⟨fs, hr, hrun, hended, hW, hsame⟩ := X0.leave (v := (some (.int (1 : Int32)))) (fun h => by rw [Bd.returns] at h; cases h)
    refine ⟨_, _, pre2 _ ?_, hrun, hended, _, _, rfl, ?_, ⟨_, rfl⟩, hW, hsame.mono (by decide) (by decide)⟩
    · show oS p e below s₁ m 9 #[oa a0, oi p1] [(.int p1), (.int w0)] _
      refine XS.icmpYes X0.here hx rfl (pc0 := 9) (pc' := 51) rfl (hb hby own_d7_9) rfl (teq c3).1 (by decide) (by decide) ?_
      refine XS.iconst X0.here hx rfl (hb hby own_d7_51) ?_
      refine XS.goto X0.here hx rfl (pc0 := 52) (pc' := 56) rfl (hb hby own_d7_52) (by decide) (by decide) ?_
      show oS p e below s₁ m 56 #[oa a0, oi p1] [(.int (1 : Int32))] _
      exact retN X0 hx (t := .boolean) Bd.returns (by simp) (hb hby own_d7_56) hr
    · show own_Q7_3 Z a0 p1 k_a0 w0 w1 w2 h0 n0 _ s₁.heap _
      rw [e0]
      exact ⟨congrArg (fun z => some (Value.int z)) (by rw [own_f7_3, if_pos c3]), N0, rfl⟩
  · skip
    have b4 : (1 : Int32) < (3 : Int32) := (by decide)
    have pre5 : ∀ t, Steps p.tables e below (s₁.setTop (mkF m 22 #[oa a0, oi p1] [(.int p1), (.int w1)])) t → Steps p.tables e below (s₁.setTop (entryFrame m #[(.ref a0), (.int p1)] 2)) t := by
      intro t k
      refine pre2 t ?_
      show oS p e below s₁ m 9 #[oa a0, oi p1] [(.int p1), (.int w0)] _
      refine XS.icmpNo X0.here hx rfl (hb hby own_d7_9) rfl (feq c3).1 ?_
      refine XS.aloadN X0.here hx rfl (hb hby own_d7_12) rfl rfl ?_
      show oS p e below s₁ m 13 #[oa a0, oi p1] [(.ref a0)] _
      refine oLen X0 hx hZ e0 V_a0 (hb hby own_d7_13) ?_
      refine XS.iconst X0.here hx rfl (hb hby own_d7_14) ?_
      show oS p e below s₁ m 15 #[oa a0, oi p1] [(.int (1 : Int32)), (.int (3 : Int32))] _
      refine XS.icmpNo X0.here hx rfl (hb hby own_d7_15) rfl (tlt b4).2.2.2 ?_
      refine XS.aloadN X0.here hx rfl (hb hby own_d7_18) rfl rfl ?_
      refine XS.iconst X0.here hx rfl (hb hby own_d7_19) ?_
      show oS p e below s₁ m 20 #[oa a0, oi p1] [(.int (1 : Int32)), (.ref a0)] _
      refine oLdI X0 hx hZ e0 V_a0 (v := (.int w1)) ⟨by decide, by decide⟩ rfl (hb hby own_d7_20) ?_
      refine XS.iloadN X0.here hx rfl (hb hby own_d7_21) rfl ?_
      exact k
    by_cases c6 : w1 = p1
    · skip
      obtain ⟨fs, hr, hrun, hended, hW, hsame⟩ := X0.leave (v := (some (.int (1 : Int32)))) (fun h => by rw [Bd.returns] at h; cases h)
      refine ⟨_, _, pre5 _ ?_, hrun, hended, _, _, rfl, ?_, ⟨_, rfl⟩, hW, hsame.mono (by decide) (by decide)⟩
      · show oS p e below s₁ m 22 #[oa a0, oi p1] [(.int p1), (.int w1)] _
        refine XS.icmpYes X0.here hx rfl (pc0 := 22) (pc' := 51) rfl (hb hby own_d7_22) rfl (teq c6).1 (by decide) (by decide) ?_
        refine XS.iconst X0.here hx rfl (hb hby own_d7_51) ?_
        refine XS.goto X0.here hx rfl (pc0 := 52) (pc' := 56) rfl (hb hby own_d7_52) (by decide) (by decide) ?_
        show oS p e below s₁ m 56 #[oa a0, oi p1] [(.int (1 : Int32))] _
        exact retN X0 hx (t := .boolean) Bd.returns (by simp) (hb hby own_d7_56) hr
      · show own_Q7_3 Z a0 p1 k_a0 w0 w1 w2 h0 n0 _ s₁.heap _
        rw [e0]
        exact ⟨congrArg (fun z => some (Value.int z)) (by rw [own_f7_3, if_neg c3, if_pos c6]), N0, rfl⟩
    · skip
      have b7 : (2 : Int32) < (3 : Int32) := (by decide)
      have pre8 : ∀ t, Steps p.tables e below (s₁.setTop (mkF m 35 #[oa a0, oi p1] [(.int p1), (.int w2)])) t → Steps p.tables e below (s₁.setTop (entryFrame m #[(.ref a0), (.int p1)] 2)) t := by
        intro t k
        refine pre5 t ?_
        show oS p e below s₁ m 22 #[oa a0, oi p1] [(.int p1), (.int w1)] _
        refine XS.icmpNo X0.here hx rfl (hb hby own_d7_22) rfl (feq c6).1 ?_
        refine XS.aloadN X0.here hx rfl (hb hby own_d7_25) rfl rfl ?_
        show oS p e below s₁ m 26 #[oa a0, oi p1] [(.ref a0)] _
        refine oLen X0 hx hZ e0 V_a0 (hb hby own_d7_26) ?_
        refine XS.iconst X0.here hx rfl (hb hby own_d7_27) ?_
        show oS p e below s₁ m 28 #[oa a0, oi p1] [(.int (2 : Int32)), (.int (3 : Int32))] _
        refine XS.icmpNo X0.here hx rfl (hb hby own_d7_28) rfl (tlt b7).2.2.2 ?_
        refine XS.aloadN X0.here hx rfl (hb hby own_d7_31) rfl rfl ?_
        refine XS.iconst X0.here hx rfl (hb hby own_d7_32) ?_
        show oS p e below s₁ m 33 #[oa a0, oi p1] [(.int (2 : Int32)), (.ref a0)] _
        refine oLdI X0 hx hZ e0 V_a0 (v := (.int w2)) ⟨by decide, by decide⟩ rfl (hb hby own_d7_33) ?_
        refine XS.iloadN X0.here hx rfl (hb hby own_d7_34) rfl ?_
        exact k
      by_cases c9 : w2 = p1
      · skip
        obtain ⟨fs, hr, hrun, hended, hW, hsame⟩ := X0.leave (v := (some (.int (1 : Int32)))) (fun h => by rw [Bd.returns] at h; cases h)
        refine ⟨_, _, pre8 _ ?_, hrun, hended, _, _, rfl, ?_, ⟨_, rfl⟩, hW, hsame.mono (by decide) (by decide)⟩
        · show oS p e below s₁ m 35 #[oa a0, oi p1] [(.int p1), (.int w2)] _
          refine XS.icmpYes X0.here hx rfl (pc0 := 35) (pc' := 51) rfl (hb hby own_d7_35) rfl (teq c9).1 (by decide) (by decide) ?_
          refine XS.iconst X0.here hx rfl (hb hby own_d7_51) ?_
          refine XS.goto X0.here hx rfl (pc0 := 52) (pc' := 56) rfl (hb hby own_d7_52) (by decide) (by decide) ?_
          show oS p e below s₁ m 56 #[oa a0, oi p1] [(.int (1 : Int32))] _
          exact retN X0 hx (t := .boolean) Bd.returns (by simp) (hb hby own_d7_56) hr
        · show own_Q7_3 Z a0 p1 k_a0 w0 w1 w2 h0 n0 _ s₁.heap _
          rw [e0]
          exact ⟨congrArg (fun z => some (Value.int z)) (by rw [own_f7_3, if_neg c3, if_neg c6, if_pos c9]), N0, rfl⟩
      · skip
        have b10 : ¬ ((3 : Int32) < (3 : Int32)) := (by decide)
        obtain ⟨fs, hr, hrun, hended, hW, hsame⟩ := X0.leave (v := (some (.int (0 : Int32)))) (fun h => by rw [Bd.returns] at h; cases h)
        refine ⟨_, _, pre8 _ ?_, hrun, hended, _, _, rfl, ?_, ⟨_, rfl⟩, hW, hsame.mono (by decide) (by decide)⟩
        · show oS p e below s₁ m 35 #[oa a0, oi p1] [(.int p1), (.int w2)] _
          refine XS.icmpNo X0.here hx rfl (hb hby own_d7_35) rfl (feq c9).1 ?_
          refine XS.aloadN X0.here hx rfl (hb hby own_d7_38) rfl rfl ?_
          show oS p e below s₁ m 39 #[oa a0, oi p1] [(.ref a0)] _
          refine oLen X0 hx hZ e0 V_a0 (hb hby own_d7_39) ?_
          refine XS.iconst X0.here hx rfl (hb hby own_d7_40) ?_
          show oS p e below s₁ m 41 #[oa a0, oi p1] [(.int (3 : Int32)), (.int (3 : Int32))] _
          refine XS.icmpYes X0.here hx rfl (pc0 := 41) (pc' := 55) rfl (hb hby own_d7_41) rfl (flt b10).2.2.2 (by decide) (by decide) ?_
          refine XS.iconst X0.here hx rfl (hb hby own_d7_55) ?_
          show oS p e below s₁ m 56 #[oa a0, oi p1] [(.int (0 : Int32))] _
          exact retN X0 hx (t := .boolean) Bd.returns (by simp) (hb hby own_d7_56) hr
        · show own_Q7_3 Z a0 p1 k_a0 w0 w1 w2 h0 n0 _ s₁.heap _
          rw [e0]
          exact ⟨congrArg (fun z => some (Value.int z)) (by rw [own_f7_3, if_neg c3, if_neg c6, if_neg c9]), N0, rfl⟩
theorem own_d7_44 : decode method_3_code 44 = .ok (.aload_n 0, 1) := by decide +kernel
theorem own_d7_45 : decode method_3_code 45 = .ok (.iconst 3, 1) := by decide +kernel
theorem own_d7_46 : decode method_3_code 46 = .ok (.iaload, 1) := by decide +kernel
theorem own_d7_47 : decode method_3_code 47 = .ok (.iload_n 1, 1) := by decide +kernel
theorem own_d7_48 : decode method_3_code 48 = .ok (.if_icmp .ne 7, 3) := by decide +kernel
theorem own_ef7_4 (m : MethodId) (a0 : Addr) (p1 : Int32) : entryFrame m #[(.ref a0), (.int p1)] 2 = mkF m 0 #[oa a0, oi p1] [] := by first | (simp [entryFrame, mkF, argsToLocals, Value.category]; done) | rfl
def own_f7_4 (w0 : Int32) (w1 : Int32) (w2 : Int32) (w3 : Int32) (p1 : Int32) : Int32 := (if w0 = p1 then (1 : Int32) else (if w1 = p1 then (1 : Int32) else (if w2 = p1 then (1 : Int32) else (if w3 = p1 then (1 : Int32) else (0 : Int32)))))
def own_Q7_4 (Z : State) (a0 : Addr) (p1 : Int32) (k_a0 : ClassId) (w0 : Int32) (w1 : Int32) (w2 : Int32) (w3 : Int32) (h0 : Heap) (n0 : Nat) (v : Option Value) (h : Heap) (L : List Loc) : Prop := v = some (Value.int (own_f7_4 w0 w1 w2 w3 p1)) ∧ Fr n0 L ∧ h = h0
set_option maxRecDepth 65536 in
set_option maxHeartbeats 40000000 in
theorem own_rm7_4 (l : Launch) (Z : State) (av : Array Value) (hw : ∀ d ∈ tables_1, d.before av Z = true) (ws : List Jvm.Cond) (a0 : Addr) (p1 : Int32) (k_a0 : ClassId) (w0 : Int32) (w1 : Int32) (w2 : Int32) (w3 : Int32) (h0 : Heap) (n0 : Nat) (Z0 : n0 ≤ h0.size) (V_a0 : Arv Z h0 a0 k_a0 .int (4 : Int32) [(.int w0), (.int w1), (.int w2), (.int w3)] (.int (0 : Int32))) :
    MetFree l (⟨"com/example/strict_anon/strictanon/service/RecordSetsUnionPinLaw", "contains", "([II)Z"⟩ : MethodName) (head1 (Jvm.Cond.code (⟨"com/example/strict_anon/strictanon/service/RecordSetsUnionPinLaw", "contains", "([II)Z"⟩ : MethodName) method_3_code 2 (some .boolean) :: ws) ({ frames := 0, cells := 0, slots := 0, locals := 0 } : Room)) (fun a U => a = #[(.ref a0), (.int p1)] ∧ Z.Warmed39 U.vm ∧ U.heap = h0) (fun _ _ _ _ _ => True) (fun _ U o U' => ∃ v L, o = .returned v ∧ own_Q7_4 Z a0 p1 k_a0 w0 w1 w2 w3 h0 n0 v U'.heap L ∧ FrameEnd U o U' L ({ frames := 0, cells := 0, slots := 0, locals := 0 } : Room).cells ({ frames := 0, cells := 0, slots := 0, locals := 0 } : Room).slots) := by
  refine MetFree.of_bodySF (plainFor_of_name own_pn0) hisR ?_
  intro p e s m args below meth c s₁ Bd hml0 hP hK
  obtain ⟨rfl, hZ, hh⟩ := hP
  have hx := Bd.exec
  have hby := Bd.bytes
  have hml : c.maxLocals = 2 := hml0
  have hown : s.vm.findClass "com/example/strict_anon/strictanon/service/RecordSetsUnionPinLaw" = some m.cls := findClass_of_methodNamed Bd.named
  have hnm := (name_of_methodNamed Bd.named Bd.method).1
  have X0 : Stand p l e ({ frames := 0, cells := 0, slots := 0, locals := 0 } : Room) s m #[(.ref a0), (.int p1)] below meth c s₁ [] 0 0 := Stand.of_body Bd
  have e0 : s₁.heap = h0 := by rw [← hh, Bd.state]; rfl
  have N0 := Fr.nil n0
  have pre0 : ∀ t, Steps p.tables e below (s₁.setTop (mkF m 0 #[oa a0, oi p1] [])) t → Steps p.tables e below (s₁.setTop (entryFrame m #[(.ref a0), (.int p1)] 2)) t := fun t k => castTop (own_ef7_4 m a0 p1) k
  have b1 : (0 : Int32) < (4 : Int32) := (by decide)
  have pre2 : ∀ t, Steps p.tables e below (s₁.setTop (mkF m 9 #[oa a0, oi p1] [(.int p1), (.int w0)])) t → Steps p.tables e below (s₁.setTop (entryFrame m #[(.ref a0), (.int p1)] 2)) t := by
    intro t k
    refine pre0 t ?_
    show oS p e below s₁ m 0 #[oa a0, oi p1] [] _
    refine XS.aloadN X0.here hx rfl (hb hby own_d7_0) rfl rfl ?_
    show oS p e below s₁ m 1 #[oa a0, oi p1] [(.ref a0)] _
    refine oLen X0 hx hZ e0 V_a0 (hb hby own_d7_1) ?_
    show oS p e below s₁ m 2 #[oa a0, oi p1] [(.int (4 : Int32))] _
    refine XS.ifNo X0.here hx rfl (hb hby own_d7_2) rfl ((if0 _ _).trans (tlt b1).2.2.2) ?_
    refine XS.aloadN X0.here hx rfl (hb hby own_d7_5) rfl rfl ?_
    refine XS.iconst X0.here hx rfl (hb hby own_d7_6) ?_
    show oS p e below s₁ m 7 #[oa a0, oi p1] [(.int (0 : Int32)), (.ref a0)] _
    refine oLdI X0 hx hZ e0 V_a0 (v := (.int w0)) ⟨by decide, by decide⟩ rfl (hb hby own_d7_7) ?_
    refine XS.iloadN X0.here hx rfl (hb hby own_d7_8) rfl ?_
    exact k
  by_cases c3 : w0 = p1
  · skip
    obtain ⟨fs, hr, hrun, hended, hW, hsame⟩ := X0.leave (v := (some (.int (1 : Int32)))) (fun h => by rw [Bd.returns] at h; cases h)
    refine ⟨_, _, pre2 _ ?_, hrun, hended, _, _, rfl, ?_, ⟨_, rfl⟩, hW, hsame.mono (by decide) (by decide)⟩
    · show oS p e below s₁ m 9 #[oa a0, oi p1] [(.int p1), (.int w0)] _
      refine XS.icmpYes X0.here hx rfl (pc0 := 9) (pc' := 51) rfl (hb hby own_d7_9) rfl (teq c3).1 (by decide) (by decide) ?_
      refine XS.iconst X0.here hx rfl (hb hby own_d7_51) ?_
      refine XS.goto X0.here hx rfl (pc0 := 52) (pc' := 56) rfl (hb hby own_d7_52) (by decide) (by decide) ?_
      show oS p e below s₁ m 56 #[oa a0, oi p1] [(.int (1 : Int32))] _
      exact retN X0 hx (t := .boolean) Bd.returns (by simp) (hb hby own_d7_56) hr
    · show own_Q7_4 Z a0 p1 k_a0 w0 w1 w2 w3 h0 n0 _ s₁.heap _
      rw [e0]
      exact ⟨congrArg (fun z => some (Value.int z)) (by rw [own_f7_4, if_pos c3]), N0, rfl⟩
  · skip
    have b4 : (1 : Int32) < (4 : Int32) := (by decide)
    have pre5 : ∀ t, Steps p.tables e below (s₁.setTop (mkF m 22 #[oa a0, oi p1] [(.int p1), (.int w1)])) t → Steps p.tables e below (s₁.setTop (entryFrame m #[(.ref a0), (.int p1)] 2)) t := by
      intro t k
      refine pre2 t ?_
      show oS p e below s₁ m 9 #[oa a0, oi p1] [(.int p1), (.int w0)] _
      refine XS.icmpNo X0.here hx rfl (hb hby own_d7_9) rfl (feq c3).1 ?_
      refine XS.aloadN X0.here hx rfl (hb hby own_d7_12) rfl rfl ?_
      show oS p e below s₁ m 13 #[oa a0, oi p1] [(.ref a0)] _
      refine oLen X0 hx hZ e0 V_a0 (hb hby own_d7_13) ?_
      refine XS.iconst X0.here hx rfl (hb hby own_d7_14) ?_
      show oS p e below s₁ m 15 #[oa a0, oi p1] [(.int (1 : Int32)), (.int (4 : Int32))] _
      refine XS.icmpNo X0.here hx rfl (hb hby own_d7_15) rfl (tlt b4).2.2.2 ?_
      refine XS.aloadN X0.here hx rfl (hb hby own_d7_18) rfl rfl ?_
      refine XS.iconst X0.here hx rfl (hb hby own_d7_19) ?_
      show oS p e below s₁ m 20 #[oa a0, oi p1] [(.int (1 : Int32)), (.ref a0)] _
      refine oLdI X0 hx hZ e0 V_a0 (v := (.int w1)) ⟨by decide, by decide⟩ rfl (hb hby own_d7_20) ?_
      refine XS.iloadN X0.here hx rfl (hb hby own_d7_21) rfl ?_
      exact k
    by_cases c6 : w1 = p1
    · skip
      obtain ⟨fs, hr, hrun, hended, hW, hsame⟩ := X0.leave (v := (some (.int (1 : Int32)))) (fun h => by rw [Bd.returns] at h; cases h)
      refine ⟨_, _, pre5 _ ?_, hrun, hended, _, _, rfl, ?_, ⟨_, rfl⟩, hW, hsame.mono (by decide) (by decide)⟩
      · show oS p e below s₁ m 22 #[oa a0, oi p1] [(.int p1), (.int w1)] _
        refine XS.icmpYes X0.here hx rfl (pc0 := 22) (pc' := 51) rfl (hb hby own_d7_22) rfl (teq c6).1 (by decide) (by decide) ?_
        refine XS.iconst X0.here hx rfl (hb hby own_d7_51) ?_
        refine XS.goto X0.here hx rfl (pc0 := 52) (pc' := 56) rfl (hb hby own_d7_52) (by decide) (by decide) ?_
        show oS p e below s₁ m 56 #[oa a0, oi p1] [(.int (1 : Int32))] _
        exact retN X0 hx (t := .boolean) Bd.returns (by simp) (hb hby own_d7_56) hr
      · show own_Q7_4 Z a0 p1 k_a0 w0 w1 w2 w3 h0 n0 _ s₁.heap _
        rw [e0]
        exact ⟨congrArg (fun z => some (Value.int z)) (by rw [own_f7_4, if_neg c3, if_pos c6]), N0, rfl⟩
    · skip
      have b7 : (2 : Int32) < (4 : Int32) := (by decide)
      have pre8 : ∀ t, Steps p.tables e below (s₁.setTop (mkF m 35 #[oa a0, oi p1] [(.int p1), (.int w2)])) t → Steps p.tables e below (s₁.setTop (entryFrame m #[(.ref a0), (.int p1)] 2)) t := by
        intro t k
        refine pre5 t ?_
        show oS p e below s₁ m 22 #[oa a0, oi p1] [(.int p1), (.int w1)] _
        refine XS.icmpNo X0.here hx rfl (hb hby own_d7_22) rfl (feq c6).1 ?_
        refine XS.aloadN X0.here hx rfl (hb hby own_d7_25) rfl rfl ?_
        show oS p e below s₁ m 26 #[oa a0, oi p1] [(.ref a0)] _
        refine oLen X0 hx hZ e0 V_a0 (hb hby own_d7_26) ?_
        refine XS.iconst X0.here hx rfl (hb hby own_d7_27) ?_
        show oS p e below s₁ m 28 #[oa a0, oi p1] [(.int (2 : Int32)), (.int (4 : Int32))] _
        refine XS.icmpNo X0.here hx rfl (hb hby own_d7_28) rfl (tlt b7).2.2.2 ?_
        refine XS.aloadN X0.here hx rfl (hb hby own_d7_31) rfl rfl ?_
        refine XS.iconst X0.here hx rfl (hb hby own_d7_32) ?_
        show oS p e below s₁ m 33 #[oa a0, oi p1] [(.int (2 : Int32)), (.ref a0)] _
        refine oLdI X0 hx hZ e0 V_a0 (v := (.int w2)) ⟨by decide, by decide⟩ rfl (hb hby own_d7_33) ?_
        refine XS.iloadN X0.here hx rfl (hb hby own_d7_34) rfl ?_
        exact k
      by_cases c9 : w2 = p1
      · skip
        obtain ⟨fs, hr, hrun, hended, hW, hsame⟩ := X0.leave (v := (some (.int (1 : Int32)))) (fun h => by rw [Bd.returns] at h; cases h)
        refine ⟨_, _, pre8 _ ?_, hrun, hended, _, _, rfl, ?_, ⟨_, rfl⟩, hW, hsame.mono (by decide) (by decide)⟩
        · show oS p e below s₁ m 35 #[oa a0, oi p1] [(.int p1), (.int w2)] _
          refine XS.icmpYes X0.here hx rfl (pc0 := 35) (pc' := 51) rfl (hb hby own_d7_35) rfl (teq c9).1 (by decide) (by decide) ?_
          refine XS.iconst X0.here hx rfl (hb hby own_d7_51) ?_
          refine XS.goto X0.here hx rfl (pc0 := 52) (pc' := 56) rfl (hb hby own_d7_52) (by decide) (by decide) ?_
          show oS p e below s₁ m 56 #[oa a0, oi p1] [(.int (1 : Int32))] _
          exact retN X0 hx (t := .boolean) Bd.returns (by simp) (hb hby own_d7_56) hr
        · show own_Q7_4 Z a0 p1 k_a0 w0 w1 w2 w3 h0 n0 _ s₁.heap _
          rw [e0]
          exact ⟨congrArg (fun z => some (Value.int z)) (by rw [own_f7_4, if_neg c3, if_neg c6, if_pos c9]), N0, rfl⟩
      · skip
        have b10 : (3 : Int32) < (4 : Int32) := (by decide)
        have pre11 : ∀ t, Steps p.tables e below (s₁.setTop (mkF m 48 #[oa a0, oi p1] [(.int p1), (.int w3)])) t → Steps p.tables e below (s₁.setTop (entryFrame m #[(.ref a0), (.int p1)] 2)) t := by
          intro t k
          refine pre8 t ?_
          show oS p e below s₁ m 35 #[oa a0, oi p1] [(.int p1), (.int w2)] _
          refine XS.icmpNo X0.here hx rfl (hb hby own_d7_35) rfl (feq c9).1 ?_
          refine XS.aloadN X0.here hx rfl (hb hby own_d7_38) rfl rfl ?_
          show oS p e below s₁ m 39 #[oa a0, oi p1] [(.ref a0)] _
          refine oLen X0 hx hZ e0 V_a0 (hb hby own_d7_39) ?_
          refine XS.iconst X0.here hx rfl (hb hby own_d7_40) ?_
          show oS p e below s₁ m 41 #[oa a0, oi p1] [(.int (3 : Int32)), (.int (4 : Int32))] _
          refine XS.icmpNo X0.here hx rfl (hb hby own_d7_41) rfl (tlt b10).2.2.2 ?_
          refine XS.aloadN X0.here hx rfl (hb hby own_d7_44) rfl rfl ?_
          refine XS.iconst X0.here hx rfl (hb hby own_d7_45) ?_
          show oS p e below s₁ m 46 #[oa a0, oi p1] [(.int (3 : Int32)), (.ref a0)] _
          refine oLdI X0 hx hZ e0 V_a0 (v := (.int w3)) ⟨by decide, by decide⟩ rfl (hb hby own_d7_46) ?_
          refine XS.iloadN X0.here hx rfl (hb hby own_d7_47) rfl ?_
          exact k
        by_cases c12 : w3 = p1
        · skip
          obtain ⟨fs, hr, hrun, hended, hW, hsame⟩ := X0.leave (v := (some (.int (1 : Int32)))) (fun h => by rw [Bd.returns] at h; cases h)
          refine ⟨_, _, pre11 _ ?_, hrun, hended, _, _, rfl, ?_, ⟨_, rfl⟩, hW, hsame.mono (by decide) (by decide)⟩
          · show oS p e below s₁ m 48 #[oa a0, oi p1] [(.int p1), (.int w3)] _
            refine XS.icmpNo X0.here hx rfl (hb hby own_d7_48) rfl (teq c12).2 ?_
            refine XS.iconst X0.here hx rfl (hb hby own_d7_51) ?_
            refine XS.goto X0.here hx rfl (pc0 := 52) (pc' := 56) rfl (hb hby own_d7_52) (by decide) (by decide) ?_
            show oS p e below s₁ m 56 #[oa a0, oi p1] [(.int (1 : Int32))] _
            exact retN X0 hx (t := .boolean) Bd.returns (by simp) (hb hby own_d7_56) hr
          · show own_Q7_4 Z a0 p1 k_a0 w0 w1 w2 w3 h0 n0 _ s₁.heap _
            rw [e0]
            exact ⟨congrArg (fun z => some (Value.int z)) (by rw [own_f7_4, if_neg c3, if_neg c6, if_neg c9, if_pos c12]), N0, rfl⟩
        · skip
          obtain ⟨fs, hr, hrun, hended, hW, hsame⟩ := X0.leave (v := (some (.int (0 : Int32)))) (fun h => by rw [Bd.returns] at h; cases h)
          refine ⟨_, _, pre11 _ ?_, hrun, hended, _, _, rfl, ?_, ⟨_, rfl⟩, hW, hsame.mono (by decide) (by decide)⟩
          · show oS p e below s₁ m 48 #[oa a0, oi p1] [(.int p1), (.int w3)] _
            refine XS.icmpYes X0.here hx rfl (pc0 := 48) (pc' := 55) rfl (hb hby own_d7_48) rfl (feq c12).2 (by decide) (by decide) ?_
            refine XS.iconst X0.here hx rfl (hb hby own_d7_55) ?_
            show oS p e below s₁ m 56 #[oa a0, oi p1] [(.int (0 : Int32))] _
            exact retN X0 hx (t := .boolean) Bd.returns (by simp) (hb hby own_d7_56) hr
          · show own_Q7_4 Z a0 p1 k_a0 w0 w1 w2 w3 h0 n0 _ s₁.heap _
            rw [e0]
            exact ⟨congrArg (fun z => some (Value.int z)) (by rw [own_f7_4, if_neg c3, if_neg c6, if_neg c9, if_neg c12]), N0, rfl⟩
theorem own_d3_0 : decode method_4_code 0 = .ok (.aload_n 0, 1) := by decide +kernel
theorem own_d3_1 : decode method_4_code 1 = .ok (.arraylength, 1) := by decide +kernel
theorem own_d3_2 : decode method_4_code 2 = .ok (.ifCond .le 13, 3) := by decide +kernel
theorem own_d3_15 : decode method_4_code 15 = .ok (.aload_n 0, 1) := by decide +kernel
theorem own_d3_16 : decode method_4_code 16 = .ok (.arraylength, 1) := by decide +kernel
theorem own_d3_17 : decode method_4_code 17 = .ok (.iconst 1, 1) := by decide +kernel
theorem own_d3_18 : decode method_4_code 18 = .ok (.if_icmp .le 17, 3) := by decide +kernel
theorem own_d3_35 : decode method_4_code 35 = .ok (.iconst 0, 1) := by decide +kernel
theorem own_d3_36 : decode method_4_code 36 = .ok (.ireturn, 1) := by decide +kernel
theorem own_ef3_00 (m : MethodId) (a0 : Addr) (a1 : Addr) : entryFrame m #[(.ref a0), (.ref a1)] 2 = mkF m 0 #[oa a0, oa a1] [] := by first | (simp [entryFrame, mkF, argsToLocals, Value.category]; done) | rfl
def own_f3_00  : Int32 := (0 : Int32)
def own_Q3_00 (Z : State) (a0 : Addr) (a1 : Addr) (k_a0 : ClassId) (k_a1 : ClassId) (h0 : Heap) (n0 : Nat) (v : Option Value) (h : Heap) (L : List Loc) : Prop := v = some (Value.int own_f3_00) ∧ Fr n0 L ∧ h = h0
set_option maxRecDepth 65536 in
set_option maxHeartbeats 40000000 in
theorem own_rm3_00 (l : Launch) (Z : State) (av : Array Value) (hw : ∀ d ∈ tables_1, d.before av Z = true) (ws : List Jvm.Cond) (a0 : Addr) (a1 : Addr) (k_a0 : ClassId) (k_a1 : ClassId) (h0 : Heap) (n0 : Nat) (Z0 : n0 ≤ h0.size) (V_a0 : Arv Z h0 a0 k_a0 .int (0 : Int32) [] (.int (0 : Int32))) (V_a1 : Arv Z h0 a1 k_a1 .int (0 : Int32) [] (.int (0 : Int32))) :
    MetFree l (⟨"com/example/strict_anon/strictanon/service/RecordSetsUnionPinLaw", "shares", "([I[I)Z"⟩ : MethodName) (head1 (Jvm.Cond.code (⟨"com/example/strict_anon/strictanon/service/RecordSetsUnionPinLaw", "shares", "([I[I)Z"⟩ : MethodName) method_4_code 2 (some .boolean) :: ws) ({ frames := 0, cells := 0, slots := 0, locals := 0 } : Room)) (fun a U => a = #[(.ref a0), (.ref a1)] ∧ Z.Warmed39 U.vm ∧ U.heap = h0) (fun _ _ _ _ _ => True) (fun _ U o U' => ∃ v L, o = .returned v ∧ own_Q3_00 Z a0 a1 k_a0 k_a1 h0 n0 v U'.heap L ∧ FrameEnd U o U' L ({ frames := 0, cells := 0, slots := 0, locals := 0 } : Room).cells ({ frames := 0, cells := 0, slots := 0, locals := 0 } : Room).slots) := by
  refine MetFree.of_bodySF (plainFor_of_name own_pn0) hisR ?_
  intro p e s m args below meth c s₁ Bd hml0 hP hK
  obtain ⟨rfl, hZ, hh⟩ := hP
  have hx := Bd.exec
  have hby := Bd.bytes
  have hml : c.maxLocals = 2 := hml0
  have hown : s.vm.findClass "com/example/strict_anon/strictanon/service/RecordSetsUnionPinLaw" = some m.cls := findClass_of_methodNamed Bd.named
  have hnm := (name_of_methodNamed Bd.named Bd.method).1
  have X0 : Stand p l e ({ frames := 0, cells := 0, slots := 0, locals := 0 } : Room) s m #[(.ref a0), (.ref a1)] below meth c s₁ [] 0 0 := Stand.of_body Bd
  have e0 : s₁.heap = h0 := by rw [← hh, Bd.state]; rfl
  have N0 := Fr.nil n0
  have pre0 : ∀ t, Steps p.tables e below (s₁.setTop (mkF m 0 #[oa a0, oa a1] [])) t → Steps p.tables e below (s₁.setTop (entryFrame m #[(.ref a0), (.ref a1)] 2)) t := fun t k => castTop (own_ef3_00 m a0 a1) k
  have b1 : ¬ ((0 : Int32) < (0 : Int32)) := (by decide)
  have b2 : ¬ ((1 : Int32) < (0 : Int32)) := (by decide)
  obtain ⟨fs, hr, hrun, hended, hW, hsame⟩ := X0.leave (v := (some (.int (0 : Int32)))) (fun h => by rw [Bd.returns] at h; cases h)
  refine ⟨_, _, pre0 _ ?_, hrun, hended, _, _, rfl, ?_, ⟨_, rfl⟩, hW, hsame.mono (by decide) (by decide)⟩
  · show oS p e below s₁ m 0 #[oa a0, oa a1] [] _
    refine XS.aloadN X0.here hx rfl (hb hby own_d3_0) rfl rfl ?_
    show oS p e below s₁ m 1 #[oa a0, oa a1] [(.ref a0)] _
    refine oLen X0 hx hZ e0 V_a0 (hb hby own_d3_1) ?_
    show oS p e below s₁ m 2 #[oa a0, oa a1] [(.int (0 : Int32))] _
    refine XS.ifYes X0.here hx rfl (pc0 := 2) (pc' := 15) rfl (hb hby own_d3_2) rfl ((if0 _ _).trans (flt b1).2.2.2) (by decide) (by decide) ?_
    refine XS.aloadN X0.here hx rfl (hb hby own_d3_15) rfl rfl ?_
    show oS p e below s₁ m 16 #[oa a0, oa a1] [(.ref a0)] _
    refine oLen X0 hx hZ e0 V_a0 (hb hby own_d3_16) ?_
    refine XS.iconst X0.here hx rfl (hb hby own_d3_17) ?_
    show oS p e below s₁ m 18 #[oa a0, oa a1] [(.int (1 : Int32)), (.int (0 : Int32))] _
    refine XS.icmpYes X0.here hx rfl (pc0 := 18) (pc' := 35) rfl (hb hby own_d3_18) rfl (flt b2).2.2.2 (by decide) (by decide) ?_
    refine XS.iconst X0.here hx rfl (hb hby own_d3_35) ?_
    show oS p e below s₁ m 36 #[oa a0, oa a1] [(.int (0 : Int32))] _
    exact retN X0 hx (t := .boolean) Bd.returns (by simp) (hb hby own_d3_36) hr
  · show own_Q3_00 Z a0 a1 k_a0 k_a1 h0 n0 _ s₁.heap _
    rw [e0]
    exact ⟨congrArg (fun z => some (Value.int z)) (by rw [own_f3_00]), N0, rfl⟩
theorem own_ef3_01 (m : MethodId) (a0 : Addr) (a1 : Addr) : entryFrame m #[(.ref a0), (.ref a1)] 2 = mkF m 0 #[oa a0, oa a1] [] := by first | (simp [entryFrame, mkF, argsToLocals, Value.category]; done) | rfl
def own_f3_01 (y0 : Int32) : Int32 := (0 : Int32)
def own_Q3_01 (Z : State) (a0 : Addr) (a1 : Addr) (k_a0 : ClassId) (k_a1 : ClassId) (y0 : Int32) (h0 : Heap) (n0 : Nat) (v : Option Value) (h : Heap) (L : List Loc) : Prop := v = some (Value.int (own_f3_01 y0)) ∧ Fr n0 L ∧ h = h0
set_option maxRecDepth 65536 in
set_option maxHeartbeats 40000000 in
theorem own_rm3_01 (l : Launch) (Z : State) (av : Array Value) (hw : ∀ d ∈ tables_1, d.before av Z = true) (ws : List Jvm.Cond) (a0 : Addr) (a1 : Addr) (k_a0 : ClassId) (k_a1 : ClassId) (y0 : Int32) (h0 : Heap) (n0 : Nat) (Z0 : n0 ≤ h0.size) (V_a0 : Arv Z h0 a0 k_a0 .int (0 : Int32) [] (.int (0 : Int32))) (V_a1 : Arv Z h0 a1 k_a1 .int (1 : Int32) [(.int y0)] (.int (0 : Int32))) :
    MetFree l (⟨"com/example/strict_anon/strictanon/service/RecordSetsUnionPinLaw", "shares", "([I[I)Z"⟩ : MethodName) (head1 (Jvm.Cond.code (⟨"com/example/strict_anon/strictanon/service/RecordSetsUnionPinLaw", "shares", "([I[I)Z"⟩ : MethodName) method_4_code 2 (some .boolean) :: ws) ({ frames := 0, cells := 0, slots := 0, locals := 0 } : Room)) (fun a U => a = #[(.ref a0), (.ref a1)] ∧ Z.Warmed39 U.vm ∧ U.heap = h0) (fun _ _ _ _ _ => True) (fun _ U o U' => ∃ v L, o = .returned v ∧ own_Q3_01 Z a0 a1 k_a0 k_a1 y0 h0 n0 v U'.heap L ∧ FrameEnd U o U' L ({ frames := 0, cells := 0, slots := 0, locals := 0 } : Room).cells ({ frames := 0, cells := 0, slots := 0, locals := 0 } : Room).slots) := by
  refine MetFree.of_bodySF (plainFor_of_name own_pn0) hisR ?_
  intro p e s m args below meth c s₁ Bd hml0 hP hK
  obtain ⟨rfl, hZ, hh⟩ := hP
  have hx := Bd.exec
  have hby := Bd.bytes
  have hml : c.maxLocals = 2 := hml0
  have hown : s.vm.findClass "com/example/strict_anon/strictanon/service/RecordSetsUnionPinLaw" = some m.cls := findClass_of_methodNamed Bd.named
  have hnm := (name_of_methodNamed Bd.named Bd.method).1
  have X0 : Stand p l e ({ frames := 0, cells := 0, slots := 0, locals := 0 } : Room) s m #[(.ref a0), (.ref a1)] below meth c s₁ [] 0 0 := Stand.of_body Bd
  have e0 : s₁.heap = h0 := by rw [← hh, Bd.state]; rfl
  have N0 := Fr.nil n0
  have pre0 : ∀ t, Steps p.tables e below (s₁.setTop (mkF m 0 #[oa a0, oa a1] [])) t → Steps p.tables e below (s₁.setTop (entryFrame m #[(.ref a0), (.ref a1)] 2)) t := fun t k => castTop (own_ef3_01 m a0 a1) k
  have b1 : ¬ ((0 : Int32) < (0 : Int32)) := (by decide)
  have b2 : ¬ ((1 : Int32) < (0 : Int32)) := (by decide)
  obtain ⟨fs, hr, hrun, hended, hW, hsame⟩ := X0.leave (v := (some (.int (0 : Int32)))) (fun h => by rw [Bd.returns] at h; cases h)
  refine ⟨_, _, pre0 _ ?_, hrun, hended, _, _, rfl, ?_, ⟨_, rfl⟩, hW, hsame.mono (by decide) (by decide)⟩
  · show oS p e below s₁ m 0 #[oa a0, oa a1] [] _
    refine XS.aloadN X0.here hx rfl (hb hby own_d3_0) rfl rfl ?_
    show oS p e below s₁ m 1 #[oa a0, oa a1] [(.ref a0)] _
    refine oLen X0 hx hZ e0 V_a0 (hb hby own_d3_1) ?_
    show oS p e below s₁ m 2 #[oa a0, oa a1] [(.int (0 : Int32))] _
    refine XS.ifYes X0.here hx rfl (pc0 := 2) (pc' := 15) rfl (hb hby own_d3_2) rfl ((if0 _ _).trans (flt b1).2.2.2) (by decide) (by decide) ?_
    refine XS.aloadN X0.here hx rfl (hb hby own_d3_15) rfl rfl ?_
    show oS p e below s₁ m 16 #[oa a0, oa a1] [(.ref a0)] _
    refine oLen X0 hx hZ e0 V_a0 (hb hby own_d3_16) ?_
    refine XS.iconst X0.here hx rfl (hb hby own_d3_17) ?_
    show oS p e below s₁ m 18 #[oa a0, oa a1] [(.int (1 : Int32)), (.int (0 : Int32))] _
    refine XS.icmpYes X0.here hx rfl (pc0 := 18) (pc' := 35) rfl (hb hby own_d3_18) rfl (flt b2).2.2.2 (by decide) (by decide) ?_
    refine XS.iconst X0.here hx rfl (hb hby own_d3_35) ?_
    show oS p e below s₁ m 36 #[oa a0, oa a1] [(.int (0 : Int32))] _
    exact retN X0 hx (t := .boolean) Bd.returns (by simp) (hb hby own_d3_36) hr
  · show own_Q3_01 Z a0 a1 k_a0 k_a1 y0 h0 n0 _ s₁.heap _
    rw [e0]
    exact ⟨congrArg (fun z => some (Value.int z)) (by rw [own_f3_01]), N0, rfl⟩
theorem own_ef3_02 (m : MethodId) (a0 : Addr) (a1 : Addr) : entryFrame m #[(.ref a0), (.ref a1)] 2 = mkF m 0 #[oa a0, oa a1] [] := by first | (simp [entryFrame, mkF, argsToLocals, Value.category]; done) | rfl
def own_f3_02 (y0 : Int32) (y1 : Int32) : Int32 := (0 : Int32)
def own_Q3_02 (Z : State) (a0 : Addr) (a1 : Addr) (k_a0 : ClassId) (k_a1 : ClassId) (y0 : Int32) (y1 : Int32) (h0 : Heap) (n0 : Nat) (v : Option Value) (h : Heap) (L : List Loc) : Prop := v = some (Value.int (own_f3_02 y0 y1)) ∧ Fr n0 L ∧ h = h0
set_option maxRecDepth 65536 in
set_option maxHeartbeats 40000000 in
theorem own_rm3_02 (l : Launch) (Z : State) (av : Array Value) (hw : ∀ d ∈ tables_1, d.before av Z = true) (ws : List Jvm.Cond) (a0 : Addr) (a1 : Addr) (k_a0 : ClassId) (k_a1 : ClassId) (y0 : Int32) (y1 : Int32) (h0 : Heap) (n0 : Nat) (Z0 : n0 ≤ h0.size) (V_a0 : Arv Z h0 a0 k_a0 .int (0 : Int32) [] (.int (0 : Int32))) (V_a1 : Arv Z h0 a1 k_a1 .int (2 : Int32) [(.int y0), (.int y1)] (.int (0 : Int32))) :
    MetFree l (⟨"com/example/strict_anon/strictanon/service/RecordSetsUnionPinLaw", "shares", "([I[I)Z"⟩ : MethodName) (head1 (Jvm.Cond.code (⟨"com/example/strict_anon/strictanon/service/RecordSetsUnionPinLaw", "shares", "([I[I)Z"⟩ : MethodName) method_4_code 2 (some .boolean) :: ws) ({ frames := 0, cells := 0, slots := 0, locals := 0 } : Room)) (fun a U => a = #[(.ref a0), (.ref a1)] ∧ Z.Warmed39 U.vm ∧ U.heap = h0) (fun _ _ _ _ _ => True) (fun _ U o U' => ∃ v L, o = .returned v ∧ own_Q3_02 Z a0 a1 k_a0 k_a1 y0 y1 h0 n0 v U'.heap L ∧ FrameEnd U o U' L ({ frames := 0, cells := 0, slots := 0, locals := 0 } : Room).cells ({ frames := 0, cells := 0, slots := 0, locals := 0 } : Room).slots) := by
  refine MetFree.of_bodySF (plainFor_of_name own_pn0) hisR ?_
  intro p e s m args below meth c s₁ Bd hml0 hP hK
  obtain ⟨rfl, hZ, hh⟩ := hP
  have hx := Bd.exec
  have hby := Bd.bytes
  have hml : c.maxLocals = 2 := hml0
  have hown : s.vm.findClass "com/example/strict_anon/strictanon/service/RecordSetsUnionPinLaw" = some m.cls := findClass_of_methodNamed Bd.named
  have hnm := (name_of_methodNamed Bd.named Bd.method).1
  have X0 : Stand p l e ({ frames := 0, cells := 0, slots := 0, locals := 0 } : Room) s m #[(.ref a0), (.ref a1)] below meth c s₁ [] 0 0 := Stand.of_body Bd
  have e0 : s₁.heap = h0 := by rw [← hh, Bd.state]; rfl
  have N0 := Fr.nil n0
  have pre0 : ∀ t, Steps p.tables e below (s₁.setTop (mkF m 0 #[oa a0, oa a1] [])) t → Steps p.tables e below (s₁.setTop (entryFrame m #[(.ref a0), (.ref a1)] 2)) t := fun t k => castTop (own_ef3_02 m a0 a1) k
  have b1 : ¬ ((0 : Int32) < (0 : Int32)) := (by decide)
  have b2 : ¬ ((1 : Int32) < (0 : Int32)) := (by decide)
  obtain ⟨fs, hr, hrun, hended, hW, hsame⟩ := X0.leave (v := (some (.int (0 : Int32)))) (fun h => by rw [Bd.returns] at h; cases h)
  refine ⟨_, _, pre0 _ ?_, hrun, hended, _, _, rfl, ?_, ⟨_, rfl⟩, hW, hsame.mono (by decide) (by decide)⟩
  · show oS p e below s₁ m 0 #[oa a0, oa a1] [] _
    refine XS.aloadN X0.here hx rfl (hb hby own_d3_0) rfl rfl ?_
    show oS p e below s₁ m 1 #[oa a0, oa a1] [(.ref a0)] _
    refine oLen X0 hx hZ e0 V_a0 (hb hby own_d3_1) ?_
    show oS p e below s₁ m 2 #[oa a0, oa a1] [(.int (0 : Int32))] _
    refine XS.ifYes X0.here hx rfl (pc0 := 2) (pc' := 15) rfl (hb hby own_d3_2) rfl ((if0 _ _).trans (flt b1).2.2.2) (by decide) (by decide) ?_
    refine XS.aloadN X0.here hx rfl (hb hby own_d3_15) rfl rfl ?_
    show oS p e below s₁ m 16 #[oa a0, oa a1] [(.ref a0)] _
    refine oLen X0 hx hZ e0 V_a0 (hb hby own_d3_16) ?_
    refine XS.iconst X0.here hx rfl (hb hby own_d3_17) ?_
    show oS p e below s₁ m 18 #[oa a0, oa a1] [(.int (1 : Int32)), (.int (0 : Int32))] _
    refine XS.icmpYes X0.here hx rfl (pc0 := 18) (pc' := 35) rfl (hb hby own_d3_18) rfl (flt b2).2.2.2 (by decide) (by decide) ?_
    refine XS.iconst X0.here hx rfl (hb hby own_d3_35) ?_
    show oS p e below s₁ m 36 #[oa a0, oa a1] [(.int (0 : Int32))] _
    exact retN X0 hx (t := .boolean) Bd.returns (by simp) (hb hby own_d3_36) hr
  · show own_Q3_02 Z a0 a1 k_a0 k_a1 y0 y1 h0 n0 _ s₁.heap _
    rw [e0]
    exact ⟨congrArg (fun z => some (Value.int z)) (by rw [own_f3_02]), N0, rfl⟩
theorem own_pd0 : parseMethodDescriptor "([II)Z" = some ⟨[(.array .int), .int], some .boolean⟩ := by decide +kernel
theorem own_d3_5 : decode method_4_code 5 = .ok (.aload_n 1, 1) := by decide +kernel
theorem own_d3_6 : decode method_4_code 6 = .ok (.aload_n 0, 1) := by decide +kernel
theorem own_d3_7 : decode method_4_code 7 = .ok (.iconst 0, 1) := by decide +kernel
theorem own_d3_8 : decode method_4_code 8 = .ok (.iaload, 1) := by decide +kernel
theorem own_d3_9 : decode method_4_code 9 = .ok (.invokestatic 36, 3) := by decide +kernel
theorem own_d3_12 : decode method_4_code 12 = .ok (.ifCond .ne 19, 3) := by decide +kernel
theorem own_d3_31 : decode method_4_code 31 = .ok (.iconst 1, 1) := by decide +kernel
theorem own_d3_32 : decode method_4_code 32 = .ok (.goto 4, 3) := by decide +kernel
theorem own_ef3_10 (m : MethodId) (a0 : Addr) (a1 : Addr) : entryFrame m #[(.ref a0), (.ref a1)] 2 = mkF m 0 #[oa a0, oa a1] [] := by first | (simp [entryFrame, mkF, argsToLocals, Value.category]; done) | rfl
def own_f3_10 (x0 : Int32) : Int32 := (if (own_f7_0 x0) = (0 : Int32) then (0 : Int32) else (1 : Int32))
def own_Q3_10 (Z : State) (a0 : Addr) (a1 : Addr) (k_a0 : ClassId) (x0 : Int32) (k_a1 : ClassId) (h0 : Heap) (n0 : Nat) (v : Option Value) (h : Heap) (L : List Loc) : Prop := v = some (Value.int (own_f3_10 x0)) ∧ Fr n0 L ∧ h = h0
set_option maxRecDepth 65536 in
set_option maxHeartbeats 40000000 in
theorem own_rm3_10 (l : Launch) (Z : State) (av : Array Value) (hw : ∀ d ∈ tables_1, d.before av Z = true) (ws : List Jvm.Cond) (a0 : Addr) (a1 : Addr) (k_a0 : ClassId) (x0 : Int32) (k_a1 : ClassId) (h0 : Heap) (n0 : Nat) (Z0 : n0 ≤ h0.size) (V_a0 : Arv Z h0 a0 k_a0 .int (1 : Int32) [(.int x0)] (.int (0 : Int32))) (V_a1 : Arv Z h0 a1 k_a1 .int (0 : Int32) [] (.int (0 : Int32))) :
    MetFree l (⟨"com/example/strict_anon/strictanon/service/RecordSetsUnionPinLaw", "shares", "([I[I)Z"⟩ : MethodName) (head1 (Jvm.Cond.code (⟨"com/example/strict_anon/strictanon/service/RecordSetsUnionPinLaw", "shares", "([I[I)Z"⟩ : MethodName) method_4_code 2 (some .boolean) :: ws) ({ frames := 1, cells := 0, slots := 0, locals := 13 } : Room)) (fun a U => a = #[(.ref a0), (.ref a1)] ∧ Z.Warmed39 U.vm ∧ U.heap = h0) (fun _ _ _ _ _ => True) (fun _ U o U' => ∃ v L, o = .returned v ∧ own_Q3_10 Z a0 a1 k_a0 x0 k_a1 h0 n0 v U'.heap L ∧ FrameEnd U o U' L ({ frames := 1, cells := 0, slots := 0, locals := 13 } : Room).cells ({ frames := 1, cells := 0, slots := 0, locals := 13 } : Room).slots) := by
  refine MetFree.of_bodySF (plainFor_of_name own_pn0) hisR ?_
  intro p e s m args below meth c s₁ Bd hml0 hP hK
  obtain ⟨rfl, hZ, hh⟩ := hP
  have hx := Bd.exec
  have hby := Bd.bytes
  have hml : c.maxLocals = 2 := hml0
  have hown : s.vm.findClass "com/example/strict_anon/strictanon/service/RecordSetsUnionPinLaw" = some m.cls := findClass_of_methodNamed Bd.named
  have hnm := (name_of_methodNamed Bd.named Bd.method).1
  have X0 : Stand p l e ({ frames := 1, cells := 0, slots := 0, locals := 13 } : Room) s m #[(.ref a0), (.ref a1)] below meth c s₁ [] 0 0 := Stand.of_body Bd
  have e0 : s₁.heap = h0 := by rw [← hh, Bd.state]; rfl
  have N0 := Fr.nil n0
  have pre0 : ∀ t, Steps p.tables e below (s₁.setTop (mkF m 0 #[oa a0, oa a1] [])) t → Steps p.tables e below (s₁.setTop (entryFrame m #[(.ref a0), (.ref a1)] 2)) t := fun t k => castTop (own_ef3_10 m a0 a1) k
  have b1 : (0 : Int32) < (1 : Int32) := (by decide)
  obtain ⟨_, _, ⟨T2, L2, k2, n2⟩, -, X2, ⟨Lc2, hQ2, l2, y2, z2⟩, st2⟩ := Jvm.LawKit.callS X0 hx (y := (⟨"com/example/strict_anon/strictanon/service/RecordSetsUnionPinLaw", "contains", "([II)Z"⟩ : MethodName)) hown (mvT hZ (hw _ (List.mem_of_getElem? (i := 23) rfl))) (mvT hZ (hw _ (List.mem_of_getElem? (i := 24) rfl))) (mvT hZ (hw _ (List.mem_of_getElem? (i := 11) rfl))) (mvT hZ (hw _ (List.mem_of_getElem? (i := 25) rfl))) (by decide) (backOf (W := 0) (own_rm7_0 l Z av hw [] a1 x0 k_a1 h0 n0 Z0 V_a1) hZ (hw _ (List.mem_of_getElem? (i := 25) rfl)) (hw _ (List.mem_of_getElem? (i := 11) rfl)) (by decide) (by decide)) (g := (mkF m 9 #[oa a0, oa a1] [(.int x0), (.ref a1)])) rfl (by rw [hml]; rfl) (argsL := [(.ref a1), (.int x0)]) (rest := []) (lenOf own_pd0 rfl) rfl (by show 2 * 0 + _ ≤ _; exact Nat.le_of_eq rfl) (hb hby own_d3_9) (fun _ _ => ⟨rfl, e0, (by decide : 0 + 0 ≤ _), (by decide : 0 + 0 ≤ _)⟩)
  dsimp only [Pt.U, Pt.locs, Pt.cells, Pt.slots] at X2 l2 y2 z2 st2 hQ2
  have yq2 : k2 = 0 := y2
  have zq2 : n2 = 0 := z2
  subst yq2 zq2
  obtain ⟨rfl, Nq2, eq2⟩ := hQ2
  have N2 : Fr n0 L2 := by rw [l2]; exact Fr.app N0 Nq2
  have pre3 : ∀ t, Steps p.tables e below (T2.setTop (mkF m 12 #[oa a0, oa a1] [(.int (own_f7_0 x0))])) t → Steps p.tables e below (s₁.setTop (entryFrame m #[(.ref a0), (.ref a1)] 2)) t := by
    intro t k
    refine pre0 t ?_
    show oS p e below s₁ m 0 #[oa a0, oa a1] [] _
    refine XS.aloadN X0.here hx rfl (hb hby own_d3_0) rfl rfl ?_
    show oS p e below s₁ m 1 #[oa a0, oa a1] [(.ref a0)] _
    refine oLen X0 hx hZ e0 V_a0 (hb hby own_d3_1) ?_
    show oS p e below s₁ m 2 #[oa a0, oa a1] [(.int (1 : Int32))] _
    refine XS.ifNo X0.here hx rfl (hb hby own_d3_2) rfl ((if0 _ _).trans (tlt b1).2.2.2) ?_
    refine XS.aloadN X0.here hx rfl (hb hby own_d3_5) rfl rfl ?_
    refine XS.aloadN X0.here hx rfl (hb hby own_d3_6) rfl rfl ?_
    refine XS.iconst X0.here hx rfl (hb hby own_d3_7) ?_
    show oS p e below s₁ m 8 #[oa a0, oa a1] [(.int (0 : Int32)), (.ref a0), (.ref a1)] _
    refine oLdI X0 hx hZ e0 V_a0 (v := (.int x0)) ⟨by decide, by decide⟩ rfl (hb hby own_d3_8) ?_
    show oS p e below s₁ m 9 #[oa a0, oa a1] [(.int x0), (.ref a1)] _
    refine st2 _ ?_
    exact k
  by_cases c4 : (own_f7_0 x0) = (0 : Int32)
  · skip
    have b5 : ¬ ((1 : Int32) < (1 : Int32)) := (by decide)
    obtain ⟨fs, hr, hrun, hended, hW, hsame⟩ := X2.leave (v := (some (.int (0 : Int32)))) (fun h => by rw [Bd.returns] at h; cases h)
    refine ⟨_, _, pre3 _ ?_, hrun, hended, _, _, rfl, ?_, ⟨_, rfl⟩, hW, hsame.mono (by decide) (by decide)⟩
    · show oS p e below T2 m 12 #[oa a0, oa a1] [(.int (own_f7_0 x0))] _
      refine XS.ifNo X2.here hx rfl (hb hby own_d3_12) rfl ((if0 _ _).trans (teq c4).2) ?_
      refine XS.aloadN X2.here hx rfl (hb hby own_d3_15) rfl rfl ?_
      show oS p e below T2 m 16 #[oa a0, oa a1] [(.ref a0)] _
      refine oLen X2 hx hZ eq2 V_a0 (hb hby own_d3_16) ?_
      refine XS.iconst X2.here hx rfl (hb hby own_d3_17) ?_
      show oS p e below T2 m 18 #[oa a0, oa a1] [(.int (1 : Int32)), (.int (1 : Int32))] _
      refine XS.icmpYes X2.here hx rfl (pc0 := 18) (pc' := 35) rfl (hb hby own_d3_18) rfl (flt b5).2.2.2 (by decide) (by decide) ?_
      refine XS.iconst X2.here hx rfl (hb hby own_d3_35) ?_
      show oS p e below T2 m 36 #[oa a0, oa a1] [(.int (0 : Int32))] _
      exact retN X2 hx (t := .boolean) Bd.returns (by simp) (hb hby own_d3_36) hr
    · show own_Q3_10 Z a0 a1 k_a0 x0 k_a1 h0 n0 _ T2.heap _
      rw [eq2]
      exact ⟨congrArg (fun z => some (Value.int z)) (by rw [own_f3_10, if_pos c4]), N2, rfl⟩
  · skip
    obtain ⟨fs, hr, hrun, hended, hW, hsame⟩ := X2.leave (v := (some (.int (1 : Int32)))) (fun h => by rw [Bd.returns] at h; cases h)
    refine ⟨_, _, pre3 _ ?_, hrun, hended, _, _, rfl, ?_, ⟨_, rfl⟩, hW, hsame.mono (by decide) (by decide)⟩
    · show oS p e below T2 m 12 #[oa a0, oa a1] [(.int (own_f7_0 x0))] _
      refine XS.ifYes X2.here hx rfl (pc0 := 12) (pc' := 31) rfl (hb hby own_d3_12) rfl ((if0 _ _).trans (feq c4).2) (by decide) (by decide) ?_
      refine XS.iconst X2.here hx rfl (hb hby own_d3_31) ?_
      refine XS.goto X2.here hx rfl (pc0 := 32) (pc' := 36) rfl (hb hby own_d3_32) (by decide) (by decide) ?_
      show oS p e below T2 m 36 #[oa a0, oa a1] [(.int (1 : Int32))] _
      exact retN X2 hx (t := .boolean) Bd.returns (by simp) (hb hby own_d3_36) hr
    · show own_Q3_10 Z a0 a1 k_a0 x0 k_a1 h0 n0 _ T2.heap _
      rw [eq2]
      exact ⟨congrArg (fun z => some (Value.int z)) (by rw [own_f3_10, if_neg c4]), N2, rfl⟩
theorem own_ef3_11 (m : MethodId) (a0 : Addr) (a1 : Addr) : entryFrame m #[(.ref a0), (.ref a1)] 2 = mkF m 0 #[oa a0, oa a1] [] := by first | (simp [entryFrame, mkF, argsToLocals, Value.category]; done) | rfl
def own_f3_11 (x0 : Int32) (y0 : Int32) : Int32 := (if (own_f7_1 y0 x0) = (0 : Int32) then (0 : Int32) else (1 : Int32))
def own_Q3_11 (Z : State) (a0 : Addr) (a1 : Addr) (k_a0 : ClassId) (x0 : Int32) (k_a1 : ClassId) (y0 : Int32) (h0 : Heap) (n0 : Nat) (v : Option Value) (h : Heap) (L : List Loc) : Prop := v = some (Value.int (own_f3_11 x0 y0)) ∧ Fr n0 L ∧ h = h0
set_option maxRecDepth 65536 in
set_option maxHeartbeats 40000000 in
theorem own_rm3_11 (l : Launch) (Z : State) (av : Array Value) (hw : ∀ d ∈ tables_1, d.before av Z = true) (ws : List Jvm.Cond) (a0 : Addr) (a1 : Addr) (k_a0 : ClassId) (x0 : Int32) (k_a1 : ClassId) (y0 : Int32) (h0 : Heap) (n0 : Nat) (Z0 : n0 ≤ h0.size) (V_a0 : Arv Z h0 a0 k_a0 .int (1 : Int32) [(.int x0)] (.int (0 : Int32))) (V_a1 : Arv Z h0 a1 k_a1 .int (1 : Int32) [(.int y0)] (.int (0 : Int32))) :
    MetFree l (⟨"com/example/strict_anon/strictanon/service/RecordSetsUnionPinLaw", "shares", "([I[I)Z"⟩ : MethodName) (head1 (Jvm.Cond.code (⟨"com/example/strict_anon/strictanon/service/RecordSetsUnionPinLaw", "shares", "([I[I)Z"⟩ : MethodName) method_4_code 2 (some .boolean) :: ws) ({ frames := 1, cells := 0, slots := 0, locals := 13 } : Room)) (fun a U => a = #[(.ref a0), (.ref a1)] ∧ Z.Warmed39 U.vm ∧ U.heap = h0) (fun _ _ _ _ _ => True) (fun _ U o U' => ∃ v L, o = .returned v ∧ own_Q3_11 Z a0 a1 k_a0 x0 k_a1 y0 h0 n0 v U'.heap L ∧ FrameEnd U o U' L ({ frames := 1, cells := 0, slots := 0, locals := 13 } : Room).cells ({ frames := 1, cells := 0, slots := 0, locals := 13 } : Room).slots) := by
  refine MetFree.of_bodySF (plainFor_of_name own_pn0) hisR ?_
  intro p e s m args below meth c s₁ Bd hml0 hP hK
  obtain ⟨rfl, hZ, hh⟩ := hP
  have hx := Bd.exec
  have hby := Bd.bytes
  have hml : c.maxLocals = 2 := hml0
  have hown : s.vm.findClass "com/example/strict_anon/strictanon/service/RecordSetsUnionPinLaw" = some m.cls := findClass_of_methodNamed Bd.named
  have hnm := (name_of_methodNamed Bd.named Bd.method).1
  have X0 : Stand p l e ({ frames := 1, cells := 0, slots := 0, locals := 13 } : Room) s m #[(.ref a0), (.ref a1)] below meth c s₁ [] 0 0 := Stand.of_body Bd
  have e0 : s₁.heap = h0 := by rw [← hh, Bd.state]; rfl
  have N0 := Fr.nil n0
  have pre0 : ∀ t, Steps p.tables e below (s₁.setTop (mkF m 0 #[oa a0, oa a1] [])) t → Steps p.tables e below (s₁.setTop (entryFrame m #[(.ref a0), (.ref a1)] 2)) t := fun t k => castTop (own_ef3_11 m a0 a1) k
  have b1 : (0 : Int32) < (1 : Int32) := (by decide)
  obtain ⟨_, _, ⟨T2, L2, k2, n2⟩, -, X2, ⟨Lc2, hQ2, l2, y2, z2⟩, st2⟩ := Jvm.LawKit.callS X0 hx (y := (⟨"com/example/strict_anon/strictanon/service/RecordSetsUnionPinLaw", "contains", "([II)Z"⟩ : MethodName)) hown (mvT hZ (hw _ (List.mem_of_getElem? (i := 23) rfl))) (mvT hZ (hw _ (List.mem_of_getElem? (i := 24) rfl))) (mvT hZ (hw _ (List.mem_of_getElem? (i := 11) rfl))) (mvT hZ (hw _ (List.mem_of_getElem? (i := 25) rfl))) (by decide) (backOf (W := 0) (own_rm7_1 l Z av hw [] a1 x0 k_a1 y0 h0 n0 Z0 V_a1) hZ (hw _ (List.mem_of_getElem? (i := 25) rfl)) (hw _ (List.mem_of_getElem? (i := 11) rfl)) (by decide) (by decide)) (g := (mkF m 9 #[oa a0, oa a1] [(.int x0), (.ref a1)])) rfl (by rw [hml]; rfl) (argsL := [(.ref a1), (.int x0)]) (rest := []) (lenOf own_pd0 rfl) rfl (by show 2 * 0 + _ ≤ _; exact Nat.le_of_eq rfl) (hb hby own_d3_9) (fun _ _ => ⟨rfl, e0, (by decide : 0 + 0 ≤ _), (by decide : 0 + 0 ≤ _)⟩)
  dsimp only [Pt.U, Pt.locs, Pt.cells, Pt.slots] at X2 l2 y2 z2 st2 hQ2
  have yq2 : k2 = 0 := y2
  have zq2 : n2 = 0 := z2
  subst yq2 zq2
  obtain ⟨rfl, Nq2, eq2⟩ := hQ2
  have N2 : Fr n0 L2 := by rw [l2]; exact Fr.app N0 Nq2
  have pre3 : ∀ t, Steps p.tables e below (T2.setTop (mkF m 12 #[oa a0, oa a1] [(.int (own_f7_1 y0 x0))])) t → Steps p.tables e below (s₁.setTop (entryFrame m #[(.ref a0), (.ref a1)] 2)) t := by
    intro t k
    refine pre0 t ?_
    show oS p e below s₁ m 0 #[oa a0, oa a1] [] _
    refine XS.aloadN X0.here hx rfl (hb hby own_d3_0) rfl rfl ?_
    show oS p e below s₁ m 1 #[oa a0, oa a1] [(.ref a0)] _
    refine oLen X0 hx hZ e0 V_a0 (hb hby own_d3_1) ?_
    show oS p e below s₁ m 2 #[oa a0, oa a1] [(.int (1 : Int32))] _
    refine XS.ifNo X0.here hx rfl (hb hby own_d3_2) rfl ((if0 _ _).trans (tlt b1).2.2.2) ?_
    refine XS.aloadN X0.here hx rfl (hb hby own_d3_5) rfl rfl ?_
    refine XS.aloadN X0.here hx rfl (hb hby own_d3_6) rfl rfl ?_
    refine XS.iconst X0.here hx rfl (hb hby own_d3_7) ?_
    show oS p e below s₁ m 8 #[oa a0, oa a1] [(.int (0 : Int32)), (.ref a0), (.ref a1)] _
    refine oLdI X0 hx hZ e0 V_a0 (v := (.int x0)) ⟨by decide, by decide⟩ rfl (hb hby own_d3_8) ?_
    show oS p e below s₁ m 9 #[oa a0, oa a1] [(.int x0), (.ref a1)] _
    refine st2 _ ?_
    exact k
  by_cases c4 : (own_f7_1 y0 x0) = (0 : Int32)
  · skip
    have b5 : ¬ ((1 : Int32) < (1 : Int32)) := (by decide)
    obtain ⟨fs, hr, hrun, hended, hW, hsame⟩ := X2.leave (v := (some (.int (0 : Int32)))) (fun h => by rw [Bd.returns] at h; cases h)
    refine ⟨_, _, pre3 _ ?_, hrun, hended, _, _, rfl, ?_, ⟨_, rfl⟩, hW, hsame.mono (by decide) (by decide)⟩
    · show oS p e below T2 m 12 #[oa a0, oa a1] [(.int (own_f7_1 y0 x0))] _
      refine XS.ifNo X2.here hx rfl (hb hby own_d3_12) rfl ((if0 _ _).trans (teq c4).2) ?_
      refine XS.aloadN X2.here hx rfl (hb hby own_d3_15) rfl rfl ?_
      show oS p e below T2 m 16 #[oa a0, oa a1] [(.ref a0)] _
      refine oLen X2 hx hZ eq2 V_a0 (hb hby own_d3_16) ?_
      refine XS.iconst X2.here hx rfl (hb hby own_d3_17) ?_
      show oS p e below T2 m 18 #[oa a0, oa a1] [(.int (1 : Int32)), (.int (1 : Int32))] _
      refine XS.icmpYes X2.here hx rfl (pc0 := 18) (pc' := 35) rfl (hb hby own_d3_18) rfl (flt b5).2.2.2 (by decide) (by decide) ?_
      refine XS.iconst X2.here hx rfl (hb hby own_d3_35) ?_
      show oS p e below T2 m 36 #[oa a0, oa a1] [(.int (0 : Int32))] _
      exact retN X2 hx (t := .boolean) Bd.returns (by simp) (hb hby own_d3_36) hr
    · show own_Q3_11 Z a0 a1 k_a0 x0 k_a1 y0 h0 n0 _ T2.heap _
      rw [eq2]
      exact ⟨congrArg (fun z => some (Value.int z)) (by rw [own_f3_11, if_pos c4]), N2, rfl⟩
  · skip
    obtain ⟨fs, hr, hrun, hended, hW, hsame⟩ := X2.leave (v := (some (.int (1 : Int32)))) (fun h => by rw [Bd.returns] at h; cases h)
    refine ⟨_, _, pre3 _ ?_, hrun, hended, _, _, rfl, ?_, ⟨_, rfl⟩, hW, hsame.mono (by decide) (by decide)⟩
    · show oS p e below T2 m 12 #[oa a0, oa a1] [(.int (own_f7_1 y0 x0))] _
      refine XS.ifYes X2.here hx rfl (pc0 := 12) (pc' := 31) rfl (hb hby own_d3_12) rfl ((if0 _ _).trans (feq c4).2) (by decide) (by decide) ?_
      refine XS.iconst X2.here hx rfl (hb hby own_d3_31) ?_
      refine XS.goto X2.here hx rfl (pc0 := 32) (pc' := 36) rfl (hb hby own_d3_32) (by decide) (by decide) ?_
      show oS p e below T2 m 36 #[oa a0, oa a1] [(.int (1 : Int32))] _
      exact retN X2 hx (t := .boolean) Bd.returns (by simp) (hb hby own_d3_36) hr
    · show own_Q3_11 Z a0 a1 k_a0 x0 k_a1 y0 h0 n0 _ T2.heap _
      rw [eq2]
      exact ⟨congrArg (fun z => some (Value.int z)) (by rw [own_f3_11, if_neg c4]), N2, rfl⟩
theorem own_ef3_12 (m : MethodId) (a0 : Addr) (a1 : Addr) : entryFrame m #[(.ref a0), (.ref a1)] 2 = mkF m 0 #[oa a0, oa a1] [] := by first | (simp [entryFrame, mkF, argsToLocals, Value.category]; done) | rfl
def own_f3_12 (x0 : Int32) (y0 : Int32) (y1 : Int32) : Int32 := (if (own_f7_2 y0 y1 x0) = (0 : Int32) then (0 : Int32) else (1 : Int32))
def own_Q3_12 (Z : State) (a0 : Addr) (a1 : Addr) (k_a0 : ClassId) (x0 : Int32) (k_a1 : ClassId) (y0 : Int32) (y1 : Int32) (h0 : Heap) (n0 : Nat) (v : Option Value) (h : Heap) (L : List Loc) : Prop := v = some (Value.int (own_f3_12 x0 y0 y1)) ∧ Fr n0 L ∧ h = h0
set_option maxRecDepth 65536 in
set_option maxHeartbeats 40000000 in
theorem own_rm3_12 (l : Launch) (Z : State) (av : Array Value) (hw : ∀ d ∈ tables_1, d.before av Z = true) (ws : List Jvm.Cond) (a0 : Addr) (a1 : Addr) (k_a0 : ClassId) (x0 : Int32) (k_a1 : ClassId) (y0 : Int32) (y1 : Int32) (h0 : Heap) (n0 : Nat) (Z0 : n0 ≤ h0.size) (V_a0 : Arv Z h0 a0 k_a0 .int (1 : Int32) [(.int x0)] (.int (0 : Int32))) (V_a1 : Arv Z h0 a1 k_a1 .int (2 : Int32) [(.int y0), (.int y1)] (.int (0 : Int32))) :
    MetFree l (⟨"com/example/strict_anon/strictanon/service/RecordSetsUnionPinLaw", "shares", "([I[I)Z"⟩ : MethodName) (head1 (Jvm.Cond.code (⟨"com/example/strict_anon/strictanon/service/RecordSetsUnionPinLaw", "shares", "([I[I)Z"⟩ : MethodName) method_4_code 2 (some .boolean) :: ws) ({ frames := 1, cells := 0, slots := 0, locals := 13 } : Room)) (fun a U => a = #[(.ref a0), (.ref a1)] ∧ Z.Warmed39 U.vm ∧ U.heap = h0) (fun _ _ _ _ _ => True) (fun _ U o U' => ∃ v L, o = .returned v ∧ own_Q3_12 Z a0 a1 k_a0 x0 k_a1 y0 y1 h0 n0 v U'.heap L ∧ FrameEnd U o U' L ({ frames := 1, cells := 0, slots := 0, locals := 13 } : Room).cells ({ frames := 1, cells := 0, slots := 0, locals := 13 } : Room).slots) := by
  refine MetFree.of_bodySF (plainFor_of_name own_pn0) hisR ?_
  intro p e s m args below meth c s₁ Bd hml0 hP hK
  obtain ⟨rfl, hZ, hh⟩ := hP
  have hx := Bd.exec
  have hby := Bd.bytes
  have hml : c.maxLocals = 2 := hml0
  have hown : s.vm.findClass "com/example/strict_anon/strictanon/service/RecordSetsUnionPinLaw" = some m.cls := findClass_of_methodNamed Bd.named
  have hnm := (name_of_methodNamed Bd.named Bd.method).1
  have X0 : Stand p l e ({ frames := 1, cells := 0, slots := 0, locals := 13 } : Room) s m #[(.ref a0), (.ref a1)] below meth c s₁ [] 0 0 := Stand.of_body Bd
  have e0 : s₁.heap = h0 := by rw [← hh, Bd.state]; rfl
  have N0 := Fr.nil n0
  have pre0 : ∀ t, Steps p.tables e below (s₁.setTop (mkF m 0 #[oa a0, oa a1] [])) t → Steps p.tables e below (s₁.setTop (entryFrame m #[(.ref a0), (.ref a1)] 2)) t := fun t k => castTop (own_ef3_12 m a0 a1) k
  have b1 : (0 : Int32) < (1 : Int32) := (by decide)
  obtain ⟨_, _, ⟨T2, L2, k2, n2⟩, -, X2, ⟨Lc2, hQ2, l2, y2, z2⟩, st2⟩ := Jvm.LawKit.callS X0 hx (y := (⟨"com/example/strict_anon/strictanon/service/RecordSetsUnionPinLaw", "contains", "([II)Z"⟩ : MethodName)) hown (mvT hZ (hw _ (List.mem_of_getElem? (i := 23) rfl))) (mvT hZ (hw _ (List.mem_of_getElem? (i := 24) rfl))) (mvT hZ (hw _ (List.mem_of_getElem? (i := 11) rfl))) (mvT hZ (hw _ (List.mem_of_getElem? (i := 25) rfl))) (by decide) (backOf (W := 0) (own_rm7_2 l Z av hw [] a1 x0 k_a1 y0 y1 h0 n0 Z0 V_a1) hZ (hw _ (List.mem_of_getElem? (i := 25) rfl)) (hw _ (List.mem_of_getElem? (i := 11) rfl)) (by decide) (by decide)) (g := (mkF m 9 #[oa a0, oa a1] [(.int x0), (.ref a1)])) rfl (by rw [hml]; rfl) (argsL := [(.ref a1), (.int x0)]) (rest := []) (lenOf own_pd0 rfl) rfl (by show 2 * 0 + _ ≤ _; exact Nat.le_of_eq rfl) (hb hby own_d3_9) (fun _ _ => ⟨rfl, e0, (by decide : 0 + 0 ≤ _), (by decide : 0 + 0 ≤ _)⟩)
  dsimp only [Pt.U, Pt.locs, Pt.cells, Pt.slots] at X2 l2 y2 z2 st2 hQ2
  have yq2 : k2 = 0 := y2
  have zq2 : n2 = 0 := z2
  subst yq2 zq2
  obtain ⟨rfl, Nq2, eq2⟩ := hQ2
  have N2 : Fr n0 L2 := by rw [l2]; exact Fr.app N0 Nq2
  have pre3 : ∀ t, Steps p.tables e below (T2.setTop (mkF m 12 #[oa a0, oa a1] [(.int (own_f7_2 y0 y1 x0))])) t → Steps p.tables e below (s₁.setTop (entryFrame m #[(.ref a0), (.ref a1)] 2)) t := by
    intro t k
    refine pre0 t ?_
    show oS p e below s₁ m 0 #[oa a0, oa a1] [] _
    refine XS.aloadN X0.here hx rfl (hb hby own_d3_0) rfl rfl ?_
    show oS p e below s₁ m 1 #[oa a0, oa a1] [(.ref a0)] _
    refine oLen X0 hx hZ e0 V_a0 (hb hby own_d3_1) ?_
    show oS p e below s₁ m 2 #[oa a0, oa a1] [(.int (1 : Int32))] _
    refine XS.ifNo X0.here hx rfl (hb hby own_d3_2) rfl ((if0 _ _).trans (tlt b1).2.2.2) ?_
    refine XS.aloadN X0.here hx rfl (hb hby own_d3_5) rfl rfl ?_
    refine XS.aloadN X0.here hx rfl (hb hby own_d3_6) rfl rfl ?_
    refine XS.iconst X0.here hx rfl (hb hby own_d3_7) ?_
    show oS p e below s₁ m 8 #[oa a0, oa a1] [(.int (0 : Int32)), (.ref a0), (.ref a1)] _
    refine oLdI X0 hx hZ e0 V_a0 (v := (.int x0)) ⟨by decide, by decide⟩ rfl (hb hby own_d3_8) ?_
    show oS p e below s₁ m 9 #[oa a0, oa a1] [(.int x0), (.ref a1)] _
    refine st2 _ ?_
    exact k
  by_cases c4 : (own_f7_2 y0 y1 x0) = (0 : Int32)
  · skip
    have b5 : ¬ ((1 : Int32) < (1 : Int32)) := (by decide)
    obtain ⟨fs, hr, hrun, hended, hW, hsame⟩ := X2.leave (v := (some (.int (0 : Int32)))) (fun h => by rw [Bd.returns] at h; cases h)
    refine ⟨_, _, pre3 _ ?_, hrun, hended, _, _, rfl, ?_, ⟨_, rfl⟩, hW, hsame.mono (by decide) (by decide)⟩
    · show oS p e below T2 m 12 #[oa a0, oa a1] [(.int (own_f7_2 y0 y1 x0))] _
      refine XS.ifNo X2.here hx rfl (hb hby own_d3_12) rfl ((if0 _ _).trans (teq c4).2) ?_
      refine XS.aloadN X2.here hx rfl (hb hby own_d3_15) rfl rfl ?_
      show oS p e below T2 m 16 #[oa a0, oa a1] [(.ref a0)] _
      refine oLen X2 hx hZ eq2 V_a0 (hb hby own_d3_16) ?_
      refine XS.iconst X2.here hx rfl (hb hby own_d3_17) ?_
      show oS p e below T2 m 18 #[oa a0, oa a1] [(.int (1 : Int32)), (.int (1 : Int32))] _
      refine XS.icmpYes X2.here hx rfl (pc0 := 18) (pc' := 35) rfl (hb hby own_d3_18) rfl (flt b5).2.2.2 (by decide) (by decide) ?_
      refine XS.iconst X2.here hx rfl (hb hby own_d3_35) ?_
      show oS p e below T2 m 36 #[oa a0, oa a1] [(.int (0 : Int32))] _
      exact retN X2 hx (t := .boolean) Bd.returns (by simp) (hb hby own_d3_36) hr
    · show own_Q3_12 Z a0 a1 k_a0 x0 k_a1 y0 y1 h0 n0 _ T2.heap _
      rw [eq2]
      exact ⟨congrArg (fun z => some (Value.int z)) (by rw [own_f3_12, if_pos c4]), N2, rfl⟩
  · skip
    obtain ⟨fs, hr, hrun, hended, hW, hsame⟩ := X2.leave (v := (some (.int (1 : Int32)))) (fun h => by rw [Bd.returns] at h; cases h)
    refine ⟨_, _, pre3 _ ?_, hrun, hended, _, _, rfl, ?_, ⟨_, rfl⟩, hW, hsame.mono (by decide) (by decide)⟩
    · show oS p e below T2 m 12 #[oa a0, oa a1] [(.int (own_f7_2 y0 y1 x0))] _
      refine XS.ifYes X2.here hx rfl (pc0 := 12) (pc' := 31) rfl (hb hby own_d3_12) rfl ((if0 _ _).trans (feq c4).2) (by decide) (by decide) ?_
      refine XS.iconst X2.here hx rfl (hb hby own_d3_31) ?_
      refine XS.goto X2.here hx rfl (pc0 := 32) (pc' := 36) rfl (hb hby own_d3_32) (by decide) (by decide) ?_
      show oS p e below T2 m 36 #[oa a0, oa a1] [(.int (1 : Int32))] _
      exact retN X2 hx (t := .boolean) Bd.returns (by simp) (hb hby own_d3_36) hr
    · show own_Q3_12 Z a0 a1 k_a0 x0 k_a1 y0 y1 h0 n0 _ T2.heap _
      rw [eq2]
      exact ⟨congrArg (fun z => some (Value.int z)) (by rw [own_f3_12, if_neg c4]), N2, rfl⟩
theorem own_d3_21 : decode method_4_code 21 = .ok (.aload_n 1, 1) := by decide +kernel
theorem own_d3_22 : decode method_4_code 22 = .ok (.aload_n 0, 1) := by decide +kernel
theorem own_d3_23 : decode method_4_code 23 = .ok (.iconst 1, 1) := by decide +kernel
theorem own_d3_24 : decode method_4_code 24 = .ok (.iaload, 1) := by decide +kernel
theorem own_d3_25 : decode method_4_code 25 = .ok (.invokestatic 36, 3) := by decide +kernel
theorem own_d3_28 : decode method_4_code 28 = .ok (.ifCond .eq 7, 3) := by decide +kernel
theorem own_ef3_20 (m : MethodId) (a0 : Addr) (a1 : Addr) : entryFrame m #[(.ref a0), (.ref a1)] 2 = mkF m 0 #[oa a0, oa a1] [] := by first | (simp [entryFrame, mkF, argsToLocals, Value.category]; done) | rfl
def own_f3_20 (x0 : Int32) (x1 : Int32) : Int32 := (if (own_f7_0 x0) = (0 : Int32) then (if (own_f7_0 x1) = (0 : Int32) then (0 : Int32) else (1 : Int32)) else (1 : Int32))
def own_Q3_20 (Z : State) (a0 : Addr) (a1 : Addr) (k_a0 : ClassId) (x0 : Int32) (x1 : Int32) (k_a1 : ClassId) (h0 : Heap) (n0 : Nat) (v : Option Value) (h : Heap) (L : List Loc) : Prop := v = some (Value.int (own_f3_20 x0 x1)) ∧ Fr n0 L ∧ h = h0
set_option maxRecDepth 65536 in
set_option maxHeartbeats 40000000 in
theorem own_rm3_20 (l : Launch) (Z : State) (av : Array Value) (hw : ∀ d ∈ tables_1, d.before av Z = true) (ws : List Jvm.Cond) (a0 : Addr) (a1 : Addr) (k_a0 : ClassId) (x0 : Int32) (x1 : Int32) (k_a1 : ClassId) (h0 : Heap) (n0 : Nat) (Z0 : n0 ≤ h0.size) (V_a0 : Arv Z h0 a0 k_a0 .int (2 : Int32) [(.int x0), (.int x1)] (.int (0 : Int32))) (V_a1 : Arv Z h0 a1 k_a1 .int (0 : Int32) [] (.int (0 : Int32))) :
    MetFree l (⟨"com/example/strict_anon/strictanon/service/RecordSetsUnionPinLaw", "shares", "([I[I)Z"⟩ : MethodName) (head1 (Jvm.Cond.code (⟨"com/example/strict_anon/strictanon/service/RecordSetsUnionPinLaw", "shares", "([I[I)Z"⟩ : MethodName) method_4_code 2 (some .boolean) :: ws) ({ frames := 1, cells := 0, slots := 0, locals := 13 } : Room)) (fun a U => a = #[(.ref a0), (.ref a1)] ∧ Z.Warmed39 U.vm ∧ U.heap = h0) (fun _ _ _ _ _ => True) (fun _ U o U' => ∃ v L, o = .returned v ∧ own_Q3_20 Z a0 a1 k_a0 x0 x1 k_a1 h0 n0 v U'.heap L ∧ FrameEnd U o U' L ({ frames := 1, cells := 0, slots := 0, locals := 13 } : Room).cells ({ frames := 1, cells := 0, slots := 0, locals := 13 } : Room).slots) := by
  refine MetFree.of_bodySF (plainFor_of_name own_pn0) hisR ?_
  intro p e s m args below meth c s₁ Bd hml0 hP hK
  obtain ⟨rfl, hZ, hh⟩ := hP
  have hx := Bd.exec
  have hby := Bd.bytes
  have hml : c.maxLocals = 2 := hml0
  have hown : s.vm.findClass "com/example/strict_anon/strictanon/service/RecordSetsUnionPinLaw" = some m.cls := findClass_of_methodNamed Bd.named
  have hnm := (name_of_methodNamed Bd.named Bd.method).1
  have X0 : Stand p l e ({ frames := 1, cells := 0, slots := 0, locals := 13 } : Room) s m #[(.ref a0), (.ref a1)] below meth c s₁ [] 0 0 := Stand.of_body Bd
  have e0 : s₁.heap = h0 := by rw [← hh, Bd.state]; rfl
  have N0 := Fr.nil n0
  have pre0 : ∀ t, Steps p.tables e below (s₁.setTop (mkF m 0 #[oa a0, oa a1] [])) t → Steps p.tables e below (s₁.setTop (entryFrame m #[(.ref a0), (.ref a1)] 2)) t := fun t k => castTop (own_ef3_20 m a0 a1) k
  have b1 : (0 : Int32) < (2 : Int32) := (by decide)
  obtain ⟨_, _, ⟨T2, L2, k2, n2⟩, -, X2, ⟨Lc2, hQ2, l2, y2, z2⟩, st2⟩ := Jvm.LawKit.callS X0 hx (y := (⟨"com/example/strict_anon/strictanon/service/RecordSetsUnionPinLaw", "contains", "([II)Z"⟩ : MethodName)) hown (mvT hZ (hw _ (List.mem_of_getElem? (i := 23) rfl))) (mvT hZ (hw _ (List.mem_of_getElem? (i := 24) rfl))) (mvT hZ (hw _ (List.mem_of_getElem? (i := 11) rfl))) (mvT hZ (hw _ (List.mem_of_getElem? (i := 25) rfl))) (by decide) (backOf (W := 0) (own_rm7_0 l Z av hw [] a1 x0 k_a1 h0 n0 Z0 V_a1) hZ (hw _ (List.mem_of_getElem? (i := 25) rfl)) (hw _ (List.mem_of_getElem? (i := 11) rfl)) (by decide) (by decide)) (g := (mkF m 9 #[oa a0, oa a1] [(.int x0), (.ref a1)])) rfl (by rw [hml]; rfl) (argsL := [(.ref a1), (.int x0)]) (rest := []) (lenOf own_pd0 rfl) rfl (by show 2 * 0 + _ ≤ _; exact Nat.le_of_eq rfl) (hb hby own_d3_9) (fun _ _ => ⟨rfl, e0, (by decide : 0 + 0 ≤ _), (by decide : 0 + 0 ≤ _)⟩)
  dsimp only [Pt.U, Pt.locs, Pt.cells, Pt.slots] at X2 l2 y2 z2 st2 hQ2
  have yq2 : k2 = 0 := y2
  have zq2 : n2 = 0 := z2
  subst yq2 zq2
  obtain ⟨rfl, Nq2, eq2⟩ := hQ2
  have N2 : Fr n0 L2 := by rw [l2]; exact Fr.app N0 Nq2
  have pre3 : ∀ t, Steps p.tables e below (T2.setTop (mkF m 12 #[oa a0, oa a1] [(.int (own_f7_0 x0))])) t → Steps p.tables e below (s₁.setTop (entryFrame m #[(.ref a0), (.ref a1)] 2)) t := by
    intro t k
    refine pre0 t ?_
    show oS p e below s₁ m 0 #[oa a0, oa a1] [] _
    refine XS.aloadN X0.here hx rfl (hb hby own_d3_0) rfl rfl ?_
    show oS p e below s₁ m 1 #[oa a0, oa a1] [(.ref a0)] _
    refine oLen X0 hx hZ e0 V_a0 (hb hby own_d3_1) ?_
    show oS p e below s₁ m 2 #[oa a0, oa a1] [(.int (2 : Int32))] _
    refine XS.ifNo X0.here hx rfl (hb hby own_d3_2) rfl ((if0 _ _).trans (tlt b1).2.2.2) ?_
    refine XS.aloadN X0.here hx rfl (hb hby own_d3_5) rfl rfl ?_
    refine XS.aloadN X0.here hx rfl (hb hby own_d3_6) rfl rfl ?_
    refine XS.iconst X0.here hx rfl (hb hby own_d3_7) ?_
    show oS p e below s₁ m 8 #[oa a0, oa a1] [(.int (0 : Int32)), (.ref a0), (.ref a1)] _
    refine oLdI X0 hx hZ e0 V_a0 (v := (.int x0)) ⟨by decide, by decide⟩ rfl (hb hby own_d3_8) ?_
    show oS p e below s₁ m 9 #[oa a0, oa a1] [(.int x0), (.ref a1)] _
    refine st2 _ ?_
    exact k
  by_cases c4 : (own_f7_0 x0) = (0 : Int32)
  · skip
    have b5 : (1 : Int32) < (2 : Int32) := (by decide)
    obtain ⟨_, _, ⟨T6, L6, k6, n6⟩, -, X6, ⟨Lc6, hQ6, l6, y6, z6⟩, st6⟩ := Jvm.LawKit.callS X2 hx (y := (⟨"com/example/strict_anon/strictanon/service/RecordSetsUnionPinLaw", "contains", "([II)Z"⟩ : MethodName)) hown (mvT hZ (hw _ (List.mem_of_getElem? (i := 23) rfl))) (mvT hZ (hw _ (List.mem_of_getElem? (i := 24) rfl))) (mvT hZ (hw _ (List.mem_of_getElem? (i := 11) rfl))) (mvT hZ (hw _ (List.mem_of_getElem? (i := 25) rfl))) (by decide) (backOf (W := 0) (own_rm7_0 l Z av hw [] a1 x1 k_a1 h0 n0 Z0 V_a1) hZ (hw _ (List.mem_of_getElem? (i := 25) rfl)) (hw _ (List.mem_of_getElem? (i := 11) rfl)) (by decide) (by decide)) (g := (mkF m 25 #[oa a0, oa a1] [(.int x1), (.ref a1)])) rfl (by rw [hml]; rfl) (argsL := [(.ref a1), (.int x1)]) (rest := []) (lenOf own_pd0 rfl) rfl (by show 2 * 0 + _ ≤ _; exact Nat.le_of_eq rfl) (hb hby own_d3_25) (fun _ _ => ⟨rfl, eq2, (by decide : 0 + 0 ≤ _), (by decide : 0 + 0 ≤ _)⟩)
    dsimp only [Pt.U, Pt.locs, Pt.cells, Pt.slots] at X6 l6 y6 z6 st6 hQ6
    have yq6 : k6 = 0 := y6
    have zq6 : n6 = 0 := z6
    subst yq6 zq6
    obtain ⟨rfl, Nq6, eq6⟩ := hQ6
    have N6 : Fr n0 L6 := by rw [l6]; exact Fr.app N2 Nq6
    have pre7 : ∀ t, Steps p.tables e below (T6.setTop (mkF m 28 #[oa a0, oa a1] [(.int (own_f7_0 x1))])) t → Steps p.tables e below (s₁.setTop (entryFrame m #[(.ref a0), (.ref a1)] 2)) t := by
      intro t k
      refine pre3 t ?_
      show oS p e below T2 m 12 #[oa a0, oa a1] [(.int (own_f7_0 x0))] _
      refine XS.ifNo X2.here hx rfl (hb hby own_d3_12) rfl ((if0 _ _).trans (teq c4).2) ?_
      refine XS.aloadN X2.here hx rfl (hb hby own_d3_15) rfl rfl ?_
      show oS p e below T2 m 16 #[oa a0, oa a1] [(.ref a0)] _
      refine oLen X2 hx hZ eq2 V_a0 (hb hby own_d3_16) ?_
      refine XS.iconst X2.here hx rfl (hb hby own_d3_17) ?_
      show oS p e below T2 m 18 #[oa a0, oa a1] [(.int (1 : Int32)), (.int (2 : Int32))] _
      refine XS.icmpNo X2.here hx rfl (hb hby own_d3_18) rfl (tlt b5).2.2.2 ?_
      refine XS.aloadN X2.here hx rfl (hb hby own_d3_21) rfl rfl ?_
      refine XS.aloadN X2.here hx rfl (hb hby own_d3_22) rfl rfl ?_
      refine XS.iconst X2.here hx rfl (hb hby own_d3_23) ?_
      show oS p e below T2 m 24 #[oa a0, oa a1] [(.int (1 : Int32)), (.ref a0), (.ref a1)] _
      refine oLdI X2 hx hZ eq2 V_a0 (v := (.int x1)) ⟨by decide, by decide⟩ rfl (hb hby own_d3_24) ?_
      show oS p e below T2 m 25 #[oa a0, oa a1] [(.int x1), (.ref a1)] _
      refine st6 _ ?_
      exact k
    by_cases c8 : (own_f7_0 x1) = (0 : Int32)
    · skip
      obtain ⟨fs, hr, hrun, hended, hW, hsame⟩ := X6.leave (v := (some (.int (0 : Int32)))) (fun h => by rw [Bd.returns] at h; cases h)
      refine ⟨_, _, pre7 _ ?_, hrun, hended, _, _, rfl, ?_, ⟨_, rfl⟩, hW, hsame.mono (by decide) (by decide)⟩
      · show oS p e below T6 m 28 #[oa a0, oa a1] [(.int (own_f7_0 x1))] _
        refine XS.ifYes X6.here hx rfl (pc0 := 28) (pc' := 35) rfl (hb hby own_d3_28) rfl ((if0 _ _).trans (teq c8).1) (by decide) (by decide) ?_
        refine XS.iconst X6.here hx rfl (hb hby own_d3_35) ?_
        show oS p e below T6 m 36 #[oa a0, oa a1] [(.int (0 : Int32))] _
        exact retN X6 hx (t := .boolean) Bd.returns (by simp) (hb hby own_d3_36) hr
      · show own_Q3_20 Z a0 a1 k_a0 x0 x1 k_a1 h0 n0 _ T6.heap _
        rw [eq6]
        exact ⟨congrArg (fun z => some (Value.int z)) (by rw [own_f3_20, if_pos c4, if_pos c8]), N6, rfl⟩
    · skip
      obtain ⟨fs, hr, hrun, hended, hW, hsame⟩ := X6.leave (v := (some (.int (1 : Int32)))) (fun h => by rw [Bd.returns] at h; cases h)
      refine ⟨_, _, pre7 _ ?_, hrun, hended, _, _, rfl, ?_, ⟨_, rfl⟩, hW, hsame.mono (by decide) (by decide)⟩
      · show oS p e below T6 m 28 #[oa a0, oa a1] [(.int (own_f7_0 x1))] _
        refine XS.ifNo X6.here hx rfl (hb hby own_d3_28) rfl ((if0 _ _).trans (feq c8).1) ?_
        refine XS.iconst X6.here hx rfl (hb hby own_d3_31) ?_
        refine XS.goto X6.here hx rfl (pc0 := 32) (pc' := 36) rfl (hb hby own_d3_32) (by decide) (by decide) ?_
        show oS p e below T6 m 36 #[oa a0, oa a1] [(.int (1 : Int32))] _
        exact retN X6 hx (t := .boolean) Bd.returns (by simp) (hb hby own_d3_36) hr
      · show own_Q3_20 Z a0 a1 k_a0 x0 x1 k_a1 h0 n0 _ T6.heap _
        rw [eq6]
        exact ⟨congrArg (fun z => some (Value.int z)) (by rw [own_f3_20, if_pos c4, if_neg c8]), N6, rfl⟩
  · skip
    obtain ⟨fs, hr, hrun, hended, hW, hsame⟩ := X2.leave (v := (some (.int (1 : Int32)))) (fun h => by rw [Bd.returns] at h; cases h)
    refine ⟨_, _, pre3 _ ?_, hrun, hended, _, _, rfl, ?_, ⟨_, rfl⟩, hW, hsame.mono (by decide) (by decide)⟩
    · show oS p e below T2 m 12 #[oa a0, oa a1] [(.int (own_f7_0 x0))] _
      refine XS.ifYes X2.here hx rfl (pc0 := 12) (pc' := 31) rfl (hb hby own_d3_12) rfl ((if0 _ _).trans (feq c4).2) (by decide) (by decide) ?_
      refine XS.iconst X2.here hx rfl (hb hby own_d3_31) ?_
      refine XS.goto X2.here hx rfl (pc0 := 32) (pc' := 36) rfl (hb hby own_d3_32) (by decide) (by decide) ?_
      show oS p e below T2 m 36 #[oa a0, oa a1] [(.int (1 : Int32))] _
      exact retN X2 hx (t := .boolean) Bd.returns (by simp) (hb hby own_d3_36) hr
    · show own_Q3_20 Z a0 a1 k_a0 x0 x1 k_a1 h0 n0 _ T2.heap _
      rw [eq2]
      exact ⟨congrArg (fun z => some (Value.int z)) (by rw [own_f3_20, if_neg c4]), N2, rfl⟩
theorem own_ef3_21 (m : MethodId) (a0 : Addr) (a1 : Addr) : entryFrame m #[(.ref a0), (.ref a1)] 2 = mkF m 0 #[oa a0, oa a1] [] := by first | (simp [entryFrame, mkF, argsToLocals, Value.category]; done) | rfl
def own_f3_21 (x0 : Int32) (x1 : Int32) (y0 : Int32) : Int32 := (if (own_f7_1 y0 x0) = (0 : Int32) then (if (own_f7_1 y0 x1) = (0 : Int32) then (0 : Int32) else (1 : Int32)) else (1 : Int32))
def own_Q3_21 (Z : State) (a0 : Addr) (a1 : Addr) (k_a0 : ClassId) (x0 : Int32) (x1 : Int32) (k_a1 : ClassId) (y0 : Int32) (h0 : Heap) (n0 : Nat) (v : Option Value) (h : Heap) (L : List Loc) : Prop := v = some (Value.int (own_f3_21 x0 x1 y0)) ∧ Fr n0 L ∧ h = h0
set_option maxRecDepth 65536 in
set_option maxHeartbeats 40000000 in
theorem own_rm3_21 (l : Launch) (Z : State) (av : Array Value) (hw : ∀ d ∈ tables_1, d.before av Z = true) (ws : List Jvm.Cond) (a0 : Addr) (a1 : Addr) (k_a0 : ClassId) (x0 : Int32) (x1 : Int32) (k_a1 : ClassId) (y0 : Int32) (h0 : Heap) (n0 : Nat) (Z0 : n0 ≤ h0.size) (V_a0 : Arv Z h0 a0 k_a0 .int (2 : Int32) [(.int x0), (.int x1)] (.int (0 : Int32))) (V_a1 : Arv Z h0 a1 k_a1 .int (1 : Int32) [(.int y0)] (.int (0 : Int32))) :
    MetFree l (⟨"com/example/strict_anon/strictanon/service/RecordSetsUnionPinLaw", "shares", "([I[I)Z"⟩ : MethodName) (head1 (Jvm.Cond.code (⟨"com/example/strict_anon/strictanon/service/RecordSetsUnionPinLaw", "shares", "([I[I)Z"⟩ : MethodName) method_4_code 2 (some .boolean) :: ws) ({ frames := 1, cells := 0, slots := 0, locals := 13 } : Room)) (fun a U => a = #[(.ref a0), (.ref a1)] ∧ Z.Warmed39 U.vm ∧ U.heap = h0) (fun _ _ _ _ _ => True) (fun _ U o U' => ∃ v L, o = .returned v ∧ own_Q3_21 Z a0 a1 k_a0 x0 x1 k_a1 y0 h0 n0 v U'.heap L ∧ FrameEnd U o U' L ({ frames := 1, cells := 0, slots := 0, locals := 13 } : Room).cells ({ frames := 1, cells := 0, slots := 0, locals := 13 } : Room).slots) := by
  refine MetFree.of_bodySF (plainFor_of_name own_pn0) hisR ?_
  intro p e s m args below meth c s₁ Bd hml0 hP hK
  obtain ⟨rfl, hZ, hh⟩ := hP
  have hx := Bd.exec
  have hby := Bd.bytes
  have hml : c.maxLocals = 2 := hml0
  have hown : s.vm.findClass "com/example/strict_anon/strictanon/service/RecordSetsUnionPinLaw" = some m.cls := findClass_of_methodNamed Bd.named
  have hnm := (name_of_methodNamed Bd.named Bd.method).1
  have X0 : Stand p l e ({ frames := 1, cells := 0, slots := 0, locals := 13 } : Room) s m #[(.ref a0), (.ref a1)] below meth c s₁ [] 0 0 := Stand.of_body Bd
  have e0 : s₁.heap = h0 := by rw [← hh, Bd.state]; rfl
  have N0 := Fr.nil n0
  have pre0 : ∀ t, Steps p.tables e below (s₁.setTop (mkF m 0 #[oa a0, oa a1] [])) t → Steps p.tables e below (s₁.setTop (entryFrame m #[(.ref a0), (.ref a1)] 2)) t := fun t k => castTop (own_ef3_21 m a0 a1) k
  have b1 : (0 : Int32) < (2 : Int32) := (by decide)
  obtain ⟨_, _, ⟨T2, L2, k2, n2⟩, -, X2, ⟨Lc2, hQ2, l2, y2, z2⟩, st2⟩ := Jvm.LawKit.callS X0 hx (y := (⟨"com/example/strict_anon/strictanon/service/RecordSetsUnionPinLaw", "contains", "([II)Z"⟩ : MethodName)) hown (mvT hZ (hw _ (List.mem_of_getElem? (i := 23) rfl))) (mvT hZ (hw _ (List.mem_of_getElem? (i := 24) rfl))) (mvT hZ (hw _ (List.mem_of_getElem? (i := 11) rfl))) (mvT hZ (hw _ (List.mem_of_getElem? (i := 25) rfl))) (by decide) (backOf (W := 0) (own_rm7_1 l Z av hw [] a1 x0 k_a1 y0 h0 n0 Z0 V_a1) hZ (hw _ (List.mem_of_getElem? (i := 25) rfl)) (hw _ (List.mem_of_getElem? (i := 11) rfl)) (by decide) (by decide)) (g := (mkF m 9 #[oa a0, oa a1] [(.int x0), (.ref a1)])) rfl (by rw [hml]; rfl) (argsL := [(.ref a1), (.int x0)]) (rest := []) (lenOf own_pd0 rfl) rfl (by show 2 * 0 + _ ≤ _; exact Nat.le_of_eq rfl) (hb hby own_d3_9) (fun _ _ => ⟨rfl, e0, (by decide : 0 + 0 ≤ _), (by decide : 0 + 0 ≤ _)⟩)
  dsimp only [Pt.U, Pt.locs, Pt.cells, Pt.slots] at X2 l2 y2 z2 st2 hQ2
  have yq2 : k2 = 0 := y2
  have zq2 : n2 = 0 := z2
  subst yq2 zq2
  obtain ⟨rfl, Nq2, eq2⟩ := hQ2
  have N2 : Fr n0 L2 := by rw [l2]; exact Fr.app N0 Nq2
  have pre3 : ∀ t, Steps p.tables e below (T2.setTop (mkF m 12 #[oa a0, oa a1] [(.int (own_f7_1 y0 x0))])) t → Steps p.tables e below (s₁.setTop (entryFrame m #[(.ref a0), (.ref a1)] 2)) t := by
    intro t k
    refine pre0 t ?_
    show oS p e below s₁ m 0 #[oa a0, oa a1] [] _
    refine XS.aloadN X0.here hx rfl (hb hby own_d3_0) rfl rfl ?_
    show oS p e below s₁ m 1 #[oa a0, oa a1] [(.ref a0)] _
    refine oLen X0 hx hZ e0 V_a0 (hb hby own_d3_1) ?_
    show oS p e below s₁ m 2 #[oa a0, oa a1] [(.int (2 : Int32))] _
    refine XS.ifNo X0.here hx rfl (hb hby own_d3_2) rfl ((if0 _ _).trans (tlt b1).2.2.2) ?_
    refine XS.aloadN X0.here hx rfl (hb hby own_d3_5) rfl rfl ?_
    refine XS.aloadN X0.here hx rfl (hb hby own_d3_6) rfl rfl ?_
    refine XS.iconst X0.here hx rfl (hb hby own_d3_7) ?_
    show oS p e below s₁ m 8 #[oa a0, oa a1] [(.int (0 : Int32)), (.ref a0), (.ref a1)] _
    refine oLdI X0 hx hZ e0 V_a0 (v := (.int x0)) ⟨by decide, by decide⟩ rfl (hb hby own_d3_8) ?_
    show oS p e below s₁ m 9 #[oa a0, oa a1] [(.int x0), (.ref a1)] _
    refine st2 _ ?_
    exact k
  by_cases c4 : (own_f7_1 y0 x0) = (0 : Int32)
  · skip
    have b5 : (1 : Int32) < (2 : Int32) := (by decide)
    obtain ⟨_, _, ⟨T6, L6, k6, n6⟩, -, X6, ⟨Lc6, hQ6, l6, y6, z6⟩, st6⟩ := Jvm.LawKit.callS X2 hx (y := (⟨"com/example/strict_anon/strictanon/service/RecordSetsUnionPinLaw", "contains", "([II)Z"⟩ : MethodName)) hown (mvT hZ (hw _ (List.mem_of_getElem? (i := 23) rfl))) (mvT hZ (hw _ (List.mem_of_getElem? (i := 24) rfl))) (mvT hZ (hw _ (List.mem_of_getElem? (i := 11) rfl))) (mvT hZ (hw _ (List.mem_of_getElem? (i := 25) rfl))) (by decide) (backOf (W := 0) (own_rm7_1 l Z av hw [] a1 x1 k_a1 y0 h0 n0 Z0 V_a1) hZ (hw _ (List.mem_of_getElem? (i := 25) rfl)) (hw _ (List.mem_of_getElem? (i := 11) rfl)) (by decide) (by decide)) (g := (mkF m 25 #[oa a0, oa a1] [(.int x1), (.ref a1)])) rfl (by rw [hml]; rfl) (argsL := [(.ref a1), (.int x1)]) (rest := []) (lenOf own_pd0 rfl) rfl (by show 2 * 0 + _ ≤ _; exact Nat.le_of_eq rfl) (hb hby own_d3_25) (fun _ _ => ⟨rfl, eq2, (by decide : 0 + 0 ≤ _), (by decide : 0 + 0 ≤ _)⟩)
    dsimp only [Pt.U, Pt.locs, Pt.cells, Pt.slots] at X6 l6 y6 z6 st6 hQ6
    have yq6 : k6 = 0 := y6
    have zq6 : n6 = 0 := z6
    subst yq6 zq6
    obtain ⟨rfl, Nq6, eq6⟩ := hQ6
    have N6 : Fr n0 L6 := by rw [l6]; exact Fr.app N2 Nq6
    have pre7 : ∀ t, Steps p.tables e below (T6.setTop (mkF m 28 #[oa a0, oa a1] [(.int (own_f7_1 y0 x1))])) t → Steps p.tables e below (s₁.setTop (entryFrame m #[(.ref a0), (.ref a1)] 2)) t := by
      intro t k
      refine pre3 t ?_
      show oS p e below T2 m 12 #[oa a0, oa a1] [(.int (own_f7_1 y0 x0))] _
      refine XS.ifNo X2.here hx rfl (hb hby own_d3_12) rfl ((if0 _ _).trans (teq c4).2) ?_
      refine XS.aloadN X2.here hx rfl (hb hby own_d3_15) rfl rfl ?_
      show oS p e below T2 m 16 #[oa a0, oa a1] [(.ref a0)] _
      refine oLen X2 hx hZ eq2 V_a0 (hb hby own_d3_16) ?_
      refine XS.iconst X2.here hx rfl (hb hby own_d3_17) ?_
      show oS p e below T2 m 18 #[oa a0, oa a1] [(.int (1 : Int32)), (.int (2 : Int32))] _
      refine XS.icmpNo X2.here hx rfl (hb hby own_d3_18) rfl (tlt b5).2.2.2 ?_
      refine XS.aloadN X2.here hx rfl (hb hby own_d3_21) rfl rfl ?_
      refine XS.aloadN X2.here hx rfl (hb hby own_d3_22) rfl rfl ?_
      refine XS.iconst X2.here hx rfl (hb hby own_d3_23) ?_
      show oS p e below T2 m 24 #[oa a0, oa a1] [(.int (1 : Int32)), (.ref a0), (.ref a1)] _
      refine oLdI X2 hx hZ eq2 V_a0 (v := (.int x1)) ⟨by decide, by decide⟩ rfl (hb hby own_d3_24) ?_
      show oS p e below T2 m 25 #[oa a0, oa a1] [(.int x1), (.ref a1)] _
      refine st6 _ ?_
      exact k
    by_cases c8 : (own_f7_1 y0 x1) = (0 : Int32)
    · skip
      obtain ⟨fs, hr, hrun, hended, hW, hsame⟩ := X6.leave (v := (some (.int (0 : Int32)))) (fun h => by rw [Bd.returns] at h; cases h)
      refine ⟨_, _, pre7 _ ?_, hrun, hended, _, _, rfl, ?_, ⟨_, rfl⟩, hW, hsame.mono (by decide) (by decide)⟩
      · show oS p e below T6 m 28 #[oa a0, oa a1] [(.int (own_f7_1 y0 x1))] _
        refine XS.ifYes X6.here hx rfl (pc0 := 28) (pc' := 35) rfl (hb hby own_d3_28) rfl ((if0 _ _).trans (teq c8).1) (by decide) (by decide) ?_
        refine XS.iconst X6.here hx rfl (hb hby own_d3_35) ?_
        show oS p e below T6 m 36 #[oa a0, oa a1] [(.int (0 : Int32))] _
        exact retN X6 hx (t := .boolean) Bd.returns (by simp) (hb hby own_d3_36) hr
      · show own_Q3_21 Z a0 a1 k_a0 x0 x1 k_a1 y0 h0 n0 _ T6.heap _
        rw [eq6]
        exact ⟨congrArg (fun z => some (Value.int z)) (by rw [own_f3_21, if_pos c4, if_pos c8]), N6, rfl⟩
    · skip
      obtain ⟨fs, hr, hrun, hended, hW, hsame⟩ := X6.leave (v := (some (.int (1 : Int32)))) (fun h => by rw [Bd.returns] at h; cases h)
      refine ⟨_, _, pre7 _ ?_, hrun, hended, _, _, rfl, ?_, ⟨_, rfl⟩, hW, hsame.mono (by decide) (by decide)⟩
      · show oS p e below T6 m 28 #[oa a0, oa a1] [(.int (own_f7_1 y0 x1))] _
        refine XS.ifNo X6.here hx rfl (hb hby own_d3_28) rfl ((if0 _ _).trans (feq c8).1) ?_
        refine XS.iconst X6.here hx rfl (hb hby own_d3_31) ?_
        refine XS.goto X6.here hx rfl (pc0 := 32) (pc' := 36) rfl (hb hby own_d3_32) (by decide) (by decide) ?_
        show oS p e below T6 m 36 #[oa a0, oa a1] [(.int (1 : Int32))] _
        exact retN X6 hx (t := .boolean) Bd.returns (by simp) (hb hby own_d3_36) hr
      · show own_Q3_21 Z a0 a1 k_a0 x0 x1 k_a1 y0 h0 n0 _ T6.heap _
        rw [eq6]
        exact ⟨congrArg (fun z => some (Value.int z)) (by rw [own_f3_21, if_pos c4, if_neg c8]), N6, rfl⟩
  · skip
    obtain ⟨fs, hr, hrun, hended, hW, hsame⟩ := X2.leave (v := (some (.int (1 : Int32)))) (fun h => by rw [Bd.returns] at h; cases h)
    refine ⟨_, _, pre3 _ ?_, hrun, hended, _, _, rfl, ?_, ⟨_, rfl⟩, hW, hsame.mono (by decide) (by decide)⟩
    · show oS p e below T2 m 12 #[oa a0, oa a1] [(.int (own_f7_1 y0 x0))] _
      refine XS.ifYes X2.here hx rfl (pc0 := 12) (pc' := 31) rfl (hb hby own_d3_12) rfl ((if0 _ _).trans (feq c4).2) (by decide) (by decide) ?_
      refine XS.iconst X2.here hx rfl (hb hby own_d3_31) ?_
      refine XS.goto X2.here hx rfl (pc0 := 32) (pc' := 36) rfl (hb hby own_d3_32) (by decide) (by decide) ?_
      show oS p e below T2 m 36 #[oa a0, oa a1] [(.int (1 : Int32))] _
      exact retN X2 hx (t := .boolean) Bd.returns (by simp) (hb hby own_d3_36) hr
    · show own_Q3_21 Z a0 a1 k_a0 x0 x1 k_a1 y0 h0 n0 _ T2.heap _
      rw [eq2]
      exact ⟨congrArg (fun z => some (Value.int z)) (by rw [own_f3_21, if_neg c4]), N2, rfl⟩
theorem own_ef3_22 (m : MethodId) (a0 : Addr) (a1 : Addr) : entryFrame m #[(.ref a0), (.ref a1)] 2 = mkF m 0 #[oa a0, oa a1] [] := by first | (simp [entryFrame, mkF, argsToLocals, Value.category]; done) | rfl
def own_f3_22 (x0 : Int32) (x1 : Int32) (y0 : Int32) (y1 : Int32) : Int32 := (if (own_f7_2 y0 y1 x0) = (0 : Int32) then (if (own_f7_2 y0 y1 x1) = (0 : Int32) then (0 : Int32) else (1 : Int32)) else (1 : Int32))
def own_Q3_22 (Z : State) (a0 : Addr) (a1 : Addr) (k_a0 : ClassId) (x0 : Int32) (x1 : Int32) (k_a1 : ClassId) (y0 : Int32) (y1 : Int32) (h0 : Heap) (n0 : Nat) (v : Option Value) (h : Heap) (L : List Loc) : Prop := v = some (Value.int (own_f3_22 x0 x1 y0 y1)) ∧ Fr n0 L ∧ h = h0
set_option maxRecDepth 65536 in
set_option maxHeartbeats 40000000 in
theorem own_rm3_22 (l : Launch) (Z : State) (av : Array Value) (hw : ∀ d ∈ tables_1, d.before av Z = true) (ws : List Jvm.Cond) (a0 : Addr) (a1 : Addr) (k_a0 : ClassId) (x0 : Int32) (x1 : Int32) (k_a1 : ClassId) (y0 : Int32) (y1 : Int32) (h0 : Heap) (n0 : Nat) (Z0 : n0 ≤ h0.size) (V_a0 : Arv Z h0 a0 k_a0 .int (2 : Int32) [(.int x0), (.int x1)] (.int (0 : Int32))) (V_a1 : Arv Z h0 a1 k_a1 .int (2 : Int32) [(.int y0), (.int y1)] (.int (0 : Int32))) :
    MetFree l (⟨"com/example/strict_anon/strictanon/service/RecordSetsUnionPinLaw", "shares", "([I[I)Z"⟩ : MethodName) (head1 (Jvm.Cond.code (⟨"com/example/strict_anon/strictanon/service/RecordSetsUnionPinLaw", "shares", "([I[I)Z"⟩ : MethodName) method_4_code 2 (some .boolean) :: ws) ({ frames := 1, cells := 0, slots := 0, locals := 13 } : Room)) (fun a U => a = #[(.ref a0), (.ref a1)] ∧ Z.Warmed39 U.vm ∧ U.heap = h0) (fun _ _ _ _ _ => True) (fun _ U o U' => ∃ v L, o = .returned v ∧ own_Q3_22 Z a0 a1 k_a0 x0 x1 k_a1 y0 y1 h0 n0 v U'.heap L ∧ FrameEnd U o U' L ({ frames := 1, cells := 0, slots := 0, locals := 13 } : Room).cells ({ frames := 1, cells := 0, slots := 0, locals := 13 } : Room).slots) := by
  refine MetFree.of_bodySF (plainFor_of_name own_pn0) hisR ?_
  intro p e s m args below meth c s₁ Bd hml0 hP hK
  obtain ⟨rfl, hZ, hh⟩ := hP
  have hx := Bd.exec
  have hby := Bd.bytes
  have hml : c.maxLocals = 2 := hml0
  have hown : s.vm.findClass "com/example/strict_anon/strictanon/service/RecordSetsUnionPinLaw" = some m.cls := findClass_of_methodNamed Bd.named
  have hnm := (name_of_methodNamed Bd.named Bd.method).1
  have X0 : Stand p l e ({ frames := 1, cells := 0, slots := 0, locals := 13 } : Room) s m #[(.ref a0), (.ref a1)] below meth c s₁ [] 0 0 := Stand.of_body Bd
  have e0 : s₁.heap = h0 := by rw [← hh, Bd.state]; rfl
  have N0 := Fr.nil n0
  have pre0 : ∀ t, Steps p.tables e below (s₁.setTop (mkF m 0 #[oa a0, oa a1] [])) t → Steps p.tables e below (s₁.setTop (entryFrame m #[(.ref a0), (.ref a1)] 2)) t := fun t k => castTop (own_ef3_22 m a0 a1) k
  have b1 : (0 : Int32) < (2 : Int32) := (by decide)
  obtain ⟨_, _, ⟨T2, L2, k2, n2⟩, -, X2, ⟨Lc2, hQ2, l2, y2, z2⟩, st2⟩ := Jvm.LawKit.callS X0 hx (y := (⟨"com/example/strict_anon/strictanon/service/RecordSetsUnionPinLaw", "contains", "([II)Z"⟩ : MethodName)) hown (mvT hZ (hw _ (List.mem_of_getElem? (i := 23) rfl))) (mvT hZ (hw _ (List.mem_of_getElem? (i := 24) rfl))) (mvT hZ (hw _ (List.mem_of_getElem? (i := 11) rfl))) (mvT hZ (hw _ (List.mem_of_getElem? (i := 25) rfl))) (by decide) (backOf (W := 0) (own_rm7_2 l Z av hw [] a1 x0 k_a1 y0 y1 h0 n0 Z0 V_a1) hZ (hw _ (List.mem_of_getElem? (i := 25) rfl)) (hw _ (List.mem_of_getElem? (i := 11) rfl)) (by decide) (by decide)) (g := (mkF m 9 #[oa a0, oa a1] [(.int x0), (.ref a1)])) rfl (by rw [hml]; rfl) (argsL := [(.ref a1), (.int x0)]) (rest := []) (lenOf own_pd0 rfl) rfl (by show 2 * 0 + _ ≤ _; exact Nat.le_of_eq rfl) (hb hby own_d3_9) (fun _ _ => ⟨rfl, e0, (by decide : 0 + 0 ≤ _), (by decide : 0 + 0 ≤ _)⟩)
  dsimp only [Pt.U, Pt.locs, Pt.cells, Pt.slots] at X2 l2 y2 z2 st2 hQ2
  have yq2 : k2 = 0 := y2
  have zq2 : n2 = 0 := z2
  subst yq2 zq2
  obtain ⟨rfl, Nq2, eq2⟩ := hQ2
  have N2 : Fr n0 L2 := by rw [l2]; exact Fr.app N0 Nq2
  have pre3 : ∀ t, Steps p.tables e below (T2.setTop (mkF m 12 #[oa a0, oa a1] [(.int (own_f7_2 y0 y1 x0))])) t → Steps p.tables e below (s₁.setTop (entryFrame m #[(.ref a0), (.ref a1)] 2)) t := by
    intro t k
    refine pre0 t ?_
    show oS p e below s₁ m 0 #[oa a0, oa a1] [] _
    refine XS.aloadN X0.here hx rfl (hb hby own_d3_0) rfl rfl ?_
    show oS p e below s₁ m 1 #[oa a0, oa a1] [(.ref a0)] _
    refine oLen X0 hx hZ e0 V_a0 (hb hby own_d3_1) ?_
    show oS p e below s₁ m 2 #[oa a0, oa a1] [(.int (2 : Int32))] _
    refine XS.ifNo X0.here hx rfl (hb hby own_d3_2) rfl ((if0 _ _).trans (tlt b1).2.2.2) ?_
    refine XS.aloadN X0.here hx rfl (hb hby own_d3_5) rfl rfl ?_
    refine XS.aloadN X0.here hx rfl (hb hby own_d3_6) rfl rfl ?_
    refine XS.iconst X0.here hx rfl (hb hby own_d3_7) ?_
    show oS p e below s₁ m 8 #[oa a0, oa a1] [(.int (0 : Int32)), (.ref a0), (.ref a1)] _
    refine oLdI X0 hx hZ e0 V_a0 (v := (.int x0)) ⟨by decide, by decide⟩ rfl (hb hby own_d3_8) ?_
    show oS p e below s₁ m 9 #[oa a0, oa a1] [(.int x0), (.ref a1)] _
    refine st2 _ ?_
    exact k
  by_cases c4 : (own_f7_2 y0 y1 x0) = (0 : Int32)
  · skip
    have b5 : (1 : Int32) < (2 : Int32) := (by decide)
    obtain ⟨_, _, ⟨T6, L6, k6, n6⟩, -, X6, ⟨Lc6, hQ6, l6, y6, z6⟩, st6⟩ := Jvm.LawKit.callS X2 hx (y := (⟨"com/example/strict_anon/strictanon/service/RecordSetsUnionPinLaw", "contains", "([II)Z"⟩ : MethodName)) hown (mvT hZ (hw _ (List.mem_of_getElem? (i := 23) rfl))) (mvT hZ (hw _ (List.mem_of_getElem? (i := 24) rfl))) (mvT hZ (hw _ (List.mem_of_getElem? (i := 11) rfl))) (mvT hZ (hw _ (List.mem_of_getElem? (i := 25) rfl))) (by decide) (backOf (W := 0) (own_rm7_2 l Z av hw [] a1 x1 k_a1 y0 y1 h0 n0 Z0 V_a1) hZ (hw _ (List.mem_of_getElem? (i := 25) rfl)) (hw _ (List.mem_of_getElem? (i := 11) rfl)) (by decide) (by decide)) (g := (mkF m 25 #[oa a0, oa a1] [(.int x1), (.ref a1)])) rfl (by rw [hml]; rfl) (argsL := [(.ref a1), (.int x1)]) (rest := []) (lenOf own_pd0 rfl) rfl (by show 2 * 0 + _ ≤ _; exact Nat.le_of_eq rfl) (hb hby own_d3_25) (fun _ _ => ⟨rfl, eq2, (by decide : 0 + 0 ≤ _), (by decide : 0 + 0 ≤ _)⟩)
    dsimp only [Pt.U, Pt.locs, Pt.cells, Pt.slots] at X6 l6 y6 z6 st6 hQ6
    have yq6 : k6 = 0 := y6
    have zq6 : n6 = 0 := z6
    subst yq6 zq6
    obtain ⟨rfl, Nq6, eq6⟩ := hQ6
    have N6 : Fr n0 L6 := by rw [l6]; exact Fr.app N2 Nq6
    have pre7 : ∀ t, Steps p.tables e below (T6.setTop (mkF m 28 #[oa a0, oa a1] [(.int (own_f7_2 y0 y1 x1))])) t → Steps p.tables e below (s₁.setTop (entryFrame m #[(.ref a0), (.ref a1)] 2)) t := by
      intro t k
      refine pre3 t ?_
      show oS p e below T2 m 12 #[oa a0, oa a1] [(.int (own_f7_2 y0 y1 x0))] _
      refine XS.ifNo X2.here hx rfl (hb hby own_d3_12) rfl ((if0 _ _).trans (teq c4).2) ?_
      refine XS.aloadN X2.here hx rfl (hb hby own_d3_15) rfl rfl ?_
      show oS p e below T2 m 16 #[oa a0, oa a1] [(.ref a0)] _
      refine oLen X2 hx hZ eq2 V_a0 (hb hby own_d3_16) ?_
      refine XS.iconst X2.here hx rfl (hb hby own_d3_17) ?_
      show oS p e below T2 m 18 #[oa a0, oa a1] [(.int (1 : Int32)), (.int (2 : Int32))] _
      refine XS.icmpNo X2.here hx rfl (hb hby own_d3_18) rfl (tlt b5).2.2.2 ?_
      refine XS.aloadN X2.here hx rfl (hb hby own_d3_21) rfl rfl ?_
      refine XS.aloadN X2.here hx rfl (hb hby own_d3_22) rfl rfl ?_
      refine XS.iconst X2.here hx rfl (hb hby own_d3_23) ?_
      show oS p e below T2 m 24 #[oa a0, oa a1] [(.int (1 : Int32)), (.ref a0), (.ref a1)] _
      refine oLdI X2 hx hZ eq2 V_a0 (v := (.int x1)) ⟨by decide, by decide⟩ rfl (hb hby own_d3_24) ?_
      show oS p e below T2 m 25 #[oa a0, oa a1] [(.int x1), (.ref a1)] _
      refine st6 _ ?_
      exact k
    by_cases c8 : (own_f7_2 y0 y1 x1) = (0 : Int32)
    · skip
      obtain ⟨fs, hr, hrun, hended, hW, hsame⟩ := X6.leave (v := (some (.int (0 : Int32)))) (fun h => by rw [Bd.returns] at h; cases h)
      refine ⟨_, _, pre7 _ ?_, hrun, hended, _, _, rfl, ?_, ⟨_, rfl⟩, hW, hsame.mono (by decide) (by decide)⟩
      · show oS p e below T6 m 28 #[oa a0, oa a1] [(.int (own_f7_2 y0 y1 x1))] _
        refine XS.ifYes X6.here hx rfl (pc0 := 28) (pc' := 35) rfl (hb hby own_d3_28) rfl ((if0 _ _).trans (teq c8).1) (by decide) (by decide) ?_
        refine XS.iconst X6.here hx rfl (hb hby own_d3_35) ?_
        show oS p e below T6 m 36 #[oa a0, oa a1] [(.int (0 : Int32))] _
        exact retN X6 hx (t := .boolean) Bd.returns (by simp) (hb hby own_d3_36) hr
      · show own_Q3_22 Z a0 a1 k_a0 x0 x1 k_a1 y0 y1 h0 n0 _ T6.heap _
        rw [eq6]
        exact ⟨congrArg (fun z => some (Value.int z)) (by rw [own_f3_22, if_pos c4, if_pos c8]), N6, rfl⟩
    · skip
      obtain ⟨fs, hr, hrun, hended, hW, hsame⟩ := X6.leave (v := (some (.int (1 : Int32)))) (fun h => by rw [Bd.returns] at h; cases h)
      refine ⟨_, _, pre7 _ ?_, hrun, hended, _, _, rfl, ?_, ⟨_, rfl⟩, hW, hsame.mono (by decide) (by decide)⟩
      · show oS p e below T6 m 28 #[oa a0, oa a1] [(.int (own_f7_2 y0 y1 x1))] _
        refine XS.ifNo X6.here hx rfl (hb hby own_d3_28) rfl ((if0 _ _).trans (feq c8).1) ?_
        refine XS.iconst X6.here hx rfl (hb hby own_d3_31) ?_
        refine XS.goto X6.here hx rfl (pc0 := 32) (pc' := 36) rfl (hb hby own_d3_32) (by decide) (by decide) ?_
        show oS p e below T6 m 36 #[oa a0, oa a1] [(.int (1 : Int32))] _
        exact retN X6 hx (t := .boolean) Bd.returns (by simp) (hb hby own_d3_36) hr
      · show own_Q3_22 Z a0 a1 k_a0 x0 x1 k_a1 y0 y1 h0 n0 _ T6.heap _
        rw [eq6]
        exact ⟨congrArg (fun z => some (Value.int z)) (by rw [own_f3_22, if_pos c4, if_neg c8]), N6, rfl⟩
  · skip
    obtain ⟨fs, hr, hrun, hended, hW, hsame⟩ := X2.leave (v := (some (.int (1 : Int32)))) (fun h => by rw [Bd.returns] at h; cases h)
    refine ⟨_, _, pre3 _ ?_, hrun, hended, _, _, rfl, ?_, ⟨_, rfl⟩, hW, hsame.mono (by decide) (by decide)⟩
    · show oS p e below T2 m 12 #[oa a0, oa a1] [(.int (own_f7_2 y0 y1 x0))] _
      refine XS.ifYes X2.here hx rfl (pc0 := 12) (pc' := 31) rfl (hb hby own_d3_12) rfl ((if0 _ _).trans (feq c4).2) (by decide) (by decide) ?_
      refine XS.iconst X2.here hx rfl (hb hby own_d3_31) ?_
      refine XS.goto X2.here hx rfl (pc0 := 32) (pc' := 36) rfl (hb hby own_d3_32) (by decide) (by decide) ?_
      show oS p e below T2 m 36 #[oa a0, oa a1] [(.int (1 : Int32))] _
      exact retN X2 hx (t := .boolean) Bd.returns (by simp) (hb hby own_d3_36) hr
    · show own_Q3_22 Z a0 a1 k_a0 x0 x1 k_a1 y0 y1 h0 n0 _ T2.heap _
      rw [eq2]
      exact ⟨congrArg (fun z => some (Value.int z)) (by rw [own_f3_22, if_neg c4]), N2, rfl⟩
theorem own_d5_0 : decode method_6_code 0 = .ok (.aload_n 0, 1) := by decide +kernel
theorem own_d5_1 : decode method_6_code 1 = .ok (.arraylength, 1) := by decide +kernel
theorem own_d5_2 : decode method_6_code 2 = .ok (.iconst 2, 1) := by decide +kernel
theorem own_d5_3 : decode method_6_code 3 = .ok (.if_icmp .lt 12, 3) := by decide +kernel
theorem own_d5_15 : decode method_6_code 15 = .ok (.aload_n 0, 1) := by decide +kernel
theorem own_d5_16 : decode method_6_code 16 = .ok (.arraylength, 1) := by decide +kernel
theorem own_d5_17 : decode method_6_code 17 = .ok (.iconst 3, 1) := by decide +kernel
theorem own_d5_18 : decode method_6_code 18 = .ok (.if_icmp .lt 12, 3) := by decide +kernel
theorem own_d5_30 : decode method_6_code 30 = .ok (.aload_n 0, 1) := by decide +kernel
theorem own_d5_31 : decode method_6_code 31 = .ok (.arraylength, 1) := by decide +kernel
theorem own_d5_32 : decode method_6_code 32 = .ok (.iconst 4, 1) := by decide +kernel
theorem own_d5_33 : decode method_6_code 33 = .ok (.if_icmp .lt 12, 3) := by decide +kernel
theorem own_d5_45 : decode method_6_code 45 = .ok (.iconst 1, 1) := by decide +kernel
theorem own_d5_46 : decode method_6_code 46 = .ok (.goto 4, 3) := by decide +kernel
theorem own_d5_50 : decode method_6_code 50 = .ok (.ireturn, 1) := by decide +kernel
theorem own_ef5_0 (m : MethodId) (a0 : Addr) : entryFrame m #[(.ref a0)] 1 = mkF m 0 #[oa a0] [] := by first | (simp [entryFrame, mkF, argsToLocals, Value.category]; done) | rfl
def own_f5_0  : Int32 := (1 : Int32)
def own_Q5_0 (Z : State) (a0 : Addr) (k_a0 : ClassId) (h0 : Heap) (n0 : Nat) (v : Option Value) (h : Heap) (L : List Loc) : Prop := v = some (Value.int own_f5_0) ∧ Fr n0 L ∧ h = h0
set_option maxRecDepth 65536 in
set_option maxHeartbeats 40000000 in
theorem own_rm5_0 (l : Launch) (Z : State) (av : Array Value) (hw : ∀ d ∈ tables_1, d.before av Z = true) (ws : List Jvm.Cond) (a0 : Addr) (k_a0 : ClassId) (h0 : Heap) (n0 : Nat) (Z0 : n0 ≤ h0.size) (V_a0 : Arv Z h0 a0 k_a0 .int (0 : Int32) [] (.int (0 : Int32))) :
    MetFree l (⟨"com/example/strict_anon/strictanon/service/RecordSetsUnionPinLaw", "increasing", "([I)Z"⟩ : MethodName) (head1 (Jvm.Cond.code (⟨"com/example/strict_anon/strictanon/service/RecordSetsUnionPinLaw", "increasing", "([I)Z"⟩ : MethodName) method_6_code 1 (some .boolean) :: ws) ({ frames := 0, cells := 0, slots := 0, locals := 0 } : Room)) (fun a U => a = #[(.ref a0)] ∧ Z.Warmed39 U.vm ∧ U.heap = h0) (fun _ _ _ _ _ => True) (fun _ U o U' => ∃ v L, o = .returned v ∧ own_Q5_0 Z a0 k_a0 h0 n0 v U'.heap L ∧ FrameEnd U o U' L ({ frames := 0, cells := 0, slots := 0, locals := 0 } : Room).cells ({ frames := 0, cells := 0, slots := 0, locals := 0 } : Room).slots) := by
  refine MetFree.of_bodySF (plainFor_of_name own_pn0) hisR ?_
  intro p e s m args below meth c s₁ Bd hml0 hP hK
  obtain ⟨rfl, hZ, hh⟩ := hP
  have hx := Bd.exec
  have hby := Bd.bytes
  have hml : c.maxLocals = 1 := hml0
  have hown : s.vm.findClass "com/example/strict_anon/strictanon/service/RecordSetsUnionPinLaw" = some m.cls := findClass_of_methodNamed Bd.named
  have hnm := (name_of_methodNamed Bd.named Bd.method).1
  have X0 : Stand p l e ({ frames := 0, cells := 0, slots := 0, locals := 0 } : Room) s m #[(.ref a0)] below meth c s₁ [] 0 0 := Stand.of_body Bd
  have e0 : s₁.heap = h0 := by rw [← hh, Bd.state]; rfl
  have N0 := Fr.nil n0
  have pre0 : ∀ t, Steps p.tables e below (s₁.setTop (mkF m 0 #[oa a0] [])) t → Steps p.tables e below (s₁.setTop (entryFrame m #[(.ref a0)] 1)) t := fun t k => castTop (own_ef5_0 m a0) k
  have b1 : (0 : Int32) < (2 : Int32) := (by decide)
  have b2 : (0 : Int32) < (3 : Int32) := (by decide)
  have b3 : (0 : Int32) < (4 : Int32) := (by decide)
  obtain ⟨fs, hr, hrun, hended, hW, hsame⟩ := X0.leave (v := (some (.int (1 : Int32)))) (fun h => by rw [Bd.returns] at h; cases h)
  refine ⟨_, _, pre0 _ ?_, hrun, hended, _, _, rfl, ?_, ⟨_, rfl⟩, hW, hsame.mono (by decide) (by decide)⟩
  · show oS p e below s₁ m 0 #[oa a0] [] _
    refine XS.aloadN X0.here hx rfl (hb hby own_d5_0) rfl rfl ?_
    show oS p e below s₁ m 1 #[oa a0] [(.ref a0)] _
    refine oLen X0 hx hZ e0 V_a0 (hb hby own_d5_1) ?_
    refine XS.iconst X0.here hx rfl (hb hby own_d5_2) ?_
    show oS p e below s₁ m 3 #[oa a0] [(.int (2 : Int32)), (.int (0 : Int32))] _
    refine XS.icmpYes X0.here hx rfl (pc0 := 3) (pc' := 15) rfl (hb hby own_d5_3) rfl (tlt b1).1 (by decide) (by decide) ?_
    refine XS.aloadN X0.here hx rfl (hb hby own_d5_15) rfl rfl ?_
    show oS p e below s₁ m 16 #[oa a0] [(.ref a0)] _
    refine oLen X0 hx hZ e0 V_a0 (hb hby own_d5_16) ?_
    refine XS.iconst X0.here hx rfl (hb hby own_d5_17) ?_
    show oS p e below s₁ m 18 #[oa a0] [(.int (3 : Int32)), (.int (0 : Int32))] _
    refine XS.icmpYes X0.here hx rfl (pc0 := 18) (pc' := 30) rfl (hb hby own_d5_18) rfl (tlt b2).1 (by decide) (by decide) ?_
    refine XS.aloadN X0.here hx rfl (hb hby own_d5_30) rfl rfl ?_
    show oS p e below s₁ m 31 #[oa a0] [(.ref a0)] _
    refine oLen X0 hx hZ e0 V_a0 (hb hby own_d5_31) ?_
    refine XS.iconst X0.here hx rfl (hb hby own_d5_32) ?_
    show oS p e below s₁ m 33 #[oa a0] [(.int (4 : Int32)), (.int (0 : Int32))] _
    refine XS.icmpYes X0.here hx rfl (pc0 := 33) (pc' := 45) rfl (hb hby own_d5_33) rfl (tlt b3).1 (by decide) (by decide) ?_
    refine XS.iconst X0.here hx rfl (hb hby own_d5_45) ?_
    refine XS.goto X0.here hx rfl (pc0 := 46) (pc' := 50) rfl (hb hby own_d5_46) (by decide) (by decide) ?_
    show oS p e below s₁ m 50 #[oa a0] [(.int (1 : Int32))] _
    exact retN X0 hx (t := .boolean) Bd.returns (by simp) (hb hby own_d5_50) hr
  · show own_Q5_0 Z a0 k_a0 h0 n0 _ s₁.heap _
    rw [e0]
    exact ⟨congrArg (fun z => some (Value.int z)) (by rw [own_f5_0]), N0, rfl⟩
theorem own_d6_0 : decode method_5_code 0 = .ok (.aload_n 1, 1) := by decide +kernel
theorem own_d6_1 : decode method_5_code 1 = .ok (.arraylength, 1) := by decide +kernel
theorem own_d6_2 : decode method_5_code 2 = .ok (.iconst 1, 1) := by decide +kernel
theorem own_d6_3 : decode method_5_code 3 = .ok (.if_icmp .lt 13, 3) := by decide +kernel
theorem own_d6_16 : decode method_5_code 16 = .ok (.aload_n 1, 1) := by decide +kernel
theorem own_d6_17 : decode method_5_code 17 = .ok (.arraylength, 1) := by decide +kernel
theorem own_d6_18 : decode method_5_code 18 = .ok (.iconst 2, 1) := by decide +kernel
theorem own_d6_19 : decode method_5_code 19 = .ok (.if_icmp .lt 13, 3) := by decide +kernel
theorem own_d6_32 : decode method_5_code 32 = .ok (.iconst 1, 1) := by decide +kernel
theorem own_d6_33 : decode method_5_code 33 = .ok (.goto 4, 3) := by decide +kernel
theorem own_d6_37 : decode method_5_code 37 = .ok (.ireturn, 1) := by decide +kernel
theorem own_ef6_00 (m : MethodId) (a0 : Addr) (a1 : Addr) : entryFrame m #[(.ref a0), (.ref a1)] 2 = mkF m 0 #[oa a0, oa a1] [] := by first | (simp [entryFrame, mkF, argsToLocals, Value.category]; done) | rfl
def own_f6_00  : Int32 := (1 : Int32)
def own_Q6_00 (Z : State) (a0 : Addr) (a1 : Addr) (k_a0 : ClassId) (k_a1 : ClassId) (h0 : Heap) (n0 : Nat) (v : Option Value) (h : Heap) (L : List Loc) : Prop := v = some (Value.int own_f6_00) ∧ Fr n0 L ∧ h = h0
set_option maxRecDepth 65536 in
set_option maxHeartbeats 40000000 in
theorem own_rm6_00 (l : Launch) (Z : State) (av : Array Value) (hw : ∀ d ∈ tables_1, d.before av Z = true) (ws : List Jvm.Cond) (a0 : Addr) (a1 : Addr) (k_a0 : ClassId) (k_a1 : ClassId) (h0 : Heap) (n0 : Nat) (Z0 : n0 ≤ h0.size) (V_a0 : Arv Z h0 a0 k_a0 .int (0 : Int32) [] (.int (0 : Int32))) (V_a1 : Arv Z h0 a1 k_a1 .int (0 : Int32) [] (.int (0 : Int32))) :
    MetFree l (⟨"com/example/strict_anon/strictanon/service/RecordSetsUnionPinLaw", "containsAll", "([I[I)Z"⟩ : MethodName) (head1 (Jvm.Cond.code (⟨"com/example/strict_anon/strictanon/service/RecordSetsUnionPinLaw", "containsAll", "([I[I)Z"⟩ : MethodName) method_5_code 2 (some .boolean) :: ws) ({ frames := 0, cells := 0, slots := 0, locals := 0 } : Room)) (fun a U => a = #[(.ref a0), (.ref a1)] ∧ Z.Warmed39 U.vm ∧ U.heap = h0) (fun _ _ _ _ _ => True) (fun _ U o U' => ∃ v L, o = .returned v ∧ own_Q6_00 Z a0 a1 k_a0 k_a1 h0 n0 v U'.heap L ∧ FrameEnd U o U' L ({ frames := 0, cells := 0, slots := 0, locals := 0 } : Room).cells ({ frames := 0, cells := 0, slots := 0, locals := 0 } : Room).slots) := by
  refine MetFree.of_bodySF (plainFor_of_name own_pn0) hisR ?_
  intro p e s m args below meth c s₁ Bd hml0 hP hK
  obtain ⟨rfl, hZ, hh⟩ := hP
  have hx := Bd.exec
  have hby := Bd.bytes
  have hml : c.maxLocals = 2 := hml0
  have hown : s.vm.findClass "com/example/strict_anon/strictanon/service/RecordSetsUnionPinLaw" = some m.cls := findClass_of_methodNamed Bd.named
  have hnm := (name_of_methodNamed Bd.named Bd.method).1
  have X0 : Stand p l e ({ frames := 0, cells := 0, slots := 0, locals := 0 } : Room) s m #[(.ref a0), (.ref a1)] below meth c s₁ [] 0 0 := Stand.of_body Bd
  have e0 : s₁.heap = h0 := by rw [← hh, Bd.state]; rfl
  have N0 := Fr.nil n0
  have pre0 : ∀ t, Steps p.tables e below (s₁.setTop (mkF m 0 #[oa a0, oa a1] [])) t → Steps p.tables e below (s₁.setTop (entryFrame m #[(.ref a0), (.ref a1)] 2)) t := fun t k => castTop (own_ef6_00 m a0 a1) k
  have b1 : (0 : Int32) < (1 : Int32) := (by decide)
  have b2 : (0 : Int32) < (2 : Int32) := (by decide)
  obtain ⟨fs, hr, hrun, hended, hW, hsame⟩ := X0.leave (v := (some (.int (1 : Int32)))) (fun h => by rw [Bd.returns] at h; cases h)
  refine ⟨_, _, pre0 _ ?_, hrun, hended, _, _, rfl, ?_, ⟨_, rfl⟩, hW, hsame.mono (by decide) (by decide)⟩
  · show oS p e below s₁ m 0 #[oa a0, oa a1] [] _
    refine XS.aloadN X0.here hx rfl (hb hby own_d6_0) rfl rfl ?_
    show oS p e below s₁ m 1 #[oa a0, oa a1] [(.ref a1)] _
    refine oLen X0 hx hZ e0 V_a1 (hb hby own_d6_1) ?_
    refine XS.iconst X0.here hx rfl (hb hby own_d6_2) ?_
    show oS p e below s₁ m 3 #[oa a0, oa a1] [(.int (1 : Int32)), (.int (0 : Int32))] _
    refine XS.icmpYes X0.here hx rfl (pc0 := 3) (pc' := 16) rfl (hb hby own_d6_3) rfl (tlt b1).1 (by decide) (by decide) ?_
    refine XS.aloadN X0.here hx rfl (hb hby own_d6_16) rfl rfl ?_
    show oS p e below s₁ m 17 #[oa a0, oa a1] [(.ref a1)] _
    refine oLen X0 hx hZ e0 V_a1 (hb hby own_d6_17) ?_
    refine XS.iconst X0.here hx rfl (hb hby own_d6_18) ?_
    show oS p e below s₁ m 19 #[oa a0, oa a1] [(.int (2 : Int32)), (.int (0 : Int32))] _
    refine XS.icmpYes X0.here hx rfl (pc0 := 19) (pc' := 32) rfl (hb hby own_d6_19) rfl (tlt b2).1 (by decide) (by decide) ?_
    refine XS.iconst X0.here hx rfl (hb hby own_d6_32) ?_
    refine XS.goto X0.here hx rfl (pc0 := 33) (pc' := 37) rfl (hb hby own_d6_33) (by decide) (by decide) ?_
    show oS p e below s₁ m 37 #[oa a0, oa a1] [(.int (1 : Int32))] _
    exact retN X0 hx (t := .boolean) Bd.returns (by simp) (hb hby own_d6_37) hr
  · show own_Q6_00 Z a0 a1 k_a0 k_a1 h0 n0 _ s₁.heap _
    rw [e0]
    exact ⟨congrArg (fun z => some (Value.int z)) (by rw [own_f6_00]), N0, rfl⟩
theorem own_ef5_1 (m : MethodId) (a0 : Addr) : entryFrame m #[(.ref a0)] 1 = mkF m 0 #[oa a0] [] := by first | (simp [entryFrame, mkF, argsToLocals, Value.category]; done) | rfl
def own_f5_1 (w0 : Int32) : Int32 := (1 : Int32)
def own_Q5_1 (Z : State) (a0 : Addr) (k_a0 : ClassId) (w0 : Int32) (h0 : Heap) (n0 : Nat) (v : Option Value) (h : Heap) (L : List Loc) : Prop := v = some (Value.int (own_f5_1 w0)) ∧ Fr n0 L ∧ h = h0
set_option maxRecDepth 65536 in
set_option maxHeartbeats 40000000 in
theorem own_rm5_1 (l : Launch) (Z : State) (av : Array Value) (hw : ∀ d ∈ tables_1, d.before av Z = true) (ws : List Jvm.Cond) (a0 : Addr) (k_a0 : ClassId) (w0 : Int32) (h0 : Heap) (n0 : Nat) (Z0 : n0 ≤ h0.size) (V_a0 : Arv Z h0 a0 k_a0 .int (1 : Int32) [(.int w0)] (.int (0 : Int32))) :
    MetFree l (⟨"com/example/strict_anon/strictanon/service/RecordSetsUnionPinLaw", "increasing", "([I)Z"⟩ : MethodName) (head1 (Jvm.Cond.code (⟨"com/example/strict_anon/strictanon/service/RecordSetsUnionPinLaw", "increasing", "([I)Z"⟩ : MethodName) method_6_code 1 (some .boolean) :: ws) ({ frames := 0, cells := 0, slots := 0, locals := 0 } : Room)) (fun a U => a = #[(.ref a0)] ∧ Z.Warmed39 U.vm ∧ U.heap = h0) (fun _ _ _ _ _ => True) (fun _ U o U' => ∃ v L, o = .returned v ∧ own_Q5_1 Z a0 k_a0 w0 h0 n0 v U'.heap L ∧ FrameEnd U o U' L ({ frames := 0, cells := 0, slots := 0, locals := 0 } : Room).cells ({ frames := 0, cells := 0, slots := 0, locals := 0 } : Room).slots) := by
  refine MetFree.of_bodySF (plainFor_of_name own_pn0) hisR ?_
  intro p e s m args below meth c s₁ Bd hml0 hP hK
  obtain ⟨rfl, hZ, hh⟩ := hP
  have hx := Bd.exec
  have hby := Bd.bytes
  have hml : c.maxLocals = 1 := hml0
  have hown : s.vm.findClass "com/example/strict_anon/strictanon/service/RecordSetsUnionPinLaw" = some m.cls := findClass_of_methodNamed Bd.named
  have hnm := (name_of_methodNamed Bd.named Bd.method).1
  have X0 : Stand p l e ({ frames := 0, cells := 0, slots := 0, locals := 0 } : Room) s m #[(.ref a0)] below meth c s₁ [] 0 0 := Stand.of_body Bd
  have e0 : s₁.heap = h0 := by rw [← hh, Bd.state]; rfl
  have N0 := Fr.nil n0
  have pre0 : ∀ t, Steps p.tables e below (s₁.setTop (mkF m 0 #[oa a0] [])) t → Steps p.tables e below (s₁.setTop (entryFrame m #[(.ref a0)] 1)) t := fun t k => castTop (own_ef5_1 m a0) k
  have b1 : (1 : Int32) < (2 : Int32) := (by decide)
  have b2 : (1 : Int32) < (3 : Int32) := (by decide)
  have b3 : (1 : Int32) < (4 : Int32) := (by decide)
  obtain ⟨fs, hr, hrun, hended, hW, hsame⟩ := X0.leave (v := (some (.int (1 : Int32)))) (fun h => by rw [Bd.returns] at h; cases h)
  refine ⟨_, _, pre0 _ ?_, hrun, hended, _, _, rfl, ?_, ⟨_, rfl⟩, hW, hsame.mono (by decide) (by decide)⟩
  · show oS p e below s₁ m 0 #[oa a0] [] _
    refine XS.aloadN X0.here hx rfl (hb hby own_d5_0) rfl rfl ?_
    show oS p e below s₁ m 1 #[oa a0] [(.ref a0)] _
    refine oLen X0 hx hZ e0 V_a0 (hb hby own_d5_1) ?_
    refine XS.iconst X0.here hx rfl (hb hby own_d5_2) ?_
    show oS p e below s₁ m 3 #[oa a0] [(.int (2 : Int32)), (.int (1 : Int32))] _
    refine XS.icmpYes X0.here hx rfl (pc0 := 3) (pc' := 15) rfl (hb hby own_d5_3) rfl (tlt b1).1 (by decide) (by decide) ?_
    refine XS.aloadN X0.here hx rfl (hb hby own_d5_15) rfl rfl ?_
    show oS p e below s₁ m 16 #[oa a0] [(.ref a0)] _
    refine oLen X0 hx hZ e0 V_a0 (hb hby own_d5_16) ?_
    refine XS.iconst X0.here hx rfl (hb hby own_d5_17) ?_
    show oS p e below s₁ m 18 #[oa a0] [(.int (3 : Int32)), (.int (1 : Int32))] _
    refine XS.icmpYes X0.here hx rfl (pc0 := 18) (pc' := 30) rfl (hb hby own_d5_18) rfl (tlt b2).1 (by decide) (by decide) ?_
    refine XS.aloadN X0.here hx rfl (hb hby own_d5_30) rfl rfl ?_
    show oS p e below s₁ m 31 #[oa a0] [(.ref a0)] _
    refine oLen X0 hx hZ e0 V_a0 (hb hby own_d5_31) ?_
    refine XS.iconst X0.here hx rfl (hb hby own_d5_32) ?_
    show oS p e below s₁ m 33 #[oa a0] [(.int (4 : Int32)), (.int (1 : Int32))] _
    refine XS.icmpYes X0.here hx rfl (pc0 := 33) (pc' := 45) rfl (hb hby own_d5_33) rfl (tlt b3).1 (by decide) (by decide) ?_
    refine XS.iconst X0.here hx rfl (hb hby own_d5_45) ?_
    refine XS.goto X0.here hx rfl (pc0 := 46) (pc' := 50) rfl (hb hby own_d5_46) (by decide) (by decide) ?_
    show oS p e below s₁ m 50 #[oa a0] [(.int (1 : Int32))] _
    exact retN X0 hx (t := .boolean) Bd.returns (by simp) (hb hby own_d5_50) hr
  · show own_Q5_1 Z a0 k_a0 w0 h0 n0 _ s₁.heap _
    rw [e0]
    exact ⟨congrArg (fun z => some (Value.int z)) (by rw [own_f5_1]), N0, rfl⟩
theorem own_ef6_10 (m : MethodId) (a0 : Addr) (a1 : Addr) : entryFrame m #[(.ref a0), (.ref a1)] 2 = mkF m 0 #[oa a0, oa a1] [] := by first | (simp [entryFrame, mkF, argsToLocals, Value.category]; done) | rfl
def own_f6_10 (w0 : Int32) : Int32 := (1 : Int32)
def own_Q6_10 (Z : State) (a0 : Addr) (a1 : Addr) (k_a0 : ClassId) (w0 : Int32) (k_a1 : ClassId) (h0 : Heap) (n0 : Nat) (v : Option Value) (h : Heap) (L : List Loc) : Prop := v = some (Value.int (own_f6_10 w0)) ∧ Fr n0 L ∧ h = h0
set_option maxRecDepth 65536 in
set_option maxHeartbeats 40000000 in
theorem own_rm6_10 (l : Launch) (Z : State) (av : Array Value) (hw : ∀ d ∈ tables_1, d.before av Z = true) (ws : List Jvm.Cond) (a0 : Addr) (a1 : Addr) (k_a0 : ClassId) (w0 : Int32) (k_a1 : ClassId) (h0 : Heap) (n0 : Nat) (Z0 : n0 ≤ h0.size) (V_a0 : Arv Z h0 a0 k_a0 .int (1 : Int32) [(.int w0)] (.int (0 : Int32))) (V_a1 : Arv Z h0 a1 k_a1 .int (0 : Int32) [] (.int (0 : Int32))) :
    MetFree l (⟨"com/example/strict_anon/strictanon/service/RecordSetsUnionPinLaw", "containsAll", "([I[I)Z"⟩ : MethodName) (head1 (Jvm.Cond.code (⟨"com/example/strict_anon/strictanon/service/RecordSetsUnionPinLaw", "containsAll", "([I[I)Z"⟩ : MethodName) method_5_code 2 (some .boolean) :: ws) ({ frames := 0, cells := 0, slots := 0, locals := 0 } : Room)) (fun a U => a = #[(.ref a0), (.ref a1)] ∧ Z.Warmed39 U.vm ∧ U.heap = h0) (fun _ _ _ _ _ => True) (fun _ U o U' => ∃ v L, o = .returned v ∧ own_Q6_10 Z a0 a1 k_a0 w0 k_a1 h0 n0 v U'.heap L ∧ FrameEnd U o U' L ({ frames := 0, cells := 0, slots := 0, locals := 0 } : Room).cells ({ frames := 0, cells := 0, slots := 0, locals := 0 } : Room).slots) := by
  refine MetFree.of_bodySF (plainFor_of_name own_pn0) hisR ?_
  intro p e s m args below meth c s₁ Bd hml0 hP hK
  obtain ⟨rfl, hZ, hh⟩ := hP
  have hx := Bd.exec
  have hby := Bd.bytes
  have hml : c.maxLocals = 2 := hml0
  have hown : s.vm.findClass "com/example/strict_anon/strictanon/service/RecordSetsUnionPinLaw" = some m.cls := findClass_of_methodNamed Bd.named
  have hnm := (name_of_methodNamed Bd.named Bd.method).1
  have X0 : Stand p l e ({ frames := 0, cells := 0, slots := 0, locals := 0 } : Room) s m #[(.ref a0), (.ref a1)] below meth c s₁ [] 0 0 := Stand.of_body Bd
  have e0 : s₁.heap = h0 := by rw [← hh, Bd.state]; rfl
  have N0 := Fr.nil n0
  have pre0 : ∀ t, Steps p.tables e below (s₁.setTop (mkF m 0 #[oa a0, oa a1] [])) t → Steps p.tables e below (s₁.setTop (entryFrame m #[(.ref a0), (.ref a1)] 2)) t := fun t k => castTop (own_ef6_10 m a0 a1) k
  have b1 : (0 : Int32) < (1 : Int32) := (by decide)
  have b2 : (0 : Int32) < (2 : Int32) := (by decide)
  obtain ⟨fs, hr, hrun, hended, hW, hsame⟩ := X0.leave (v := (some (.int (1 : Int32)))) (fun h => by rw [Bd.returns] at h; cases h)
  refine ⟨_, _, pre0 _ ?_, hrun, hended, _, _, rfl, ?_, ⟨_, rfl⟩, hW, hsame.mono (by decide) (by decide)⟩
  · show oS p e below s₁ m 0 #[oa a0, oa a1] [] _
    refine XS.aloadN X0.here hx rfl (hb hby own_d6_0) rfl rfl ?_
    show oS p e below s₁ m 1 #[oa a0, oa a1] [(.ref a1)] _
    refine oLen X0 hx hZ e0 V_a1 (hb hby own_d6_1) ?_
    refine XS.iconst X0.here hx rfl (hb hby own_d6_2) ?_
    show oS p e below s₁ m 3 #[oa a0, oa a1] [(.int (1 : Int32)), (.int (0 : Int32))] _
    refine XS.icmpYes X0.here hx rfl (pc0 := 3) (pc' := 16) rfl (hb hby own_d6_3) rfl (tlt b1).1 (by decide) (by decide) ?_
    refine XS.aloadN X0.here hx rfl (hb hby own_d6_16) rfl rfl ?_
    show oS p e below s₁ m 17 #[oa a0, oa a1] [(.ref a1)] _
    refine oLen X0 hx hZ e0 V_a1 (hb hby own_d6_17) ?_
    refine XS.iconst X0.here hx rfl (hb hby own_d6_18) ?_
    show oS p e below s₁ m 19 #[oa a0, oa a1] [(.int (2 : Int32)), (.int (0 : Int32))] _
    refine XS.icmpYes X0.here hx rfl (pc0 := 19) (pc' := 32) rfl (hb hby own_d6_19) rfl (tlt b2).1 (by decide) (by decide) ?_
    refine XS.iconst X0.here hx rfl (hb hby own_d6_32) ?_
    refine XS.goto X0.here hx rfl (pc0 := 33) (pc' := 37) rfl (hb hby own_d6_33) (by decide) (by decide) ?_
    show oS p e below s₁ m 37 #[oa a0, oa a1] [(.int (1 : Int32))] _
    exact retN X0 hx (t := .boolean) Bd.returns (by simp) (hb hby own_d6_37) hr
  · show own_Q6_10 Z a0 a1 k_a0 w0 k_a1 h0 n0 _ s₁.heap _
    rw [e0]
    exact ⟨congrArg (fun z => some (Value.int z)) (by rw [own_f6_10]), N0, rfl⟩
theorem own_d6_6 : decode method_5_code 6 = .ok (.aload_n 0, 1) := by decide +kernel
theorem own_d6_7 : decode method_5_code 7 = .ok (.aload_n 1, 1) := by decide +kernel
theorem own_d6_8 : decode method_5_code 8 = .ok (.iconst 0, 1) := by decide +kernel
theorem own_d6_9 : decode method_5_code 9 = .ok (.iaload, 1) := by decide +kernel
theorem own_d6_10 : decode method_5_code 10 = .ok (.invokestatic 36, 3) := by decide +kernel
theorem own_d6_13 : decode method_5_code 13 = .ok (.ifCond .eq 23, 3) := by decide +kernel
theorem own_d6_36 : decode method_5_code 36 = .ok (.iconst 0, 1) := by decide +kernel
theorem own_ef6_11 (m : MethodId) (a0 : Addr) (a1 : Addr) : entryFrame m #[(.ref a0), (.ref a1)] 2 = mkF m 0 #[oa a0, oa a1] [] := by first | (simp [entryFrame, mkF, argsToLocals, Value.category]; done) | rfl
def own_f6_11 (w0 : Int32) (x0 : Int32) : Int32 := (if (own_f7_1 w0 x0) = (0 : Int32) then (0 : Int32) else (1 : Int32))
def own_Q6_11 (Z : State) (a0 : Addr) (a1 : Addr) (k_a0 : ClassId) (w0 : Int32) (k_a1 : ClassId) (x0 : Int32) (h0 : Heap) (n0 : Nat) (v : Option Value) (h : Heap) (L : List Loc) : Prop := v = some (Value.int (own_f6_11 w0 x0)) ∧ Fr n0 L ∧ h = h0
set_option maxRecDepth 65536 in
set_option maxHeartbeats 40000000 in
theorem own_rm6_11 (l : Launch) (Z : State) (av : Array Value) (hw : ∀ d ∈ tables_1, d.before av Z = true) (ws : List Jvm.Cond) (a0 : Addr) (a1 : Addr) (k_a0 : ClassId) (w0 : Int32) (k_a1 : ClassId) (x0 : Int32) (h0 : Heap) (n0 : Nat) (Z0 : n0 ≤ h0.size) (V_a0 : Arv Z h0 a0 k_a0 .int (1 : Int32) [(.int w0)] (.int (0 : Int32))) (V_a1 : Arv Z h0 a1 k_a1 .int (1 : Int32) [(.int x0)] (.int (0 : Int32))) :
    MetFree l (⟨"com/example/strict_anon/strictanon/service/RecordSetsUnionPinLaw", "containsAll", "([I[I)Z"⟩ : MethodName) (head1 (Jvm.Cond.code (⟨"com/example/strict_anon/strictanon/service/RecordSetsUnionPinLaw", "containsAll", "([I[I)Z"⟩ : MethodName) method_5_code 2 (some .boolean) :: ws) ({ frames := 1, cells := 0, slots := 0, locals := 13 } : Room)) (fun a U => a = #[(.ref a0), (.ref a1)] ∧ Z.Warmed39 U.vm ∧ U.heap = h0) (fun _ _ _ _ _ => True) (fun _ U o U' => ∃ v L, o = .returned v ∧ own_Q6_11 Z a0 a1 k_a0 w0 k_a1 x0 h0 n0 v U'.heap L ∧ FrameEnd U o U' L ({ frames := 1, cells := 0, slots := 0, locals := 13 } : Room).cells ({ frames := 1, cells := 0, slots := 0, locals := 13 } : Room).slots) := by
  refine MetFree.of_bodySF (plainFor_of_name own_pn0) hisR ?_
  intro p e s m args below meth c s₁ Bd hml0 hP hK
  obtain ⟨rfl, hZ, hh⟩ := hP
  have hx := Bd.exec
  have hby := Bd.bytes
  have hml : c.maxLocals = 2 := hml0
  have hown : s.vm.findClass "com/example/strict_anon/strictanon/service/RecordSetsUnionPinLaw" = some m.cls := findClass_of_methodNamed Bd.named
  have hnm := (name_of_methodNamed Bd.named Bd.method).1
  have X0 : Stand p l e ({ frames := 1, cells := 0, slots := 0, locals := 13 } : Room) s m #[(.ref a0), (.ref a1)] below meth c s₁ [] 0 0 := Stand.of_body Bd
  have e0 : s₁.heap = h0 := by rw [← hh, Bd.state]; rfl
  have N0 := Fr.nil n0
  have pre0 : ∀ t, Steps p.tables e below (s₁.setTop (mkF m 0 #[oa a0, oa a1] [])) t → Steps p.tables e below (s₁.setTop (entryFrame m #[(.ref a0), (.ref a1)] 2)) t := fun t k => castTop (own_ef6_11 m a0 a1) k
  have b1 : ¬ ((1 : Int32) < (1 : Int32)) := (by decide)
  obtain ⟨_, _, ⟨T2, L2, k2, n2⟩, -, X2, ⟨Lc2, hQ2, l2, y2, z2⟩, st2⟩ := Jvm.LawKit.callS X0 hx (y := (⟨"com/example/strict_anon/strictanon/service/RecordSetsUnionPinLaw", "contains", "([II)Z"⟩ : MethodName)) hown (mvT hZ (hw _ (List.mem_of_getElem? (i := 23) rfl))) (mvT hZ (hw _ (List.mem_of_getElem? (i := 24) rfl))) (mvT hZ (hw _ (List.mem_of_getElem? (i := 11) rfl))) (mvT hZ (hw _ (List.mem_of_getElem? (i := 25) rfl))) (by decide) (backOf (W := 0) (own_rm7_1 l Z av hw [] a0 x0 k_a0 w0 h0 n0 Z0 V_a0) hZ (hw _ (List.mem_of_getElem? (i := 25) rfl)) (hw _ (List.mem_of_getElem? (i := 11) rfl)) (by decide) (by decide)) (g := (mkF m 10 #[oa a0, oa a1] [(.int x0), (.ref a0)])) rfl (by rw [hml]; rfl) (argsL := [(.ref a0), (.int x0)]) (rest := []) (lenOf own_pd0 rfl) rfl (by show 2 * 0 + _ ≤ _; exact Nat.le_of_eq rfl) (hb hby own_d6_10) (fun _ _ => ⟨rfl, e0, (by decide : 0 + 0 ≤ _), (by decide : 0 + 0 ≤ _)⟩)
  dsimp only [Pt.U, Pt.locs, Pt.cells, Pt.slots] at X2 l2 y2 z2 st2 hQ2
  have yq2 : k2 = 0 := y2
  have zq2 : n2 = 0 := z2
  subst yq2 zq2
  obtain ⟨rfl, Nq2, eq2⟩ := hQ2
  have N2 : Fr n0 L2 := by rw [l2]; exact Fr.app N0 Nq2
  have pre3 : ∀ t, Steps p.tables e below (T2.setTop (mkF m 13 #[oa a0, oa a1] [(.int (own_f7_1 w0 x0))])) t → Steps p.tables e below (s₁.setTop (entryFrame m #[(.ref a0), (.ref a1)] 2)) t := by
    intro t k
    refine pre0 t ?_
    show oS p e below s₁ m 0 #[oa a0, oa a1] [] _
    refine XS.aloadN X0.here hx rfl (hb hby own_d6_0) rfl rfl ?_
    show oS p e below s₁ m 1 #[oa a0, oa a1] [(.ref a1)] _
    refine oLen X0 hx hZ e0 V_a1 (hb hby own_d6_1) ?_
    refine XS.iconst X0.here hx rfl (hb hby own_d6_2) ?_
    show oS p e below s₁ m 3 #[oa a0, oa a1] [(.int (1 : Int32)), (.int (1 : Int32))] _
    refine XS.icmpNo X0.here hx rfl (hb hby own_d6_3) rfl (flt b1).1 ?_
    refine XS.aloadN X0.here hx rfl (hb hby own_d6_6) rfl rfl ?_
    refine XS.aloadN X0.here hx rfl (hb hby own_d6_7) rfl rfl ?_
    refine XS.iconst X0.here hx rfl (hb hby own_d6_8) ?_
    show oS p e below s₁ m 9 #[oa a0, oa a1] [(.int (0 : Int32)), (.ref a1), (.ref a0)] _
    refine oLdI X0 hx hZ e0 V_a1 (v := (.int x0)) ⟨by decide, by decide⟩ rfl (hb hby own_d6_9) ?_
    show oS p e below s₁ m 10 #[oa a0, oa a1] [(.int x0), (.ref a0)] _
    refine st2 _ ?_
    exact k
  by_cases c4 : (own_f7_1 w0 x0) = (0 : Int32)
  · skip
    obtain ⟨fs, hr, hrun, hended, hW, hsame⟩ := X2.leave (v := (some (.int (0 : Int32)))) (fun h => by rw [Bd.returns] at h; cases h)
    refine ⟨_, _, pre3 _ ?_, hrun, hended, _, _, rfl, ?_, ⟨_, rfl⟩, hW, hsame.mono (by decide) (by decide)⟩
    · show oS p e below T2 m 13 #[oa a0, oa a1] [(.int (own_f7_1 w0 x0))] _
      refine XS.ifYes X2.here hx rfl (pc0 := 13) (pc' := 36) rfl (hb hby own_d6_13) rfl ((if0 _ _).trans (teq c4).1) (by decide) (by decide) ?_
      refine XS.iconst X2.here hx rfl (hb hby own_d6_36) ?_
      show oS p e below T2 m 37 #[oa a0, oa a1] [(.int (0 : Int32))] _
      exact retN X2 hx (t := .boolean) Bd.returns (by simp) (hb hby own_d6_37) hr
    · show own_Q6_11 Z a0 a1 k_a0 w0 k_a1 x0 h0 n0 _ T2.heap _
      rw [eq2]
      exact ⟨congrArg (fun z => some (Value.int z)) (by rw [own_f6_11, if_pos c4]), N2, rfl⟩
  · skip
    have b5 : (1 : Int32) < (2 : Int32) := (by decide)
    obtain ⟨fs, hr, hrun, hended, hW, hsame⟩ := X2.leave (v := (some (.int (1 : Int32)))) (fun h => by rw [Bd.returns] at h; cases h)
    refine ⟨_, _, pre3 _ ?_, hrun, hended, _, _, rfl, ?_, ⟨_, rfl⟩, hW, hsame.mono (by decide) (by decide)⟩
    · show oS p e below T2 m 13 #[oa a0, oa a1] [(.int (own_f7_1 w0 x0))] _
      refine XS.ifNo X2.here hx rfl (hb hby own_d6_13) rfl ((if0 _ _).trans (feq c4).1) ?_
      refine XS.aloadN X2.here hx rfl (hb hby own_d6_16) rfl rfl ?_
      show oS p e below T2 m 17 #[oa a0, oa a1] [(.ref a1)] _
      refine oLen X2 hx hZ eq2 V_a1 (hb hby own_d6_17) ?_
      refine XS.iconst X2.here hx rfl (hb hby own_d6_18) ?_
      show oS p e below T2 m 19 #[oa a0, oa a1] [(.int (2 : Int32)), (.int (1 : Int32))] _
      refine XS.icmpYes X2.here hx rfl (pc0 := 19) (pc' := 32) rfl (hb hby own_d6_19) rfl (tlt b5).1 (by decide) (by decide) ?_
      refine XS.iconst X2.here hx rfl (hb hby own_d6_32) ?_
      refine XS.goto X2.here hx rfl (pc0 := 33) (pc' := 37) rfl (hb hby own_d6_33) (by decide) (by decide) ?_
      show oS p e below T2 m 37 #[oa a0, oa a1] [(.int (1 : Int32))] _
      exact retN X2 hx (t := .boolean) Bd.returns (by simp) (hb hby own_d6_37) hr
    · show own_Q6_11 Z a0 a1 k_a0 w0 k_a1 x0 h0 n0 _ T2.heap _
      rw [eq2]
      exact ⟨congrArg (fun z => some (Value.int z)) (by rw [own_f6_11, if_neg c4]), N2, rfl⟩
theorem own_d5_6 : decode method_6_code 6 = .ok (.aload_n 0, 1) := by decide +kernel
theorem own_d5_7 : decode method_6_code 7 = .ok (.iconst 0, 1) := by decide +kernel
theorem own_d5_8 : decode method_6_code 8 = .ok (.iaload, 1) := by decide +kernel
theorem own_d5_9 : decode method_6_code 9 = .ok (.aload_n 0, 1) := by decide +kernel
theorem own_d5_10 : decode method_6_code 10 = .ok (.iconst 1, 1) := by decide +kernel
theorem own_d5_11 : decode method_6_code 11 = .ok (.iaload, 1) := by decide +kernel
theorem own_d5_12 : decode method_6_code 12 = .ok (.if_icmp .ge 37, 3) := by decide +kernel
theorem own_d5_49 : decode method_6_code 49 = .ok (.iconst 0, 1) := by decide +kernel
theorem own_ef5_2 (m : MethodId) (a0 : Addr) : entryFrame m #[(.ref a0)] 1 = mkF m 0 #[oa a0] [] := by first | (simp [entryFrame, mkF, argsToLocals, Value.category]; done) | rfl
def own_f5_2 (w0 : Int32) (w1 : Int32) : Int32 := (if w0 < w1 then (1 : Int32) else (0 : Int32))
def own_Q5_2 (Z : State) (a0 : Addr) (k_a0 : ClassId) (w0 : Int32) (w1 : Int32) (h0 : Heap) (n0 : Nat) (v : Option Value) (h : Heap) (L : List Loc) : Prop := v = some (Value.int (own_f5_2 w0 w1)) ∧ Fr n0 L ∧ h = h0
set_option maxRecDepth 65536 in
set_option maxHeartbeats 40000000 in
theorem own_rm5_2 (l : Launch) (Z : State) (av : Array Value) (hw : ∀ d ∈ tables_1, d.before av Z = true) (ws : List Jvm.Cond) (a0 : Addr) (k_a0 : ClassId) (w0 : Int32) (w1 : Int32) (h0 : Heap) (n0 : Nat) (Z0 : n0 ≤ h0.size) (V_a0 : Arv Z h0 a0 k_a0 .int (2 : Int32) [(.int w0), (.int w1)] (.int (0 : Int32))) :
    MetFree l (⟨"com/example/strict_anon/strictanon/service/RecordSetsUnionPinLaw", "increasing", "([I)Z"⟩ : MethodName) (head1 (Jvm.Cond.code (⟨"com/example/strict_anon/strictanon/service/RecordSetsUnionPinLaw", "increasing", "([I)Z"⟩ : MethodName) method_6_code 1 (some .boolean) :: ws) ({ frames := 0, cells := 0, slots := 0, locals := 0 } : Room)) (fun a U => a = #[(.ref a0)] ∧ Z.Warmed39 U.vm ∧ U.heap = h0) (fun _ _ _ _ _ => True) (fun _ U o U' => ∃ v L, o = .returned v ∧ own_Q5_2 Z a0 k_a0 w0 w1 h0 n0 v U'.heap L ∧ FrameEnd U o U' L ({ frames := 0, cells := 0, slots := 0, locals := 0 } : Room).cells ({ frames := 0, cells := 0, slots := 0, locals := 0 } : Room).slots) := by
  refine MetFree.of_bodySF (plainFor_of_name own_pn0) hisR ?_
  intro p e s m args below meth c s₁ Bd hml0 hP hK
  obtain ⟨rfl, hZ, hh⟩ := hP
  have hx := Bd.exec
  have hby := Bd.bytes
  have hml : c.maxLocals = 1 := hml0
  have hown : s.vm.findClass "com/example/strict_anon/strictanon/service/RecordSetsUnionPinLaw" = some m.cls := findClass_of_methodNamed Bd.named
  have hnm := (name_of_methodNamed Bd.named Bd.method).1
  have X0 : Stand p l e ({ frames := 0, cells := 0, slots := 0, locals := 0 } : Room) s m #[(.ref a0)] below meth c s₁ [] 0 0 := Stand.of_body Bd
  have e0 : s₁.heap = h0 := by rw [← hh, Bd.state]; rfl
  have N0 := Fr.nil n0
  have pre0 : ∀ t, Steps p.tables e below (s₁.setTop (mkF m 0 #[oa a0] [])) t → Steps p.tables e below (s₁.setTop (entryFrame m #[(.ref a0)] 1)) t := fun t k => castTop (own_ef5_2 m a0) k
  have b1 : ¬ ((2 : Int32) < (2 : Int32)) := (by decide)
  have pre2 : ∀ t, Steps p.tables e below (s₁.setTop (mkF m 12 #[oa a0] [(.int w1), (.int w0)])) t → Steps p.tables e below (s₁.setTop (entryFrame m #[(.ref a0)] 1)) t := by
    intro t k
    refine pre0 t ?_
    show oS p e below s₁ m 0 #[oa a0] [] _
    refine XS.aloadN X0.here hx rfl (hb hby own_d5_0) rfl rfl ?_
    show oS p e below s₁ m 1 #[oa a0] [(.ref a0)] _
    refine oLen X0 hx hZ e0 V_a0 (hb hby own_d5_1) ?_
    refine XS.iconst X0.here hx rfl (hb hby own_d5_2) ?_
    show oS p e below s₁ m 3 #[oa a0] [(.int (2 : Int32)), (.int (2 : Int32))] _
    refine XS.icmpNo X0.here hx rfl (hb hby own_d5_3) rfl (flt b1).1 ?_
    refine XS.aloadN X0.here hx rfl (hb hby own_d5_6) rfl rfl ?_
    refine XS.iconst X0.here hx rfl (hb hby own_d5_7) ?_
    show oS p e below s₁ m 8 #[oa a0] [(.int (0 : Int32)), (.ref a0)] _
    refine oLdI X0 hx hZ e0 V_a0 (v := (.int w0)) ⟨by decide, by decide⟩ rfl (hb hby own_d5_8) ?_
    refine XS.aloadN X0.here hx rfl (hb hby own_d5_9) rfl rfl ?_
    refine XS.iconst X0.here hx rfl (hb hby own_d5_10) ?_
    show oS p e below s₁ m 11 #[oa a0] [(.int (1 : Int32)), (.ref a0), (.int w0)] _
    refine oLdI X0 hx hZ e0 V_a0 (v := (.int w1)) ⟨by decide, by decide⟩ rfl (hb hby own_d5_11) ?_
    exact k
  by_cases c3 : w0 < w1
  · skip
    have b4 : (2 : Int32) < (3 : Int32) := (by decide)
    have b5 : (2 : Int32) < (4 : Int32) := (by decide)
    obtain ⟨fs, hr, hrun, hended, hW, hsame⟩ := X0.leave (v := (some (.int (1 : Int32)))) (fun h => by rw [Bd.returns] at h; cases h)
    refine ⟨_, _, pre2 _ ?_, hrun, hended, _, _, rfl, ?_, ⟨_, rfl⟩, hW, hsame.mono (by decide) (by decide)⟩
    · show oS p e below s₁ m 12 #[oa a0] [(.int w1), (.int w0)] _
      refine XS.icmpNo X0.here hx rfl (hb hby own_d5_12) rfl (tlt c3).2.1 ?_
      refine XS.aloadN X0.here hx rfl (hb hby own_d5_15) rfl rfl ?_
      show oS p e below s₁ m 16 #[oa a0] [(.ref a0)] _
      refine oLen X0 hx hZ e0 V_a0 (hb hby own_d5_16) ?_
      refine XS.iconst X0.here hx rfl (hb hby own_d5_17) ?_
      show oS p e below s₁ m 18 #[oa a0] [(.int (3 : Int32)), (.int (2 : Int32))] _
      refine XS.icmpYes X0.here hx rfl (pc0 := 18) (pc' := 30) rfl (hb hby own_d5_18) rfl (tlt b4).1 (by decide) (by decide) ?_
      refine XS.aloadN X0.here hx rfl (hb hby own_d5_30) rfl rfl ?_
      show oS p e below s₁ m 31 #[oa a0] [(.ref a0)] _
      refine oLen X0 hx hZ e0 V_a0 (hb hby own_d5_31) ?_
      refine XS.iconst X0.here hx rfl (hb hby own_d5_32) ?_
      show oS p e below s₁ m 33 #[oa a0] [(.int (4 : Int32)), (.int (2 : Int32))] _
      refine XS.icmpYes X0.here hx rfl (pc0 := 33) (pc' := 45) rfl (hb hby own_d5_33) rfl (tlt b5).1 (by decide) (by decide) ?_
      refine XS.iconst X0.here hx rfl (hb hby own_d5_45) ?_
      refine XS.goto X0.here hx rfl (pc0 := 46) (pc' := 50) rfl (hb hby own_d5_46) (by decide) (by decide) ?_
      show oS p e below s₁ m 50 #[oa a0] [(.int (1 : Int32))] _
      exact retN X0 hx (t := .boolean) Bd.returns (by simp) (hb hby own_d5_50) hr
    · show own_Q5_2 Z a0 k_a0 w0 w1 h0 n0 _ s₁.heap _
      rw [e0]
      exact ⟨congrArg (fun z => some (Value.int z)) (by rw [own_f5_2, if_pos c3]), N0, rfl⟩
  · skip
    obtain ⟨fs, hr, hrun, hended, hW, hsame⟩ := X0.leave (v := (some (.int (0 : Int32)))) (fun h => by rw [Bd.returns] at h; cases h)
    refine ⟨_, _, pre2 _ ?_, hrun, hended, _, _, rfl, ?_, ⟨_, rfl⟩, hW, hsame.mono (by decide) (by decide)⟩
    · show oS p e below s₁ m 12 #[oa a0] [(.int w1), (.int w0)] _
      refine XS.icmpYes X0.here hx rfl (pc0 := 12) (pc' := 49) rfl (hb hby own_d5_12) rfl (flt c3).2.1 (by decide) (by decide) ?_
      refine XS.iconst X0.here hx rfl (hb hby own_d5_49) ?_
      show oS p e below s₁ m 50 #[oa a0] [(.int (0 : Int32))] _
      exact retN X0 hx (t := .boolean) Bd.returns (by simp) (hb hby own_d5_50) hr
    · show own_Q5_2 Z a0 k_a0 w0 w1 h0 n0 _ s₁.heap _
      rw [e0]
      exact ⟨congrArg (fun z => some (Value.int z)) (by rw [own_f5_2, if_neg c3]), N0, rfl⟩
theorem own_ef6_20 (m : MethodId) (a0 : Addr) (a1 : Addr) : entryFrame m #[(.ref a0), (.ref a1)] 2 = mkF m 0 #[oa a0, oa a1] [] := by first | (simp [entryFrame, mkF, argsToLocals, Value.category]; done) | rfl
def own_f6_20 (w0 : Int32) (w1 : Int32) : Int32 := (1 : Int32)
def own_Q6_20 (Z : State) (a0 : Addr) (a1 : Addr) (k_a0 : ClassId) (w0 : Int32) (w1 : Int32) (k_a1 : ClassId) (h0 : Heap) (n0 : Nat) (v : Option Value) (h : Heap) (L : List Loc) : Prop := v = some (Value.int (own_f6_20 w0 w1)) ∧ Fr n0 L ∧ h = h0
set_option maxRecDepth 65536 in
set_option maxHeartbeats 40000000 in
theorem own_rm6_20 (l : Launch) (Z : State) (av : Array Value) (hw : ∀ d ∈ tables_1, d.before av Z = true) (ws : List Jvm.Cond) (a0 : Addr) (a1 : Addr) (k_a0 : ClassId) (w0 : Int32) (w1 : Int32) (k_a1 : ClassId) (h0 : Heap) (n0 : Nat) (Z0 : n0 ≤ h0.size) (V_a0 : Arv Z h0 a0 k_a0 .int (2 : Int32) [(.int w0), (.int w1)] (.int (0 : Int32))) (V_a1 : Arv Z h0 a1 k_a1 .int (0 : Int32) [] (.int (0 : Int32))) :
    MetFree l (⟨"com/example/strict_anon/strictanon/service/RecordSetsUnionPinLaw", "containsAll", "([I[I)Z"⟩ : MethodName) (head1 (Jvm.Cond.code (⟨"com/example/strict_anon/strictanon/service/RecordSetsUnionPinLaw", "containsAll", "([I[I)Z"⟩ : MethodName) method_5_code 2 (some .boolean) :: ws) ({ frames := 0, cells := 0, slots := 0, locals := 0 } : Room)) (fun a U => a = #[(.ref a0), (.ref a1)] ∧ Z.Warmed39 U.vm ∧ U.heap = h0) (fun _ _ _ _ _ => True) (fun _ U o U' => ∃ v L, o = .returned v ∧ own_Q6_20 Z a0 a1 k_a0 w0 w1 k_a1 h0 n0 v U'.heap L ∧ FrameEnd U o U' L ({ frames := 0, cells := 0, slots := 0, locals := 0 } : Room).cells ({ frames := 0, cells := 0, slots := 0, locals := 0 } : Room).slots) := by
  refine MetFree.of_bodySF (plainFor_of_name own_pn0) hisR ?_
  intro p e s m args below meth c s₁ Bd hml0 hP hK
  obtain ⟨rfl, hZ, hh⟩ := hP
  have hx := Bd.exec
  have hby := Bd.bytes
  have hml : c.maxLocals = 2 := hml0
  have hown : s.vm.findClass "com/example/strict_anon/strictanon/service/RecordSetsUnionPinLaw" = some m.cls := findClass_of_methodNamed Bd.named
  have hnm := (name_of_methodNamed Bd.named Bd.method).1
  have X0 : Stand p l e ({ frames := 0, cells := 0, slots := 0, locals := 0 } : Room) s m #[(.ref a0), (.ref a1)] below meth c s₁ [] 0 0 := Stand.of_body Bd
  have e0 : s₁.heap = h0 := by rw [← hh, Bd.state]; rfl
  have N0 := Fr.nil n0
  have pre0 : ∀ t, Steps p.tables e below (s₁.setTop (mkF m 0 #[oa a0, oa a1] [])) t → Steps p.tables e below (s₁.setTop (entryFrame m #[(.ref a0), (.ref a1)] 2)) t := fun t k => castTop (own_ef6_20 m a0 a1) k
  have b1 : (0 : Int32) < (1 : Int32) := (by decide)
  have b2 : (0 : Int32) < (2 : Int32) := (by decide)
  obtain ⟨fs, hr, hrun, hended, hW, hsame⟩ := X0.leave (v := (some (.int (1 : Int32)))) (fun h => by rw [Bd.returns] at h; cases h)
  refine ⟨_, _, pre0 _ ?_, hrun, hended, _, _, rfl, ?_, ⟨_, rfl⟩, hW, hsame.mono (by decide) (by decide)⟩
  · show oS p e below s₁ m 0 #[oa a0, oa a1] [] _
    refine XS.aloadN X0.here hx rfl (hb hby own_d6_0) rfl rfl ?_
    show oS p e below s₁ m 1 #[oa a0, oa a1] [(.ref a1)] _
    refine oLen X0 hx hZ e0 V_a1 (hb hby own_d6_1) ?_
    refine XS.iconst X0.here hx rfl (hb hby own_d6_2) ?_
    show oS p e below s₁ m 3 #[oa a0, oa a1] [(.int (1 : Int32)), (.int (0 : Int32))] _
    refine XS.icmpYes X0.here hx rfl (pc0 := 3) (pc' := 16) rfl (hb hby own_d6_3) rfl (tlt b1).1 (by decide) (by decide) ?_
    refine XS.aloadN X0.here hx rfl (hb hby own_d6_16) rfl rfl ?_
    show oS p e below s₁ m 17 #[oa a0, oa a1] [(.ref a1)] _
    refine oLen X0 hx hZ e0 V_a1 (hb hby own_d6_17) ?_
    refine XS.iconst X0.here hx rfl (hb hby own_d6_18) ?_
    show oS p e below s₁ m 19 #[oa a0, oa a1] [(.int (2 : Int32)), (.int (0 : Int32))] _
    refine XS.icmpYes X0.here hx rfl (pc0 := 19) (pc' := 32) rfl (hb hby own_d6_19) rfl (tlt b2).1 (by decide) (by decide) ?_
    refine XS.iconst X0.here hx rfl (hb hby own_d6_32) ?_
    refine XS.goto X0.here hx rfl (pc0 := 33) (pc' := 37) rfl (hb hby own_d6_33) (by decide) (by decide) ?_
    show oS p e below s₁ m 37 #[oa a0, oa a1] [(.int (1 : Int32))] _
    exact retN X0 hx (t := .boolean) Bd.returns (by simp) (hb hby own_d6_37) hr
  · show own_Q6_20 Z a0 a1 k_a0 w0 w1 k_a1 h0 n0 _ s₁.heap _
    rw [e0]
    exact ⟨congrArg (fun z => some (Value.int z)) (by rw [own_f6_20]), N0, rfl⟩
theorem own_ef6_21 (m : MethodId) (a0 : Addr) (a1 : Addr) : entryFrame m #[(.ref a0), (.ref a1)] 2 = mkF m 0 #[oa a0, oa a1] [] := by first | (simp [entryFrame, mkF, argsToLocals, Value.category]; done) | rfl
def own_f6_21 (w0 : Int32) (w1 : Int32) (x0 : Int32) : Int32 := (if (own_f7_2 w0 w1 x0) = (0 : Int32) then (0 : Int32) else (1 : Int32))
def own_Q6_21 (Z : State) (a0 : Addr) (a1 : Addr) (k_a0 : ClassId) (w0 : Int32) (w1 : Int32) (k_a1 : ClassId) (x0 : Int32) (h0 : Heap) (n0 : Nat) (v : Option Value) (h : Heap) (L : List Loc) : Prop := v = some (Value.int (own_f6_21 w0 w1 x0)) ∧ Fr n0 L ∧ h = h0
set_option maxRecDepth 65536 in
set_option maxHeartbeats 40000000 in
theorem own_rm6_21 (l : Launch) (Z : State) (av : Array Value) (hw : ∀ d ∈ tables_1, d.before av Z = true) (ws : List Jvm.Cond) (a0 : Addr) (a1 : Addr) (k_a0 : ClassId) (w0 : Int32) (w1 : Int32) (k_a1 : ClassId) (x0 : Int32) (h0 : Heap) (n0 : Nat) (Z0 : n0 ≤ h0.size) (V_a0 : Arv Z h0 a0 k_a0 .int (2 : Int32) [(.int w0), (.int w1)] (.int (0 : Int32))) (V_a1 : Arv Z h0 a1 k_a1 .int (1 : Int32) [(.int x0)] (.int (0 : Int32))) :
    MetFree l (⟨"com/example/strict_anon/strictanon/service/RecordSetsUnionPinLaw", "containsAll", "([I[I)Z"⟩ : MethodName) (head1 (Jvm.Cond.code (⟨"com/example/strict_anon/strictanon/service/RecordSetsUnionPinLaw", "containsAll", "([I[I)Z"⟩ : MethodName) method_5_code 2 (some .boolean) :: ws) ({ frames := 1, cells := 0, slots := 0, locals := 13 } : Room)) (fun a U => a = #[(.ref a0), (.ref a1)] ∧ Z.Warmed39 U.vm ∧ U.heap = h0) (fun _ _ _ _ _ => True) (fun _ U o U' => ∃ v L, o = .returned v ∧ own_Q6_21 Z a0 a1 k_a0 w0 w1 k_a1 x0 h0 n0 v U'.heap L ∧ FrameEnd U o U' L ({ frames := 1, cells := 0, slots := 0, locals := 13 } : Room).cells ({ frames := 1, cells := 0, slots := 0, locals := 13 } : Room).slots) := by
  refine MetFree.of_bodySF (plainFor_of_name own_pn0) hisR ?_
  intro p e s m args below meth c s₁ Bd hml0 hP hK
  obtain ⟨rfl, hZ, hh⟩ := hP
  have hx := Bd.exec
  have hby := Bd.bytes
  have hml : c.maxLocals = 2 := hml0
  have hown : s.vm.findClass "com/example/strict_anon/strictanon/service/RecordSetsUnionPinLaw" = some m.cls := findClass_of_methodNamed Bd.named
  have hnm := (name_of_methodNamed Bd.named Bd.method).1
  have X0 : Stand p l e ({ frames := 1, cells := 0, slots := 0, locals := 13 } : Room) s m #[(.ref a0), (.ref a1)] below meth c s₁ [] 0 0 := Stand.of_body Bd
  have e0 : s₁.heap = h0 := by rw [← hh, Bd.state]; rfl
  have N0 := Fr.nil n0
  have pre0 : ∀ t, Steps p.tables e below (s₁.setTop (mkF m 0 #[oa a0, oa a1] [])) t → Steps p.tables e below (s₁.setTop (entryFrame m #[(.ref a0), (.ref a1)] 2)) t := fun t k => castTop (own_ef6_21 m a0 a1) k
  have b1 : ¬ ((1 : Int32) < (1 : Int32)) := (by decide)
  obtain ⟨_, _, ⟨T2, L2, k2, n2⟩, -, X2, ⟨Lc2, hQ2, l2, y2, z2⟩, st2⟩ := Jvm.LawKit.callS X0 hx (y := (⟨"com/example/strict_anon/strictanon/service/RecordSetsUnionPinLaw", "contains", "([II)Z"⟩ : MethodName)) hown (mvT hZ (hw _ (List.mem_of_getElem? (i := 23) rfl))) (mvT hZ (hw _ (List.mem_of_getElem? (i := 24) rfl))) (mvT hZ (hw _ (List.mem_of_getElem? (i := 11) rfl))) (mvT hZ (hw _ (List.mem_of_getElem? (i := 25) rfl))) (by decide) (backOf (W := 0) (own_rm7_2 l Z av hw [] a0 x0 k_a0 w0 w1 h0 n0 Z0 V_a0) hZ (hw _ (List.mem_of_getElem? (i := 25) rfl)) (hw _ (List.mem_of_getElem? (i := 11) rfl)) (by decide) (by decide)) (g := (mkF m 10 #[oa a0, oa a1] [(.int x0), (.ref a0)])) rfl (by rw [hml]; rfl) (argsL := [(.ref a0), (.int x0)]) (rest := []) (lenOf own_pd0 rfl) rfl (by show 2 * 0 + _ ≤ _; exact Nat.le_of_eq rfl) (hb hby own_d6_10) (fun _ _ => ⟨rfl, e0, (by decide : 0 + 0 ≤ _), (by decide : 0 + 0 ≤ _)⟩)
  dsimp only [Pt.U, Pt.locs, Pt.cells, Pt.slots] at X2 l2 y2 z2 st2 hQ2
  have yq2 : k2 = 0 := y2
  have zq2 : n2 = 0 := z2
  subst yq2 zq2
  obtain ⟨rfl, Nq2, eq2⟩ := hQ2
  have N2 : Fr n0 L2 := by rw [l2]; exact Fr.app N0 Nq2
  have pre3 : ∀ t, Steps p.tables e below (T2.setTop (mkF m 13 #[oa a0, oa a1] [(.int (own_f7_2 w0 w1 x0))])) t → Steps p.tables e below (s₁.setTop (entryFrame m #[(.ref a0), (.ref a1)] 2)) t := by
    intro t k
    refine pre0 t ?_
    show oS p e below s₁ m 0 #[oa a0, oa a1] [] _
    refine XS.aloadN X0.here hx rfl (hb hby own_d6_0) rfl rfl ?_
    show oS p e below s₁ m 1 #[oa a0, oa a1] [(.ref a1)] _
    refine oLen X0 hx hZ e0 V_a1 (hb hby own_d6_1) ?_
    refine XS.iconst X0.here hx rfl (hb hby own_d6_2) ?_
    show oS p e below s₁ m 3 #[oa a0, oa a1] [(.int (1 : Int32)), (.int (1 : Int32))] _
    refine XS.icmpNo X0.here hx rfl (hb hby own_d6_3) rfl (flt b1).1 ?_
    refine XS.aloadN X0.here hx rfl (hb hby own_d6_6) rfl rfl ?_
    refine XS.aloadN X0.here hx rfl (hb hby own_d6_7) rfl rfl ?_
    refine XS.iconst X0.here hx rfl (hb hby own_d6_8) ?_
    show oS p e below s₁ m 9 #[oa a0, oa a1] [(.int (0 : Int32)), (.ref a1), (.ref a0)] _
    refine oLdI X0 hx hZ e0 V_a1 (v := (.int x0)) ⟨by decide, by decide⟩ rfl (hb hby own_d6_9) ?_
    show oS p e below s₁ m 10 #[oa a0, oa a1] [(.int x0), (.ref a0)] _
    refine st2 _ ?_
    exact k
  by_cases c4 : (own_f7_2 w0 w1 x0) = (0 : Int32)
  · skip
    obtain ⟨fs, hr, hrun, hended, hW, hsame⟩ := X2.leave (v := (some (.int (0 : Int32)))) (fun h => by rw [Bd.returns] at h; cases h)
    refine ⟨_, _, pre3 _ ?_, hrun, hended, _, _, rfl, ?_, ⟨_, rfl⟩, hW, hsame.mono (by decide) (by decide)⟩
    · show oS p e below T2 m 13 #[oa a0, oa a1] [(.int (own_f7_2 w0 w1 x0))] _
      refine XS.ifYes X2.here hx rfl (pc0 := 13) (pc' := 36) rfl (hb hby own_d6_13) rfl ((if0 _ _).trans (teq c4).1) (by decide) (by decide) ?_
      refine XS.iconst X2.here hx rfl (hb hby own_d6_36) ?_
      show oS p e below T2 m 37 #[oa a0, oa a1] [(.int (0 : Int32))] _
      exact retN X2 hx (t := .boolean) Bd.returns (by simp) (hb hby own_d6_37) hr
    · show own_Q6_21 Z a0 a1 k_a0 w0 w1 k_a1 x0 h0 n0 _ T2.heap _
      rw [eq2]
      exact ⟨congrArg (fun z => some (Value.int z)) (by rw [own_f6_21, if_pos c4]), N2, rfl⟩
  · skip
    have b5 : (1 : Int32) < (2 : Int32) := (by decide)
    obtain ⟨fs, hr, hrun, hended, hW, hsame⟩ := X2.leave (v := (some (.int (1 : Int32)))) (fun h => by rw [Bd.returns] at h; cases h)
    refine ⟨_, _, pre3 _ ?_, hrun, hended, _, _, rfl, ?_, ⟨_, rfl⟩, hW, hsame.mono (by decide) (by decide)⟩
    · show oS p e below T2 m 13 #[oa a0, oa a1] [(.int (own_f7_2 w0 w1 x0))] _
      refine XS.ifNo X2.here hx rfl (hb hby own_d6_13) rfl ((if0 _ _).trans (feq c4).1) ?_
      refine XS.aloadN X2.here hx rfl (hb hby own_d6_16) rfl rfl ?_
      show oS p e below T2 m 17 #[oa a0, oa a1] [(.ref a1)] _
      refine oLen X2 hx hZ eq2 V_a1 (hb hby own_d6_17) ?_
      refine XS.iconst X2.here hx rfl (hb hby own_d6_18) ?_
      show oS p e below T2 m 19 #[oa a0, oa a1] [(.int (2 : Int32)), (.int (1 : Int32))] _
      refine XS.icmpYes X2.here hx rfl (pc0 := 19) (pc' := 32) rfl (hb hby own_d6_19) rfl (tlt b5).1 (by decide) (by decide) ?_
      refine XS.iconst X2.here hx rfl (hb hby own_d6_32) ?_
      refine XS.goto X2.here hx rfl (pc0 := 33) (pc' := 37) rfl (hb hby own_d6_33) (by decide) (by decide) ?_
      show oS p e below T2 m 37 #[oa a0, oa a1] [(.int (1 : Int32))] _
      exact retN X2 hx (t := .boolean) Bd.returns (by simp) (hb hby own_d6_37) hr
    · show own_Q6_21 Z a0 a1 k_a0 w0 w1 k_a1 x0 h0 n0 _ T2.heap _
      rw [eq2]
      exact ⟨congrArg (fun z => some (Value.int z)) (by rw [own_f6_21, if_neg c4]), N2, rfl⟩
theorem own_d6_22 : decode method_5_code 22 = .ok (.aload_n 0, 1) := by decide +kernel
theorem own_d6_23 : decode method_5_code 23 = .ok (.aload_n 1, 1) := by decide +kernel
theorem own_d6_24 : decode method_5_code 24 = .ok (.iconst 1, 1) := by decide +kernel
theorem own_d6_25 : decode method_5_code 25 = .ok (.iaload, 1) := by decide +kernel
theorem own_d6_26 : decode method_5_code 26 = .ok (.invokestatic 36, 3) := by decide +kernel
theorem own_d6_29 : decode method_5_code 29 = .ok (.ifCond .eq 7, 3) := by decide +kernel
theorem own_ef6_22 (m : MethodId) (a0 : Addr) (a1 : Addr) : entryFrame m #[(.ref a0), (.ref a1)] 2 = mkF m 0 #[oa a0, oa a1] [] := by first | (simp [entryFrame, mkF, argsToLocals, Value.category]; done) | rfl
def own_f6_22 (w0 : Int32) (w1 : Int32) (x0 : Int32) (x1 : Int32) : Int32 := (if (own_f7_2 w0 w1 x0) = (0 : Int32) then (0 : Int32) else (if (own_f7_2 w0 w1 x1) = (0 : Int32) then (0 : Int32) else (1 : Int32)))
def own_Q6_22 (Z : State) (a0 : Addr) (a1 : Addr) (k_a0 : ClassId) (w0 : Int32) (w1 : Int32) (k_a1 : ClassId) (x0 : Int32) (x1 : Int32) (h0 : Heap) (n0 : Nat) (v : Option Value) (h : Heap) (L : List Loc) : Prop := v = some (Value.int (own_f6_22 w0 w1 x0 x1)) ∧ Fr n0 L ∧ h = h0
set_option maxRecDepth 65536 in
set_option maxHeartbeats 40000000 in
theorem own_rm6_22 (l : Launch) (Z : State) (av : Array Value) (hw : ∀ d ∈ tables_1, d.before av Z = true) (ws : List Jvm.Cond) (a0 : Addr) (a1 : Addr) (k_a0 : ClassId) (w0 : Int32) (w1 : Int32) (k_a1 : ClassId) (x0 : Int32) (x1 : Int32) (h0 : Heap) (n0 : Nat) (Z0 : n0 ≤ h0.size) (V_a0 : Arv Z h0 a0 k_a0 .int (2 : Int32) [(.int w0), (.int w1)] (.int (0 : Int32))) (V_a1 : Arv Z h0 a1 k_a1 .int (2 : Int32) [(.int x0), (.int x1)] (.int (0 : Int32))) :
    MetFree l (⟨"com/example/strict_anon/strictanon/service/RecordSetsUnionPinLaw", "containsAll", "([I[I)Z"⟩ : MethodName) (head1 (Jvm.Cond.code (⟨"com/example/strict_anon/strictanon/service/RecordSetsUnionPinLaw", "containsAll", "([I[I)Z"⟩ : MethodName) method_5_code 2 (some .boolean) :: ws) ({ frames := 1, cells := 0, slots := 0, locals := 13 } : Room)) (fun a U => a = #[(.ref a0), (.ref a1)] ∧ Z.Warmed39 U.vm ∧ U.heap = h0) (fun _ _ _ _ _ => True) (fun _ U o U' => ∃ v L, o = .returned v ∧ own_Q6_22 Z a0 a1 k_a0 w0 w1 k_a1 x0 x1 h0 n0 v U'.heap L ∧ FrameEnd U o U' L ({ frames := 1, cells := 0, slots := 0, locals := 13 } : Room).cells ({ frames := 1, cells := 0, slots := 0, locals := 13 } : Room).slots) := by
  refine MetFree.of_bodySF (plainFor_of_name own_pn0) hisR ?_
  intro p e s m args below meth c s₁ Bd hml0 hP hK
  obtain ⟨rfl, hZ, hh⟩ := hP
  have hx := Bd.exec
  have hby := Bd.bytes
  have hml : c.maxLocals = 2 := hml0
  have hown : s.vm.findClass "com/example/strict_anon/strictanon/service/RecordSetsUnionPinLaw" = some m.cls := findClass_of_methodNamed Bd.named
  have hnm := (name_of_methodNamed Bd.named Bd.method).1
  have X0 : Stand p l e ({ frames := 1, cells := 0, slots := 0, locals := 13 } : Room) s m #[(.ref a0), (.ref a1)] below meth c s₁ [] 0 0 := Stand.of_body Bd
  have e0 : s₁.heap = h0 := by rw [← hh, Bd.state]; rfl
  have N0 := Fr.nil n0
  have pre0 : ∀ t, Steps p.tables e below (s₁.setTop (mkF m 0 #[oa a0, oa a1] [])) t → Steps p.tables e below (s₁.setTop (entryFrame m #[(.ref a0), (.ref a1)] 2)) t := fun t k => castTop (own_ef6_22 m a0 a1) k
  have b1 : ¬ ((2 : Int32) < (1 : Int32)) := (by decide)
  obtain ⟨_, _, ⟨T2, L2, k2, n2⟩, -, X2, ⟨Lc2, hQ2, l2, y2, z2⟩, st2⟩ := Jvm.LawKit.callS X0 hx (y := (⟨"com/example/strict_anon/strictanon/service/RecordSetsUnionPinLaw", "contains", "([II)Z"⟩ : MethodName)) hown (mvT hZ (hw _ (List.mem_of_getElem? (i := 23) rfl))) (mvT hZ (hw _ (List.mem_of_getElem? (i := 24) rfl))) (mvT hZ (hw _ (List.mem_of_getElem? (i := 11) rfl))) (mvT hZ (hw _ (List.mem_of_getElem? (i := 25) rfl))) (by decide) (backOf (W := 0) (own_rm7_2 l Z av hw [] a0 x0 k_a0 w0 w1 h0 n0 Z0 V_a0) hZ (hw _ (List.mem_of_getElem? (i := 25) rfl)) (hw _ (List.mem_of_getElem? (i := 11) rfl)) (by decide) (by decide)) (g := (mkF m 10 #[oa a0, oa a1] [(.int x0), (.ref a0)])) rfl (by rw [hml]; rfl) (argsL := [(.ref a0), (.int x0)]) (rest := []) (lenOf own_pd0 rfl) rfl (by show 2 * 0 + _ ≤ _; exact Nat.le_of_eq rfl) (hb hby own_d6_10) (fun _ _ => ⟨rfl, e0, (by decide : 0 + 0 ≤ _), (by decide : 0 + 0 ≤ _)⟩)
  dsimp only [Pt.U, Pt.locs, Pt.cells, Pt.slots] at X2 l2 y2 z2 st2 hQ2
  have yq2 : k2 = 0 := y2
  have zq2 : n2 = 0 := z2
  subst yq2 zq2
  obtain ⟨rfl, Nq2, eq2⟩ := hQ2
  have N2 : Fr n0 L2 := by rw [l2]; exact Fr.app N0 Nq2
  have pre3 : ∀ t, Steps p.tables e below (T2.setTop (mkF m 13 #[oa a0, oa a1] [(.int (own_f7_2 w0 w1 x0))])) t → Steps p.tables e below (s₁.setTop (entryFrame m #[(.ref a0), (.ref a1)] 2)) t := by
    intro t k
    refine pre0 t ?_
    show oS p e below s₁ m 0 #[oa a0, oa a1] [] _
    refine XS.aloadN X0.here hx rfl (hb hby own_d6_0) rfl rfl ?_
    show oS p e below s₁ m 1 #[oa a0, oa a1] [(.ref a1)] _
    refine oLen X0 hx hZ e0 V_a1 (hb hby own_d6_1) ?_
    refine XS.iconst X0.here hx rfl (hb hby own_d6_2) ?_
    show oS p e below s₁ m 3 #[oa a0, oa a1] [(.int (1 : Int32)), (.int (2 : Int32))] _
    refine XS.icmpNo X0.here hx rfl (hb hby own_d6_3) rfl (flt b1).1 ?_
    refine XS.aloadN X0.here hx rfl (hb hby own_d6_6) rfl rfl ?_
    refine XS.aloadN X0.here hx rfl (hb hby own_d6_7) rfl rfl ?_
    refine XS.iconst X0.here hx rfl (hb hby own_d6_8) ?_
    show oS p e below s₁ m 9 #[oa a0, oa a1] [(.int (0 : Int32)), (.ref a1), (.ref a0)] _
    refine oLdI X0 hx hZ e0 V_a1 (v := (.int x0)) ⟨by decide, by decide⟩ rfl (hb hby own_d6_9) ?_
    show oS p e below s₁ m 10 #[oa a0, oa a1] [(.int x0), (.ref a0)] _
    refine st2 _ ?_
    exact k
  by_cases c4 : (own_f7_2 w0 w1 x0) = (0 : Int32)
  · skip
    obtain ⟨fs, hr, hrun, hended, hW, hsame⟩ := X2.leave (v := (some (.int (0 : Int32)))) (fun h => by rw [Bd.returns] at h; cases h)
    refine ⟨_, _, pre3 _ ?_, hrun, hended, _, _, rfl, ?_, ⟨_, rfl⟩, hW, hsame.mono (by decide) (by decide)⟩
    · show oS p e below T2 m 13 #[oa a0, oa a1] [(.int (own_f7_2 w0 w1 x0))] _
      refine XS.ifYes X2.here hx rfl (pc0 := 13) (pc' := 36) rfl (hb hby own_d6_13) rfl ((if0 _ _).trans (teq c4).1) (by decide) (by decide) ?_
      refine XS.iconst X2.here hx rfl (hb hby own_d6_36) ?_
      show oS p e below T2 m 37 #[oa a0, oa a1] [(.int (0 : Int32))] _
      exact retN X2 hx (t := .boolean) Bd.returns (by simp) (hb hby own_d6_37) hr
    · show own_Q6_22 Z a0 a1 k_a0 w0 w1 k_a1 x0 x1 h0 n0 _ T2.heap _
      rw [eq2]
      exact ⟨congrArg (fun z => some (Value.int z)) (by rw [own_f6_22, if_pos c4]), N2, rfl⟩
  · skip
    have b5 : ¬ ((2 : Int32) < (2 : Int32)) := (by decide)
    obtain ⟨_, _, ⟨T6, L6, k6, n6⟩, -, X6, ⟨Lc6, hQ6, l6, y6, z6⟩, st6⟩ := Jvm.LawKit.callS X2 hx (y := (⟨"com/example/strict_anon/strictanon/service/RecordSetsUnionPinLaw", "contains", "([II)Z"⟩ : MethodName)) hown (mvT hZ (hw _ (List.mem_of_getElem? (i := 23) rfl))) (mvT hZ (hw _ (List.mem_of_getElem? (i := 24) rfl))) (mvT hZ (hw _ (List.mem_of_getElem? (i := 11) rfl))) (mvT hZ (hw _ (List.mem_of_getElem? (i := 25) rfl))) (by decide) (backOf (W := 0) (own_rm7_2 l Z av hw [] a0 x1 k_a0 w0 w1 h0 n0 Z0 V_a0) hZ (hw _ (List.mem_of_getElem? (i := 25) rfl)) (hw _ (List.mem_of_getElem? (i := 11) rfl)) (by decide) (by decide)) (g := (mkF m 26 #[oa a0, oa a1] [(.int x1), (.ref a0)])) rfl (by rw [hml]; rfl) (argsL := [(.ref a0), (.int x1)]) (rest := []) (lenOf own_pd0 rfl) rfl (by show 2 * 0 + _ ≤ _; exact Nat.le_of_eq rfl) (hb hby own_d6_26) (fun _ _ => ⟨rfl, eq2, (by decide : 0 + 0 ≤ _), (by decide : 0 + 0 ≤ _)⟩)
    dsimp only [Pt.U, Pt.locs, Pt.cells, Pt.slots] at X6 l6 y6 z6 st6 hQ6
    have yq6 : k6 = 0 := y6
    have zq6 : n6 = 0 := z6
    subst yq6 zq6
    obtain ⟨rfl, Nq6, eq6⟩ := hQ6
    have N6 : Fr n0 L6 := by rw [l6]; exact Fr.app N2 Nq6
    have pre7 : ∀ t, Steps p.tables e below (T6.setTop (mkF m 29 #[oa a0, oa a1] [(.int (own_f7_2 w0 w1 x1))])) t → Steps p.tables e below (s₁.setTop (entryFrame m #[(.ref a0), (.ref a1)] 2)) t := by
      intro t k
      refine pre3 t ?_
      show oS p e below T2 m 13 #[oa a0, oa a1] [(.int (own_f7_2 w0 w1 x0))] _
      refine XS.ifNo X2.here hx rfl (hb hby own_d6_13) rfl ((if0 _ _).trans (feq c4).1) ?_
      refine XS.aloadN X2.here hx rfl (hb hby own_d6_16) rfl rfl ?_
      show oS p e below T2 m 17 #[oa a0, oa a1] [(.ref a1)] _
      refine oLen X2 hx hZ eq2 V_a1 (hb hby own_d6_17) ?_
      refine XS.iconst X2.here hx rfl (hb hby own_d6_18) ?_
      show oS p e below T2 m 19 #[oa a0, oa a1] [(.int (2 : Int32)), (.int (2 : Int32))] _
      refine XS.icmpNo X2.here hx rfl (hb hby own_d6_19) rfl (flt b5).1 ?_
      refine XS.aloadN X2.here hx rfl (hb hby own_d6_22) rfl rfl ?_
      refine XS.aloadN X2.here hx rfl (hb hby own_d6_23) rfl rfl ?_
      refine XS.iconst X2.here hx rfl (hb hby own_d6_24) ?_
      show oS p e below T2 m 25 #[oa a0, oa a1] [(.int (1 : Int32)), (.ref a1), (.ref a0)] _
      refine oLdI X2 hx hZ eq2 V_a1 (v := (.int x1)) ⟨by decide, by decide⟩ rfl (hb hby own_d6_25) ?_
      show oS p e below T2 m 26 #[oa a0, oa a1] [(.int x1), (.ref a0)] _
      refine st6 _ ?_
      exact k
    by_cases c8 : (own_f7_2 w0 w1 x1) = (0 : Int32)
    · skip
      obtain ⟨fs, hr, hrun, hended, hW, hsame⟩ := X6.leave (v := (some (.int (0 : Int32)))) (fun h => by rw [Bd.returns] at h; cases h)
      refine ⟨_, _, pre7 _ ?_, hrun, hended, _, _, rfl, ?_, ⟨_, rfl⟩, hW, hsame.mono (by decide) (by decide)⟩
      · show oS p e below T6 m 29 #[oa a0, oa a1] [(.int (own_f7_2 w0 w1 x1))] _
        refine XS.ifYes X6.here hx rfl (pc0 := 29) (pc' := 36) rfl (hb hby own_d6_29) rfl ((if0 _ _).trans (teq c8).1) (by decide) (by decide) ?_
        refine XS.iconst X6.here hx rfl (hb hby own_d6_36) ?_
        show oS p e below T6 m 37 #[oa a0, oa a1] [(.int (0 : Int32))] _
        exact retN X6 hx (t := .boolean) Bd.returns (by simp) (hb hby own_d6_37) hr
      · show own_Q6_22 Z a0 a1 k_a0 w0 w1 k_a1 x0 x1 h0 n0 _ T6.heap _
        rw [eq6]
        exact ⟨congrArg (fun z => some (Value.int z)) (by rw [own_f6_22, if_neg c4, if_pos c8]), N6, rfl⟩
    · skip
      obtain ⟨fs, hr, hrun, hended, hW, hsame⟩ := X6.leave (v := (some (.int (1 : Int32)))) (fun h => by rw [Bd.returns] at h; cases h)
      refine ⟨_, _, pre7 _ ?_, hrun, hended, _, _, rfl, ?_, ⟨_, rfl⟩, hW, hsame.mono (by decide) (by decide)⟩
      · show oS p e below T6 m 29 #[oa a0, oa a1] [(.int (own_f7_2 w0 w1 x1))] _
        refine XS.ifNo X6.here hx rfl (hb hby own_d6_29) rfl ((if0 _ _).trans (feq c8).1) ?_
        refine XS.iconst X6.here hx rfl (hb hby own_d6_32) ?_
        refine XS.goto X6.here hx rfl (pc0 := 33) (pc' := 37) rfl (hb hby own_d6_33) (by decide) (by decide) ?_
        show oS p e below T6 m 37 #[oa a0, oa a1] [(.int (1 : Int32))] _
        exact retN X6 hx (t := .boolean) Bd.returns (by simp) (hb hby own_d6_37) hr
      · show own_Q6_22 Z a0 a1 k_a0 w0 w1 k_a1 x0 x1 h0 n0 _ T6.heap _
        rw [eq6]
        exact ⟨congrArg (fun z => some (Value.int z)) (by rw [own_f6_22, if_neg c4, if_neg c8]), N6, rfl⟩
theorem own_d5_21 : decode method_6_code 21 = .ok (.aload_n 0, 1) := by decide +kernel
theorem own_d5_22 : decode method_6_code 22 = .ok (.iconst 1, 1) := by decide +kernel
theorem own_d5_23 : decode method_6_code 23 = .ok (.iaload, 1) := by decide +kernel
theorem own_d5_24 : decode method_6_code 24 = .ok (.aload_n 0, 1) := by decide +kernel
theorem own_d5_25 : decode method_6_code 25 = .ok (.iconst 2, 1) := by decide +kernel
theorem own_d5_26 : decode method_6_code 26 = .ok (.iaload, 1) := by decide +kernel
theorem own_d5_27 : decode method_6_code 27 = .ok (.if_icmp .ge 22, 3) := by decide +kernel
theorem own_ef5_3 (m : MethodId) (a0 : Addr) : entryFrame m #[(.ref a0)] 1 = mkF m 0 #[oa a0] [] := by first | (simp [entryFrame, mkF, argsToLocals, Value.category]; done) | rfl
def own_f5_3 (w0 : Int32) (w1 : Int32) (w2 : Int32) : Int32 := (if w0 < w1 then (if w1 < w2 then (1 : Int32) else (0 : Int32)) else (0 : Int32))
def own_Q5_3 (Z : State) (a0 : Addr) (k_a0 : ClassId) (w0 : Int32) (w1 : Int32) (w2 : Int32) (h0 : Heap) (n0 : Nat) (v : Option Value) (h : Heap) (L : List Loc) : Prop := v = some (Value.int (own_f5_3 w0 w1 w2)) ∧ Fr n0 L ∧ h = h0
set_option maxRecDepth 65536 in
set_option maxHeartbeats 40000000 in
theorem own_rm5_3 (l : Launch) (Z : State) (av : Array Value) (hw : ∀ d ∈ tables_1, d.before av Z = true) (ws : List Jvm.Cond) (a0 : Addr) (k_a0 : ClassId) (w0 : Int32) (w1 : Int32) (w2 : Int32) (h0 : Heap) (n0 : Nat) (Z0 : n0 ≤ h0.size) (V_a0 : Arv Z h0 a0 k_a0 .int (3 : Int32) [(.int w0), (.int w1), (.int w2)] (.int (0 : Int32))) :
    MetFree l (⟨"com/example/strict_anon/strictanon/service/RecordSetsUnionPinLaw", "increasing", "([I)Z"⟩ : MethodName) (head1 (Jvm.Cond.code (⟨"com/example/strict_anon/strictanon/service/RecordSetsUnionPinLaw", "increasing", "([I)Z"⟩ : MethodName) method_6_code 1 (some .boolean) :: ws) ({ frames := 0, cells := 0, slots := 0, locals := 0 } : Room)) (fun a U => a = #[(.ref a0)] ∧ Z.Warmed39 U.vm ∧ U.heap = h0) (fun _ _ _ _ _ => True) (fun _ U o U' => ∃ v L, o = .returned v ∧ own_Q5_3 Z a0 k_a0 w0 w1 w2 h0 n0 v U'.heap L ∧ FrameEnd U o U' L ({ frames := 0, cells := 0, slots := 0, locals := 0 } : Room).cells ({ frames := 0, cells := 0, slots := 0, locals := 0 } : Room).slots) := by
  refine MetFree.of_bodySF (plainFor_of_name own_pn0) hisR ?_
  intro p e s m args below meth c s₁ Bd hml0 hP hK
  obtain ⟨rfl, hZ, hh⟩ := hP
  have hx := Bd.exec
  have hby := Bd.bytes
  have hml : c.maxLocals = 1 := hml0
  have hown : s.vm.findClass "com/example/strict_anon/strictanon/service/RecordSetsUnionPinLaw" = some m.cls := findClass_of_methodNamed Bd.named
  have hnm := (name_of_methodNamed Bd.named Bd.method).1
  have X0 : Stand p l e ({ frames := 0, cells := 0, slots := 0, locals := 0 } : Room) s m #[(.ref a0)] below meth c s₁ [] 0 0 := Stand.of_body Bd
  have e0 : s₁.heap = h0 := by rw [← hh, Bd.state]; rfl
  have N0 := Fr.nil n0
  have pre0 : ∀ t, Steps p.tables e below (s₁.setTop (mkF m 0 #[oa a0] [])) t → Steps p.tables e below (s₁.setTop (entryFrame m #[(.ref a0)] 1)) t := fun t k => castTop (own_ef5_3 m a0) k
  have b1 : ¬ ((3 : Int32) < (2 : Int32)) := (by decide)
  have pre2 : ∀ t, Steps p.tables e below (s₁.setTop (mkF m 12 #[oa a0] [(.int w1), (.int w0)])) t → Steps p.tables e below (s₁.setTop (entryFrame m #[(.ref a0)] 1)) t := by
    intro t k
    refine pre0 t ?_
    show oS p e below s₁ m 0 #[oa a0] [] _
    refine XS.aloadN X0.here hx rfl (hb hby own_d5_0) rfl rfl ?_
    show oS p e below s₁ m 1 #[oa a0] [(.ref a0)] _
    refine oLen X0 hx hZ e0 V_a0 (hb hby own_d5_1) ?_
    refine XS.iconst X0.here hx rfl (hb hby own_d5_2) ?_
    show oS p e below s₁ m 3 #[oa a0] [(.int (2 : Int32)), (.int (3 : Int32))] _
    refine XS.icmpNo X0.here hx rfl (hb hby own_d5_3) rfl (flt b1).1 ?_
    refine XS.aloadN X0.here hx rfl (hb hby own_d5_6) rfl rfl ?_
    refine XS.iconst X0.here hx rfl (hb hby own_d5_7) ?_
    show oS p e below s₁ m 8 #[oa a0] [(.int (0 : Int32)), (.ref a0)] _
    refine oLdI X0 hx hZ e0 V_a0 (v := (.int w0)) ⟨by decide, by decide⟩ rfl (hb hby own_d5_8) ?_
    refine XS.aloadN X0.here hx rfl (hb hby own_d5_9) rfl rfl ?_
    refine XS.iconst X0.here hx rfl (hb hby own_d5_10) ?_
    show oS p e below s₁ m 11 #[oa a0] [(.int (1 : Int32)), (.ref a0), (.int w0)] _
    refine oLdI X0 hx hZ e0 V_a0 (v := (.int w1)) ⟨by decide, by decide⟩ rfl (hb hby own_d5_11) ?_
    exact k
  by_cases c3 : w0 < w1
  · skip
    have b4 : ¬ ((3 : Int32) < (3 : Int32)) := (by decide)
    have pre5 : ∀ t, Steps p.tables e below (s₁.setTop (mkF m 27 #[oa a0] [(.int w2), (.int w1)])) t → Steps p.tables e below (s₁.setTop (entryFrame m #[(.ref a0)] 1)) t := by
      intro t k
      refine pre2 t ?_
      show oS p e below s₁ m 12 #[oa a0] [(.int w1), (.int w0)] _
      refine XS.icmpNo X0.here hx rfl (hb hby own_d5_12) rfl (tlt c3).2.1 ?_
      refine XS.aloadN X0.here hx rfl (hb hby own_d5_15) rfl rfl ?_
      show oS p e below s₁ m 16 #[oa a0] [(.ref a0)] _
      refine oLen X0 hx hZ e0 V_a0 (hb hby own_d5_16) ?_
      refine XS.iconst X0.here hx rfl (hb hby own_d5_17) ?_
      show oS p e below s₁ m 18 #[oa a0] [(.int (3 : Int32)), (.int (3 : Int32))] _
      refine XS.icmpNo X0.here hx rfl (hb hby own_d5_18) rfl (flt b4).1 ?_
      refine XS.aloadN X0.here hx rfl (hb hby own_d5_21) rfl rfl ?_
      refine XS.iconst X0.here hx rfl (hb hby own_d5_22) ?_
      show oS p e below s₁ m 23 #[oa a0] [(.int (1 : Int32)), (.ref a0)] _
      refine oLdI X0 hx hZ e0 V_a0 (v := (.int w1)) ⟨by decide, by decide⟩ rfl (hb hby own_d5_23) ?_
      refine XS.aloadN X0.here hx rfl (hb hby own_d5_24) rfl rfl ?_
      refine XS.iconst X0.here hx rfl (hb hby own_d5_25) ?_
      show oS p e below s₁ m 26 #[oa a0] [(.int (2 : Int32)), (.ref a0), (.int w1)] _
      refine oLdI X0 hx hZ e0 V_a0 (v := (.int w2)) ⟨by decide, by decide⟩ rfl (hb hby own_d5_26) ?_
      exact k
    by_cases c6 : w1 < w2
    · skip
      have b7 : (3 : Int32) < (4 : Int32) := (by decide)
      obtain ⟨fs, hr, hrun, hended, hW, hsame⟩ := X0.leave (v := (some (.int (1 : Int32)))) (fun h => by rw [Bd.returns] at h; cases h)
      refine ⟨_, _, pre5 _ ?_, hrun, hended, _, _, rfl, ?_, ⟨_, rfl⟩, hW, hsame.mono (by decide) (by decide)⟩
      · show oS p e below s₁ m 27 #[oa a0] [(.int w2), (.int w1)] _
        refine XS.icmpNo X0.here hx rfl (hb hby own_d5_27) rfl (tlt c6).2.1 ?_
        refine XS.aloadN X0.here hx rfl (hb hby own_d5_30) rfl rfl ?_
        show oS p e below s₁ m 31 #[oa a0] [(.ref a0)] _
        refine oLen X0 hx hZ e0 V_a0 (hb hby own_d5_31) ?_
        refine XS.iconst X0.here hx rfl (hb hby own_d5_32) ?_
        show oS p e below s₁ m 33 #[oa a0] [(.int (4 : Int32)), (.int (3 : Int32))] _
        refine XS.icmpYes X0.here hx rfl (pc0 := 33) (pc' := 45) rfl (hb hby own_d5_33) rfl (tlt b7).1 (by decide) (by decide) ?_
        refine XS.iconst X0.here hx rfl (hb hby own_d5_45) ?_
        refine XS.goto X0.here hx rfl (pc0 := 46) (pc' := 50) rfl (hb hby own_d5_46) (by decide) (by decide) ?_
        show oS p e below s₁ m 50 #[oa a0] [(.int (1 : Int32))] _
        exact retN X0 hx (t := .boolean) Bd.returns (by simp) (hb hby own_d5_50) hr
      · show own_Q5_3 Z a0 k_a0 w0 w1 w2 h0 n0 _ s₁.heap _
        rw [e0]
        exact ⟨congrArg (fun z => some (Value.int z)) (by rw [own_f5_3, if_pos c3, if_pos c6]), N0, rfl⟩
    · skip
      obtain ⟨fs, hr, hrun, hended, hW, hsame⟩ := X0.leave (v := (some (.int (0 : Int32)))) (fun h => by rw [Bd.returns] at h; cases h)
      refine ⟨_, _, pre5 _ ?_, hrun, hended, _, _, rfl, ?_, ⟨_, rfl⟩, hW, hsame.mono (by decide) (by decide)⟩
      · show oS p e below s₁ m 27 #[oa a0] [(.int w2), (.int w1)] _
        refine XS.icmpYes X0.here hx rfl (pc0 := 27) (pc' := 49) rfl (hb hby own_d5_27) rfl (flt c6).2.1 (by decide) (by decide) ?_
        refine XS.iconst X0.here hx rfl (hb hby own_d5_49) ?_
        show oS p e below s₁ m 50 #[oa a0] [(.int (0 : Int32))] _
        exact retN X0 hx (t := .boolean) Bd.returns (by simp) (hb hby own_d5_50) hr
      · show own_Q5_3 Z a0 k_a0 w0 w1 w2 h0 n0 _ s₁.heap _
        rw [e0]
        exact ⟨congrArg (fun z => some (Value.int z)) (by rw [own_f5_3, if_pos c3, if_neg c6]), N0, rfl⟩
  · skip
    obtain ⟨fs, hr, hrun, hended, hW, hsame⟩ := X0.leave (v := (some (.int (0 : Int32)))) (fun h => by rw [Bd.returns] at h; cases h)
    refine ⟨_, _, pre2 _ ?_, hrun, hended, _, _, rfl, ?_, ⟨_, rfl⟩, hW, hsame.mono (by decide) (by decide)⟩
    · show oS p e below s₁ m 12 #[oa a0] [(.int w1), (.int w0)] _
      refine XS.icmpYes X0.here hx rfl (pc0 := 12) (pc' := 49) rfl (hb hby own_d5_12) rfl (flt c3).2.1 (by decide) (by decide) ?_
      refine XS.iconst X0.here hx rfl (hb hby own_d5_49) ?_
      show oS p e below s₁ m 50 #[oa a0] [(.int (0 : Int32))] _
      exact retN X0 hx (t := .boolean) Bd.returns (by simp) (hb hby own_d5_50) hr
    · show own_Q5_3 Z a0 k_a0 w0 w1 w2 h0 n0 _ s₁.heap _
      rw [e0]
      exact ⟨congrArg (fun z => some (Value.int z)) (by rw [own_f5_3, if_neg c3]), N0, rfl⟩
theorem own_ef6_31 (m : MethodId) (a0 : Addr) (a1 : Addr) : entryFrame m #[(.ref a0), (.ref a1)] 2 = mkF m 0 #[oa a0, oa a1] [] := by first | (simp [entryFrame, mkF, argsToLocals, Value.category]; done) | rfl
def own_f6_31 (w0 : Int32) (w1 : Int32) (w2 : Int32) (x0 : Int32) : Int32 := (if (own_f7_3 w0 w1 w2 x0) = (0 : Int32) then (0 : Int32) else (1 : Int32))
def own_Q6_31 (Z : State) (a0 : Addr) (a1 : Addr) (k_a0 : ClassId) (w0 : Int32) (w1 : Int32) (w2 : Int32) (k_a1 : ClassId) (x0 : Int32) (h0 : Heap) (n0 : Nat) (v : Option Value) (h : Heap) (L : List Loc) : Prop := v = some (Value.int (own_f6_31 w0 w1 w2 x0)) ∧ Fr n0 L ∧ h = h0
set_option maxRecDepth 65536 in
set_option maxHeartbeats 40000000 in
theorem own_rm6_31 (l : Launch) (Z : State) (av : Array Value) (hw : ∀ d ∈ tables_1, d.before av Z = true) (ws : List Jvm.Cond) (a0 : Addr) (a1 : Addr) (k_a0 : ClassId) (w0 : Int32) (w1 : Int32) (w2 : Int32) (k_a1 : ClassId) (x0 : Int32) (h0 : Heap) (n0 : Nat) (Z0 : n0 ≤ h0.size) (V_a0 : Arv Z h0 a0 k_a0 .int (3 : Int32) [(.int w0), (.int w1), (.int w2)] (.int (0 : Int32))) (V_a1 : Arv Z h0 a1 k_a1 .int (1 : Int32) [(.int x0)] (.int (0 : Int32))) :
    MetFree l (⟨"com/example/strict_anon/strictanon/service/RecordSetsUnionPinLaw", "containsAll", "([I[I)Z"⟩ : MethodName) (head1 (Jvm.Cond.code (⟨"com/example/strict_anon/strictanon/service/RecordSetsUnionPinLaw", "containsAll", "([I[I)Z"⟩ : MethodName) method_5_code 2 (some .boolean) :: ws) ({ frames := 1, cells := 0, slots := 0, locals := 13 } : Room)) (fun a U => a = #[(.ref a0), (.ref a1)] ∧ Z.Warmed39 U.vm ∧ U.heap = h0) (fun _ _ _ _ _ => True) (fun _ U o U' => ∃ v L, o = .returned v ∧ own_Q6_31 Z a0 a1 k_a0 w0 w1 w2 k_a1 x0 h0 n0 v U'.heap L ∧ FrameEnd U o U' L ({ frames := 1, cells := 0, slots := 0, locals := 13 } : Room).cells ({ frames := 1, cells := 0, slots := 0, locals := 13 } : Room).slots) := by
  refine MetFree.of_bodySF (plainFor_of_name own_pn0) hisR ?_
  intro p e s m args below meth c s₁ Bd hml0 hP hK
  obtain ⟨rfl, hZ, hh⟩ := hP
  have hx := Bd.exec
  have hby := Bd.bytes
  have hml : c.maxLocals = 2 := hml0
  have hown : s.vm.findClass "com/example/strict_anon/strictanon/service/RecordSetsUnionPinLaw" = some m.cls := findClass_of_methodNamed Bd.named
  have hnm := (name_of_methodNamed Bd.named Bd.method).1
  have X0 : Stand p l e ({ frames := 1, cells := 0, slots := 0, locals := 13 } : Room) s m #[(.ref a0), (.ref a1)] below meth c s₁ [] 0 0 := Stand.of_body Bd
  have e0 : s₁.heap = h0 := by rw [← hh, Bd.state]; rfl
  have N0 := Fr.nil n0
  have pre0 : ∀ t, Steps p.tables e below (s₁.setTop (mkF m 0 #[oa a0, oa a1] [])) t → Steps p.tables e below (s₁.setTop (entryFrame m #[(.ref a0), (.ref a1)] 2)) t := fun t k => castTop (own_ef6_31 m a0 a1) k
  have b1 : ¬ ((1 : Int32) < (1 : Int32)) := (by decide)
  obtain ⟨_, _, ⟨T2, L2, k2, n2⟩, -, X2, ⟨Lc2, hQ2, l2, y2, z2⟩, st2⟩ := Jvm.LawKit.callS X0 hx (y := (⟨"com/example/strict_anon/strictanon/service/RecordSetsUnionPinLaw", "contains", "([II)Z"⟩ : MethodName)) hown (mvT hZ (hw _ (List.mem_of_getElem? (i := 23) rfl))) (mvT hZ (hw _ (List.mem_of_getElem? (i := 24) rfl))) (mvT hZ (hw _ (List.mem_of_getElem? (i := 11) rfl))) (mvT hZ (hw _ (List.mem_of_getElem? (i := 25) rfl))) (by decide) (backOf (W := 0) (own_rm7_3 l Z av hw [] a0 x0 k_a0 w0 w1 w2 h0 n0 Z0 V_a0) hZ (hw _ (List.mem_of_getElem? (i := 25) rfl)) (hw _ (List.mem_of_getElem? (i := 11) rfl)) (by decide) (by decide)) (g := (mkF m 10 #[oa a0, oa a1] [(.int x0), (.ref a0)])) rfl (by rw [hml]; rfl) (argsL := [(.ref a0), (.int x0)]) (rest := []) (lenOf own_pd0 rfl) rfl (by show 2 * 0 + _ ≤ _; exact Nat.le_of_eq rfl) (hb hby own_d6_10) (fun _ _ => ⟨rfl, e0, (by decide : 0 + 0 ≤ _), (by decide : 0 + 0 ≤ _)⟩)
  dsimp only [Pt.U, Pt.locs, Pt.cells, Pt.slots] at X2 l2 y2 z2 st2 hQ2
  have yq2 : k2 = 0 := y2
  have zq2 : n2 = 0 := z2
  subst yq2 zq2
  obtain ⟨rfl, Nq2, eq2⟩ := hQ2
  have N2 : Fr n0 L2 := by rw [l2]; exact Fr.app N0 Nq2
  have pre3 : ∀ t, Steps p.tables e below (T2.setTop (mkF m 13 #[oa a0, oa a1] [(.int (own_f7_3 w0 w1 w2 x0))])) t → Steps p.tables e below (s₁.setTop (entryFrame m #[(.ref a0), (.ref a1)] 2)) t := by
    intro t k
    refine pre0 t ?_
    show oS p e below s₁ m 0 #[oa a0, oa a1] [] _
    refine XS.aloadN X0.here hx rfl (hb hby own_d6_0) rfl rfl ?_
    show oS p e below s₁ m 1 #[oa a0, oa a1] [(.ref a1)] _
    refine oLen X0 hx hZ e0 V_a1 (hb hby own_d6_1) ?_
    refine XS.iconst X0.here hx rfl (hb hby own_d6_2) ?_
    show oS p e below s₁ m 3 #[oa a0, oa a1] [(.int (1 : Int32)), (.int (1 : Int32))] _
    refine XS.icmpNo X0.here hx rfl (hb hby own_d6_3) rfl (flt b1).1 ?_
    refine XS.aloadN X0.here hx rfl (hb hby own_d6_6) rfl rfl ?_
    refine XS.aloadN X0.here hx rfl (hb hby own_d6_7) rfl rfl ?_
    refine XS.iconst X0.here hx rfl (hb hby own_d6_8) ?_
    show oS p e below s₁ m 9 #[oa a0, oa a1] [(.int (0 : Int32)), (.ref a1), (.ref a0)] _
    refine oLdI X0 hx hZ e0 V_a1 (v := (.int x0)) ⟨by decide, by decide⟩ rfl (hb hby own_d6_9) ?_
    show oS p e below s₁ m 10 #[oa a0, oa a1] [(.int x0), (.ref a0)] _
    refine st2 _ ?_
    exact k
  by_cases c4 : (own_f7_3 w0 w1 w2 x0) = (0 : Int32)
  · skip
    obtain ⟨fs, hr, hrun, hended, hW, hsame⟩ := X2.leave (v := (some (.int (0 : Int32)))) (fun h => by rw [Bd.returns] at h; cases h)
    refine ⟨_, _, pre3 _ ?_, hrun, hended, _, _, rfl, ?_, ⟨_, rfl⟩, hW, hsame.mono (by decide) (by decide)⟩
    · show oS p e below T2 m 13 #[oa a0, oa a1] [(.int (own_f7_3 w0 w1 w2 x0))] _
      refine XS.ifYes X2.here hx rfl (pc0 := 13) (pc' := 36) rfl (hb hby own_d6_13) rfl ((if0 _ _).trans (teq c4).1) (by decide) (by decide) ?_
      refine XS.iconst X2.here hx rfl (hb hby own_d6_36) ?_
      show oS p e below T2 m 37 #[oa a0, oa a1] [(.int (0 : Int32))] _
      exact retN X2 hx (t := .boolean) Bd.returns (by simp) (hb hby own_d6_37) hr
    · show own_Q6_31 Z a0 a1 k_a0 w0 w1 w2 k_a1 x0 h0 n0 _ T2.heap _
      rw [eq2]
      exact ⟨congrArg (fun z => some (Value.int z)) (by rw [own_f6_31, if_pos c4]), N2, rfl⟩
  · skip
    have b5 : (1 : Int32) < (2 : Int32) := (by decide)
    obtain ⟨fs, hr, hrun, hended, hW, hsame⟩ := X2.leave (v := (some (.int (1 : Int32)))) (fun h => by rw [Bd.returns] at h; cases h)
    refine ⟨_, _, pre3 _ ?_, hrun, hended, _, _, rfl, ?_, ⟨_, rfl⟩, hW, hsame.mono (by decide) (by decide)⟩
    · show oS p e below T2 m 13 #[oa a0, oa a1] [(.int (own_f7_3 w0 w1 w2 x0))] _
      refine XS.ifNo X2.here hx rfl (hb hby own_d6_13) rfl ((if0 _ _).trans (feq c4).1) ?_
      refine XS.aloadN X2.here hx rfl (hb hby own_d6_16) rfl rfl ?_
      show oS p e below T2 m 17 #[oa a0, oa a1] [(.ref a1)] _
      refine oLen X2 hx hZ eq2 V_a1 (hb hby own_d6_17) ?_
      refine XS.iconst X2.here hx rfl (hb hby own_d6_18) ?_
      show oS p e below T2 m 19 #[oa a0, oa a1] [(.int (2 : Int32)), (.int (1 : Int32))] _
      refine XS.icmpYes X2.here hx rfl (pc0 := 19) (pc' := 32) rfl (hb hby own_d6_19) rfl (tlt b5).1 (by decide) (by decide) ?_
      refine XS.iconst X2.here hx rfl (hb hby own_d6_32) ?_
      refine XS.goto X2.here hx rfl (pc0 := 33) (pc' := 37) rfl (hb hby own_d6_33) (by decide) (by decide) ?_
      show oS p e below T2 m 37 #[oa a0, oa a1] [(.int (1 : Int32))] _
      exact retN X2 hx (t := .boolean) Bd.returns (by simp) (hb hby own_d6_37) hr
    · show own_Q6_31 Z a0 a1 k_a0 w0 w1 w2 k_a1 x0 h0 n0 _ T2.heap _
      rw [eq2]
      exact ⟨congrArg (fun z => some (Value.int z)) (by rw [own_f6_31, if_neg c4]), N2, rfl⟩
theorem own_ef6_32 (m : MethodId) (a0 : Addr) (a1 : Addr) : entryFrame m #[(.ref a0), (.ref a1)] 2 = mkF m 0 #[oa a0, oa a1] [] := by first | (simp [entryFrame, mkF, argsToLocals, Value.category]; done) | rfl
def own_f6_32 (w0 : Int32) (w1 : Int32) (w2 : Int32) (x0 : Int32) (x1 : Int32) : Int32 := (if (own_f7_3 w0 w1 w2 x0) = (0 : Int32) then (0 : Int32) else (if (own_f7_3 w0 w1 w2 x1) = (0 : Int32) then (0 : Int32) else (1 : Int32)))
def own_Q6_32 (Z : State) (a0 : Addr) (a1 : Addr) (k_a0 : ClassId) (w0 : Int32) (w1 : Int32) (w2 : Int32) (k_a1 : ClassId) (x0 : Int32) (x1 : Int32) (h0 : Heap) (n0 : Nat) (v : Option Value) (h : Heap) (L : List Loc) : Prop := v = some (Value.int (own_f6_32 w0 w1 w2 x0 x1)) ∧ Fr n0 L ∧ h = h0
set_option maxRecDepth 65536 in
set_option maxHeartbeats 40000000 in
theorem own_rm6_32 (l : Launch) (Z : State) (av : Array Value) (hw : ∀ d ∈ tables_1, d.before av Z = true) (ws : List Jvm.Cond) (a0 : Addr) (a1 : Addr) (k_a0 : ClassId) (w0 : Int32) (w1 : Int32) (w2 : Int32) (k_a1 : ClassId) (x0 : Int32) (x1 : Int32) (h0 : Heap) (n0 : Nat) (Z0 : n0 ≤ h0.size) (V_a0 : Arv Z h0 a0 k_a0 .int (3 : Int32) [(.int w0), (.int w1), (.int w2)] (.int (0 : Int32))) (V_a1 : Arv Z h0 a1 k_a1 .int (2 : Int32) [(.int x0), (.int x1)] (.int (0 : Int32))) :
    MetFree l (⟨"com/example/strict_anon/strictanon/service/RecordSetsUnionPinLaw", "containsAll", "([I[I)Z"⟩ : MethodName) (head1 (Jvm.Cond.code (⟨"com/example/strict_anon/strictanon/service/RecordSetsUnionPinLaw", "containsAll", "([I[I)Z"⟩ : MethodName) method_5_code 2 (some .boolean) :: ws) ({ frames := 1, cells := 0, slots := 0, locals := 13 } : Room)) (fun a U => a = #[(.ref a0), (.ref a1)] ∧ Z.Warmed39 U.vm ∧ U.heap = h0) (fun _ _ _ _ _ => True) (fun _ U o U' => ∃ v L, o = .returned v ∧ own_Q6_32 Z a0 a1 k_a0 w0 w1 w2 k_a1 x0 x1 h0 n0 v U'.heap L ∧ FrameEnd U o U' L ({ frames := 1, cells := 0, slots := 0, locals := 13 } : Room).cells ({ frames := 1, cells := 0, slots := 0, locals := 13 } : Room).slots) := by
  refine MetFree.of_bodySF (plainFor_of_name own_pn0) hisR ?_
  intro p e s m args below meth c s₁ Bd hml0 hP hK
  obtain ⟨rfl, hZ, hh⟩ := hP
  have hx := Bd.exec
  have hby := Bd.bytes
  have hml : c.maxLocals = 2 := hml0
  have hown : s.vm.findClass "com/example/strict_anon/strictanon/service/RecordSetsUnionPinLaw" = some m.cls := findClass_of_methodNamed Bd.named
  have hnm := (name_of_methodNamed Bd.named Bd.method).1
  have X0 : Stand p l e ({ frames := 1, cells := 0, slots := 0, locals := 13 } : Room) s m #[(.ref a0), (.ref a1)] below meth c s₁ [] 0 0 := Stand.of_body Bd
  have e0 : s₁.heap = h0 := by rw [← hh, Bd.state]; rfl
  have N0 := Fr.nil n0
  have pre0 : ∀ t, Steps p.tables e below (s₁.setTop (mkF m 0 #[oa a0, oa a1] [])) t → Steps p.tables e below (s₁.setTop (entryFrame m #[(.ref a0), (.ref a1)] 2)) t := fun t k => castTop (own_ef6_32 m a0 a1) k
  have b1 : ¬ ((2 : Int32) < (1 : Int32)) := (by decide)
  obtain ⟨_, _, ⟨T2, L2, k2, n2⟩, -, X2, ⟨Lc2, hQ2, l2, y2, z2⟩, st2⟩ := Jvm.LawKit.callS X0 hx (y := (⟨"com/example/strict_anon/strictanon/service/RecordSetsUnionPinLaw", "contains", "([II)Z"⟩ : MethodName)) hown (mvT hZ (hw _ (List.mem_of_getElem? (i := 23) rfl))) (mvT hZ (hw _ (List.mem_of_getElem? (i := 24) rfl))) (mvT hZ (hw _ (List.mem_of_getElem? (i := 11) rfl))) (mvT hZ (hw _ (List.mem_of_getElem? (i := 25) rfl))) (by decide) (backOf (W := 0) (own_rm7_3 l Z av hw [] a0 x0 k_a0 w0 w1 w2 h0 n0 Z0 V_a0) hZ (hw _ (List.mem_of_getElem? (i := 25) rfl)) (hw _ (List.mem_of_getElem? (i := 11) rfl)) (by decide) (by decide)) (g := (mkF m 10 #[oa a0, oa a1] [(.int x0), (.ref a0)])) rfl (by rw [hml]; rfl) (argsL := [(.ref a0), (.int x0)]) (rest := []) (lenOf own_pd0 rfl) rfl (by show 2 * 0 + _ ≤ _; exact Nat.le_of_eq rfl) (hb hby own_d6_10) (fun _ _ => ⟨rfl, e0, (by decide : 0 + 0 ≤ _), (by decide : 0 + 0 ≤ _)⟩)
  dsimp only [Pt.U, Pt.locs, Pt.cells, Pt.slots] at X2 l2 y2 z2 st2 hQ2
  have yq2 : k2 = 0 := y2
  have zq2 : n2 = 0 := z2
  subst yq2 zq2
  obtain ⟨rfl, Nq2, eq2⟩ := hQ2
  have N2 : Fr n0 L2 := by rw [l2]; exact Fr.app N0 Nq2
  have pre3 : ∀ t, Steps p.tables e below (T2.setTop (mkF m 13 #[oa a0, oa a1] [(.int (own_f7_3 w0 w1 w2 x0))])) t → Steps p.tables e below (s₁.setTop (entryFrame m #[(.ref a0), (.ref a1)] 2)) t := by
    intro t k
    refine pre0 t ?_
    show oS p e below s₁ m 0 #[oa a0, oa a1] [] _
    refine XS.aloadN X0.here hx rfl (hb hby own_d6_0) rfl rfl ?_
    show oS p e below s₁ m 1 #[oa a0, oa a1] [(.ref a1)] _
    refine oLen X0 hx hZ e0 V_a1 (hb hby own_d6_1) ?_
    refine XS.iconst X0.here hx rfl (hb hby own_d6_2) ?_
    show oS p e below s₁ m 3 #[oa a0, oa a1] [(.int (1 : Int32)), (.int (2 : Int32))] _
    refine XS.icmpNo X0.here hx rfl (hb hby own_d6_3) rfl (flt b1).1 ?_
    refine XS.aloadN X0.here hx rfl (hb hby own_d6_6) rfl rfl ?_
    refine XS.aloadN X0.here hx rfl (hb hby own_d6_7) rfl rfl ?_
    refine XS.iconst X0.here hx rfl (hb hby own_d6_8) ?_
    show oS p e below s₁ m 9 #[oa a0, oa a1] [(.int (0 : Int32)), (.ref a1), (.ref a0)] _
    refine oLdI X0 hx hZ e0 V_a1 (v := (.int x0)) ⟨by decide, by decide⟩ rfl (hb hby own_d6_9) ?_
    show oS p e below s₁ m 10 #[oa a0, oa a1] [(.int x0), (.ref a0)] _
    refine st2 _ ?_
    exact k
  by_cases c4 : (own_f7_3 w0 w1 w2 x0) = (0 : Int32)
  · skip
    obtain ⟨fs, hr, hrun, hended, hW, hsame⟩ := X2.leave (v := (some (.int (0 : Int32)))) (fun h => by rw [Bd.returns] at h; cases h)
    refine ⟨_, _, pre3 _ ?_, hrun, hended, _, _, rfl, ?_, ⟨_, rfl⟩, hW, hsame.mono (by decide) (by decide)⟩
    · show oS p e below T2 m 13 #[oa a0, oa a1] [(.int (own_f7_3 w0 w1 w2 x0))] _
      refine XS.ifYes X2.here hx rfl (pc0 := 13) (pc' := 36) rfl (hb hby own_d6_13) rfl ((if0 _ _).trans (teq c4).1) (by decide) (by decide) ?_
      refine XS.iconst X2.here hx rfl (hb hby own_d6_36) ?_
      show oS p e below T2 m 37 #[oa a0, oa a1] [(.int (0 : Int32))] _
      exact retN X2 hx (t := .boolean) Bd.returns (by simp) (hb hby own_d6_37) hr
    · show own_Q6_32 Z a0 a1 k_a0 w0 w1 w2 k_a1 x0 x1 h0 n0 _ T2.heap _
      rw [eq2]
      exact ⟨congrArg (fun z => some (Value.int z)) (by rw [own_f6_32, if_pos c4]), N2, rfl⟩
  · skip
    have b5 : ¬ ((2 : Int32) < (2 : Int32)) := (by decide)
    obtain ⟨_, _, ⟨T6, L6, k6, n6⟩, -, X6, ⟨Lc6, hQ6, l6, y6, z6⟩, st6⟩ := Jvm.LawKit.callS X2 hx (y := (⟨"com/example/strict_anon/strictanon/service/RecordSetsUnionPinLaw", "contains", "([II)Z"⟩ : MethodName)) hown (mvT hZ (hw _ (List.mem_of_getElem? (i := 23) rfl))) (mvT hZ (hw _ (List.mem_of_getElem? (i := 24) rfl))) (mvT hZ (hw _ (List.mem_of_getElem? (i := 11) rfl))) (mvT hZ (hw _ (List.mem_of_getElem? (i := 25) rfl))) (by decide) (backOf (W := 0) (own_rm7_3 l Z av hw [] a0 x1 k_a0 w0 w1 w2 h0 n0 Z0 V_a0) hZ (hw _ (List.mem_of_getElem? (i := 25) rfl)) (hw _ (List.mem_of_getElem? (i := 11) rfl)) (by decide) (by decide)) (g := (mkF m 26 #[oa a0, oa a1] [(.int x1), (.ref a0)])) rfl (by rw [hml]; rfl) (argsL := [(.ref a0), (.int x1)]) (rest := []) (lenOf own_pd0 rfl) rfl (by show 2 * 0 + _ ≤ _; exact Nat.le_of_eq rfl) (hb hby own_d6_26) (fun _ _ => ⟨rfl, eq2, (by decide : 0 + 0 ≤ _), (by decide : 0 + 0 ≤ _)⟩)
    dsimp only [Pt.U, Pt.locs, Pt.cells, Pt.slots] at X6 l6 y6 z6 st6 hQ6
    have yq6 : k6 = 0 := y6
    have zq6 : n6 = 0 := z6
    subst yq6 zq6
    obtain ⟨rfl, Nq6, eq6⟩ := hQ6
    have N6 : Fr n0 L6 := by rw [l6]; exact Fr.app N2 Nq6
    have pre7 : ∀ t, Steps p.tables e below (T6.setTop (mkF m 29 #[oa a0, oa a1] [(.int (own_f7_3 w0 w1 w2 x1))])) t → Steps p.tables e below (s₁.setTop (entryFrame m #[(.ref a0), (.ref a1)] 2)) t := by
      intro t k
      refine pre3 t ?_
      show oS p e below T2 m 13 #[oa a0, oa a1] [(.int (own_f7_3 w0 w1 w2 x0))] _
      refine XS.ifNo X2.here hx rfl (hb hby own_d6_13) rfl ((if0 _ _).trans (feq c4).1) ?_
      refine XS.aloadN X2.here hx rfl (hb hby own_d6_16) rfl rfl ?_
      show oS p e below T2 m 17 #[oa a0, oa a1] [(.ref a1)] _
      refine oLen X2 hx hZ eq2 V_a1 (hb hby own_d6_17) ?_
      refine XS.iconst X2.here hx rfl (hb hby own_d6_18) ?_
      show oS p e below T2 m 19 #[oa a0, oa a1] [(.int (2 : Int32)), (.int (2 : Int32))] _
      refine XS.icmpNo X2.here hx rfl (hb hby own_d6_19) rfl (flt b5).1 ?_
      refine XS.aloadN X2.here hx rfl (hb hby own_d6_22) rfl rfl ?_
      refine XS.aloadN X2.here hx rfl (hb hby own_d6_23) rfl rfl ?_
      refine XS.iconst X2.here hx rfl (hb hby own_d6_24) ?_
      show oS p e below T2 m 25 #[oa a0, oa a1] [(.int (1 : Int32)), (.ref a1), (.ref a0)] _
      refine oLdI X2 hx hZ eq2 V_a1 (v := (.int x1)) ⟨by decide, by decide⟩ rfl (hb hby own_d6_25) ?_
      show oS p e below T2 m 26 #[oa a0, oa a1] [(.int x1), (.ref a0)] _
      refine st6 _ ?_
      exact k
    by_cases c8 : (own_f7_3 w0 w1 w2 x1) = (0 : Int32)
    · skip
      obtain ⟨fs, hr, hrun, hended, hW, hsame⟩ := X6.leave (v := (some (.int (0 : Int32)))) (fun h => by rw [Bd.returns] at h; cases h)
      refine ⟨_, _, pre7 _ ?_, hrun, hended, _, _, rfl, ?_, ⟨_, rfl⟩, hW, hsame.mono (by decide) (by decide)⟩
      · show oS p e below T6 m 29 #[oa a0, oa a1] [(.int (own_f7_3 w0 w1 w2 x1))] _
        refine XS.ifYes X6.here hx rfl (pc0 := 29) (pc' := 36) rfl (hb hby own_d6_29) rfl ((if0 _ _).trans (teq c8).1) (by decide) (by decide) ?_
        refine XS.iconst X6.here hx rfl (hb hby own_d6_36) ?_
        show oS p e below T6 m 37 #[oa a0, oa a1] [(.int (0 : Int32))] _
        exact retN X6 hx (t := .boolean) Bd.returns (by simp) (hb hby own_d6_37) hr
      · show own_Q6_32 Z a0 a1 k_a0 w0 w1 w2 k_a1 x0 x1 h0 n0 _ T6.heap _
        rw [eq6]
        exact ⟨congrArg (fun z => some (Value.int z)) (by rw [own_f6_32, if_neg c4, if_pos c8]), N6, rfl⟩
    · skip
      obtain ⟨fs, hr, hrun, hended, hW, hsame⟩ := X6.leave (v := (some (.int (1 : Int32)))) (fun h => by rw [Bd.returns] at h; cases h)
      refine ⟨_, _, pre7 _ ?_, hrun, hended, _, _, rfl, ?_, ⟨_, rfl⟩, hW, hsame.mono (by decide) (by decide)⟩
      · show oS p e below T6 m 29 #[oa a0, oa a1] [(.int (own_f7_3 w0 w1 w2 x1))] _
        refine XS.ifNo X6.here hx rfl (hb hby own_d6_29) rfl ((if0 _ _).trans (feq c8).1) ?_
        refine XS.iconst X6.here hx rfl (hb hby own_d6_32) ?_
        refine XS.goto X6.here hx rfl (pc0 := 33) (pc' := 37) rfl (hb hby own_d6_33) (by decide) (by decide) ?_
        show oS p e below T6 m 37 #[oa a0, oa a1] [(.int (1 : Int32))] _
        exact retN X6 hx (t := .boolean) Bd.returns (by simp) (hb hby own_d6_37) hr
      · show own_Q6_32 Z a0 a1 k_a0 w0 w1 w2 k_a1 x0 x1 h0 n0 _ T6.heap _
        rw [eq6]
        exact ⟨congrArg (fun z => some (Value.int z)) (by rw [own_f6_32, if_neg c4, if_neg c8]), N6, rfl⟩
theorem own_d5_36 : decode method_6_code 36 = .ok (.aload_n 0, 1) := by decide +kernel
theorem own_d5_37 : decode method_6_code 37 = .ok (.iconst 2, 1) := by decide +kernel
theorem own_d5_38 : decode method_6_code 38 = .ok (.iaload, 1) := by decide +kernel
theorem own_d5_39 : decode method_6_code 39 = .ok (.aload_n 0, 1) := by decide +kernel
theorem own_d5_40 : decode method_6_code 40 = .ok (.iconst 3, 1) := by decide +kernel
theorem own_d5_41 : decode method_6_code 41 = .ok (.iaload, 1) := by decide +kernel
theorem own_d5_42 : decode method_6_code 42 = .ok (.if_icmp .ge 7, 3) := by decide +kernel
theorem own_ef5_4 (m : MethodId) (a0 : Addr) : entryFrame m #[(.ref a0)] 1 = mkF m 0 #[oa a0] [] := by first | (simp [entryFrame, mkF, argsToLocals, Value.category]; done) | rfl
def own_f5_4 (w0 : Int32) (w1 : Int32) (w2 : Int32) (w3 : Int32) : Int32 := (if w0 < w1 then (if w1 < w2 then (if w2 < w3 then (1 : Int32) else (0 : Int32)) else (0 : Int32)) else (0 : Int32))
def own_Q5_4 (Z : State) (a0 : Addr) (k_a0 : ClassId) (w0 : Int32) (w1 : Int32) (w2 : Int32) (w3 : Int32) (h0 : Heap) (n0 : Nat) (v : Option Value) (h : Heap) (L : List Loc) : Prop := v = some (Value.int (own_f5_4 w0 w1 w2 w3)) ∧ Fr n0 L ∧ h = h0
set_option maxRecDepth 65536 in
set_option maxHeartbeats 40000000 in
theorem own_rm5_4 (l : Launch) (Z : State) (av : Array Value) (hw : ∀ d ∈ tables_1, d.before av Z = true) (ws : List Jvm.Cond) (a0 : Addr) (k_a0 : ClassId) (w0 : Int32) (w1 : Int32) (w2 : Int32) (w3 : Int32) (h0 : Heap) (n0 : Nat) (Z0 : n0 ≤ h0.size) (V_a0 : Arv Z h0 a0 k_a0 .int (4 : Int32) [(.int w0), (.int w1), (.int w2), (.int w3)] (.int (0 : Int32))) :
    MetFree l (⟨"com/example/strict_anon/strictanon/service/RecordSetsUnionPinLaw", "increasing", "([I)Z"⟩ : MethodName) (head1 (Jvm.Cond.code (⟨"com/example/strict_anon/strictanon/service/RecordSetsUnionPinLaw", "increasing", "([I)Z"⟩ : MethodName) method_6_code 1 (some .boolean) :: ws) ({ frames := 0, cells := 0, slots := 0, locals := 0 } : Room)) (fun a U => a = #[(.ref a0)] ∧ Z.Warmed39 U.vm ∧ U.heap = h0) (fun _ _ _ _ _ => True) (fun _ U o U' => ∃ v L, o = .returned v ∧ own_Q5_4 Z a0 k_a0 w0 w1 w2 w3 h0 n0 v U'.heap L ∧ FrameEnd U o U' L ({ frames := 0, cells := 0, slots := 0, locals := 0 } : Room).cells ({ frames := 0, cells := 0, slots := 0, locals := 0 } : Room).slots) := by
  refine MetFree.of_bodySF (plainFor_of_name own_pn0) hisR ?_
  intro p e s m args below meth c s₁ Bd hml0 hP hK
  obtain ⟨rfl, hZ, hh⟩ := hP
  have hx := Bd.exec
  have hby := Bd.bytes
  have hml : c.maxLocals = 1 := hml0
  have hown : s.vm.findClass "com/example/strict_anon/strictanon/service/RecordSetsUnionPinLaw" = some m.cls := findClass_of_methodNamed Bd.named
  have hnm := (name_of_methodNamed Bd.named Bd.method).1
  have X0 : Stand p l e ({ frames := 0, cells := 0, slots := 0, locals := 0 } : Room) s m #[(.ref a0)] below meth c s₁ [] 0 0 := Stand.of_body Bd
  have e0 : s₁.heap = h0 := by rw [← hh, Bd.state]; rfl
  have N0 := Fr.nil n0
  have pre0 : ∀ t, Steps p.tables e below (s₁.setTop (mkF m 0 #[oa a0] [])) t → Steps p.tables e below (s₁.setTop (entryFrame m #[(.ref a0)] 1)) t := fun t k => castTop (own_ef5_4 m a0) k
  have b1 : ¬ ((4 : Int32) < (2 : Int32)) := (by decide)
  have pre2 : ∀ t, Steps p.tables e below (s₁.setTop (mkF m 12 #[oa a0] [(.int w1), (.int w0)])) t → Steps p.tables e below (s₁.setTop (entryFrame m #[(.ref a0)] 1)) t := by
    intro t k
    refine pre0 t ?_
    show oS p e below s₁ m 0 #[oa a0] [] _
    refine XS.aloadN X0.here hx rfl (hb hby own_d5_0) rfl rfl ?_
    show oS p e below s₁ m 1 #[oa a0] [(.ref a0)] _
    refine oLen X0 hx hZ e0 V_a0 (hb hby own_d5_1) ?_
    refine XS.iconst X0.here hx rfl (hb hby own_d5_2) ?_
    show oS p e below s₁ m 3 #[oa a0] [(.int (2 : Int32)), (.int (4 : Int32))] _
    refine XS.icmpNo X0.here hx rfl (hb hby own_d5_3) rfl (flt b1).1 ?_
    refine XS.aloadN X0.here hx rfl (hb hby own_d5_6) rfl rfl ?_
    refine XS.iconst X0.here hx rfl (hb hby own_d5_7) ?_
    show oS p e below s₁ m 8 #[oa a0] [(.int (0 : Int32)), (.ref a0)] _
    refine oLdI X0 hx hZ e0 V_a0 (v := (.int w0)) ⟨by decide, by decide⟩ rfl (hb hby own_d5_8) ?_
    refine XS.aloadN X0.here hx rfl (hb hby own_d5_9) rfl rfl ?_
    refine XS.iconst X0.here hx rfl (hb hby own_d5_10) ?_
    show oS p e below s₁ m 11 #[oa a0] [(.int (1 : Int32)), (.ref a0), (.int w0)] _
    refine oLdI X0 hx hZ e0 V_a0 (v := (.int w1)) ⟨by decide, by decide⟩ rfl (hb hby own_d5_11) ?_
    exact k
  by_cases c3 : w0 < w1
  · skip
    have b4 : ¬ ((4 : Int32) < (3 : Int32)) := (by decide)
    have pre5 : ∀ t, Steps p.tables e below (s₁.setTop (mkF m 27 #[oa a0] [(.int w2), (.int w1)])) t → Steps p.tables e below (s₁.setTop (entryFrame m #[(.ref a0)] 1)) t := by
      intro t k
      refine pre2 t ?_
      show oS p e below s₁ m 12 #[oa a0] [(.int w1), (.int w0)] _
      refine XS.icmpNo X0.here hx rfl (hb hby own_d5_12) rfl (tlt c3).2.1 ?_
      refine XS.aloadN X0.here hx rfl (hb hby own_d5_15) rfl rfl ?_
      show oS p e below s₁ m 16 #[oa a0] [(.ref a0)] _
      refine oLen X0 hx hZ e0 V_a0 (hb hby own_d5_16) ?_
      refine XS.iconst X0.here hx rfl (hb hby own_d5_17) ?_
      show oS p e below s₁ m 18 #[oa a0] [(.int (3 : Int32)), (.int (4 : Int32))] _
      refine XS.icmpNo X0.here hx rfl (hb hby own_d5_18) rfl (flt b4).1 ?_
      refine XS.aloadN X0.here hx rfl (hb hby own_d5_21) rfl rfl ?_
      refine XS.iconst X0.here hx rfl (hb hby own_d5_22) ?_
      show oS p e below s₁ m 23 #[oa a0] [(.int (1 : Int32)), (.ref a0)] _
      refine oLdI X0 hx hZ e0 V_a0 (v := (.int w1)) ⟨by decide, by decide⟩ rfl (hb hby own_d5_23) ?_
      refine XS.aloadN X0.here hx rfl (hb hby own_d5_24) rfl rfl ?_
      refine XS.iconst X0.here hx rfl (hb hby own_d5_25) ?_
      show oS p e below s₁ m 26 #[oa a0] [(.int (2 : Int32)), (.ref a0), (.int w1)] _
      refine oLdI X0 hx hZ e0 V_a0 (v := (.int w2)) ⟨by decide, by decide⟩ rfl (hb hby own_d5_26) ?_
      exact k
    by_cases c6 : w1 < w2
    · skip
      have b7 : ¬ ((4 : Int32) < (4 : Int32)) := (by decide)
      have pre8 : ∀ t, Steps p.tables e below (s₁.setTop (mkF m 42 #[oa a0] [(.int w3), (.int w2)])) t → Steps p.tables e below (s₁.setTop (entryFrame m #[(.ref a0)] 1)) t := by
        intro t k
        refine pre5 t ?_
        show oS p e below s₁ m 27 #[oa a0] [(.int w2), (.int w1)] _
        refine XS.icmpNo X0.here hx rfl (hb hby own_d5_27) rfl (tlt c6).2.1 ?_
        refine XS.aloadN X0.here hx rfl (hb hby own_d5_30) rfl rfl ?_
        show oS p e below s₁ m 31 #[oa a0] [(.ref a0)] _
        refine oLen X0 hx hZ e0 V_a0 (hb hby own_d5_31) ?_
        refine XS.iconst X0.here hx rfl (hb hby own_d5_32) ?_
        show oS p e below s₁ m 33 #[oa a0] [(.int (4 : Int32)), (.int (4 : Int32))] _
        refine XS.icmpNo X0.here hx rfl (hb hby own_d5_33) rfl (flt b7).1 ?_
        refine XS.aloadN X0.here hx rfl (hb hby own_d5_36) rfl rfl ?_
        refine XS.iconst X0.here hx rfl (hb hby own_d5_37) ?_
        show oS p e below s₁ m 38 #[oa a0] [(.int (2 : Int32)), (.ref a0)] _
        refine oLdI X0 hx hZ e0 V_a0 (v := (.int w2)) ⟨by decide, by decide⟩ rfl (hb hby own_d5_38) ?_
        refine XS.aloadN X0.here hx rfl (hb hby own_d5_39) rfl rfl ?_
        refine XS.iconst X0.here hx rfl (hb hby own_d5_40) ?_
        show oS p e below s₁ m 41 #[oa a0] [(.int (3 : Int32)), (.ref a0), (.int w2)] _
        refine oLdI X0 hx hZ e0 V_a0 (v := (.int w3)) ⟨by decide, by decide⟩ rfl (hb hby own_d5_41) ?_
        exact k
      by_cases c9 : w2 < w3
      · skip
        obtain ⟨fs, hr, hrun, hended, hW, hsame⟩ := X0.leave (v := (some (.int (1 : Int32)))) (fun h => by rw [Bd.returns] at h; cases h)
        refine ⟨_, _, pre8 _ ?_, hrun, hended, _, _, rfl, ?_, ⟨_, rfl⟩, hW, hsame.mono (by decide) (by decide)⟩
        · show oS p e below s₁ m 42 #[oa a0] [(.int w3), (.int w2)] _
          refine XS.icmpNo X0.here hx rfl (hb hby own_d5_42) rfl (tlt c9).2.1 ?_
          refine XS.iconst X0.here hx rfl (hb hby own_d5_45) ?_
          refine XS.goto X0.here hx rfl (pc0 := 46) (pc' := 50) rfl (hb hby own_d5_46) (by decide) (by decide) ?_
          show oS p e below s₁ m 50 #[oa a0] [(.int (1 : Int32))] _
          exact retN X0 hx (t := .boolean) Bd.returns (by simp) (hb hby own_d5_50) hr
        · show own_Q5_4 Z a0 k_a0 w0 w1 w2 w3 h0 n0 _ s₁.heap _
          rw [e0]
          exact ⟨congrArg (fun z => some (Value.int z)) (by rw [own_f5_4, if_pos c3, if_pos c6, if_pos c9]), N0, rfl⟩
      · skip
        obtain ⟨fs, hr, hrun, hended, hW, hsame⟩ := X0.leave (v := (some (.int (0 : Int32)))) (fun h => by rw [Bd.returns] at h; cases h)
        refine ⟨_, _, pre8 _ ?_, hrun, hended, _, _, rfl, ?_, ⟨_, rfl⟩, hW, hsame.mono (by decide) (by decide)⟩
        · show oS p e below s₁ m 42 #[oa a0] [(.int w3), (.int w2)] _
          refine XS.icmpYes X0.here hx rfl (pc0 := 42) (pc' := 49) rfl (hb hby own_d5_42) rfl (flt c9).2.1 (by decide) (by decide) ?_
          refine XS.iconst X0.here hx rfl (hb hby own_d5_49) ?_
          show oS p e below s₁ m 50 #[oa a0] [(.int (0 : Int32))] _
          exact retN X0 hx (t := .boolean) Bd.returns (by simp) (hb hby own_d5_50) hr
        · show own_Q5_4 Z a0 k_a0 w0 w1 w2 w3 h0 n0 _ s₁.heap _
          rw [e0]
          exact ⟨congrArg (fun z => some (Value.int z)) (by rw [own_f5_4, if_pos c3, if_pos c6, if_neg c9]), N0, rfl⟩
    · skip
      obtain ⟨fs, hr, hrun, hended, hW, hsame⟩ := X0.leave (v := (some (.int (0 : Int32)))) (fun h => by rw [Bd.returns] at h; cases h)
      refine ⟨_, _, pre5 _ ?_, hrun, hended, _, _, rfl, ?_, ⟨_, rfl⟩, hW, hsame.mono (by decide) (by decide)⟩
      · show oS p e below s₁ m 27 #[oa a0] [(.int w2), (.int w1)] _
        refine XS.icmpYes X0.here hx rfl (pc0 := 27) (pc' := 49) rfl (hb hby own_d5_27) rfl (flt c6).2.1 (by decide) (by decide) ?_
        refine XS.iconst X0.here hx rfl (hb hby own_d5_49) ?_
        show oS p e below s₁ m 50 #[oa a0] [(.int (0 : Int32))] _
        exact retN X0 hx (t := .boolean) Bd.returns (by simp) (hb hby own_d5_50) hr
      · show own_Q5_4 Z a0 k_a0 w0 w1 w2 w3 h0 n0 _ s₁.heap _
        rw [e0]
        exact ⟨congrArg (fun z => some (Value.int z)) (by rw [own_f5_4, if_pos c3, if_neg c6]), N0, rfl⟩
  · skip
    obtain ⟨fs, hr, hrun, hended, hW, hsame⟩ := X0.leave (v := (some (.int (0 : Int32)))) (fun h => by rw [Bd.returns] at h; cases h)
    refine ⟨_, _, pre2 _ ?_, hrun, hended, _, _, rfl, ?_, ⟨_, rfl⟩, hW, hsame.mono (by decide) (by decide)⟩
    · show oS p e below s₁ m 12 #[oa a0] [(.int w1), (.int w0)] _
      refine XS.icmpYes X0.here hx rfl (pc0 := 12) (pc' := 49) rfl (hb hby own_d5_12) rfl (flt c3).2.1 (by decide) (by decide) ?_
      refine XS.iconst X0.here hx rfl (hb hby own_d5_49) ?_
      show oS p e below s₁ m 50 #[oa a0] [(.int (0 : Int32))] _
      exact retN X0 hx (t := .boolean) Bd.returns (by simp) (hb hby own_d5_50) hr
    · show own_Q5_4 Z a0 k_a0 w0 w1 w2 w3 h0 n0 _ s₁.heap _
      rw [e0]
      exact ⟨congrArg (fun z => some (Value.int z)) (by rw [own_f5_4, if_neg c3]), N0, rfl⟩
theorem own_ef6_42 (m : MethodId) (a0 : Addr) (a1 : Addr) : entryFrame m #[(.ref a0), (.ref a1)] 2 = mkF m 0 #[oa a0, oa a1] [] := by first | (simp [entryFrame, mkF, argsToLocals, Value.category]; done) | rfl
def own_f6_42 (w0 : Int32) (w1 : Int32) (w2 : Int32) (w3 : Int32) (x0 : Int32) (x1 : Int32) : Int32 := (if (own_f7_4 w0 w1 w2 w3 x0) = (0 : Int32) then (0 : Int32) else (if (own_f7_4 w0 w1 w2 w3 x1) = (0 : Int32) then (0 : Int32) else (1 : Int32)))
def own_Q6_42 (Z : State) (a0 : Addr) (a1 : Addr) (k_a0 : ClassId) (w0 : Int32) (w1 : Int32) (w2 : Int32) (w3 : Int32) (k_a1 : ClassId) (x0 : Int32) (x1 : Int32) (h0 : Heap) (n0 : Nat) (v : Option Value) (h : Heap) (L : List Loc) : Prop := v = some (Value.int (own_f6_42 w0 w1 w2 w3 x0 x1)) ∧ Fr n0 L ∧ h = h0
set_option maxRecDepth 65536 in
set_option maxHeartbeats 40000000 in
theorem own_rm6_42 (l : Launch) (Z : State) (av : Array Value) (hw : ∀ d ∈ tables_1, d.before av Z = true) (ws : List Jvm.Cond) (a0 : Addr) (a1 : Addr) (k_a0 : ClassId) (w0 : Int32) (w1 : Int32) (w2 : Int32) (w3 : Int32) (k_a1 : ClassId) (x0 : Int32) (x1 : Int32) (h0 : Heap) (n0 : Nat) (Z0 : n0 ≤ h0.size) (V_a0 : Arv Z h0 a0 k_a0 .int (4 : Int32) [(.int w0), (.int w1), (.int w2), (.int w3)] (.int (0 : Int32))) (V_a1 : Arv Z h0 a1 k_a1 .int (2 : Int32) [(.int x0), (.int x1)] (.int (0 : Int32))) :
    MetFree l (⟨"com/example/strict_anon/strictanon/service/RecordSetsUnionPinLaw", "containsAll", "([I[I)Z"⟩ : MethodName) (head1 (Jvm.Cond.code (⟨"com/example/strict_anon/strictanon/service/RecordSetsUnionPinLaw", "containsAll", "([I[I)Z"⟩ : MethodName) method_5_code 2 (some .boolean) :: ws) ({ frames := 1, cells := 0, slots := 0, locals := 13 } : Room)) (fun a U => a = #[(.ref a0), (.ref a1)] ∧ Z.Warmed39 U.vm ∧ U.heap = h0) (fun _ _ _ _ _ => True) (fun _ U o U' => ∃ v L, o = .returned v ∧ own_Q6_42 Z a0 a1 k_a0 w0 w1 w2 w3 k_a1 x0 x1 h0 n0 v U'.heap L ∧ FrameEnd U o U' L ({ frames := 1, cells := 0, slots := 0, locals := 13 } : Room).cells ({ frames := 1, cells := 0, slots := 0, locals := 13 } : Room).slots) := by
  refine MetFree.of_bodySF (plainFor_of_name own_pn0) hisR ?_
  intro p e s m args below meth c s₁ Bd hml0 hP hK
  obtain ⟨rfl, hZ, hh⟩ := hP
  have hx := Bd.exec
  have hby := Bd.bytes
  have hml : c.maxLocals = 2 := hml0
  have hown : s.vm.findClass "com/example/strict_anon/strictanon/service/RecordSetsUnionPinLaw" = some m.cls := findClass_of_methodNamed Bd.named
  have hnm := (name_of_methodNamed Bd.named Bd.method).1
  have X0 : Stand p l e ({ frames := 1, cells := 0, slots := 0, locals := 13 } : Room) s m #[(.ref a0), (.ref a1)] below meth c s₁ [] 0 0 := Stand.of_body Bd
  have e0 : s₁.heap = h0 := by rw [← hh, Bd.state]; rfl
  have N0 := Fr.nil n0
  have pre0 : ∀ t, Steps p.tables e below (s₁.setTop (mkF m 0 #[oa a0, oa a1] [])) t → Steps p.tables e below (s₁.setTop (entryFrame m #[(.ref a0), (.ref a1)] 2)) t := fun t k => castTop (own_ef6_42 m a0 a1) k
  have b1 : ¬ ((2 : Int32) < (1 : Int32)) := (by decide)
  obtain ⟨_, _, ⟨T2, L2, k2, n2⟩, -, X2, ⟨Lc2, hQ2, l2, y2, z2⟩, st2⟩ := Jvm.LawKit.callS X0 hx (y := (⟨"com/example/strict_anon/strictanon/service/RecordSetsUnionPinLaw", "contains", "([II)Z"⟩ : MethodName)) hown (mvT hZ (hw _ (List.mem_of_getElem? (i := 23) rfl))) (mvT hZ (hw _ (List.mem_of_getElem? (i := 24) rfl))) (mvT hZ (hw _ (List.mem_of_getElem? (i := 11) rfl))) (mvT hZ (hw _ (List.mem_of_getElem? (i := 25) rfl))) (by decide) (backOf (W := 0) (own_rm7_4 l Z av hw [] a0 x0 k_a0 w0 w1 w2 w3 h0 n0 Z0 V_a0) hZ (hw _ (List.mem_of_getElem? (i := 25) rfl)) (hw _ (List.mem_of_getElem? (i := 11) rfl)) (by decide) (by decide)) (g := (mkF m 10 #[oa a0, oa a1] [(.int x0), (.ref a0)])) rfl (by rw [hml]; rfl) (argsL := [(.ref a0), (.int x0)]) (rest := []) (lenOf own_pd0 rfl) rfl (by show 2 * 0 + _ ≤ _; exact Nat.le_of_eq rfl) (hb hby own_d6_10) (fun _ _ => ⟨rfl, e0, (by decide : 0 + 0 ≤ _), (by decide : 0 + 0 ≤ _)⟩)
  dsimp only [Pt.U, Pt.locs, Pt.cells, Pt.slots] at X2 l2 y2 z2 st2 hQ2
  have yq2 : k2 = 0 := y2
  have zq2 : n2 = 0 := z2
  subst yq2 zq2
  obtain ⟨rfl, Nq2, eq2⟩ := hQ2
  have N2 : Fr n0 L2 := by rw [l2]; exact Fr.app N0 Nq2
  have pre3 : ∀ t, Steps p.tables e below (T2.setTop (mkF m 13 #[oa a0, oa a1] [(.int (own_f7_4 w0 w1 w2 w3 x0))])) t → Steps p.tables e below (s₁.setTop (entryFrame m #[(.ref a0), (.ref a1)] 2)) t := by
    intro t k
    refine pre0 t ?_
    show oS p e below s₁ m 0 #[oa a0, oa a1] [] _
    refine XS.aloadN X0.here hx rfl (hb hby own_d6_0) rfl rfl ?_
    show oS p e below s₁ m 1 #[oa a0, oa a1] [(.ref a1)] _
    refine oLen X0 hx hZ e0 V_a1 (hb hby own_d6_1) ?_
    refine XS.iconst X0.here hx rfl (hb hby own_d6_2) ?_
    show oS p e below s₁ m 3 #[oa a0, oa a1] [(.int (1 : Int32)), (.int (2 : Int32))] _
    refine XS.icmpNo X0.here hx rfl (hb hby own_d6_3) rfl (flt b1).1 ?_
    refine XS.aloadN X0.here hx rfl (hb hby own_d6_6) rfl rfl ?_
    refine XS.aloadN X0.here hx rfl (hb hby own_d6_7) rfl rfl ?_
    refine XS.iconst X0.here hx rfl (hb hby own_d6_8) ?_
    show oS p e below s₁ m 9 #[oa a0, oa a1] [(.int (0 : Int32)), (.ref a1), (.ref a0)] _
    refine oLdI X0 hx hZ e0 V_a1 (v := (.int x0)) ⟨by decide, by decide⟩ rfl (hb hby own_d6_9) ?_
    show oS p e below s₁ m 10 #[oa a0, oa a1] [(.int x0), (.ref a0)] _
    refine st2 _ ?_
    exact k
  by_cases c4 : (own_f7_4 w0 w1 w2 w3 x0) = (0 : Int32)
  · skip
    obtain ⟨fs, hr, hrun, hended, hW, hsame⟩ := X2.leave (v := (some (.int (0 : Int32)))) (fun h => by rw [Bd.returns] at h; cases h)
    refine ⟨_, _, pre3 _ ?_, hrun, hended, _, _, rfl, ?_, ⟨_, rfl⟩, hW, hsame.mono (by decide) (by decide)⟩
    · show oS p e below T2 m 13 #[oa a0, oa a1] [(.int (own_f7_4 w0 w1 w2 w3 x0))] _
      refine XS.ifYes X2.here hx rfl (pc0 := 13) (pc' := 36) rfl (hb hby own_d6_13) rfl ((if0 _ _).trans (teq c4).1) (by decide) (by decide) ?_
      refine XS.iconst X2.here hx rfl (hb hby own_d6_36) ?_
      show oS p e below T2 m 37 #[oa a0, oa a1] [(.int (0 : Int32))] _
      exact retN X2 hx (t := .boolean) Bd.returns (by simp) (hb hby own_d6_37) hr
    · show own_Q6_42 Z a0 a1 k_a0 w0 w1 w2 w3 k_a1 x0 x1 h0 n0 _ T2.heap _
      rw [eq2]
      exact ⟨congrArg (fun z => some (Value.int z)) (by rw [own_f6_42, if_pos c4]), N2, rfl⟩
  · skip
    have b5 : ¬ ((2 : Int32) < (2 : Int32)) := (by decide)
    obtain ⟨_, _, ⟨T6, L6, k6, n6⟩, -, X6, ⟨Lc6, hQ6, l6, y6, z6⟩, st6⟩ := Jvm.LawKit.callS X2 hx (y := (⟨"com/example/strict_anon/strictanon/service/RecordSetsUnionPinLaw", "contains", "([II)Z"⟩ : MethodName)) hown (mvT hZ (hw _ (List.mem_of_getElem? (i := 23) rfl))) (mvT hZ (hw _ (List.mem_of_getElem? (i := 24) rfl))) (mvT hZ (hw _ (List.mem_of_getElem? (i := 11) rfl))) (mvT hZ (hw _ (List.mem_of_getElem? (i := 25) rfl))) (by decide) (backOf (W := 0) (own_rm7_4 l Z av hw [] a0 x1 k_a0 w0 w1 w2 w3 h0 n0 Z0 V_a0) hZ (hw _ (List.mem_of_getElem? (i := 25) rfl)) (hw _ (List.mem_of_getElem? (i := 11) rfl)) (by decide) (by decide)) (g := (mkF m 26 #[oa a0, oa a1] [(.int x1), (.ref a0)])) rfl (by rw [hml]; rfl) (argsL := [(.ref a0), (.int x1)]) (rest := []) (lenOf own_pd0 rfl) rfl (by show 2 * 0 + _ ≤ _; exact Nat.le_of_eq rfl) (hb hby own_d6_26) (fun _ _ => ⟨rfl, eq2, (by decide : 0 + 0 ≤ _), (by decide : 0 + 0 ≤ _)⟩)
    dsimp only [Pt.U, Pt.locs, Pt.cells, Pt.slots] at X6 l6 y6 z6 st6 hQ6
    have yq6 : k6 = 0 := y6
    have zq6 : n6 = 0 := z6
    subst yq6 zq6
    obtain ⟨rfl, Nq6, eq6⟩ := hQ6
    have N6 : Fr n0 L6 := by rw [l6]; exact Fr.app N2 Nq6
    have pre7 : ∀ t, Steps p.tables e below (T6.setTop (mkF m 29 #[oa a0, oa a1] [(.int (own_f7_4 w0 w1 w2 w3 x1))])) t → Steps p.tables e below (s₁.setTop (entryFrame m #[(.ref a0), (.ref a1)] 2)) t := by
      intro t k
      refine pre3 t ?_
      show oS p e below T2 m 13 #[oa a0, oa a1] [(.int (own_f7_4 w0 w1 w2 w3 x0))] _
      refine XS.ifNo X2.here hx rfl (hb hby own_d6_13) rfl ((if0 _ _).trans (feq c4).1) ?_
      refine XS.aloadN X2.here hx rfl (hb hby own_d6_16) rfl rfl ?_
      show oS p e below T2 m 17 #[oa a0, oa a1] [(.ref a1)] _
      refine oLen X2 hx hZ eq2 V_a1 (hb hby own_d6_17) ?_
      refine XS.iconst X2.here hx rfl (hb hby own_d6_18) ?_
      show oS p e below T2 m 19 #[oa a0, oa a1] [(.int (2 : Int32)), (.int (2 : Int32))] _
      refine XS.icmpNo X2.here hx rfl (hb hby own_d6_19) rfl (flt b5).1 ?_
      refine XS.aloadN X2.here hx rfl (hb hby own_d6_22) rfl rfl ?_
      refine XS.aloadN X2.here hx rfl (hb hby own_d6_23) rfl rfl ?_
      refine XS.iconst X2.here hx rfl (hb hby own_d6_24) ?_
      show oS p e below T2 m 25 #[oa a0, oa a1] [(.int (1 : Int32)), (.ref a1), (.ref a0)] _
      refine oLdI X2 hx hZ eq2 V_a1 (v := (.int x1)) ⟨by decide, by decide⟩ rfl (hb hby own_d6_25) ?_
      show oS p e below T2 m 26 #[oa a0, oa a1] [(.int x1), (.ref a0)] _
      refine st6 _ ?_
      exact k
    by_cases c8 : (own_f7_4 w0 w1 w2 w3 x1) = (0 : Int32)
    · skip
      obtain ⟨fs, hr, hrun, hended, hW, hsame⟩ := X6.leave (v := (some (.int (0 : Int32)))) (fun h => by rw [Bd.returns] at h; cases h)
      refine ⟨_, _, pre7 _ ?_, hrun, hended, _, _, rfl, ?_, ⟨_, rfl⟩, hW, hsame.mono (by decide) (by decide)⟩
      · show oS p e below T6 m 29 #[oa a0, oa a1] [(.int (own_f7_4 w0 w1 w2 w3 x1))] _
        refine XS.ifYes X6.here hx rfl (pc0 := 29) (pc' := 36) rfl (hb hby own_d6_29) rfl ((if0 _ _).trans (teq c8).1) (by decide) (by decide) ?_
        refine XS.iconst X6.here hx rfl (hb hby own_d6_36) ?_
        show oS p e below T6 m 37 #[oa a0, oa a1] [(.int (0 : Int32))] _
        exact retN X6 hx (t := .boolean) Bd.returns (by simp) (hb hby own_d6_37) hr
      · show own_Q6_42 Z a0 a1 k_a0 w0 w1 w2 w3 k_a1 x0 x1 h0 n0 _ T6.heap _
        rw [eq6]
        exact ⟨congrArg (fun z => some (Value.int z)) (by rw [own_f6_42, if_neg c4, if_pos c8]), N6, rfl⟩
    · skip
      obtain ⟨fs, hr, hrun, hended, hW, hsame⟩ := X6.leave (v := (some (.int (1 : Int32)))) (fun h => by rw [Bd.returns] at h; cases h)
      refine ⟨_, _, pre7 _ ?_, hrun, hended, _, _, rfl, ?_, ⟨_, rfl⟩, hW, hsame.mono (by decide) (by decide)⟩
      · show oS p e below T6 m 29 #[oa a0, oa a1] [(.int (own_f7_4 w0 w1 w2 w3 x1))] _
        refine XS.ifNo X6.here hx rfl (hb hby own_d6_29) rfl ((if0 _ _).trans (feq c8).1) ?_
        refine XS.iconst X6.here hx rfl (hb hby own_d6_32) ?_
        refine XS.goto X6.here hx rfl (pc0 := 33) (pc' := 37) rfl (hb hby own_d6_33) (by decide) (by decide) ?_
        show oS p e below T6 m 37 #[oa a0, oa a1] [(.int (1 : Int32))] _
        exact retN X6 hx (t := .boolean) Bd.returns (by simp) (hb hby own_d6_37) hr
      · show own_Q6_42 Z a0 a1 k_a0 w0 w1 w2 w3 k_a1 x0 x1 h0 n0 _ T6.heap _
        rw [eq6]
        exact ⟨congrArg (fun z => some (Value.int z)) (by rw [own_f6_42, if_neg c4, if_neg c8]), N6, rfl⟩
theorem own_pn1 : plainName "com/example/strict_anon/strictanon/service/RecordSets" = true := by first | (simp [plainName, overriddenIn]; done) | decide +kernel
theorem own_d4_0 : decode prog_30_method_2_code 0 = .ok (.aload_n 0, 1) := by decide +kernel
theorem own_d4_1 : decode prog_30_method_2_code 1 = .ok (.arraylength, 1) := by decide +kernel
theorem own_d4_2 : decode prog_30_method_2_code 2 = .ok (.aload_n 1, 1) := by decide +kernel
theorem own_d4_3 : decode prog_30_method_2_code 3 = .ok (.arraylength, 1) := by decide +kernel
theorem own_d4_4 : decode prog_30_method_2_code 4 = .ok (.iadd, 1) := by decide +kernel
theorem own_d4_5 : decode prog_30_method_2_code 5 = .ok (.newarray .int, 2) := by decide +kernel
theorem own_d4_7 : decode prog_30_method_2_code 7 = .ok (.astore_n 2, 1) := by decide +kernel
theorem own_d4_8 : decode prog_30_method_2_code 8 = .ok (.iconst 0, 1) := by decide +kernel
theorem own_d4_9 : decode prog_30_method_2_code 9 = .ok (.istore_n 3, 1) := by decide +kernel
theorem own_d4_10 : decode prog_30_method_2_code 10 = .ok (.iconst 0, 1) := by decide +kernel
theorem own_d4_11 : decode prog_30_method_2_code 11 = .ok (.istore 4, 2) := by decide +kernel
theorem own_d4_13 : decode prog_30_method_2_code 13 = .ok (.iload_n 3, 1) := by decide +kernel
theorem own_d4_14 : decode prog_30_method_2_code 14 = .ok (.aload_n 0, 1) := by decide +kernel
theorem own_d4_15 : decode prog_30_method_2_code 15 = .ok (.arraylength, 1) := by decide +kernel
theorem own_d4_16 : decode prog_30_method_2_code 16 = .ok (.if_icmp .lt 10, 3) := by decide +kernel
theorem own_d4_19 : decode prog_30_method_2_code 19 = .ok (.iload 4, 2) := by decide +kernel
theorem own_d4_21 : decode prog_30_method_2_code 21 = .ok (.aload_n 1, 1) := by decide +kernel
theorem own_d4_22 : decode prog_30_method_2_code 22 = .ok (.arraylength, 1) := by decide +kernel
theorem own_d4_23 : decode prog_30_method_2_code 23 = .ok (.if_icmp .ge 57, 3) := by decide +kernel
theorem own_d4_80 : decode prog_30_method_2_code 80 = .ok (.aload_n 2, 1) := by decide +kernel
theorem own_d4_81 : decode prog_30_method_2_code 81 = .ok (.areturn, 1) := by decide +kernel
theorem own_ef4_00 (m : MethodId) (a0 : Addr) (a1 : Addr) : entryFrame m #[(.ref a0), (.ref a1)] 5 = mkF m 0 #[oa a0, oa a1, .unset, .unset, .unset] [] := by first | (simp [entryFrame, mkF, argsToLocals, Value.category]; done) | rfl
def own_Q4_00 (Z : State) (a0 : Addr) (a1 : Addr) (k_a0 : ClassId) (k_a1 : ClassId) (h0 : Heap) (n0 : Nat) (v : Option Value) (h : Heap) (L : List Loc) : Prop := ∃ (u : Addr) (k_u : ClassId), v = some (.ref u) ∧ Fr n0 L ∧ Keep h0 h [] ∧ h0.size ≤ u ∧ Arv Z h u k_u .int (0 : Int32) [] (.int (0 : Int32))
set_option maxRecDepth 65536 in
set_option maxHeartbeats 40000000 in
theorem own_rm4_00 (l : Launch) (Z : State) (av : Array Value) (hw : ∀ d ∈ tables_1, d.before av Z = true) (ws : List Jvm.Cond) (a0 : Addr) (a1 : Addr) (k_a0 : ClassId) (k_a1 : ClassId) (h0 : Heap) (n0 : Nat) (Z0 : n0 ≤ h0.size) (V_a0 : Arv Z h0 a0 k_a0 .int (0 : Int32) [] (.int (0 : Int32))) (V_a1 : Arv Z h0 a1 k_a1 .int (0 : Int32) [] (.int (0 : Int32))) :
    MetFree l (⟨"com/example/strict_anon/strictanon/service/RecordSets", "union", "([I[I)[I"⟩ : MethodName) (head1 (Jvm.Cond.code (⟨"com/example/strict_anon/strictanon/service/RecordSets", "union", "([I[I)[I"⟩ : MethodName) prog_30_method_2_code 5 (some (.array .int)) :: ws) ({ frames := 0, cells := 1, slots := 0, locals := 0 } : Room)) (fun a U => a = #[(.ref a0), (.ref a1)] ∧ Z.Warmed39 U.vm ∧ U.heap = h0) (fun _ _ _ _ _ => True) (fun _ U o U' => ∃ v L, o = .returned v ∧ own_Q4_00 Z a0 a1 k_a0 k_a1 h0 n0 v U'.heap L ∧ FrameEnd U o U' L ({ frames := 0, cells := 1, slots := 0, locals := 0 } : Room).cells ({ frames := 0, cells := 1, slots := 0, locals := 0 } : Room).slots) := by
  refine MetFree.of_bodySF (plainFor_of_name own_pn1) hisR ?_
  intro p e s m args below meth c s₁ Bd hml0 hP hK
  obtain ⟨rfl, hZ, hh⟩ := hP
  have hx := Bd.exec
  have hby := Bd.bytes
  have hml : c.maxLocals = 5 := hml0
  have hown : s.vm.findClass "com/example/strict_anon/strictanon/service/RecordSets" = some m.cls := findClass_of_methodNamed Bd.named
  have hnm := (name_of_methodNamed Bd.named Bd.method).1
  have X0 : Stand p l e ({ frames := 0, cells := 1, slots := 0, locals := 0 } : Room) s m #[(.ref a0), (.ref a1)] below meth c s₁ [] 0 0 := Stand.of_body Bd
  have e0 : s₁.heap = h0 := by rw [← hh, Bd.state]; rfl
  have N0 := Fr.nil n0
  have pre0 : ∀ t, Steps p.tables e below (s₁.setTop (mkF m 0 #[oa a0, oa a1, .unset, .unset, .unset] [])) t → Steps p.tables e below (s₁.setTop (entryFrame m #[(.ref a0), (.ref a1)] 5)) t := fun t k => castTop (own_ef4_00 m a0 a1) k
  obtain ⟨T1, h1, k1, X1, e1, E1, A1, st1⟩ := newP X0 hx hZ (hw _ (List.mem_of_getElem? (i := 8) rfl)) e0 (g := (mkF m 5 #[oa a0, oa a1, .unset, .unset, .unset] [(.int (0 : Int32))])) rfl (hb hby own_d4_5) rfl (by decide) (cap := 0) (by decide) (by decide) (by decide) (by decide)
  obtain ⟨b1, g1⟩ : ∃ z, z = h0.size := ⟨_, rfl⟩
  rw [← g1] at A1 st1
  have g_b1 : n0 ≤ b1 := Nat.le_trans Z0 (Nat.le_of_eq g1.symm)
  have ne2 : a0 ≠ b1 := Nat.ne_of_lt (Nat.lt_of_lt_of_le V_a0.lt (Nat.le_of_eq g1.symm))
  have ne3 : a1 ≠ b1 := Nat.ne_of_lt (Nat.lt_of_lt_of_le V_a1.lt (Nat.le_of_eq g1.symm))
  have Z1 : n0 ≤ h1.size := Nat.le_trans Z0 E1.1
  have sz_b1 : h0.size ≤ b1 := Nat.le_trans (Keep.refl h0 []).1 (Nat.le_of_eq g1.symm)
  have K_4 : Keep h0 h1 [] := (Keep.refl h0 []).ext E1
  have F5 := V_a0.ext E1
  have F6 := V_a1.ext E1
  have V_7 : Arv Z h1 b1 k1 .int (0 : Int32) [] (.int (0 : Int32)) := (Arv.new A1 (by decide))
  have b8 : ¬ ((0 : Int32) < (0 : Int32)) := (by decide)
  have b9 : ¬ ((0 : Int32) < (0 : Int32)) := (by decide)
  obtain ⟨fs, hr, hrun, hended, hW, hsame⟩ := X1.leave (v := (some (.ref b1))) (fun h => by rw [Bd.returns] at h; cases h)
  refine ⟨_, _, pre0 _ ?_, hrun, hended, _, _, rfl, ?_, ⟨_, rfl⟩, hW, hsame.mono (by decide) (by decide)⟩
  · show oS p e below s₁ m 0 #[oa a0, oa a1, .unset, .unset, .unset] [] _
    refine XS.aloadN X0.here hx rfl (hb hby own_d4_0) rfl rfl ?_
    show oS p e below s₁ m 1 #[oa a0, oa a1, .unset, .unset, .unset] [(.ref a0)] _
    refine oLen X0 hx hZ e0 V_a0 (hb hby own_d4_1) ?_
    refine XS.aloadN X0.here hx rfl (hb hby own_d4_2) rfl rfl ?_
    show oS p e below s₁ m 3 #[oa a0, oa a1, .unset, .unset, .unset] [(.ref a1), (.int (0 : Int32))] _
    refine oLen X0 hx hZ e0 V_a1 (hb hby own_d4_3) ?_
    refine XS.iadd X0.here hx rfl (hb hby own_d4_4) rfl ?_
    show oS p e below s₁ m 5 #[oa a0, oa a1, .unset, .unset, .unset] [(.int (0 : Int32))] _
    refine st1 _ ?_
    show oS p e below T1 m 7 #[oa a0, oa a1, .unset, .unset, .unset] [(.ref b1)] _
    refine XS.astoreN X1.here hx rfl (hb hby own_d4_7) rfl rfl (l' := #[oa a0, oa a1, oa b1, .unset, .unset]) rfl ?_
    refine XS.iconst X1.here hx rfl (hb hby own_d4_8) ?_
    refine XS.istoreN X1.here hx rfl (hb hby own_d4_9) rfl (l' := #[oa a0, oa a1, oa b1, oi (0 : Int32), .unset]) rfl ?_
    refine XS.iconst X1.here hx rfl (hb hby own_d4_10) ?_
    show oS p e below T1 m 11 #[oa a0, oa a1, oa b1, oi (0 : Int32), .unset] [(.int (0 : Int32))] _
    refine XS.istore X1.here hx rfl (hb hby own_d4_11) rfl (l' := #[oa a0, oa a1, oa b1, oi (0 : Int32), oi (0 : Int32)]) rfl ?_
    refine XS.iloadN X1.here hx rfl (hb hby own_d4_13) rfl ?_
    refine XS.aloadN X1.here hx rfl (hb hby own_d4_14) rfl rfl ?_
    show oS p e below T1 m 15 #[oa a0, oa a1, oa b1, oi (0 : Int32), oi (0 : Int32)] [(.ref a0), (.int (0 : Int32))] _
    refine oLen X1 hx hZ e1 F5 (hb hby own_d4_15) ?_
    show oS p e below T1 m 16 #[oa a0, oa a1, oa b1, oi (0 : Int32), oi (0 : Int32)] [(.int (0 : Int32)), (.int (0 : Int32))] _
    refine XS.icmpNo X1.here hx rfl (hb hby own_d4_16) rfl (flt b8).1 ?_
    refine XS.iload X1.here hx rfl (hb hby own_d4_19) rfl ?_
    refine XS.aloadN X1.here hx rfl (hb hby own_d4_21) rfl rfl ?_
    show oS p e below T1 m 22 #[oa a0, oa a1, oa b1, oi (0 : Int32), oi (0 : Int32)] [(.ref a1), (.int (0 : Int32))] _
    refine oLen X1 hx hZ e1 F6 (hb hby own_d4_22) ?_
    show oS p e below T1 m 23 #[oa a0, oa a1, oa b1, oi (0 : Int32), oi (0 : Int32)] [(.int (0 : Int32)), (.int (0 : Int32))] _
    refine XS.icmpYes X1.here hx rfl (pc0 := 23) (pc' := 80) rfl (hb hby own_d4_23) rfl (flt b9).2.1 (by decide) (by decide) ?_
    refine XS.aloadN X1.here hx rfl (hb hby own_d4_80) rfl rfl ?_
    show oS p e below T1 m 81 #[oa a0, oa a1, oa b1, oi (0 : Int32), oi (0 : Int32)] [(.ref b1)] _
    exact retOut X1 hx Bd.returns rfl (Or.inr (Or.inr (Or.inr (Or.inr ⟨rfl, rfl, rfl⟩)))) (hb hby own_d4_81) hr
  · show own_Q4_00 Z a0 a1 k_a0 k_a1 h0 n0 _ T1.heap _
    rw [e1]
    exact ⟨b1, k1, rfl, N0, K_4, sz_b1, V_7⟩
theorem own_d4_26 : decode prog_30_method_2_code 26 = .ok (.iload 4, 2) := by decide +kernel
theorem own_d4_28 : decode prog_30_method_2_code 28 = .ok (.aload_n 1, 1) := by decide +kernel
theorem own_d4_29 : decode prog_30_method_2_code 29 = .ok (.arraylength, 1) := by decide +kernel
theorem own_d4_30 : decode prog_30_method_2_code 30 = .ok (.if_icmp .eq 19, 3) := by decide +kernel
theorem own_d4_33 : decode prog_30_method_2_code 33 = .ok (.iload_n 3, 1) := by decide +kernel
theorem own_d4_34 : decode prog_30_method_2_code 34 = .ok (.aload_n 0, 1) := by decide +kernel
theorem own_d4_35 : decode prog_30_method_2_code 35 = .ok (.arraylength, 1) := by decide +kernel
theorem own_d4_36 : decode prog_30_method_2_code 36 = .ok (.if_icmp .ge 28, 3) := by decide +kernel
theorem own_d4_64 : decode prog_30_method_2_code 64 = .ok (.aload_n 2, 1) := by decide +kernel
theorem own_d4_65 : decode prog_30_method_2_code 65 = .ok (.iload_n 3, 1) := by decide +kernel
theorem own_d4_66 : decode prog_30_method_2_code 66 = .ok (.iload 4, 2) := by decide +kernel
theorem own_d4_68 : decode prog_30_method_2_code 68 = .ok (.iadd, 1) := by decide +kernel
theorem own_d4_69 : decode prog_30_method_2_code 69 = .ok (.aload_n 1, 1) := by decide +kernel
theorem own_d4_70 : decode prog_30_method_2_code 70 = .ok (.iload 4, 2) := by decide +kernel
theorem own_d4_72 : decode prog_30_method_2_code 72 = .ok (.iaload, 1) := by decide +kernel
theorem own_d4_73 : decode prog_30_method_2_code 73 = .ok (.iastore, 1) := by decide +kernel
theorem own_d4_74 : decode prog_30_method_2_code 74 = .ok (.iinc 4 1, 3) := by decide +kernel
theorem own_d4_77 : decode prog_30_method_2_code 77 = .ok (.goto (-64), 3) := by decide +kernel
theorem own_ef4_01y (m : MethodId) (a0 : Addr) (a1 : Addr) : entryFrame m #[(.ref a0), (.ref a1)] 5 = mkF m 0 #[oa a0, oa a1, .unset, .unset, .unset] [] := by first | (simp [entryFrame, mkF, argsToLocals, Value.category]; done) | rfl
def own_Q4_01y (Z : State) (a0 : Addr) (a1 : Addr) (k_a0 : ClassId) (k_a1 : ClassId) (y0 : Int32) (h0 : Heap) (n0 : Nat) (v : Option Value) (h : Heap) (L : List Loc) : Prop := ∃ (u : Addr) (k_u : ClassId), v = some (.ref u) ∧ Fr n0 L ∧ Keep h0 h [] ∧ h0.size ≤ u ∧ Arv Z h u k_u .int (1 : Int32) [(.int y0)] (.int (0 : Int32))
set_option maxRecDepth 65536 in
set_option maxHeartbeats 40000000 in
theorem own_rm4_01y (l : Launch) (Z : State) (av : Array Value) (hw : ∀ d ∈ tables_1, d.before av Z = true) (ws : List Jvm.Cond) (a0 : Addr) (a1 : Addr) (k_a0 : ClassId) (k_a1 : ClassId) (y0 : Int32) (h0 : Heap) (n0 : Nat) (Z0 : n0 ≤ h0.size) (V_a0 : Arv Z h0 a0 k_a0 .int (0 : Int32) [] (.int (0 : Int32))) (V_a1 : Arv Z h0 a1 k_a1 .int (1 : Int32) [(.int y0)] (.int (0 : Int32))) :
    MetFree l (⟨"com/example/strict_anon/strictanon/service/RecordSets", "union", "([I[I)[I"⟩ : MethodName) (head1 (Jvm.Cond.code (⟨"com/example/strict_anon/strictanon/service/RecordSets", "union", "([I[I)[I"⟩ : MethodName) prog_30_method_2_code 5 (some (.array .int)) :: ws) ({ frames := 0, cells := 1, slots := 1, locals := 0 } : Room)) (fun a U => a = #[(.ref a0), (.ref a1)] ∧ Z.Warmed39 U.vm ∧ U.heap = h0) (fun _ _ _ _ _ => True) (fun _ U o U' => ∃ v L, o = .returned v ∧ own_Q4_01y Z a0 a1 k_a0 k_a1 y0 h0 n0 v U'.heap L ∧ FrameEnd U o U' L ({ frames := 0, cells := 1, slots := 1, locals := 0 } : Room).cells ({ frames := 0, cells := 1, slots := 1, locals := 0 } : Room).slots) := by
  refine MetFree.of_bodySF (plainFor_of_name own_pn1) hisR ?_
  intro p e s m args below meth c s₁ Bd hml0 hP hK
  obtain ⟨rfl, hZ, hh⟩ := hP
  have hx := Bd.exec
  have hby := Bd.bytes
  have hml : c.maxLocals = 5 := hml0
  have hown : s.vm.findClass "com/example/strict_anon/strictanon/service/RecordSets" = some m.cls := findClass_of_methodNamed Bd.named
  have hnm := (name_of_methodNamed Bd.named Bd.method).1
  have X0 : Stand p l e ({ frames := 0, cells := 1, slots := 1, locals := 0 } : Room) s m #[(.ref a0), (.ref a1)] below meth c s₁ [] 0 0 := Stand.of_body Bd
  have e0 : s₁.heap = h0 := by rw [← hh, Bd.state]; rfl
  have N0 := Fr.nil n0
  have pre0 : ∀ t, Steps p.tables e below (s₁.setTop (mkF m 0 #[oa a0, oa a1, .unset, .unset, .unset] [])) t → Steps p.tables e below (s₁.setTop (entryFrame m #[(.ref a0), (.ref a1)] 5)) t := fun t k => castTop (own_ef4_01y m a0 a1) k
  obtain ⟨T1, h1, k1, X1, e1, E1, A1, st1⟩ := newP X0 hx hZ (hw _ (List.mem_of_getElem? (i := 8) rfl)) e0 (g := (mkF m 5 #[oa a0, oa a1, .unset, .unset, .unset] [(.int (1 : Int32))])) rfl (hb hby own_d4_5) rfl (by decide) (cap := 1) (by decide) (by decide) (by decide) (by decide)
  obtain ⟨b1, g1⟩ : ∃ z, z = h0.size := ⟨_, rfl⟩
  rw [← g1] at A1 st1
  have g_b1 : n0 ≤ b1 := Nat.le_trans Z0 (Nat.le_of_eq g1.symm)
  have ne2 : a0 ≠ b1 := Nat.ne_of_lt (Nat.lt_of_lt_of_le V_a0.lt (Nat.le_of_eq g1.symm))
  have ne3 : a1 ≠ b1 := Nat.ne_of_lt (Nat.lt_of_lt_of_le V_a1.lt (Nat.le_of_eq g1.symm))
  have Z1 : n0 ≤ h1.size := Nat.le_trans Z0 E1.1
  have sz_b1 : h0.size ≤ b1 := Nat.le_trans (Keep.refl h0 []).1 (Nat.le_of_eq g1.symm)
  have K_4 : Keep h0 h1 [] := (Keep.refl h0 []).ext E1
  have F5 := V_a0.ext E1
  have F6 := V_a1.ext E1
  have V_7 : Arv Z h1 b1 k1 .int (1 : Int32) [(.int (0 : Int32))] (.int (0 : Int32)) := (Arv.new A1 (by decide)).pad (pad_rep [] (.int (0 : Int32)) 1)
  have b8 : ¬ ((0 : Int32) < (0 : Int32)) := (by decide)
  have b9 : (0 : Int32) < (1 : Int32) := (by decide)
  have b10 : ¬ ((0 : Int32) = (1 : Int32)) := (by decide)
  have b11 : ¬ ((0 : Int32) < (0 : Int32)) := (by decide)
  obtain ⟨T12, h12, X12, e12, W12, V12, st12⟩ := oStI X1 hx hZ e1 V_7 (j := (0 : Int32)) ⟨by decide, by decide⟩ 0 rfl (Nat.le_of_ble_eq_true rfl) (g := (mkF m 73 #[oa a0, oa a1, oa b1, oi (0 : Int32), oi (0 : Int32)] [(.int y0), (.int (0 : Int32)), (.ref b1)])) rfl rfl (hb hby own_d4_73)
  obtain ⟨Lo12, X12, N12⟩ := oOpq X12 (Fr.snoc X12 N0 g_b1)
  have Z12 := Nat.le_trans Z1 (Keep.of_wr W12).1
  have F13 := F5.other W12 ne2
  have F14 := F6.other W12 ne3
  have V_15 : Arv Z h12 b1 k1 .int (1 : Int32) [(.int y0)] (.int (0 : Int32)) := V12
  have K_16 : Keep h0 h12 [] := K_4.wr W12 (Or.inr sz_b1)
  have b17 : ¬ ((0 : Int32) < (0 : Int32)) := (by decide)
  have b18 : ¬ ((1 : Int32) < (1 : Int32)) := (by decide)
  obtain ⟨fs, hr, hrun, hended, hW, hsame⟩ := X12.leave (v := (some (.ref b1))) (fun h => by rw [Bd.returns] at h; cases h)
  refine ⟨_, _, pre0 _ ?_, hrun, hended, _, _, rfl, ?_, ⟨_, rfl⟩, hW, hsame.mono (by decide) (by decide)⟩
  · show oS p e below s₁ m 0 #[oa a0, oa a1, .unset, .unset, .unset] [] _
    refine XS.aloadN X0.here hx rfl (hb hby own_d4_0) rfl rfl ?_
    show oS p e below s₁ m 1 #[oa a0, oa a1, .unset, .unset, .unset] [(.ref a0)] _
    refine oLen X0 hx hZ e0 V_a0 (hb hby own_d4_1) ?_
    refine XS.aloadN X0.here hx rfl (hb hby own_d4_2) rfl rfl ?_
    show oS p e below s₁ m 3 #[oa a0, oa a1, .unset, .unset, .unset] [(.ref a1), (.int (0 : Int32))] _
    refine oLen X0 hx hZ e0 V_a1 (hb hby own_d4_3) ?_
    refine XS.iadd X0.here hx rfl (hb hby own_d4_4) rfl ?_
    show oS p e below s₁ m 5 #[oa a0, oa a1, .unset, .unset, .unset] [(.int (1 : Int32))] _
    refine st1 _ ?_
    show oS p e below T1 m 7 #[oa a0, oa a1, .unset, .unset, .unset] [(.ref b1)] _
    refine XS.astoreN X1.here hx rfl (hb hby own_d4_7) rfl rfl (l' := #[oa a0, oa a1, oa b1, .unset, .unset]) rfl ?_
    refine XS.iconst X1.here hx rfl (hb hby own_d4_8) ?_
    refine XS.istoreN X1.here hx rfl (hb hby own_d4_9) rfl (l' := #[oa a0, oa a1, oa b1, oi (0 : Int32), .unset]) rfl ?_
    refine XS.iconst X1.here hx rfl (hb hby own_d4_10) ?_
    show oS p e below T1 m 11 #[oa a0, oa a1, oa b1, oi (0 : Int32), .unset] [(.int (0 : Int32))] _
    refine XS.istore X1.here hx rfl (hb hby own_d4_11) rfl (l' := #[oa a0, oa a1, oa b1, oi (0 : Int32), oi (0 : Int32)]) rfl ?_
    refine XS.iloadN X1.here hx rfl (hb hby own_d4_13) rfl ?_
    refine XS.aloadN X1.here hx rfl (hb hby own_d4_14) rfl rfl ?_
    show oS p e below T1 m 15 #[oa a0, oa a1, oa b1, oi (0 : Int32), oi (0 : Int32)] [(.ref a0), (.int (0 : Int32))] _
    refine oLen X1 hx hZ e1 F5 (hb hby own_d4_15) ?_
    show oS p e below T1 m 16 #[oa a0, oa a1, oa b1, oi (0 : Int32), oi (0 : Int32)] [(.int (0 : Int32)), (.int (0 : Int32))] _
    refine XS.icmpNo X1.here hx rfl (hb hby own_d4_16) rfl (flt b8).1 ?_
    refine XS.iload X1.here hx rfl (hb hby own_d4_19) rfl ?_
    refine XS.aloadN X1.here hx rfl (hb hby own_d4_21) rfl rfl ?_
    show oS p e below T1 m 22 #[oa a0, oa a1, oa b1, oi (0 : Int32), oi (0 : Int32)] [(.ref a1), (.int (0 : Int32))] _
    refine oLen X1 hx hZ e1 F6 (hb hby own_d4_22) ?_
    show oS p e below T1 m 23 #[oa a0, oa a1, oa b1, oi (0 : Int32), oi (0 : Int32)] [(.int (1 : Int32)), (.int (0 : Int32))] _
    refine XS.icmpNo X1.here hx rfl (hb hby own_d4_23) rfl (tlt b9).2.1 ?_
    refine XS.iload X1.here hx rfl (hb hby own_d4_26) rfl ?_
    refine XS.aloadN X1.here hx rfl (hb hby own_d4_28) rfl rfl ?_
    show oS p e below T1 m 29 #[oa a0, oa a1, oa b1, oi (0 : Int32), oi (0 : Int32)] [(.ref a1), (.int (0 : Int32))] _
    refine oLen X1 hx hZ e1 F6 (hb hby own_d4_29) ?_
    show oS p e below T1 m 30 #[oa a0, oa a1, oa b1, oi (0 : Int32), oi (0 : Int32)] [(.int (1 : Int32)), (.int (0 : Int32))] _
    refine XS.icmpNo X1.here hx rfl (hb hby own_d4_30) rfl (feq b10).1 ?_
    refine XS.iloadN X1.here hx rfl (hb hby own_d4_33) rfl ?_
    refine XS.aloadN X1.here hx rfl (hb hby own_d4_34) rfl rfl ?_
    show oS p e below T1 m 35 #[oa a0, oa a1, oa b1, oi (0 : Int32), oi (0 : Int32)] [(.ref a0), (.int (0 : Int32))] _
    refine oLen X1 hx hZ e1 F5 (hb hby own_d4_35) ?_
    show oS p e below T1 m 36 #[oa a0, oa a1, oa b1, oi (0 : Int32), oi (0 : Int32)] [(.int (0 : Int32)), (.int (0 : Int32))] _
    refine XS.icmpYes X1.here hx rfl (pc0 := 36) (pc' := 64) rfl (hb hby own_d4_36) rfl (flt b11).2.1 (by decide) (by decide) ?_
    refine XS.aloadN X1.here hx rfl (hb hby own_d4_64) rfl rfl ?_
    refine XS.iloadN X1.here hx rfl (hb hby own_d4_65) rfl ?_
    refine XS.iload X1.here hx rfl (hb hby own_d4_66) rfl ?_
    show oS p e below T1 m 68 #[oa a0, oa a1, oa b1, oi (0 : Int32), oi (0 : Int32)] [(.int (0 : Int32)), (.int (0 : Int32)), (.ref b1)] _
    refine XS.iadd X1.here hx rfl (hb hby own_d4_68) rfl ?_
    refine XS.aloadN X1.here hx rfl (hb hby own_d4_69) rfl rfl ?_
    refine XS.iload X1.here hx rfl (hb hby own_d4_70) rfl ?_
    show oS p e below T1 m 72 #[oa a0, oa a1, oa b1, oi (0 : Int32), oi (0 : Int32)] [(.int (0 : Int32)), (.ref a1), (.int (0 : Int32)), (.ref b1)] _
    refine oLdI X1 hx hZ e1 F6 (v := (.int y0)) ⟨by decide, by decide⟩ rfl (hb hby own_d4_72) ?_
    show oS p e below T1 m 73 #[oa a0, oa a1, oa b1, oi (0 : Int32), oi (0 : Int32)] [(.int y0), (.int (0 : Int32)), (.ref b1)] _
    refine st12 _ ?_
    show oS p e below T12 m 74 #[oa a0, oa a1, oa b1, oi (0 : Int32), oi (0 : Int32)] [] _
    refine XS.iinc X12.here hx rfl (hb hby own_d4_74) rfl (l' := #[oa a0, oa a1, oa b1, oi (0 : Int32), oi (1 : Int32)]) rfl ?_
    refine XS.goto X12.here hx rfl (pc0 := 77) (pc' := 13) rfl (hb hby own_d4_77) (by decide) (by decide) ?_
    refine XS.iloadN X12.here hx rfl (hb hby own_d4_13) rfl ?_
    refine XS.aloadN X12.here hx rfl (hb hby own_d4_14) rfl rfl ?_
    show oS p e below T12 m 15 #[oa a0, oa a1, oa b1, oi (0 : Int32), oi (1 : Int32)] [(.ref a0), (.int (0 : Int32))] _
    refine oLen X12 hx hZ e12 F13 (hb hby own_d4_15) ?_
    show oS p e below T12 m 16 #[oa a0, oa a1, oa b1, oi (0 : Int32), oi (1 : Int32)] [(.int (0 : Int32)), (.int (0 : Int32))] _
    refine XS.icmpNo X12.here hx rfl (hb hby own_d4_16) rfl (flt b17).1 ?_
    refine XS.iload X12.here hx rfl (hb hby own_d4_19) rfl ?_
    refine XS.aloadN X12.here hx rfl (hb hby own_d4_21) rfl rfl ?_
    show oS p e below T12 m 22 #[oa a0, oa a1, oa b1, oi (0 : Int32), oi (1 : Int32)] [(.ref a1), (.int (1 : Int32))] _
    refine oLen X12 hx hZ e12 F14 (hb hby own_d4_22) ?_
    show oS p e below T12 m 23 #[oa a0, oa a1, oa b1, oi (0 : Int32), oi (1 : Int32)] [(.int (1 : Int32)), (.int (1 : Int32))] _
    refine XS.icmpYes X12.here hx rfl (pc0 := 23) (pc' := 80) rfl (hb hby own_d4_23) rfl (flt b18).2.1 (by decide) (by decide) ?_
    refine XS.aloadN X12.here hx rfl (hb hby own_d4_80) rfl rfl ?_
    show oS p e below T12 m 81 #[oa a0, oa a1, oa b1, oi (0 : Int32), oi (1 : Int32)] [(.ref b1)] _
    exact retOut X12 hx Bd.returns rfl (Or.inr (Or.inr (Or.inr (Or.inr ⟨rfl, rfl, rfl⟩)))) (hb hby own_d4_81) hr
  · show own_Q4_01y Z a0 a1 k_a0 k_a1 y0 h0 n0 _ T12.heap _
    rw [e12]
    exact ⟨b1, k1, rfl, N12, K_16, sz_b1, V_15⟩
theorem own_ef4_02yy (m : MethodId) (a0 : Addr) (a1 : Addr) : entryFrame m #[(.ref a0), (.ref a1)] 5 = mkF m 0 #[oa a0, oa a1, .unset, .unset, .unset] [] := by first | (simp [entryFrame, mkF, argsToLocals, Value.category]; done) | rfl
def own_Q4_02yy (Z : State) (a0 : Addr) (a1 : Addr) (k_a0 : ClassId) (k_a1 : ClassId) (y0 : Int32) (y1 : Int32) (h0 : Heap) (n0 : Nat) (v : Option Value) (h : Heap) (L : List Loc) : Prop := ∃ (u : Addr) (k_u : ClassId), v = some (.ref u) ∧ Fr n0 L ∧ Keep h0 h [] ∧ h0.size ≤ u ∧ Arv Z h u k_u .int (2 : Int32) [(.int y0), (.int y1)] (.int (0 : Int32))
set_option maxRecDepth 65536 in
set_option maxHeartbeats 40000000 in
theorem own_rm4_02yy (l : Launch) (Z : State) (av : Array Value) (hw : ∀ d ∈ tables_1, d.before av Z = true) (ws : List Jvm.Cond) (a0 : Addr) (a1 : Addr) (k_a0 : ClassId) (k_a1 : ClassId) (y0 : Int32) (y1 : Int32) (h0 : Heap) (n0 : Nat) (Z0 : n0 ≤ h0.size) (V_a0 : Arv Z h0 a0 k_a0 .int (0 : Int32) [] (.int (0 : Int32))) (V_a1 : Arv Z h0 a1 k_a1 .int (2 : Int32) [(.int y0), (.int y1)] (.int (0 : Int32))) :
    MetFree l (⟨"com/example/strict_anon/strictanon/service/RecordSets", "union", "([I[I)[I"⟩ : MethodName) (head1 (Jvm.Cond.code (⟨"com/example/strict_anon/strictanon/service/RecordSets", "union", "([I[I)[I"⟩ : MethodName) prog_30_method_2_code 5 (some (.array .int)) :: ws) ({ frames := 0, cells := 1, slots := 2, locals := 0 } : Room)) (fun a U => a = #[(.ref a0), (.ref a1)] ∧ Z.Warmed39 U.vm ∧ U.heap = h0) (fun _ _ _ _ _ => True) (fun _ U o U' => ∃ v L, o = .returned v ∧ own_Q4_02yy Z a0 a1 k_a0 k_a1 y0 y1 h0 n0 v U'.heap L ∧ FrameEnd U o U' L ({ frames := 0, cells := 1, slots := 2, locals := 0 } : Room).cells ({ frames := 0, cells := 1, slots := 2, locals := 0 } : Room).slots) := by
  refine MetFree.of_bodySF (plainFor_of_name own_pn1) hisR ?_
  intro p e s m args below meth c s₁ Bd hml0 hP hK
  obtain ⟨rfl, hZ, hh⟩ := hP
  have hx := Bd.exec
  have hby := Bd.bytes
  have hml : c.maxLocals = 5 := hml0
  have hown : s.vm.findClass "com/example/strict_anon/strictanon/service/RecordSets" = some m.cls := findClass_of_methodNamed Bd.named
  have hnm := (name_of_methodNamed Bd.named Bd.method).1
  have X0 : Stand p l e ({ frames := 0, cells := 1, slots := 2, locals := 0 } : Room) s m #[(.ref a0), (.ref a1)] below meth c s₁ [] 0 0 := Stand.of_body Bd
  have e0 : s₁.heap = h0 := by rw [← hh, Bd.state]; rfl
  have N0 := Fr.nil n0
  have pre0 : ∀ t, Steps p.tables e below (s₁.setTop (mkF m 0 #[oa a0, oa a1, .unset, .unset, .unset] [])) t → Steps p.tables e below (s₁.setTop (entryFrame m #[(.ref a0), (.ref a1)] 5)) t := fun t k => castTop (own_ef4_02yy m a0 a1) k
  obtain ⟨T1, h1, k1, X1, e1, E1, A1, st1⟩ := newP X0 hx hZ (hw _ (List.mem_of_getElem? (i := 8) rfl)) e0 (g := (mkF m 5 #[oa a0, oa a1, .unset, .unset, .unset] [(.int (2 : Int32))])) rfl (hb hby own_d4_5) rfl (by decide) (cap := 2) (by decide) (by decide) (by decide) (by decide)
  obtain ⟨b1, g1⟩ : ∃ z, z = h0.size := ⟨_, rfl⟩
  rw [← g1] at A1 st1
  have g_b1 : n0 ≤ b1 := Nat.le_trans Z0 (Nat.le_of_eq g1.symm)
  have ne2 : a0 ≠ b1 := Nat.ne_of_lt (Nat.lt_of_lt_of_le V_a0.lt (Nat.le_of_eq g1.symm))
  have ne3 : a1 ≠ b1 := Nat.ne_of_lt (Nat.lt_of_lt_of_le V_a1.lt (Nat.le_of_eq g1.symm))
  have Z1 : n0 ≤ h1.size := Nat.le_trans Z0 E1.1
  have sz_b1 : h0.size ≤ b1 := Nat.le_trans (Keep.refl h0 []).1 (Nat.le_of_eq g1.symm)
  have K_4 : Keep h0 h1 [] := (Keep.refl h0 []).ext E1
  have F5 := V_a0.ext E1
  have F6 := V_a1.ext E1
  have V_7 : Arv Z h1 b1 k1 .int (2 : Int32) [(.int (0 : Int32)), (.int (0 : Int32))] (.int (0 : Int32)) := (Arv.new A1 (by decide)).pad (pad_rep [] (.int (0 : Int32)) 2)
  have b8 : ¬ ((0 : Int32) < (0 : Int32)) := (by decide)
  have b9 : (0 : Int32) < (2 : Int32) := (by decide)
  have b10 : ¬ ((0 : Int32) = (2 : Int32)) := (by decide)
  have b11 : ¬ ((0 : Int32) < (0 : Int32)) := (by decide)
  obtain ⟨T12, h12, X12, e12, W12, V12, st12⟩ := oStI X1 hx hZ e1 V_7 (j := (0 : Int32)) ⟨by decide, by decide⟩ 0 rfl (Nat.le_of_ble_eq_true rfl) (g := (mkF m 73 #[oa a0, oa a1, oa b1, oi (0 : Int32), oi (0 : Int32)] [(.int y0), (.int (0 : Int32)), (.ref b1)])) rfl rfl (hb hby own_d4_73)
  obtain ⟨Lo12, X12, N12⟩ := oOpq X12 (Fr.snoc X12 N0 g_b1)
  have Z12 := Nat.le_trans Z1 (Keep.of_wr W12).1
  have F13 := F5.other W12 ne2
  have F14 := F6.other W12 ne3
  have V_15 : Arv Z h12 b1 k1 .int (2 : Int32) [(.int y0), (.int (0 : Int32))] (.int (0 : Int32)) := V12
  have K_16 : Keep h0 h12 [] := K_4.wr W12 (Or.inr sz_b1)
  have b17 : ¬ ((0 : Int32) < (0 : Int32)) := (by decide)
  have b18 : (1 : Int32) < (2 : Int32) := (by decide)
  have b19 : ¬ ((1 : Int32) = (2 : Int32)) := (by decide)
  have b20 : ¬ ((0 : Int32) < (0 : Int32)) := (by decide)
  obtain ⟨T21, h21, X21, e21, W21, V21, st21⟩ := oStI X12 hx hZ e12 V_15 (j := (1 : Int32)) ⟨by decide, by decide⟩ 1 rfl (Nat.le_of_ble_eq_true rfl) (g := (mkF m 73 #[oa a0, oa a1, oa b1, oi (0 : Int32), oi (1 : Int32)] [(.int y1), (.int (1 : Int32)), (.ref b1)])) rfl rfl (hb hby own_d4_73)
  obtain ⟨Lo21, X21, N21⟩ := oOpq X21 (Fr.snoc X21 N12 g_b1)
  have Z21 := Nat.le_trans Z12 (Keep.of_wr W21).1
  have F22 := F13.other W21 ne2
  have F23 := F14.other W21 ne3
  have V_24 : Arv Z h21 b1 k1 .int (2 : Int32) [(.int y0), (.int y1)] (.int (0 : Int32)) := V21
  have K_25 : Keep h0 h21 [] := K_16.wr W21 (Or.inr sz_b1)
  have b26 : ¬ ((0 : Int32) < (0 : Int32)) := (by decide)
  have b27 : ¬ ((2 : Int32) < (2 : Int32)) := (by decide)
  obtain ⟨fs, hr, hrun, hended, hW, hsame⟩ := X21.leave (v := (some (.ref b1))) (fun h => by rw [Bd.returns] at h; cases h)
  refine ⟨_, _, pre0 _ ?_, hrun, hended, _, _, rfl, ?_, ⟨_, rfl⟩, hW, hsame.mono (by decide) (by decide)⟩
  · show oS p e below s₁ m 0 #[oa a0, oa a1, .unset, .unset, .unset] [] _
    refine XS.aloadN X0.here hx rfl (hb hby own_d4_0) rfl rfl ?_
    show oS p e below s₁ m 1 #[oa a0, oa a1, .unset, .unset, .unset] [(.ref a0)] _
    refine oLen X0 hx hZ e0 V_a0 (hb hby own_d4_1) ?_
    refine XS.aloadN X0.here hx rfl (hb hby own_d4_2) rfl rfl ?_
    show oS p e below s₁ m 3 #[oa a0, oa a1, .unset, .unset, .unset] [(.ref a1), (.int (0 : Int32))] _
    refine oLen X0 hx hZ e0 V_a1 (hb hby own_d4_3) ?_
    refine XS.iadd X0.here hx rfl (hb hby own_d4_4) rfl ?_
    show oS p e below s₁ m 5 #[oa a0, oa a1, .unset, .unset, .unset] [(.int (2 : Int32))] _
    refine st1 _ ?_
    show oS p e below T1 m 7 #[oa a0, oa a1, .unset, .unset, .unset] [(.ref b1)] _
    refine XS.astoreN X1.here hx rfl (hb hby own_d4_7) rfl rfl (l' := #[oa a0, oa a1, oa b1, .unset, .unset]) rfl ?_
    refine XS.iconst X1.here hx rfl (hb hby own_d4_8) ?_
    refine XS.istoreN X1.here hx rfl (hb hby own_d4_9) rfl (l' := #[oa a0, oa a1, oa b1, oi (0 : Int32), .unset]) rfl ?_
    refine XS.iconst X1.here hx rfl (hb hby own_d4_10) ?_
    show oS p e below T1 m 11 #[oa a0, oa a1, oa b1, oi (0 : Int32), .unset] [(.int (0 : Int32))] _
    refine XS.istore X1.here hx rfl (hb hby own_d4_11) rfl (l' := #[oa a0, oa a1, oa b1, oi (0 : Int32), oi (0 : Int32)]) rfl ?_
    refine XS.iloadN X1.here hx rfl (hb hby own_d4_13) rfl ?_
    refine XS.aloadN X1.here hx rfl (hb hby own_d4_14) rfl rfl ?_
    show oS p e below T1 m 15 #[oa a0, oa a1, oa b1, oi (0 : Int32), oi (0 : Int32)] [(.ref a0), (.int (0 : Int32))] _
    refine oLen X1 hx hZ e1 F5 (hb hby own_d4_15) ?_
    show oS p e below T1 m 16 #[oa a0, oa a1, oa b1, oi (0 : Int32), oi (0 : Int32)] [(.int (0 : Int32)), (.int (0 : Int32))] _
    refine XS.icmpNo X1.here hx rfl (hb hby own_d4_16) rfl (flt b8).1 ?_
    refine XS.iload X1.here hx rfl (hb hby own_d4_19) rfl ?_
    refine XS.aloadN X1.here hx rfl (hb hby own_d4_21) rfl rfl ?_
    show oS p e below T1 m 22 #[oa a0, oa a1, oa b1, oi (0 : Int32), oi (0 : Int32)] [(.ref a1), (.int (0 : Int32))] _
    refine oLen X1 hx hZ e1 F6 (hb hby own_d4_22) ?_
    show oS p e below T1 m 23 #[oa a0, oa a1, oa b1, oi (0 : Int32), oi (0 : Int32)] [(.int (2 : Int32)), (.int (0 : Int32))] _
    refine XS.icmpNo X1.here hx rfl (hb hby own_d4_23) rfl (tlt b9).2.1 ?_
    refine XS.iload X1.here hx rfl (hb hby own_d4_26) rfl ?_
    refine XS.aloadN X1.here hx rfl (hb hby own_d4_28) rfl rfl ?_
    show oS p e below T1 m 29 #[oa a0, oa a1, oa b1, oi (0 : Int32), oi (0 : Int32)] [(.ref a1), (.int (0 : Int32))] _
    refine oLen X1 hx hZ e1 F6 (hb hby own_d4_29) ?_
    show oS p e below T1 m 30 #[oa a0, oa a1, oa b1, oi (0 : Int32), oi (0 : Int32)] [(.int (2 : Int32)), (.int (0 : Int32))] _
    refine XS.icmpNo X1.here hx rfl (hb hby own_d4_30) rfl (feq b10).1 ?_
    refine XS.iloadN X1.here hx rfl (hb hby own_d4_33) rfl ?_
    refine XS.aloadN X1.here hx rfl (hb hby own_d4_34) rfl rfl ?_
    show oS p e below T1 m 35 #[oa a0, oa a1, oa b1, oi (0 : Int32), oi (0 : Int32)] [(.ref a0), (.int (0 : Int32))] _
    refine oLen X1 hx hZ e1 F5 (hb hby own_d4_35) ?_
    show oS p e below T1 m 36 #[oa a0, oa a1, oa b1, oi (0 : Int32), oi (0 : Int32)] [(.int (0 : Int32)), (.int (0 : Int32))] _
    refine XS.icmpYes X1.here hx rfl (pc0 := 36) (pc' := 64) rfl (hb hby own_d4_36) rfl (flt b11).2.1 (by decide) (by decide) ?_
    refine XS.aloadN X1.here hx rfl (hb hby own_d4_64) rfl rfl ?_
    refine XS.iloadN X1.here hx rfl (hb hby own_d4_65) rfl ?_
    refine XS.iload X1.here hx rfl (hb hby own_d4_66) rfl ?_
    show oS p e below T1 m 68 #[oa a0, oa a1, oa b1, oi (0 : Int32), oi (0 : Int32)] [(.int (0 : Int32)), (.int (0 : Int32)), (.ref b1)] _
    refine XS.iadd X1.here hx rfl (hb hby own_d4_68) rfl ?_
    refine XS.aloadN X1.here hx rfl (hb hby own_d4_69) rfl rfl ?_
    refine XS.iload X1.here hx rfl (hb hby own_d4_70) rfl ?_
    show oS p e below T1 m 72 #[oa a0, oa a1, oa b1, oi (0 : Int32), oi (0 : Int32)] [(.int (0 : Int32)), (.ref a1), (.int (0 : Int32)), (.ref b1)] _
    refine oLdI X1 hx hZ e1 F6 (v := (.int y0)) ⟨by decide, by decide⟩ rfl (hb hby own_d4_72) ?_
    show oS p e below T1 m 73 #[oa a0, oa a1, oa b1, oi (0 : Int32), oi (0 : Int32)] [(.int y0), (.int (0 : Int32)), (.ref b1)] _
    refine st12 _ ?_
    show oS p e below T12 m 74 #[oa a0, oa a1, oa b1, oi (0 : Int32), oi (0 : Int32)] [] _
    refine XS.iinc X12.here hx rfl (hb hby own_d4_74) rfl (l' := #[oa a0, oa a1, oa b1, oi (0 : Int32), oi (1 : Int32)]) rfl ?_
    refine XS.goto X12.here hx rfl (pc0 := 77) (pc' := 13) rfl (hb hby own_d4_77) (by decide) (by decide) ?_
    refine XS.iloadN X12.here hx rfl (hb hby own_d4_13) rfl ?_
    refine XS.aloadN X12.here hx rfl (hb hby own_d4_14) rfl rfl ?_
    show oS p e below T12 m 15 #[oa a0, oa a1, oa b1, oi (0 : Int32), oi (1 : Int32)] [(.ref a0), (.int (0 : Int32))] _
    refine oLen X12 hx hZ e12 F13 (hb hby own_d4_15) ?_
    show oS p e below T12 m 16 #[oa a0, oa a1, oa b1, oi (0 : Int32), oi (1 : Int32)] [(.int (0 : Int32)), (.int (0 : Int32))] _
    refine XS.icmpNo X12.here hx rfl (hb hby own_d4_16) rfl (flt b17).1 ?_
    refine XS.iload X12.here hx rfl (hb hby own_d4_19) rfl ?_
    refine XS.aloadN X12.here hx rfl (hb hby own_d4_21) rfl rfl ?_
    show oS p e below T12 m 22 #[oa a0, oa a1, oa b1, oi (0 : Int32), oi (1 : Int32)] [(.ref a1), (.int (1 : Int32))] _
    refine oLen X12 hx hZ e12 F14 (hb hby own_d4_22) ?_
    show oS p e below T12 m 23 #[oa a0, oa a1, oa b1, oi (0 : Int32), oi (1 : Int32)] [(.int (2 : Int32)), (.int (1 : Int32))] _
    refine XS.icmpNo X12.here hx rfl (hb hby own_d4_23) rfl (tlt b18).2.1 ?_
    refine XS.iload X12.here hx rfl (hb hby own_d4_26) rfl ?_
    refine XS.aloadN X12.here hx rfl (hb hby own_d4_28) rfl rfl ?_
    show oS p e below T12 m 29 #[oa a0, oa a1, oa b1, oi (0 : Int32), oi (1 : Int32)] [(.ref a1), (.int (1 : Int32))] _
    refine oLen X12 hx hZ e12 F14 (hb hby own_d4_29) ?_
    show oS p e below T12 m 30 #[oa a0, oa a1, oa b1, oi (0 : Int32), oi (1 : Int32)] [(.int (2 : Int32)), (.int (1 : Int32))] _
    refine XS.icmpNo X12.here hx rfl (hb hby own_d4_30) rfl (feq b19).1 ?_
    refine XS.iloadN X12.here hx rfl (hb hby own_d4_33) rfl ?_
    refine XS.aloadN X12.here hx rfl (hb hby own_d4_34) rfl rfl ?_
    show oS p e below T12 m 35 #[oa a0, oa a1, oa b1, oi (0 : Int32), oi (1 : Int32)] [(.ref a0), (.int (0 : Int32))] _
    refine oLen X12 hx hZ e12 F13 (hb hby own_d4_35) ?_
    show oS p e below T12 m 36 #[oa a0, oa a1, oa b1, oi (0 : Int32), oi (1 : Int32)] [(.int (0 : Int32)), (.int (0 : Int32))] _
    refine XS.icmpYes X12.here hx rfl (pc0 := 36) (pc' := 64) rfl (hb hby own_d4_36) rfl (flt b20).2.1 (by decide) (by decide) ?_
    refine XS.aloadN X12.here hx rfl (hb hby own_d4_64) rfl rfl ?_
    refine XS.iloadN X12.here hx rfl (hb hby own_d4_65) rfl ?_
    refine XS.iload X12.here hx rfl (hb hby own_d4_66) rfl ?_
    show oS p e below T12 m 68 #[oa a0, oa a1, oa b1, oi (0 : Int32), oi (1 : Int32)] [(.int (1 : Int32)), (.int (0 : Int32)), (.ref b1)] _
    refine XS.iadd X12.here hx rfl (hb hby own_d4_68) rfl ?_
    refine XS.aloadN X12.here hx rfl (hb hby own_d4_69) rfl rfl ?_
    refine XS.iload X12.here hx rfl (hb hby own_d4_70) rfl ?_
    show oS p e below T12 m 72 #[oa a0, oa a1, oa b1, oi (0 : Int32), oi (1 : Int32)] [(.int (1 : Int32)), (.ref a1), (.int (1 : Int32)), (.ref b1)] _
    refine oLdI X12 hx hZ e12 F14 (v := (.int y1)) ⟨by decide, by decide⟩ rfl (hb hby own_d4_72) ?_
    show oS p e below T12 m 73 #[oa a0, oa a1, oa b1, oi (0 : Int32), oi (1 : Int32)] [(.int y1), (.int (1 : Int32)), (.ref b1)] _
    refine st21 _ ?_
    show oS p e below T21 m 74 #[oa a0, oa a1, oa b1, oi (0 : Int32), oi (1 : Int32)] [] _
    refine XS.iinc X21.here hx rfl (hb hby own_d4_74) rfl (l' := #[oa a0, oa a1, oa b1, oi (0 : Int32), oi (2 : Int32)]) rfl ?_
    refine XS.goto X21.here hx rfl (pc0 := 77) (pc' := 13) rfl (hb hby own_d4_77) (by decide) (by decide) ?_
    refine XS.iloadN X21.here hx rfl (hb hby own_d4_13) rfl ?_
    refine XS.aloadN X21.here hx rfl (hb hby own_d4_14) rfl rfl ?_
    show oS p e below T21 m 15 #[oa a0, oa a1, oa b1, oi (0 : Int32), oi (2 : Int32)] [(.ref a0), (.int (0 : Int32))] _
    refine oLen X21 hx hZ e21 F22 (hb hby own_d4_15) ?_
    show oS p e below T21 m 16 #[oa a0, oa a1, oa b1, oi (0 : Int32), oi (2 : Int32)] [(.int (0 : Int32)), (.int (0 : Int32))] _
    refine XS.icmpNo X21.here hx rfl (hb hby own_d4_16) rfl (flt b26).1 ?_
    refine XS.iload X21.here hx rfl (hb hby own_d4_19) rfl ?_
    refine XS.aloadN X21.here hx rfl (hb hby own_d4_21) rfl rfl ?_
    show oS p e below T21 m 22 #[oa a0, oa a1, oa b1, oi (0 : Int32), oi (2 : Int32)] [(.ref a1), (.int (2 : Int32))] _
    refine oLen X21 hx hZ e21 F23 (hb hby own_d4_22) ?_
    show oS p e below T21 m 23 #[oa a0, oa a1, oa b1, oi (0 : Int32), oi (2 : Int32)] [(.int (2 : Int32)), (.int (2 : Int32))] _
    refine XS.icmpYes X21.here hx rfl (pc0 := 23) (pc' := 80) rfl (hb hby own_d4_23) rfl (flt b27).2.1 (by decide) (by decide) ?_
    refine XS.aloadN X21.here hx rfl (hb hby own_d4_80) rfl rfl ?_
    show oS p e below T21 m 81 #[oa a0, oa a1, oa b1, oi (0 : Int32), oi (2 : Int32)] [(.ref b1)] _
    exact retOut X21 hx Bd.returns rfl (Or.inr (Or.inr (Or.inr (Or.inr ⟨rfl, rfl, rfl⟩)))) (hb hby own_d4_81) hr
  · show own_Q4_02yy Z a0 a1 k_a0 k_a1 y0 y1 h0 n0 _ T21.heap _
    rw [e21]
    exact ⟨b1, k1, rfl, N21, K_25, sz_b1, V_24⟩
theorem own_d4_49 : decode prog_30_method_2_code 49 = .ok (.aload_n 2, 1) := by decide +kernel
theorem own_d4_50 : decode prog_30_method_2_code 50 = .ok (.iload_n 3, 1) := by decide +kernel
theorem own_d4_51 : decode prog_30_method_2_code 51 = .ok (.iload 4, 2) := by decide +kernel
theorem own_d4_53 : decode prog_30_method_2_code 53 = .ok (.iadd, 1) := by decide +kernel
theorem own_d4_54 : decode prog_30_method_2_code 54 = .ok (.aload_n 0, 1) := by decide +kernel
theorem own_d4_55 : decode prog_30_method_2_code 55 = .ok (.iload_n 3, 1) := by decide +kernel
theorem own_d4_56 : decode prog_30_method_2_code 56 = .ok (.iaload, 1) := by decide +kernel
theorem own_d4_57 : decode prog_30_method_2_code 57 = .ok (.iastore, 1) := by decide +kernel
theorem own_d4_58 : decode prog_30_method_2_code 58 = .ok (.iinc 3 1, 3) := by decide +kernel
theorem own_d4_61 : decode prog_30_method_2_code 61 = .ok (.goto (-48), 3) := by decide +kernel
theorem own_ef4_10x (m : MethodId) (a0 : Addr) (a1 : Addr) : entryFrame m #[(.ref a0), (.ref a1)] 5 = mkF m 0 #[oa a0, oa a1, .unset, .unset, .unset] [] := by first | (simp [entryFrame, mkF, argsToLocals, Value.category]; done) | rfl
def own_Q4_10x (Z : State) (a0 : Addr) (a1 : Addr) (k_a0 : ClassId) (x0 : Int32) (k_a1 : ClassId) (h0 : Heap) (n0 : Nat) (v : Option Value) (h : Heap) (L : List Loc) : Prop := ∃ (u : Addr) (k_u : ClassId), v = some (.ref u) ∧ Fr n0 L ∧ Keep h0 h [] ∧ h0.size ≤ u ∧ Arv Z h u k_u .int (1 : Int32) [(.int x0)] (.int (0 : Int32))
set_option maxRecDepth 65536 in
set_option maxHeartbeats 40000000 in
theorem own_rm4_10x (l : Launch) (Z : State) (av : Array Value) (hw : ∀ d ∈ tables_1, d.before av Z = true) (ws : List Jvm.Cond) (a0 : Addr) (a1 : Addr) (k_a0 : ClassId) (x0 : Int32) (k_a1 : ClassId) (h0 : Heap) (n0 : Nat) (Z0 : n0 ≤ h0.size) (V_a0 : Arv Z h0 a0 k_a0 .int (1 : Int32) [(.int x0)] (.int (0 : Int32))) (V_a1 : Arv Z h0 a1 k_a1 .int (0 : Int32) [] (.int (0 : Int32))) :
    MetFree l (⟨"com/example/strict_anon/strictanon/service/RecordSets", "union", "([I[I)[I"⟩ : MethodName) (head1 (Jvm.Cond.code (⟨"com/example/strict_anon/strictanon/service/RecordSets", "union", "([I[I)[I"⟩ : MethodName) prog_30_method_2_code 5 (some (.array .int)) :: ws) ({ frames := 0, cells := 1, slots := 1, locals := 0 } : Room)) (fun a U => a = #[(.ref a0), (.ref a1)] ∧ Z.Warmed39 U.vm ∧ U.heap = h0) (fun _ _ _ _ _ => True) (fun _ U o U' => ∃ v L, o = .returned v ∧ own_Q4_10x Z a0 a1 k_a0 x0 k_a1 h0 n0 v U'.heap L ∧ FrameEnd U o U' L ({ frames := 0, cells := 1, slots := 1, locals := 0 } : Room).cells ({ frames := 0, cells := 1, slots := 1, locals := 0 } : Room).slots) := by
  refine MetFree.of_bodySF (plainFor_of_name own_pn1) hisR ?_
  intro p e s m args below meth c s₁ Bd hml0 hP hK
  obtain ⟨rfl, hZ, hh⟩ := hP
  have hx := Bd.exec
  have hby := Bd.bytes
  have hml : c.maxLocals = 5 := hml0
  have hown : s.vm.findClass "com/example/strict_anon/strictanon/service/RecordSets" = some m.cls := findClass_of_methodNamed Bd.named
  have hnm := (name_of_methodNamed Bd.named Bd.method).1
  have X0 : Stand p l e ({ frames := 0, cells := 1, slots := 1, locals := 0 } : Room) s m #[(.ref a0), (.ref a1)] below meth c s₁ [] 0 0 := Stand.of_body Bd
  have e0 : s₁.heap = h0 := by rw [← hh, Bd.state]; rfl
  have N0 := Fr.nil n0
  have pre0 : ∀ t, Steps p.tables e below (s₁.setTop (mkF m 0 #[oa a0, oa a1, .unset, .unset, .unset] [])) t → Steps p.tables e below (s₁.setTop (entryFrame m #[(.ref a0), (.ref a1)] 5)) t := fun t k => castTop (own_ef4_10x m a0 a1) k
  obtain ⟨T1, h1, k1, X1, e1, E1, A1, st1⟩ := newP X0 hx hZ (hw _ (List.mem_of_getElem? (i := 8) rfl)) e0 (g := (mkF m 5 #[oa a0, oa a1, .unset, .unset, .unset] [(.int (1 : Int32))])) rfl (hb hby own_d4_5) rfl (by decide) (cap := 1) (by decide) (by decide) (by decide) (by decide)
  obtain ⟨b1, g1⟩ : ∃ z, z = h0.size := ⟨_, rfl⟩
  rw [← g1] at A1 st1
  have g_b1 : n0 ≤ b1 := Nat.le_trans Z0 (Nat.le_of_eq g1.symm)
  have ne2 : a0 ≠ b1 := Nat.ne_of_lt (Nat.lt_of_lt_of_le V_a0.lt (Nat.le_of_eq g1.symm))
  have ne3 : a1 ≠ b1 := Nat.ne_of_lt (Nat.lt_of_lt_of_le V_a1.lt (Nat.le_of_eq g1.symm))
  have Z1 : n0 ≤ h1.size := Nat.le_trans Z0 E1.1
  have sz_b1 : h0.size ≤ b1 := Nat.le_trans (Keep.refl h0 []).1 (Nat.le_of_eq g1.symm)
  have K_4 : Keep h0 h1 [] := (Keep.refl h0 []).ext E1
  have F5 := V_a0.ext E1
  have F6 := V_a1.ext E1
  have V_7 : Arv Z h1 b1 k1 .int (1 : Int32) [(.int (0 : Int32))] (.int (0 : Int32)) := (Arv.new A1 (by decide)).pad (pad_rep [] (.int (0 : Int32)) 1)
  have b8 : (0 : Int32) < (1 : Int32) := (by decide)
  have b9 : (0 : Int32) = (0 : Int32) := (by decide)
  obtain ⟨T10, h10, X10, e10, W10, V10, st10⟩ := oStI X1 hx hZ e1 V_7 (j := (0 : Int32)) ⟨by decide, by decide⟩ 0 rfl (Nat.le_of_ble_eq_true rfl) (g := (mkF m 57 #[oa a0, oa a1, oa b1, oi (0 : Int32), oi (0 : Int32)] [(.int x0), (.int (0 : Int32)), (.ref b1)])) rfl rfl (hb hby own_d4_57)
  obtain ⟨Lo10, X10, N10⟩ := oOpq X10 (Fr.snoc X10 N0 g_b1)
  have Z10 := Nat.le_trans Z1 (Keep.of_wr W10).1
  have F11 := F5.other W10 ne2
  have F12 := F6.other W10 ne3
  have V_13 : Arv Z h10 b1 k1 .int (1 : Int32) [(.int x0)] (.int (0 : Int32)) := V10
  have K_14 : Keep h0 h10 [] := K_4.wr W10 (Or.inr sz_b1)
  have b15 : ¬ ((1 : Int32) < (1 : Int32)) := (by decide)
  have b16 : ¬ ((0 : Int32) < (0 : Int32)) := (by decide)
  obtain ⟨fs, hr, hrun, hended, hW, hsame⟩ := X10.leave (v := (some (.ref b1))) (fun h => by rw [Bd.returns] at h; cases h)
  refine ⟨_, _, pre0 _ ?_, hrun, hended, _, _, rfl, ?_, ⟨_, rfl⟩, hW, hsame.mono (by decide) (by decide)⟩
  · show oS p e below s₁ m 0 #[oa a0, oa a1, .unset, .unset, .unset] [] _
    refine XS.aloadN X0.here hx rfl (hb hby own_d4_0) rfl rfl ?_
    show oS p e below s₁ m 1 #[oa a0, oa a1, .unset, .unset, .unset] [(.ref a0)] _
    refine oLen X0 hx hZ e0 V_a0 (hb hby own_d4_1) ?_
    refine XS.aloadN X0.here hx rfl (hb hby own_d4_2) rfl rfl ?_
    show oS p e below s₁ m 3 #[oa a0, oa a1, .unset, .unset, .unset] [(.ref a1), (.int (1 : Int32))] _
    refine oLen X0 hx hZ e0 V_a1 (hb hby own_d4_3) ?_
    refine XS.iadd X0.here hx rfl (hb hby own_d4_4) rfl ?_
    show oS p e below s₁ m 5 #[oa a0, oa a1, .unset, .unset, .unset] [(.int (1 : Int32))] _
    refine st1 _ ?_
    show oS p e below T1 m 7 #[oa a0, oa a1, .unset, .unset, .unset] [(.ref b1)] _
    refine XS.astoreN X1.here hx rfl (hb hby own_d4_7) rfl rfl (l' := #[oa a0, oa a1, oa b1, .unset, .unset]) rfl ?_
    refine XS.iconst X1.here hx rfl (hb hby own_d4_8) ?_
    refine XS.istoreN X1.here hx rfl (hb hby own_d4_9) rfl (l' := #[oa a0, oa a1, oa b1, oi (0 : Int32), .unset]) rfl ?_
    refine XS.iconst X1.here hx rfl (hb hby own_d4_10) ?_
    show oS p e below T1 m 11 #[oa a0, oa a1, oa b1, oi (0 : Int32), .unset] [(.int (0 : Int32))] _
    refine XS.istore X1.here hx rfl (hb hby own_d4_11) rfl (l' := #[oa a0, oa a1, oa b1, oi (0 : Int32), oi (0 : Int32)]) rfl ?_
    refine XS.iloadN X1.here hx rfl (hb hby own_d4_13) rfl ?_
    refine XS.aloadN X1.here hx rfl (hb hby own_d4_14) rfl rfl ?_
    show oS p e below T1 m 15 #[oa a0, oa a1, oa b1, oi (0 : Int32), oi (0 : Int32)] [(.ref a0), (.int (0 : Int32))] _
    refine oLen X1 hx hZ e1 F5 (hb hby own_d4_15) ?_
    show oS p e below T1 m 16 #[oa a0, oa a1, oa b1, oi (0 : Int32), oi (0 : Int32)] [(.int (1 : Int32)), (.int (0 : Int32))] _
    refine XS.icmpYes X1.here hx rfl (pc0 := 16) (pc' := 26) rfl (hb hby own_d4_16) rfl (tlt b8).1 (by decide) (by decide) ?_
    refine XS.iload X1.here hx rfl (hb hby own_d4_26) rfl ?_
    refine XS.aloadN X1.here hx rfl (hb hby own_d4_28) rfl rfl ?_
    show oS p e below T1 m 29 #[oa a0, oa a1, oa b1, oi (0 : Int32), oi (0 : Int32)] [(.ref a1), (.int (0 : Int32))] _
    refine oLen X1 hx hZ e1 F6 (hb hby own_d4_29) ?_
    show oS p e below T1 m 30 #[oa a0, oa a1, oa b1, oi (0 : Int32), oi (0 : Int32)] [(.int (0 : Int32)), (.int (0 : Int32))] _
    refine XS.icmpYes X1.here hx rfl (pc0 := 30) (pc' := 49) rfl (hb hby own_d4_30) rfl (teq b9).1 (by decide) (by decide) ?_
    refine XS.aloadN X1.here hx rfl (hb hby own_d4_49) rfl rfl ?_
    refine XS.iloadN X1.here hx rfl (hb hby own_d4_50) rfl ?_
    refine XS.iload X1.here hx rfl (hb hby own_d4_51) rfl ?_
    show oS p e below T1 m 53 #[oa a0, oa a1, oa b1, oi (0 : Int32), oi (0 : Int32)] [(.int (0 : Int32)), (.int (0 : Int32)), (.ref b1)] _
    refine XS.iadd X1.here hx rfl (hb hby own_d4_53) rfl ?_
    refine XS.aloadN X1.here hx rfl (hb hby own_d4_54) rfl rfl ?_
    refine XS.iloadN X1.here hx rfl (hb hby own_d4_55) rfl ?_
    show oS p e below T1 m 56 #[oa a0, oa a1, oa b1, oi (0 : Int32), oi (0 : Int32)] [(.int (0 : Int32)), (.ref a0), (.int (0 : Int32)), (.ref b1)] _
    refine oLdI X1 hx hZ e1 F5 (v := (.int x0)) ⟨by decide, by decide⟩ rfl (hb hby own_d4_56) ?_
    show oS p e below T1 m 57 #[oa a0, oa a1, oa b1, oi (0 : Int32), oi (0 : Int32)] [(.int x0), (.int (0 : Int32)), (.ref b1)] _
    refine st10 _ ?_
    show oS p e below T10 m 58 #[oa a0, oa a1, oa b1, oi (0 : Int32), oi (0 : Int32)] [] _
    refine XS.iinc X10.here hx rfl (hb hby own_d4_58) rfl (l' := #[oa a0, oa a1, oa b1, oi (1 : Int32), oi (0 : Int32)]) rfl ?_
    refine XS.goto X10.here hx rfl (pc0 := 61) (pc' := 13) rfl (hb hby own_d4_61) (by decide) (by decide) ?_
    refine XS.iloadN X10.here hx rfl (hb hby own_d4_13) rfl ?_
    refine XS.aloadN X10.here hx rfl (hb hby own_d4_14) rfl rfl ?_
    show oS p e below T10 m 15 #[oa a0, oa a1, oa b1, oi (1 : Int32), oi (0 : Int32)] [(.ref a0), (.int (1 : Int32))] _
    refine oLen X10 hx hZ e10 F11 (hb hby own_d4_15) ?_
    show oS p e below T10 m 16 #[oa a0, oa a1, oa b1, oi (1 : Int32), oi (0 : Int32)] [(.int (1 : Int32)), (.int (1 : Int32))] _
    refine XS.icmpNo X10.here hx rfl (hb hby own_d4_16) rfl (flt b15).1 ?_
    refine XS.iload X10.here hx rfl (hb hby own_d4_19) rfl ?_
    refine XS.aloadN X10.here hx rfl (hb hby own_d4_21) rfl rfl ?_
    show oS p e below T10 m 22 #[oa a0, oa a1, oa b1, oi (1 : Int32), oi (0 : Int32)] [(.ref a1), (.int (0 : Int32))] _
    refine oLen X10 hx hZ e10 F12 (hb hby own_d4_22) ?_
    show oS p e below T10 m 23 #[oa a0, oa a1, oa b1, oi (1 : Int32), oi (0 : Int32)] [(.int (0 : Int32)), (.int (0 : Int32))] _
    refine XS.icmpYes X10.here hx rfl (pc0 := 23) (pc' := 80) rfl (hb hby own_d4_23) rfl (flt b16).2.1 (by decide) (by decide) ?_
    refine XS.aloadN X10.here hx rfl (hb hby own_d4_80) rfl rfl ?_
    show oS p e below T10 m 81 #[oa a0, oa a1, oa b1, oi (1 : Int32), oi (0 : Int32)] [(.ref b1)] _
    exact retOut X10 hx Bd.returns rfl (Or.inr (Or.inr (Or.inr (Or.inr ⟨rfl, rfl, rfl⟩)))) (hb hby own_d4_81) hr
  · show own_Q4_10x Z a0 a1 k_a0 x0 k_a1 h0 n0 _ T10.heap _
    rw [e10]
    exact ⟨b1, k1, rfl, N10, K_14, sz_b1, V_13⟩
theorem own_d4_39 : decode prog_30_method_2_code 39 = .ok (.aload_n 0, 1) := by decide +kernel
theorem own_d4_40 : decode prog_30_method_2_code 40 = .ok (.iload_n 3, 1) := by decide +kernel
theorem own_d4_41 : decode prog_30_method_2_code 41 = .ok (.iaload, 1) := by decide +kernel
theorem own_d4_42 : decode prog_30_method_2_code 42 = .ok (.aload_n 1, 1) := by decide +kernel
theorem own_d4_43 : decode prog_30_method_2_code 43 = .ok (.iload 4, 2) := by decide +kernel
theorem own_d4_45 : decode prog_30_method_2_code 45 = .ok (.iaload, 1) := by decide +kernel
theorem own_d4_46 : decode prog_30_method_2_code 46 = .ok (.if_icmp .ge 18, 3) := by decide +kernel
theorem own_ef4_11xy (m : MethodId) (a0 : Addr) (a1 : Addr) : entryFrame m #[(.ref a0), (.ref a1)] 5 = mkF m 0 #[oa a0, oa a1, .unset, .unset, .unset] [] := by first | (simp [entryFrame, mkF, argsToLocals, Value.category]; done) | rfl
def own_Q4_11xy (Z : State) (a0 : Addr) (a1 : Addr) (k_a0 : ClassId) (x0 : Int32) (k_a1 : ClassId) (y0 : Int32) (h0 : Heap) (n0 : Nat) (v : Option Value) (h : Heap) (L : List Loc) : Prop := ∃ (u : Addr) (k_u : ClassId), v = some (.ref u) ∧ Fr n0 L ∧ Keep h0 h [] ∧ h0.size ≤ u ∧ Arv Z h u k_u .int (2 : Int32) [(.int x0), (.int y0)] (.int (0 : Int32))
set_option maxRecDepth 65536 in
set_option maxHeartbeats 40000000 in
theorem own_rm4_11xy (l : Launch) (Z : State) (av : Array Value) (hw : ∀ d ∈ tables_1, d.before av Z = true) (ws : List Jvm.Cond) (a0 : Addr) (a1 : Addr) (k_a0 : ClassId) (x0 : Int32) (k_a1 : ClassId) (y0 : Int32) (h0 : Heap) (n0 : Nat) (Z0 : n0 ≤ h0.size) (V_a0 : Arv Z h0 a0 k_a0 .int (1 : Int32) [(.int x0)] (.int (0 : Int32))) (V_a1 : Arv Z h0 a1 k_a1 .int (1 : Int32) [(.int y0)] (.int (0 : Int32))) (c_x0_y0 : x0 < y0) :
    MetFree l (⟨"com/example/strict_anon/strictanon/service/RecordSets", "union", "([I[I)[I"⟩ : MethodName) (head1 (Jvm.Cond.code (⟨"com/example/strict_anon/strictanon/service/RecordSets", "union", "([I[I)[I"⟩ : MethodName) prog_30_method_2_code 5 (some (.array .int)) :: ws) ({ frames := 0, cells := 1, slots := 2, locals := 0 } : Room)) (fun a U => a = #[(.ref a0), (.ref a1)] ∧ Z.Warmed39 U.vm ∧ U.heap = h0) (fun _ _ _ _ _ => True) (fun _ U o U' => ∃ v L, o = .returned v ∧ own_Q4_11xy Z a0 a1 k_a0 x0 k_a1 y0 h0 n0 v U'.heap L ∧ FrameEnd U o U' L ({ frames := 0, cells := 1, slots := 2, locals := 0 } : Room).cells ({ frames := 0, cells := 1, slots := 2, locals := 0 } : Room).slots) := by
  refine MetFree.of_bodySF (plainFor_of_name own_pn1) hisR ?_
  intro p e s m args below meth c s₁ Bd hml0 hP hK
  obtain ⟨rfl, hZ, hh⟩ := hP
  have hx := Bd.exec
  have hby := Bd.bytes
  have hml : c.maxLocals = 5 := hml0
  have hown : s.vm.findClass "com/example/strict_anon/strictanon/service/RecordSets" = some m.cls := findClass_of_methodNamed Bd.named
  have hnm := (name_of_methodNamed Bd.named Bd.method).1
  have X0 : Stand p l e ({ frames := 0, cells := 1, slots := 2, locals := 0 } : Room) s m #[(.ref a0), (.ref a1)] below meth c s₁ [] 0 0 := Stand.of_body Bd
  have e0 : s₁.heap = h0 := by rw [← hh, Bd.state]; rfl
  have N0 := Fr.nil n0
  have pre0 : ∀ t, Steps p.tables e below (s₁.setTop (mkF m 0 #[oa a0, oa a1, .unset, .unset, .unset] [])) t → Steps p.tables e below (s₁.setTop (entryFrame m #[(.ref a0), (.ref a1)] 5)) t := fun t k => castTop (own_ef4_11xy m a0 a1) k
  obtain ⟨T1, h1, k1, X1, e1, E1, A1, st1⟩ := newP X0 hx hZ (hw _ (List.mem_of_getElem? (i := 8) rfl)) e0 (g := (mkF m 5 #[oa a0, oa a1, .unset, .unset, .unset] [(.int (2 : Int32))])) rfl (hb hby own_d4_5) rfl (by decide) (cap := 2) (by decide) (by decide) (by decide) (by decide)
  obtain ⟨b1, g1⟩ : ∃ z, z = h0.size := ⟨_, rfl⟩
  rw [← g1] at A1 st1
  have g_b1 : n0 ≤ b1 := Nat.le_trans Z0 (Nat.le_of_eq g1.symm)
  have ne2 : a0 ≠ b1 := Nat.ne_of_lt (Nat.lt_of_lt_of_le V_a0.lt (Nat.le_of_eq g1.symm))
  have ne3 : a1 ≠ b1 := Nat.ne_of_lt (Nat.lt_of_lt_of_le V_a1.lt (Nat.le_of_eq g1.symm))
  have Z1 : n0 ≤ h1.size := Nat.le_trans Z0 E1.1
  have sz_b1 : h0.size ≤ b1 := Nat.le_trans (Keep.refl h0 []).1 (Nat.le_of_eq g1.symm)
  have K_4 : Keep h0 h1 [] := (Keep.refl h0 []).ext E1
  have F5 := V_a0.ext E1
  have F6 := V_a1.ext E1
  have V_7 : Arv Z h1 b1 k1 .int (2 : Int32) [(.int (0 : Int32)), (.int (0 : Int32))] (.int (0 : Int32)) := (Arv.new A1 (by decide)).pad (pad_rep [] (.int (0 : Int32)) 2)
  have b8 : (0 : Int32) < (1 : Int32) := (by decide)
  have b9 : ¬ ((0 : Int32) = (1 : Int32)) := (by decide)
  have b10 : (0 : Int32) < (1 : Int32) := (by decide)
  have b11 : x0 < y0 := c_x0_y0
  obtain ⟨T12, h12, X12, e12, W12, V12, st12⟩ := oStI X1 hx hZ e1 V_7 (j := (0 : Int32)) ⟨by decide, by decide⟩ 0 rfl (Nat.le_of_ble_eq_true rfl) (g := (mkF m 57 #[oa a0, oa a1, oa b1, oi (0 : Int32), oi (0 : Int32)] [(.int x0), (.int (0 : Int32)), (.ref b1)])) rfl rfl (hb hby own_d4_57)
  obtain ⟨Lo12, X12, N12⟩ := oOpq X12 (Fr.snoc X12 N0 g_b1)
  have Z12 := Nat.le_trans Z1 (Keep.of_wr W12).1
  have F13 := F5.other W12 ne2
  have F14 := F6.other W12 ne3
  have V_15 : Arv Z h12 b1 k1 .int (2 : Int32) [(.int x0), (.int (0 : Int32))] (.int (0 : Int32)) := V12
  have K_16 : Keep h0 h12 [] := K_4.wr W12 (Or.inr sz_b1)
  have b17 : ¬ ((1 : Int32) < (1 : Int32)) := (by decide)
  have b18 : (0 : Int32) < (1 : Int32) := (by decide)
  have b19 : ¬ ((0 : Int32) = (1 : Int32)) := (by decide)
  have b20 : ¬ ((1 : Int32) < (1 : Int32)) := (by decide)
  obtain ⟨T21, h21, X21, e21, W21, V21, st21⟩ := oStI X12 hx hZ e12 V_15 (j := (1 : Int32)) ⟨by decide, by decide⟩ 1 rfl (Nat.le_of_ble_eq_true rfl) (g := (mkF m 73 #[oa a0, oa a1, oa b1, oi (1 : Int32), oi (0 : Int32)] [(.int y0), (.int (1 : Int32)), (.ref b1)])) rfl rfl (hb hby own_d4_73)
  obtain ⟨Lo21, X21, N21⟩ := oOpq X21 (Fr.snoc X21 N12 g_b1)
  have Z21 := Nat.le_trans Z12 (Keep.of_wr W21).1
  have F22 := F13.other W21 ne2
  have F23 := F14.other W21 ne3
  have V_24 : Arv Z h21 b1 k1 .int (2 : Int32) [(.int x0), (.int y0)] (.int (0 : Int32)) := V21
  have K_25 : Keep h0 h21 [] := K_16.wr W21 (Or.inr sz_b1)
  have b26 : ¬ ((1 : Int32) < (1 : Int32)) := (by decide)
  have b27 : ¬ ((1 : Int32) < (1 : Int32)) := (by decide)
  obtain ⟨fs, hr, hrun, hended, hW, hsame⟩ := X21.leave (v := (some (.ref b1))) (fun h => by rw [Bd.returns] at h; cases h)
  refine ⟨_, _, pre0 _ ?_, hrun, hended, _, _, rfl, ?_, ⟨_, rfl⟩, hW, hsame.mono (by decide) (by decide)⟩
  · show oS p e below s₁ m 0 #[oa a0, oa a1, .unset, .unset, .unset] [] _
    refine XS.aloadN X0.here hx rfl (hb hby own_d4_0) rfl rfl ?_
    show oS p e below s₁ m 1 #[oa a0, oa a1, .unset, .unset, .unset] [(.ref a0)] _
    refine oLen X0 hx hZ e0 V_a0 (hb hby own_d4_1) ?_
    refine XS.aloadN X0.here hx rfl (hb hby own_d4_2) rfl rfl ?_
    show oS p e below s₁ m 3 #[oa a0, oa a1, .unset, .unset, .unset] [(.ref a1), (.int (1 : Int32))] _
    refine oLen X0 hx hZ e0 V_a1 (hb hby own_d4_3) ?_
    refine XS.iadd X0.here hx rfl (hb hby own_d4_4) rfl ?_
    show oS p e below s₁ m 5 #[oa a0, oa a1, .unset, .unset, .unset] [(.int (2 : Int32))] _
    refine st1 _ ?_
    show oS p e below T1 m 7 #[oa a0, oa a1, .unset, .unset, .unset] [(.ref b1)] _
    refine XS.astoreN X1.here hx rfl (hb hby own_d4_7) rfl rfl (l' := #[oa a0, oa a1, oa b1, .unset, .unset]) rfl ?_
    refine XS.iconst X1.here hx rfl (hb hby own_d4_8) ?_
    refine XS.istoreN X1.here hx rfl (hb hby own_d4_9) rfl (l' := #[oa a0, oa a1, oa b1, oi (0 : Int32), .unset]) rfl ?_
    refine XS.iconst X1.here hx rfl (hb hby own_d4_10) ?_
    show oS p e below T1 m 11 #[oa a0, oa a1, oa b1, oi (0 : Int32), .unset] [(.int (0 : Int32))] _
    refine XS.istore X1.here hx rfl (hb hby own_d4_11) rfl (l' := #[oa a0, oa a1, oa b1, oi (0 : Int32), oi (0 : Int32)]) rfl ?_
    refine XS.iloadN X1.here hx rfl (hb hby own_d4_13) rfl ?_
    refine XS.aloadN X1.here hx rfl (hb hby own_d4_14) rfl rfl ?_
    show oS p e below T1 m 15 #[oa a0, oa a1, oa b1, oi (0 : Int32), oi (0 : Int32)] [(.ref a0), (.int (0 : Int32))] _
    refine oLen X1 hx hZ e1 F5 (hb hby own_d4_15) ?_
    show oS p e below T1 m 16 #[oa a0, oa a1, oa b1, oi (0 : Int32), oi (0 : Int32)] [(.int (1 : Int32)), (.int (0 : Int32))] _
    refine XS.icmpYes X1.here hx rfl (pc0 := 16) (pc' := 26) rfl (hb hby own_d4_16) rfl (tlt b8).1 (by decide) (by decide) ?_
    refine XS.iload X1.here hx rfl (hb hby own_d4_26) rfl ?_
    refine XS.aloadN X1.here hx rfl (hb hby own_d4_28) rfl rfl ?_
    show oS p e below T1 m 29 #[oa a0, oa a1, oa b1, oi (0 : Int32), oi (0 : Int32)] [(.ref a1), (.int (0 : Int32))] _
    refine oLen X1 hx hZ e1 F6 (hb hby own_d4_29) ?_
    show oS p e below T1 m 30 #[oa a0, oa a1, oa b1, oi (0 : Int32), oi (0 : Int32)] [(.int (1 : Int32)), (.int (0 : Int32))] _
    refine XS.icmpNo X1.here hx rfl (hb hby own_d4_30) rfl (feq b9).1 ?_
    refine XS.iloadN X1.here hx rfl (hb hby own_d4_33) rfl ?_
    refine XS.aloadN X1.here hx rfl (hb hby own_d4_34) rfl rfl ?_
    show oS p e below T1 m 35 #[oa a0, oa a1, oa b1, oi (0 : Int32), oi (0 : Int32)] [(.ref a0), (.int (0 : Int32))] _
    refine oLen X1 hx hZ e1 F5 (hb hby own_d4_35) ?_
    show oS p e below T1 m 36 #[oa a0, oa a1, oa b1, oi (0 : Int32), oi (0 : Int32)] [(.int (1 : Int32)), (.int (0 : Int32))] _
    refine XS.icmpNo X1.here hx rfl (hb hby own_d4_36) rfl (tlt b10).2.1 ?_
    refine XS.aloadN X1.here hx rfl (hb hby own_d4_39) rfl rfl ?_
    refine XS.iloadN X1.here hx rfl (hb hby own_d4_40) rfl ?_
    show oS p e below T1 m 41 #[oa a0, oa a1, oa b1, oi (0 : Int32), oi (0 : Int32)] [(.int (0 : Int32)), (.ref a0)] _
    refine oLdI X1 hx hZ e1 F5 (v := (.int x0)) ⟨by decide, by decide⟩ rfl (hb hby own_d4_41) ?_
    refine XS.aloadN X1.here hx rfl (hb hby own_d4_42) rfl rfl ?_
    refine XS.iload X1.here hx rfl (hb hby own_d4_43) rfl ?_
    show oS p e below T1 m 45 #[oa a0, oa a1, oa b1, oi (0 : Int32), oi (0 : Int32)] [(.int (0 : Int32)), (.ref a1), (.int x0)] _
    refine oLdI X1 hx hZ e1 F6 (v := (.int y0)) ⟨by decide, by decide⟩ rfl (hb hby own_d4_45) ?_
    show oS p e below T1 m 46 #[oa a0, oa a1, oa b1, oi (0 : Int32), oi (0 : Int32)] [(.int y0), (.int x0)] _
    refine XS.icmpNo X1.here hx rfl (hb hby own_d4_46) rfl (tlt b11).2.1 ?_
    refine XS.aloadN X1.here hx rfl (hb hby own_d4_49) rfl rfl ?_
    refine XS.iloadN X1.here hx rfl (hb hby own_d4_50) rfl ?_
    refine XS.iload X1.here hx rfl (hb hby own_d4_51) rfl ?_
    show oS p e below T1 m 53 #[oa a0, oa a1, oa b1, oi (0 : Int32), oi (0 : Int32)] [(.int (0 : Int32)), (.int (0 : Int32)), (.ref b1)] _
    refine XS.iadd X1.here hx rfl (hb hby own_d4_53) rfl ?_
    refine XS.aloadN X1.here hx rfl (hb hby own_d4_54) rfl rfl ?_
    refine XS.iloadN X1.here hx rfl (hb hby own_d4_55) rfl ?_
    show oS p e below T1 m 56 #[oa a0, oa a1, oa b1, oi (0 : Int32), oi (0 : Int32)] [(.int (0 : Int32)), (.ref a0), (.int (0 : Int32)), (.ref b1)] _
    refine oLdI X1 hx hZ e1 F5 (v := (.int x0)) ⟨by decide, by decide⟩ rfl (hb hby own_d4_56) ?_
    show oS p e below T1 m 57 #[oa a0, oa a1, oa b1, oi (0 : Int32), oi (0 : Int32)] [(.int x0), (.int (0 : Int32)), (.ref b1)] _
    refine st12 _ ?_
    show oS p e below T12 m 58 #[oa a0, oa a1, oa b1, oi (0 : Int32), oi (0 : Int32)] [] _
    refine XS.iinc X12.here hx rfl (hb hby own_d4_58) rfl (l' := #[oa a0, oa a1, oa b1, oi (1 : Int32), oi (0 : Int32)]) rfl ?_
    refine XS.goto X12.here hx rfl (pc0 := 61) (pc' := 13) rfl (hb hby own_d4_61) (by decide) (by decide) ?_
    refine XS.iloadN X12.here hx rfl (hb hby own_d4_13) rfl ?_
    refine XS.aloadN X12.here hx rfl (hb hby own_d4_14) rfl rfl ?_
    show oS p e below T12 m 15 #[oa a0, oa a1, oa b1, oi (1 : Int32), oi (0 : Int32)] [(.ref a0), (.int (1 : Int32))] _
    refine oLen X12 hx hZ e12 F13 (hb hby own_d4_15) ?_
    show oS p e below T12 m 16 #[oa a0, oa a1, oa b1, oi (1 : Int32), oi (0 : Int32)] [(.int (1 : Int32)), (.int (1 : Int32))] _
    refine XS.icmpNo X12.here hx rfl (hb hby own_d4_16) rfl (flt b17).1 ?_
    refine XS.iload X12.here hx rfl (hb hby own_d4_19) rfl ?_
    refine XS.aloadN X12.here hx rfl (hb hby own_d4_21) rfl rfl ?_
    show oS p e below T12 m 22 #[oa a0, oa a1, oa b1, oi (1 : Int32), oi (0 : Int32)] [(.ref a1), (.int (0 : Int32))] _
    refine oLen X12 hx hZ e12 F14 (hb hby own_d4_22) ?_
    show oS p e below T12 m 23 #[oa a0, oa a1, oa b1, oi (1 : Int32), oi (0 : Int32)] [(.int (1 : Int32)), (.int (0 : Int32))] _
    refine XS.icmpNo X12.here hx rfl (hb hby own_d4_23) rfl (tlt b18).2.1 ?_
    refine XS.iload X12.here hx rfl (hb hby own_d4_26) rfl ?_
    refine XS.aloadN X12.here hx rfl (hb hby own_d4_28) rfl rfl ?_
    show oS p e below T12 m 29 #[oa a0, oa a1, oa b1, oi (1 : Int32), oi (0 : Int32)] [(.ref a1), (.int (0 : Int32))] _
    refine oLen X12 hx hZ e12 F14 (hb hby own_d4_29) ?_
    show oS p e below T12 m 30 #[oa a0, oa a1, oa b1, oi (1 : Int32), oi (0 : Int32)] [(.int (1 : Int32)), (.int (0 : Int32))] _
    refine XS.icmpNo X12.here hx rfl (hb hby own_d4_30) rfl (feq b19).1 ?_
    refine XS.iloadN X12.here hx rfl (hb hby own_d4_33) rfl ?_
    refine XS.aloadN X12.here hx rfl (hb hby own_d4_34) rfl rfl ?_
    show oS p e below T12 m 35 #[oa a0, oa a1, oa b1, oi (1 : Int32), oi (0 : Int32)] [(.ref a0), (.int (1 : Int32))] _
    refine oLen X12 hx hZ e12 F13 (hb hby own_d4_35) ?_
    show oS p e below T12 m 36 #[oa a0, oa a1, oa b1, oi (1 : Int32), oi (0 : Int32)] [(.int (1 : Int32)), (.int (1 : Int32))] _
    refine XS.icmpYes X12.here hx rfl (pc0 := 36) (pc' := 64) rfl (hb hby own_d4_36) rfl (flt b20).2.1 (by decide) (by decide) ?_
    refine XS.aloadN X12.here hx rfl (hb hby own_d4_64) rfl rfl ?_
    refine XS.iloadN X12.here hx rfl (hb hby own_d4_65) rfl ?_
    refine XS.iload X12.here hx rfl (hb hby own_d4_66) rfl ?_
    show oS p e below T12 m 68 #[oa a0, oa a1, oa b1, oi (1 : Int32), oi (0 : Int32)] [(.int (0 : Int32)), (.int (1 : Int32)), (.ref b1)] _
    refine XS.iadd X12.here hx rfl (hb hby own_d4_68) rfl ?_
    refine XS.aloadN X12.here hx rfl (hb hby own_d4_69) rfl rfl ?_
    refine XS.iload X12.here hx rfl (hb hby own_d4_70) rfl ?_
    show oS p e below T12 m 72 #[oa a0, oa a1, oa b1, oi (1 : Int32), oi (0 : Int32)] [(.int (0 : Int32)), (.ref a1), (.int (1 : Int32)), (.ref b1)] _
    refine oLdI X12 hx hZ e12 F14 (v := (.int y0)) ⟨by decide, by decide⟩ rfl (hb hby own_d4_72) ?_
    show oS p e below T12 m 73 #[oa a0, oa a1, oa b1, oi (1 : Int32), oi (0 : Int32)] [(.int y0), (.int (1 : Int32)), (.ref b1)] _
    refine st21 _ ?_
    show oS p e below T21 m 74 #[oa a0, oa a1, oa b1, oi (1 : Int32), oi (0 : Int32)] [] _
    refine XS.iinc X21.here hx rfl (hb hby own_d4_74) rfl (l' := #[oa a0, oa a1, oa b1, oi (1 : Int32), oi (1 : Int32)]) rfl ?_
    refine XS.goto X21.here hx rfl (pc0 := 77) (pc' := 13) rfl (hb hby own_d4_77) (by decide) (by decide) ?_
    refine XS.iloadN X21.here hx rfl (hb hby own_d4_13) rfl ?_
    refine XS.aloadN X21.here hx rfl (hb hby own_d4_14) rfl rfl ?_
    show oS p e below T21 m 15 #[oa a0, oa a1, oa b1, oi (1 : Int32), oi (1 : Int32)] [(.ref a0), (.int (1 : Int32))] _
    refine oLen X21 hx hZ e21 F22 (hb hby own_d4_15) ?_
    show oS p e below T21 m 16 #[oa a0, oa a1, oa b1, oi (1 : Int32), oi (1 : Int32)] [(.int (1 : Int32)), (.int (1 : Int32))] _
    refine XS.icmpNo X21.here hx rfl (hb hby own_d4_16) rfl (flt b26).1 ?_
    refine XS.iload X21.here hx rfl (hb hby own_d4_19) rfl ?_
    refine XS.aloadN X21.here hx rfl (hb hby own_d4_21) rfl rfl ?_
    show oS p e below T21 m 22 #[oa a0, oa a1, oa b1, oi (1 : Int32), oi (1 : Int32)] [(.ref a1), (.int (1 : Int32))] _
    refine oLen X21 hx hZ e21 F23 (hb hby own_d4_22) ?_
    show oS p e below T21 m 23 #[oa a0, oa a1, oa b1, oi (1 : Int32), oi (1 : Int32)] [(.int (1 : Int32)), (.int (1 : Int32))] _
    refine XS.icmpYes X21.here hx rfl (pc0 := 23) (pc' := 80) rfl (hb hby own_d4_23) rfl (flt b27).2.1 (by decide) (by decide) ?_
    refine XS.aloadN X21.here hx rfl (hb hby own_d4_80) rfl rfl ?_
    show oS p e below T21 m 81 #[oa a0, oa a1, oa b1, oi (1 : Int32), oi (1 : Int32)] [(.ref b1)] _
    exact retOut X21 hx Bd.returns rfl (Or.inr (Or.inr (Or.inr (Or.inr ⟨rfl, rfl, rfl⟩)))) (hb hby own_d4_81) hr
  · show own_Q4_11xy Z a0 a1 k_a0 x0 k_a1 y0 h0 n0 _ T21.heap _
    rw [e21]
    exact ⟨b1, k1, rfl, N21, K_25, sz_b1, V_24⟩
theorem own_ef4_11yx (m : MethodId) (a0 : Addr) (a1 : Addr) : entryFrame m #[(.ref a0), (.ref a1)] 5 = mkF m 0 #[oa a0, oa a1, .unset, .unset, .unset] [] := by first | (simp [entryFrame, mkF, argsToLocals, Value.category]; done) | rfl
def own_Q4_11yx (Z : State) (a0 : Addr) (a1 : Addr) (k_a0 : ClassId) (x0 : Int32) (k_a1 : ClassId) (y0 : Int32) (h0 : Heap) (n0 : Nat) (v : Option Value) (h : Heap) (L : List Loc) : Prop := ∃ (u : Addr) (k_u : ClassId), v = some (.ref u) ∧ Fr n0 L ∧ Keep h0 h [] ∧ h0.size ≤ u ∧ Arv Z h u k_u .int (2 : Int32) [(.int y0), (.int x0)] (.int (0 : Int32))
set_option maxRecDepth 65536 in
set_option maxHeartbeats 40000000 in
theorem own_rm4_11yx (l : Launch) (Z : State) (av : Array Value) (hw : ∀ d ∈ tables_1, d.before av Z = true) (ws : List Jvm.Cond) (a0 : Addr) (a1 : Addr) (k_a0 : ClassId) (x0 : Int32) (k_a1 : ClassId) (y0 : Int32) (h0 : Heap) (n0 : Nat) (Z0 : n0 ≤ h0.size) (V_a0 : Arv Z h0 a0 k_a0 .int (1 : Int32) [(.int x0)] (.int (0 : Int32))) (V_a1 : Arv Z h0 a1 k_a1 .int (1 : Int32) [(.int y0)] (.int (0 : Int32))) (c_x0_y0 : ¬ (x0 < y0)) :
    MetFree l (⟨"com/example/strict_anon/strictanon/service/RecordSets", "union", "([I[I)[I"⟩ : MethodName) (head1 (Jvm.Cond.code (⟨"com/example/strict_anon/strictanon/service/RecordSets", "union", "([I[I)[I"⟩ : MethodName) prog_30_method_2_code 5 (some (.array .int)) :: ws) ({ frames := 0, cells := 1, slots := 2, locals := 0 } : Room)) (fun a U => a = #[(.ref a0), (.ref a1)] ∧ Z.Warmed39 U.vm ∧ U.heap = h0) (fun _ _ _ _ _ => True) (fun _ U o U' => ∃ v L, o = .returned v ∧ own_Q4_11yx Z a0 a1 k_a0 x0 k_a1 y0 h0 n0 v U'.heap L ∧ FrameEnd U o U' L ({ frames := 0, cells := 1, slots := 2, locals := 0 } : Room).cells ({ frames := 0, cells := 1, slots := 2, locals := 0 } : Room).slots) := by
  refine MetFree.of_bodySF (plainFor_of_name own_pn1) hisR ?_
  intro p e s m args below meth c s₁ Bd hml0 hP hK
  obtain ⟨rfl, hZ, hh⟩ := hP
  have hx := Bd.exec
  have hby := Bd.bytes
  have hml : c.maxLocals = 5 := hml0
  have hown : s.vm.findClass "com/example/strict_anon/strictanon/service/RecordSets" = some m.cls := findClass_of_methodNamed Bd.named
  have hnm := (name_of_methodNamed Bd.named Bd.method).1
  have X0 : Stand p l e ({ frames := 0, cells := 1, slots := 2, locals := 0 } : Room) s m #[(.ref a0), (.ref a1)] below meth c s₁ [] 0 0 := Stand.of_body Bd
  have e0 : s₁.heap = h0 := by rw [← hh, Bd.state]; rfl
  have N0 := Fr.nil n0
  have pre0 : ∀ t, Steps p.tables e below (s₁.setTop (mkF m 0 #[oa a0, oa a1, .unset, .unset, .unset] [])) t → Steps p.tables e below (s₁.setTop (entryFrame m #[(.ref a0), (.ref a1)] 5)) t := fun t k => castTop (own_ef4_11yx m a0 a1) k
  obtain ⟨T1, h1, k1, X1, e1, E1, A1, st1⟩ := newP X0 hx hZ (hw _ (List.mem_of_getElem? (i := 8) rfl)) e0 (g := (mkF m 5 #[oa a0, oa a1, .unset, .unset, .unset] [(.int (2 : Int32))])) rfl (hb hby own_d4_5) rfl (by decide) (cap := 2) (by decide) (by decide) (by decide) (by decide)
  obtain ⟨b1, g1⟩ : ∃ z, z = h0.size := ⟨_, rfl⟩
  rw [← g1] at A1 st1
  have g_b1 : n0 ≤ b1 := Nat.le_trans Z0 (Nat.le_of_eq g1.symm)
  have ne2 : a0 ≠ b1 := Nat.ne_of_lt (Nat.lt_of_lt_of_le V_a0.lt (Nat.le_of_eq g1.symm))
  have ne3 : a1 ≠ b1 := Nat.ne_of_lt (Nat.lt_of_lt_of_le V_a1.lt (Nat.le_of_eq g1.symm))
  have Z1 : n0 ≤ h1.size := Nat.le_trans Z0 E1.1
  have sz_b1 : h0.size ≤ b1 := Nat.le_trans (Keep.refl h0 []).1 (Nat.le_of_eq g1.symm)
  have K_4 : Keep h0 h1 [] := (Keep.refl h0 []).ext E1
  have F5 := V_a0.ext E1
  have F6 := V_a1.ext E1
  have V_7 : Arv Z h1 b1 k1 .int (2 : Int32) [(.int (0 : Int32)), (.int (0 : Int32))] (.int (0 : Int32)) := (Arv.new A1 (by decide)).pad (pad_rep [] (.int (0 : Int32)) 2)
  have b8 : (0 : Int32) < (1 : Int32) := (by decide)
  have b9 : ¬ ((0 : Int32) = (1 : Int32)) := (by decide)
  have b10 : (0 : Int32) < (1 : Int32) := (by decide)
  have b11 : ¬ (x0 < y0) := c_x0_y0
  obtain ⟨T12, h12, X12, e12, W12, V12, st12⟩ := oStI X1 hx hZ e1 V_7 (j := (0 : Int32)) ⟨by decide, by decide⟩ 0 rfl (Nat.le_of_ble_eq_true rfl) (g := (mkF m 73 #[oa a0, oa a1, oa b1, oi (0 : Int32), oi (0 : Int32)] [(.int y0), (.int (0 : Int32)), (.ref b1)])) rfl rfl (hb hby own_d4_73)
  obtain ⟨Lo12, X12, N12⟩ := oOpq X12 (Fr.snoc X12 N0 g_b1)
  have Z12 := Nat.le_trans Z1 (Keep.of_wr W12).1
  have F13 := F5.other W12 ne2
  have F14 := F6.other W12 ne3
  have V_15 : Arv Z h12 b1 k1 .int (2 : Int32) [(.int y0), (.int (0 : Int32))] (.int (0 : Int32)) := V12
  have K_16 : Keep h0 h12 [] := K_4.wr W12 (Or.inr sz_b1)
  have b17 : (0 : Int32) < (1 : Int32) := (by decide)
  have b18 : (1 : Int32) = (1 : Int32) := (by decide)
  obtain ⟨T19, h19, X19, e19, W19, V19, st19⟩ := oStI X12 hx hZ e12 V_15 (j := (1 : Int32)) ⟨by decide, by decide⟩ 1 rfl (Nat.le_of_ble_eq_true rfl) (g := (mkF m 57 #[oa a0, oa a1, oa b1, oi (0 : Int32), oi (1 : Int32)] [(.int x0), (.int (1 : Int32)), (.ref b1)])) rfl rfl (hb hby own_d4_57)
  obtain ⟨Lo19, X19, N19⟩ := oOpq X19 (Fr.snoc X19 N12 g_b1)
  have Z19 := Nat.le_trans Z12 (Keep.of_wr W19).1
  have F20 := F13.other W19 ne2
  have F21 := F14.other W19 ne3
  have V_22 : Arv Z h19 b1 k1 .int (2 : Int32) [(.int y0), (.int x0)] (.int (0 : Int32)) := V19
  have K_23 : Keep h0 h19 [] := K_16.wr W19 (Or.inr sz_b1)
  have b24 : ¬ ((1 : Int32) < (1 : Int32)) := (by decide)
  have b25 : ¬ ((1 : Int32) < (1 : Int32)) := (by decide)
  obtain ⟨fs, hr, hrun, hended, hW, hsame⟩ := X19.leave (v := (some (.ref b1))) (fun h => by rw [Bd.returns] at h; cases h)
  refine ⟨_, _, pre0 _ ?_, hrun, hended, _, _, rfl, ?_, ⟨_, rfl⟩, hW, hsame.mono (by decide) (by decide)⟩
  · show oS p e below s₁ m 0 #[oa a0, oa a1, .unset, .unset, .unset] [] _
    refine XS.aloadN X0.here hx rfl (hb hby own_d4_0) rfl rfl ?_
    show oS p e below s₁ m 1 #[oa a0, oa a1, .unset, .unset, .unset] [(.ref a0)] _
    refine oLen X0 hx hZ e0 V_a0 (hb hby own_d4_1) ?_
    refine XS.aloadN X0.here hx rfl (hb hby own_d4_2) rfl rfl ?_
    show oS p e below s₁ m 3 #[oa a0, oa a1, .unset, .unset, .unset] [(.ref a1), (.int (1 : Int32))] _
    refine oLen X0 hx hZ e0 V_a1 (hb hby own_d4_3) ?_
    refine XS.iadd X0.here hx rfl (hb hby own_d4_4) rfl ?_
    show oS p e below s₁ m 5 #[oa a0, oa a1, .unset, .unset, .unset] [(.int (2 : Int32))] _
    refine st1 _ ?_
    show oS p e below T1 m 7 #[oa a0, oa a1, .unset, .unset, .unset] [(.ref b1)] _
    refine XS.astoreN X1.here hx rfl (hb hby own_d4_7) rfl rfl (l' := #[oa a0, oa a1, oa b1, .unset, .unset]) rfl ?_
    refine XS.iconst X1.here hx rfl (hb hby own_d4_8) ?_
    refine XS.istoreN X1.here hx rfl (hb hby own_d4_9) rfl (l' := #[oa a0, oa a1, oa b1, oi (0 : Int32), .unset]) rfl ?_
    refine XS.iconst X1.here hx rfl (hb hby own_d4_10) ?_
    show oS p e below T1 m 11 #[oa a0, oa a1, oa b1, oi (0 : Int32), .unset] [(.int (0 : Int32))] _
    refine XS.istore X1.here hx rfl (hb hby own_d4_11) rfl (l' := #[oa a0, oa a1, oa b1, oi (0 : Int32), oi (0 : Int32)]) rfl ?_
    refine XS.iloadN X1.here hx rfl (hb hby own_d4_13) rfl ?_
    refine XS.aloadN X1.here hx rfl (hb hby own_d4_14) rfl rfl ?_
    show oS p e below T1 m 15 #[oa a0, oa a1, oa b1, oi (0 : Int32), oi (0 : Int32)] [(.ref a0), (.int (0 : Int32))] _
    refine oLen X1 hx hZ e1 F5 (hb hby own_d4_15) ?_
    show oS p e below T1 m 16 #[oa a0, oa a1, oa b1, oi (0 : Int32), oi (0 : Int32)] [(.int (1 : Int32)), (.int (0 : Int32))] _
    refine XS.icmpYes X1.here hx rfl (pc0 := 16) (pc' := 26) rfl (hb hby own_d4_16) rfl (tlt b8).1 (by decide) (by decide) ?_
    refine XS.iload X1.here hx rfl (hb hby own_d4_26) rfl ?_
    refine XS.aloadN X1.here hx rfl (hb hby own_d4_28) rfl rfl ?_
    show oS p e below T1 m 29 #[oa a0, oa a1, oa b1, oi (0 : Int32), oi (0 : Int32)] [(.ref a1), (.int (0 : Int32))] _
    refine oLen X1 hx hZ e1 F6 (hb hby own_d4_29) ?_
    show oS p e below T1 m 30 #[oa a0, oa a1, oa b1, oi (0 : Int32), oi (0 : Int32)] [(.int (1 : Int32)), (.int (0 : Int32))] _
    refine XS.icmpNo X1.here hx rfl (hb hby own_d4_30) rfl (feq b9).1 ?_
    refine XS.iloadN X1.here hx rfl (hb hby own_d4_33) rfl ?_
    refine XS.aloadN X1.here hx rfl (hb hby own_d4_34) rfl rfl ?_
    show oS p e below T1 m 35 #[oa a0, oa a1, oa b1, oi (0 : Int32), oi (0 : Int32)] [(.ref a0), (.int (0 : Int32))] _
    refine oLen X1 hx hZ e1 F5 (hb hby own_d4_35) ?_
    show oS p e below T1 m 36 #[oa a0, oa a1, oa b1, oi (0 : Int32), oi (0 : Int32)] [(.int (1 : Int32)), (.int (0 : Int32))] _
    refine XS.icmpNo X1.here hx rfl (hb hby own_d4_36) rfl (tlt b10).2.1 ?_
    refine XS.aloadN X1.here hx rfl (hb hby own_d4_39) rfl rfl ?_
    refine XS.iloadN X1.here hx rfl (hb hby own_d4_40) rfl ?_
    show oS p e below T1 m 41 #[oa a0, oa a1, oa b1, oi (0 : Int32), oi (0 : Int32)] [(.int (0 : Int32)), (.ref a0)] _
    refine oLdI X1 hx hZ e1 F5 (v := (.int x0)) ⟨by decide, by decide⟩ rfl (hb hby own_d4_41) ?_
    refine XS.aloadN X1.here hx rfl (hb hby own_d4_42) rfl rfl ?_
    refine XS.iload X1.here hx rfl (hb hby own_d4_43) rfl ?_
    show oS p e below T1 m 45 #[oa a0, oa a1, oa b1, oi (0 : Int32), oi (0 : Int32)] [(.int (0 : Int32)), (.ref a1), (.int x0)] _
    refine oLdI X1 hx hZ e1 F6 (v := (.int y0)) ⟨by decide, by decide⟩ rfl (hb hby own_d4_45) ?_
    show oS p e below T1 m 46 #[oa a0, oa a1, oa b1, oi (0 : Int32), oi (0 : Int32)] [(.int y0), (.int x0)] _
    refine XS.icmpYes X1.here hx rfl (pc0 := 46) (pc' := 64) rfl (hb hby own_d4_46) rfl (flt b11).2.1 (by decide) (by decide) ?_
    refine XS.aloadN X1.here hx rfl (hb hby own_d4_64) rfl rfl ?_
    refine XS.iloadN X1.here hx rfl (hb hby own_d4_65) rfl ?_
    refine XS.iload X1.here hx rfl (hb hby own_d4_66) rfl ?_
    show oS p e below T1 m 68 #[oa a0, oa a1, oa b1, oi (0 : Int32), oi (0 : Int32)] [(.int (0 : Int32)), (.int (0 : Int32)), (.ref b1)] _
    refine XS.iadd X1.here hx rfl (hb hby own_d4_68) rfl ?_
    refine XS.aloadN X1.here hx rfl (hb hby own_d4_69) rfl rfl ?_
    refine XS.iload X1.here hx rfl (hb hby own_d4_70) rfl ?_
    show oS p e below T1 m 72 #[oa a0, oa a1, oa b1, oi (0 : Int32), oi (0 : Int32)] [(.int (0 : Int32)), (.ref a1), (.int (0 : Int32)), (.ref b1)] _
    refine oLdI X1 hx hZ e1 F6 (v := (.int y0)) ⟨by decide, by decide⟩ rfl (hb hby own_d4_72) ?_
    show oS p e below T1 m 73 #[oa a0, oa a1, oa b1, oi (0 : Int32), oi (0 : Int32)] [(.int y0), (.int (0 : Int32)), (.ref b1)] _
    refine st12 _ ?_
    show oS p e below T12 m 74 #[oa a0, oa a1, oa b1, oi (0 : Int32), oi (0 : Int32)] [] _
    refine XS.iinc X12.here hx rfl (hb hby own_d4_74) rfl (l' := #[oa a0, oa a1, oa b1, oi (0 : Int32), oi (1 : Int32)]) rfl ?_
    refine XS.goto X12.here hx rfl (pc0 := 77) (pc' := 13) rfl (hb hby own_d4_77) (by decide) (by decide) ?_
    refine XS.iloadN X12.here hx rfl (hb hby own_d4_13) rfl ?_
    refine XS.aloadN X12.here hx rfl (hb hby own_d4_14) rfl rfl ?_
    show oS p e below T12 m 15 #[oa a0, oa a1, oa b1, oi (0 : Int32), oi (1 : Int32)] [(.ref a0), (.int (0 : Int32))] _
    refine oLen X12 hx hZ e12 F13 (hb hby own_d4_15) ?_
    show oS p e below T12 m 16 #[oa a0, oa a1, oa b1, oi (0 : Int32), oi (1 : Int32)] [(.int (1 : Int32)), (.int (0 : Int32))] _
    refine XS.icmpYes X12.here hx rfl (pc0 := 16) (pc' := 26) rfl (hb hby own_d4_16) rfl (tlt b17).1 (by decide) (by decide) ?_
    refine XS.iload X12.here hx rfl (hb hby own_d4_26) rfl ?_
    refine XS.aloadN X12.here hx rfl (hb hby own_d4_28) rfl rfl ?_
    show oS p e below T12 m 29 #[oa a0, oa a1, oa b1, oi (0 : Int32), oi (1 : Int32)] [(.ref a1), (.int (1 : Int32))] _
    refine oLen X12 hx hZ e12 F14 (hb hby own_d4_29) ?_
    show oS p e below T12 m 30 #[oa a0, oa a1, oa b1, oi (0 : Int32), oi (1 : Int32)] [(.int (1 : Int32)), (.int (1 : Int32))] _
    refine XS.icmpYes X12.here hx rfl (pc0 := 30) (pc' := 49) rfl (hb hby own_d4_30) rfl (teq b18).1 (by decide) (by decide) ?_
    refine XS.aloadN X12.here hx rfl (hb hby own_d4_49) rfl rfl ?_
    refine XS.iloadN X12.here hx rfl (hb hby own_d4_50) rfl ?_
    refine XS.iload X12.here hx rfl (hb hby own_d4_51) rfl ?_
    show oS p e below T12 m 53 #[oa a0, oa a1, oa b1, oi (0 : Int32), oi (1 : Int32)] [(.int (1 : Int32)), (.int (0 : Int32)), (.ref b1)] _
    refine XS.iadd X12.here hx rfl (hb hby own_d4_53) rfl ?_
    refine XS.aloadN X12.here hx rfl (hb hby own_d4_54) rfl rfl ?_
    refine XS.iloadN X12.here hx rfl (hb hby own_d4_55) rfl ?_
    show oS p e below T12 m 56 #[oa a0, oa a1, oa b1, oi (0 : Int32), oi (1 : Int32)] [(.int (0 : Int32)), (.ref a0), (.int (1 : Int32)), (.ref b1)] _
    refine oLdI X12 hx hZ e12 F13 (v := (.int x0)) ⟨by decide, by decide⟩ rfl (hb hby own_d4_56) ?_
    show oS p e below T12 m 57 #[oa a0, oa a1, oa b1, oi (0 : Int32), oi (1 : Int32)] [(.int x0), (.int (1 : Int32)), (.ref b1)] _
    refine st19 _ ?_
    show oS p e below T19 m 58 #[oa a0, oa a1, oa b1, oi (0 : Int32), oi (1 : Int32)] [] _
    refine XS.iinc X19.here hx rfl (hb hby own_d4_58) rfl (l' := #[oa a0, oa a1, oa b1, oi (1 : Int32), oi (1 : Int32)]) rfl ?_
    refine XS.goto X19.here hx rfl (pc0 := 61) (pc' := 13) rfl (hb hby own_d4_61) (by decide) (by decide) ?_
    refine XS.iloadN X19.here hx rfl (hb hby own_d4_13) rfl ?_
    refine XS.aloadN X19.here hx rfl (hb hby own_d4_14) rfl rfl ?_
    show oS p e below T19 m 15 #[oa a0, oa a1, oa b1, oi (1 : Int32), oi (1 : Int32)] [(.ref a0), (.int (1 : Int32))] _
    refine oLen X19 hx hZ e19 F20 (hb hby own_d4_15) ?_
    show oS p e below T19 m 16 #[oa a0, oa a1, oa b1, oi (1 : Int32), oi (1 : Int32)] [(.int (1 : Int32)), (.int (1 : Int32))] _
    refine XS.icmpNo X19.here hx rfl (hb hby own_d4_16) rfl (flt b24).1 ?_
    refine XS.iload X19.here hx rfl (hb hby own_d4_19) rfl ?_
    refine XS.aloadN X19.here hx rfl (hb hby own_d4_21) rfl rfl ?_
    show oS p e below T19 m 22 #[oa a0, oa a1, oa b1, oi (1 : Int32), oi (1 : Int32)] [(.ref a1), (.int (1 : Int32))] _
    refine oLen X19 hx hZ e19 F21 (hb hby own_d4_22) ?_
    show oS p e below T19 m 23 #[oa a0, oa a1, oa b1, oi (1 : Int32), oi (1 : Int32)] [(.int (1 : Int32)), (.int (1 : Int32))] _
    refine XS.icmpYes X19.here hx rfl (pc0 := 23) (pc' := 80) rfl (hb hby own_d4_23) rfl (flt b25).2.1 (by decide) (by decide) ?_
    refine XS.aloadN X19.here hx rfl (hb hby own_d4_80) rfl rfl ?_
    show oS p e below T19 m 81 #[oa a0, oa a1, oa b1, oi (1 : Int32), oi (1 : Int32)] [(.ref b1)] _
    exact retOut X19 hx Bd.returns rfl (Or.inr (Or.inr (Or.inr (Or.inr ⟨rfl, rfl, rfl⟩)))) (hb hby own_d4_81) hr
  · show own_Q4_11yx Z a0 a1 k_a0 x0 k_a1 y0 h0 n0 _ T19.heap _
    rw [e19]
    exact ⟨b1, k1, rfl, N19, K_23, sz_b1, V_22⟩
theorem own_ef4_12xyy (m : MethodId) (a0 : Addr) (a1 : Addr) : entryFrame m #[(.ref a0), (.ref a1)] 5 = mkF m 0 #[oa a0, oa a1, .unset, .unset, .unset] [] := by first | (simp [entryFrame, mkF, argsToLocals, Value.category]; done) | rfl
def own_Q4_12xyy (Z : State) (a0 : Addr) (a1 : Addr) (k_a0 : ClassId) (x0 : Int32) (k_a1 : ClassId) (y0 : Int32) (y1 : Int32) (h0 : Heap) (n0 : Nat) (v : Option Value) (h : Heap) (L : List Loc) : Prop := ∃ (u : Addr) (k_u : ClassId), v = some (.ref u) ∧ Fr n0 L ∧ Keep h0 h [] ∧ h0.size ≤ u ∧ Arv Z h u k_u .int (3 : Int32) [(.int x0), (.int y0), (.int y1)] (.int (0 : Int32))
set_option maxRecDepth 65536 in
set_option maxHeartbeats 40000000 in
theorem own_rm4_12xyy (l : Launch) (Z : State) (av : Array Value) (hw : ∀ d ∈ tables_1, d.before av Z = true) (ws : List Jvm.Cond) (a0 : Addr) (a1 : Addr) (k_a0 : ClassId) (x0 : Int32) (k_a1 : ClassId) (y0 : Int32) (y1 : Int32) (h0 : Heap) (n0 : Nat) (Z0 : n0 ≤ h0.size) (V_a0 : Arv Z h0 a0 k_a0 .int (1 : Int32) [(.int x0)] (.int (0 : Int32))) (V_a1 : Arv Z h0 a1 k_a1 .int (2 : Int32) [(.int y0), (.int y1)] (.int (0 : Int32))) (c_x0_y0 : x0 < y0) :
    MetFree l (⟨"com/example/strict_anon/strictanon/service/RecordSets", "union", "([I[I)[I"⟩ : MethodName) (head1 (Jvm.Cond.code (⟨"com/example/strict_anon/strictanon/service/RecordSets", "union", "([I[I)[I"⟩ : MethodName) prog_30_method_2_code 5 (some (.array .int)) :: ws) ({ frames := 0, cells := 1, slots := 3, locals := 0 } : Room)) (fun a U => a = #[(.ref a0), (.ref a1)] ∧ Z.Warmed39 U.vm ∧ U.heap = h0) (fun _ _ _ _ _ => True) (fun _ U o U' => ∃ v L, o = .returned v ∧ own_Q4_12xyy Z a0 a1 k_a0 x0 k_a1 y0 y1 h0 n0 v U'.heap L ∧ FrameEnd U o U' L ({ frames := 0, cells := 1, slots := 3, locals := 0 } : Room).cells ({ frames := 0, cells := 1, slots := 3, locals := 0 } : Room).slots) := by
  refine MetFree.of_bodySF (plainFor_of_name own_pn1) hisR ?_
  intro p e s m args below meth c s₁ Bd hml0 hP hK
  obtain ⟨rfl, hZ, hh⟩ := hP
  have hx := Bd.exec
  have hby := Bd.bytes
  have hml : c.maxLocals = 5 := hml0
  have hown : s.vm.findClass "com/example/strict_anon/strictanon/service/RecordSets" = some m.cls := findClass_of_methodNamed Bd.named
  have hnm := (name_of_methodNamed Bd.named Bd.method).1
  have X0 : Stand p l e ({ frames := 0, cells := 1, slots := 3, locals := 0 } : Room) s m #[(.ref a0), (.ref a1)] below meth c s₁ [] 0 0 := Stand.of_body Bd
  have e0 : s₁.heap = h0 := by rw [← hh, Bd.state]; rfl
  have N0 := Fr.nil n0
  have pre0 : ∀ t, Steps p.tables e below (s₁.setTop (mkF m 0 #[oa a0, oa a1, .unset, .unset, .unset] [])) t → Steps p.tables e below (s₁.setTop (entryFrame m #[(.ref a0), (.ref a1)] 5)) t := fun t k => castTop (own_ef4_12xyy m a0 a1) k
  obtain ⟨T1, h1, k1, X1, e1, E1, A1, st1⟩ := newP X0 hx hZ (hw _ (List.mem_of_getElem? (i := 8) rfl)) e0 (g := (mkF m 5 #[oa a0, oa a1, .unset, .unset, .unset] [(.int (3 : Int32))])) rfl (hb hby own_d4_5) rfl (by decide) (cap := 3) (by decide) (by decide) (by decide) (by decide)
  obtain ⟨b1, g1⟩ : ∃ z, z = h0.size := ⟨_, rfl⟩
  rw [← g1] at A1 st1
  have g_b1 : n0 ≤ b1 := Nat.le_trans Z0 (Nat.le_of_eq g1.symm)
  have ne2 : a0 ≠ b1 := Nat.ne_of_lt (Nat.lt_of_lt_of_le V_a0.lt (Nat.le_of_eq g1.symm))
  have ne3 : a1 ≠ b1 := Nat.ne_of_lt (Nat.lt_of_lt_of_le V_a1.lt (Nat.le_of_eq g1.symm))
  have Z1 : n0 ≤ h1.size := Nat.le_trans Z0 E1.1
  have sz_b1 : h0.size ≤ b1 := Nat.le_trans (Keep.refl h0 []).1 (Nat.le_of_eq g1.symm)
  have K_4 : Keep h0 h1 [] := (Keep.refl h0 []).ext E1
  have F5 := V_a0.ext E1
  have F6 := V_a1.ext E1
  have V_7 : Arv Z h1 b1 k1 .int (3 : Int32) [(.int (0 : Int32)), (.int (0 : Int32)), (.int (0 : Int32))] (.int (0 : Int32)) := (Arv.new A1 (by decide)).pad (pad_rep [] (.int (0 : Int32)) 3)
  have b8 : (0 : Int32) < (1 : Int32) := (by decide)
  have b9 : ¬ ((0 : Int32) = (2 : Int32)) := (by decide)
  have b10 : (0 : Int32) < (1 : Int32) := (by decide)
  have b11 : x0 < y0 := c_x0_y0
  obtain ⟨T12, h12, X12, e12, W12, V12, st12⟩ := oStI X1 hx hZ e1 V_7 (j := (0 : Int32)) ⟨by decide, by decide⟩ 0 rfl (Nat.le_of_ble_eq_true rfl) (g := (mkF m 57 #[oa a0, oa a1, oa b1, oi (0 : Int32), oi (0 : Int32)] [(.int x0), (.int (0 : Int32)), (.ref b1)])) rfl rfl (hb hby own_d4_57)
  obtain ⟨Lo12, X12, N12⟩ := oOpq X12 (Fr.snoc X12 N0 g_b1)
  have Z12 := Nat.le_trans Z1 (Keep.of_wr W12).1
  have F13 := F5.other W12 ne2
  have F14 := F6.other W12 ne3
  have V_15 : Arv Z h12 b1 k1 .int (3 : Int32) [(.int x0), (.int (0 : Int32)), (.int (0 : Int32))] (.int (0 : Int32)) := V12
  have K_16 : Keep h0 h12 [] := K_4.wr W12 (Or.inr sz_b1)
  have b17 : ¬ ((1 : Int32) < (1 : Int32)) := (by decide)
  have b18 : (0 : Int32) < (2 : Int32) := (by decide)
  have b19 : ¬ ((0 : Int32) = (2 : Int32)) := (by decide)
  have b20 : ¬ ((1 : Int32) < (1 : Int32)) := (by decide)
  obtain ⟨T21, h21, X21, e21, W21, V21, st21⟩ := oStI X12 hx hZ e12 V_15 (j := (1 : Int32)) ⟨by decide, by decide⟩ 1 rfl (Nat.le_of_ble_eq_true rfl) (g := (mkF m 73 #[oa a0, oa a1, oa b1, oi (1 : Int32), oi (0 : Int32)] [(.int y0), (.int (1 : Int32)), (.ref b1)])) rfl rfl (hb hby own_d4_73)
  obtain ⟨Lo21, X21, N21⟩ := oOpq X21 (Fr.snoc X21 N12 g_b1)
  have Z21 := Nat.le_trans Z12 (Keep.of_wr W21).1
  have F22 := F13.other W21 ne2
  have F23 := F14.other W21 ne3
  have V_24 : Arv Z h21 b1 k1 .int (3 : Int32) [(.int x0), (.int y0), (.int (0 : Int32))] (.int (0 : Int32)) := V21
  have K_25 : Keep h0 h21 [] := K_16.wr W21 (Or.inr sz_b1)
  have b26 : ¬ ((1 : Int32) < (1 : Int32)) := (by decide)
  have b27 : (1 : Int32) < (2 : Int32) := (by decide)
  have b28 : ¬ ((1 : Int32) = (2 : Int32)) := (by decide)
  have b29 : ¬ ((1 : Int32) < (1 : Int32)) := (by decide)
  obtain ⟨T30, h30, X30, e30, W30, V30, st30⟩ := oStI X21 hx hZ e21 V_24 (j := (2 : Int32)) ⟨by decide, by decide⟩ 2 rfl (Nat.le_of_ble_eq_true rfl) (g := (mkF m 73 #[oa a0, oa a1, oa b1, oi (1 : Int32), oi (1 : Int32)] [(.int y1), (.int (2 : Int32)), (.ref b1)])) rfl rfl (hb hby own_d4_73)
  obtain ⟨Lo30, X30, N30⟩ := oOpq X30 (Fr.snoc X30 N21 g_b1)
  have Z30 := Nat.le_trans Z21 (Keep.of_wr W30).1
  have F31 := F22.other W30 ne2
  have F32 := F23.other W30 ne3
  have V_33 : Arv Z h30 b1 k1 .int (3 : Int32) [(.int x0), (.int y0), (.int y1)] (.int (0 : Int32)) := V30
  have K_34 : Keep h0 h30 [] := K_25.wr W30 (Or.inr sz_b1)
  have b35 : ¬ ((1 : Int32) < (1 : Int32)) := (by decide)
  have b36 : ¬ ((2 : Int32) < (2 : Int32)) := (by decide)
  obtain ⟨fs, hr, hrun, hended, hW, hsame⟩ := X30.leave (v := (some (.ref b1))) (fun h => by rw [Bd.returns] at h; cases h)
  refine ⟨_, _, pre0 _ ?_, hrun, hended, _, _, rfl, ?_, ⟨_, rfl⟩, hW, hsame.mono (by decide) (by decide)⟩
  · show oS p e below s₁ m 0 #[oa a0, oa a1, .unset, .unset, .unset] [] _
    refine XS.aloadN X0.here hx rfl (hb hby own_d4_0) rfl rfl ?_
    show oS p e below s₁ m 1 #[oa a0, oa a1, .unset, .unset, .unset] [(.ref a0)] _
    refine oLen X0 hx hZ e0 V_a0 (hb hby own_d4_1) ?_
    refine XS.aloadN X0.here hx rfl (hb hby own_d4_2) rfl rfl ?_
    show oS p e below s₁ m 3 #[oa a0, oa a1, .unset, .unset, .unset] [(.ref a1), (.int (1 : Int32))] _
    refine oLen X0 hx hZ e0 V_a1 (hb hby own_d4_3) ?_
    refine XS.iadd X0.here hx rfl (hb hby own_d4_4) rfl ?_
    show oS p e below s₁ m 5 #[oa a0, oa a1, .unset, .unset, .unset] [(.int (3 : Int32))] _
    refine st1 _ ?_
    show oS p e below T1 m 7 #[oa a0, oa a1, .unset, .unset, .unset] [(.ref b1)] _
    refine XS.astoreN X1.here hx rfl (hb hby own_d4_7) rfl rfl (l' := #[oa a0, oa a1, oa b1, .unset, .unset]) rfl ?_
    refine XS.iconst X1.here hx rfl (hb hby own_d4_8) ?_
    refine XS.istoreN X1.here hx rfl (hb hby own_d4_9) rfl (l' := #[oa a0, oa a1, oa b1, oi (0 : Int32), .unset]) rfl ?_
    refine XS.iconst X1.here hx rfl (hb hby own_d4_10) ?_
    show oS p e below T1 m 11 #[oa a0, oa a1, oa b1, oi (0 : Int32), .unset] [(.int (0 : Int32))] _
    refine XS.istore X1.here hx rfl (hb hby own_d4_11) rfl (l' := #[oa a0, oa a1, oa b1, oi (0 : Int32), oi (0 : Int32)]) rfl ?_
    refine XS.iloadN X1.here hx rfl (hb hby own_d4_13) rfl ?_
    refine XS.aloadN X1.here hx rfl (hb hby own_d4_14) rfl rfl ?_
    show oS p e below T1 m 15 #[oa a0, oa a1, oa b1, oi (0 : Int32), oi (0 : Int32)] [(.ref a0), (.int (0 : Int32))] _
    refine oLen X1 hx hZ e1 F5 (hb hby own_d4_15) ?_
    show oS p e below T1 m 16 #[oa a0, oa a1, oa b1, oi (0 : Int32), oi (0 : Int32)] [(.int (1 : Int32)), (.int (0 : Int32))] _
    refine XS.icmpYes X1.here hx rfl (pc0 := 16) (pc' := 26) rfl (hb hby own_d4_16) rfl (tlt b8).1 (by decide) (by decide) ?_
    refine XS.iload X1.here hx rfl (hb hby own_d4_26) rfl ?_
    refine XS.aloadN X1.here hx rfl (hb hby own_d4_28) rfl rfl ?_
    show oS p e below T1 m 29 #[oa a0, oa a1, oa b1, oi (0 : Int32), oi (0 : Int32)] [(.ref a1), (.int (0 : Int32))] _
    refine oLen X1 hx hZ e1 F6 (hb hby own_d4_29) ?_
    show oS p e below T1 m 30 #[oa a0, oa a1, oa b1, oi (0 : Int32), oi (0 : Int32)] [(.int (2 : Int32)), (.int (0 : Int32))] _
    refine XS.icmpNo X1.here hx rfl (hb hby own_d4_30) rfl (feq b9).1 ?_
    refine XS.iloadN X1.here hx rfl (hb hby own_d4_33) rfl ?_
    refine XS.aloadN X1.here hx rfl (hb hby own_d4_34) rfl rfl ?_
    show oS p e below T1 m 35 #[oa a0, oa a1, oa b1, oi (0 : Int32), oi (0 : Int32)] [(.ref a0), (.int (0 : Int32))] _
    refine oLen X1 hx hZ e1 F5 (hb hby own_d4_35) ?_
    show oS p e below T1 m 36 #[oa a0, oa a1, oa b1, oi (0 : Int32), oi (0 : Int32)] [(.int (1 : Int32)), (.int (0 : Int32))] _
    refine XS.icmpNo X1.here hx rfl (hb hby own_d4_36) rfl (tlt b10).2.1 ?_
    refine XS.aloadN X1.here hx rfl (hb hby own_d4_39) rfl rfl ?_
    refine XS.iloadN X1.here hx rfl (hb hby own_d4_40) rfl ?_
    show oS p e below T1 m 41 #[oa a0, oa a1, oa b1, oi (0 : Int32), oi (0 : Int32)] [(.int (0 : Int32)), (.ref a0)] _
    refine oLdI X1 hx hZ e1 F5 (v := (.int x0)) ⟨by decide, by decide⟩ rfl (hb hby own_d4_41) ?_
    refine XS.aloadN X1.here hx rfl (hb hby own_d4_42) rfl rfl ?_
    refine XS.iload X1.here hx rfl (hb hby own_d4_43) rfl ?_
    show oS p e below T1 m 45 #[oa a0, oa a1, oa b1, oi (0 : Int32), oi (0 : Int32)] [(.int (0 : Int32)), (.ref a1), (.int x0)] _
    refine oLdI X1 hx hZ e1 F6 (v := (.int y0)) ⟨by decide, by decide⟩ rfl (hb hby own_d4_45) ?_
    show oS p e below T1 m 46 #[oa a0, oa a1, oa b1, oi (0 : Int32), oi (0 : Int32)] [(.int y0), (.int x0)] _
    refine XS.icmpNo X1.here hx rfl (hb hby own_d4_46) rfl (tlt b11).2.1 ?_
    refine XS.aloadN X1.here hx rfl (hb hby own_d4_49) rfl rfl ?_
    refine XS.iloadN X1.here hx rfl (hb hby own_d4_50) rfl ?_
    refine XS.iload X1.here hx rfl (hb hby own_d4_51) rfl ?_
    show oS p e below T1 m 53 #[oa a0, oa a1, oa b1, oi (0 : Int32), oi (0 : Int32)] [(.int (0 : Int32)), (.int (0 : Int32)), (.ref b1)] _
    refine XS.iadd X1.here hx rfl (hb hby own_d4_53) rfl ?_
    refine XS.aloadN X1.here hx rfl (hb hby own_d4_54) rfl rfl ?_
    refine XS.iloadN X1.here hx rfl (hb hby own_d4_55) rfl ?_
    show oS p e below T1 m 56 #[oa a0, oa a1, oa b1, oi (0 : Int32), oi (0 : Int32)] [(.int (0 : Int32)), (.ref a0), (.int (0 : Int32)), (.ref b1)] _
    refine oLdI X1 hx hZ e1 F5 (v := (.int x0)) ⟨by decide, by decide⟩ rfl (hb hby own_d4_56) ?_
    show oS p e below T1 m 57 #[oa a0, oa a1, oa b1, oi (0 : Int32), oi (0 : Int32)] [(.int x0), (.int (0 : Int32)), (.ref b1)] _
    refine st12 _ ?_
    show oS p e below T12 m 58 #[oa a0, oa a1, oa b1, oi (0 : Int32), oi (0 : Int32)] [] _
    refine XS.iinc X12.here hx rfl (hb hby own_d4_58) rfl (l' := #[oa a0, oa a1, oa b1, oi (1 : Int32), oi (0 : Int32)]) rfl ?_
    refine XS.goto X12.here hx rfl (pc0 := 61) (pc' := 13) rfl (hb hby own_d4_61) (by decide) (by decide) ?_
    refine XS.iloadN X12.here hx rfl (hb hby own_d4_13) rfl ?_
    refine XS.aloadN X12.here hx rfl (hb hby own_d4_14) rfl rfl ?_
    show oS p e below T12 m 15 #[oa a0, oa a1, oa b1, oi (1 : Int32), oi (0 : Int32)] [(.ref a0), (.int (1 : Int32))] _
    refine oLen X12 hx hZ e12 F13 (hb hby own_d4_15) ?_
    show oS p e below T12 m 16 #[oa a0, oa a1, oa b1, oi (1 : Int32), oi (0 : Int32)] [(.int (1 : Int32)), (.int (1 : Int32))] _
    refine XS.icmpNo X12.here hx rfl (hb hby own_d4_16) rfl (flt b17).1 ?_
    refine XS.iload X12.here hx rfl (hb hby own_d4_19) rfl ?_
    refine XS.aloadN X12.here hx rfl (hb hby own_d4_21) rfl rfl ?_
    show oS p e below T12 m 22 #[oa a0, oa a1, oa b1, oi (1 : Int32), oi (0 : Int32)] [(.ref a1), (.int (0 : Int32))] _
    refine oLen X12 hx hZ e12 F14 (hb hby own_d4_22) ?_
    show oS p e below T12 m 23 #[oa a0, oa a1, oa b1, oi (1 : Int32), oi (0 : Int32)] [(.int (2 : Int32)), (.int (0 : Int32))] _
    refine XS.icmpNo X12.here hx rfl (hb hby own_d4_23) rfl (tlt b18).2.1 ?_
    refine XS.iload X12.here hx rfl (hb hby own_d4_26) rfl ?_
    refine XS.aloadN X12.here hx rfl (hb hby own_d4_28) rfl rfl ?_
    show oS p e below T12 m 29 #[oa a0, oa a1, oa b1, oi (1 : Int32), oi (0 : Int32)] [(.ref a1), (.int (0 : Int32))] _
    refine oLen X12 hx hZ e12 F14 (hb hby own_d4_29) ?_
    show oS p e below T12 m 30 #[oa a0, oa a1, oa b1, oi (1 : Int32), oi (0 : Int32)] [(.int (2 : Int32)), (.int (0 : Int32))] _
    refine XS.icmpNo X12.here hx rfl (hb hby own_d4_30) rfl (feq b19).1 ?_
    refine XS.iloadN X12.here hx rfl (hb hby own_d4_33) rfl ?_
    refine XS.aloadN X12.here hx rfl (hb hby own_d4_34) rfl rfl ?_
    show oS p e below T12 m 35 #[oa a0, oa a1, oa b1, oi (1 : Int32), oi (0 : Int32)] [(.ref a0), (.int (1 : Int32))] _
    refine oLen X12 hx hZ e12 F13 (hb hby own_d4_35) ?_
    show oS p e below T12 m 36 #[oa a0, oa a1, oa b1, oi (1 : Int32), oi (0 : Int32)] [(.int (1 : Int32)), (.int (1 : Int32))] _
    refine XS.icmpYes X12.here hx rfl (pc0 := 36) (pc' := 64) rfl (hb hby own_d4_36) rfl (flt b20).2.1 (by decide) (by decide) ?_
    refine XS.aloadN X12.here hx rfl (hb hby own_d4_64) rfl rfl ?_
    refine XS.iloadN X12.here hx rfl (hb hby own_d4_65) rfl ?_
    refine XS.iload X12.here hx rfl (hb hby own_d4_66) rfl ?_
    show oS p e below T12 m 68 #[oa a0, oa a1, oa b1, oi (1 : Int32), oi (0 : Int32)] [(.int (0 : Int32)), (.int (1 : Int32)), (.ref b1)] _
    refine XS.iadd X12.here hx rfl (hb hby own_d4_68) rfl ?_
    refine XS.aloadN X12.here hx rfl (hb hby own_d4_69) rfl rfl ?_
    refine XS.iload X12.here hx rfl (hb hby own_d4_70) rfl ?_
    show oS p e below T12 m 72 #[oa a0, oa a1, oa b1, oi (1 : Int32), oi (0 : Int32)] [(.int (0 : Int32)), (.ref a1), (.int (1 : Int32)), (.ref b1)] _
    refine oLdI X12 hx hZ e12 F14 (v := (.int y0)) ⟨by decide, by decide⟩ rfl (hb hby own_d4_72) ?_
    show oS p e below T12 m 73 #[oa a0, oa a1, oa b1, oi (1 : Int32), oi (0 : Int32)] [(.int y0), (.int (1 : Int32)), (.ref b1)] _
    refine st21 _ ?_
    show oS p e below T21 m 74 #[oa a0, oa a1, oa b1, oi (1 : Int32), oi (0 : Int32)] [] _
    refine XS.iinc X21.here hx rfl (hb hby own_d4_74) rfl (l' := #[oa a0, oa a1, oa b1, oi (1 : Int32), oi (1 : Int32)]) rfl ?_
    refine XS.goto X21.here hx rfl (pc0 := 77) (pc' := 13) rfl (hb hby own_d4_77) (by decide) (by decide) ?_
    refine XS.iloadN X21.here hx rfl (hb hby own_d4_13) rfl ?_
    refine XS.aloadN X21.here hx rfl (hb hby own_d4_14) rfl rfl ?_
    show oS p e below T21 m 15 #[oa a0, oa a1, oa b1, oi (1 : Int32), oi (1 : Int32)] [(.ref a0), (.int (1 : Int32))] _
    refine oLen X21 hx hZ e21 F22 (hb hby own_d4_15) ?_
    show oS p e below T21 m 16 #[oa a0, oa a1, oa b1, oi (1 : Int32), oi (1 : Int32)] [(.int (1 : Int32)), (.int (1 : Int32))] _
    refine XS.icmpNo X21.here hx rfl (hb hby own_d4_16) rfl (flt b26).1 ?_
    refine XS.iload X21.here hx rfl (hb hby own_d4_19) rfl ?_
    refine XS.aloadN X21.here hx rfl (hb hby own_d4_21) rfl rfl ?_
    show oS p e below T21 m 22 #[oa a0, oa a1, oa b1, oi (1 : Int32), oi (1 : Int32)] [(.ref a1), (.int (1 : Int32))] _
    refine oLen X21 hx hZ e21 F23 (hb hby own_d4_22) ?_
    show oS p e below T21 m 23 #[oa a0, oa a1, oa b1, oi (1 : Int32), oi (1 : Int32)] [(.int (2 : Int32)), (.int (1 : Int32))] _
    refine XS.icmpNo X21.here hx rfl (hb hby own_d4_23) rfl (tlt b27).2.1 ?_
    refine XS.iload X21.here hx rfl (hb hby own_d4_26) rfl ?_
    refine XS.aloadN X21.here hx rfl (hb hby own_d4_28) rfl rfl ?_
    show oS p e below T21 m 29 #[oa a0, oa a1, oa b1, oi (1 : Int32), oi (1 : Int32)] [(.ref a1), (.int (1 : Int32))] _
    refine oLen X21 hx hZ e21 F23 (hb hby own_d4_29) ?_
    show oS p e below T21 m 30 #[oa a0, oa a1, oa b1, oi (1 : Int32), oi (1 : Int32)] [(.int (2 : Int32)), (.int (1 : Int32))] _
    refine XS.icmpNo X21.here hx rfl (hb hby own_d4_30) rfl (feq b28).1 ?_
    refine XS.iloadN X21.here hx rfl (hb hby own_d4_33) rfl ?_
    refine XS.aloadN X21.here hx rfl (hb hby own_d4_34) rfl rfl ?_
    show oS p e below T21 m 35 #[oa a0, oa a1, oa b1, oi (1 : Int32), oi (1 : Int32)] [(.ref a0), (.int (1 : Int32))] _
    refine oLen X21 hx hZ e21 F22 (hb hby own_d4_35) ?_
    show oS p e below T21 m 36 #[oa a0, oa a1, oa b1, oi (1 : Int32), oi (1 : Int32)] [(.int (1 : Int32)), (.int (1 : Int32))] _
    refine XS.icmpYes X21.here hx rfl (pc0 := 36) (pc' := 64) rfl (hb hby own_d4_36) rfl (flt b29).2.1 (by decide) (by decide) ?_
    refine XS.aloadN X21.here hx rfl (hb hby own_d4_64) rfl rfl ?_
    refine XS.iloadN X21.here hx rfl (hb hby own_d4_65) rfl ?_
    refine XS.iload X21.here hx rfl (hb hby own_d4_66) rfl ?_
    show oS p e below T21 m 68 #[oa a0, oa a1, oa b1, oi (1 : Int32), oi (1 : Int32)] [(.int (1 : Int32)), (.int (1 : Int32)), (.ref b1)] _
    refine XS.iadd X21.here hx rfl (hb hby own_d4_68) rfl ?_
    refine XS.aloadN X21.here hx rfl (hb hby own_d4_69) rfl rfl ?_
    refine XS.iload X21.here hx rfl (hb hby own_d4_70) rfl ?_
    show oS p e below T21 m 72 #[oa a0, oa a1, oa b1, oi (1 : Int32), oi (1 : Int32)] [(.int (1 : Int32)), (.ref a1), (.int (2 : Int32)), (.ref b1)] _
    refine oLdI X21 hx hZ e21 F23 (v := (.int y1)) ⟨by decide, by decide⟩ rfl (hb hby own_d4_72) ?_
    show oS p e below T21 m 73 #[oa a0, oa a1, oa b1, oi (1 : Int32), oi (1 : Int32)] [(.int y1), (.int (2 : Int32)), (.ref b1)] _
    refine st30 _ ?_
    show oS p e below T30 m 74 #[oa a0, oa a1, oa b1, oi (1 : Int32), oi (1 : Int32)] [] _
    refine XS.iinc X30.here hx rfl (hb hby own_d4_74) rfl (l' := #[oa a0, oa a1, oa b1, oi (1 : Int32), oi (2 : Int32)]) rfl ?_
    refine XS.goto X30.here hx rfl (pc0 := 77) (pc' := 13) rfl (hb hby own_d4_77) (by decide) (by decide) ?_
    refine XS.iloadN X30.here hx rfl (hb hby own_d4_13) rfl ?_
    refine XS.aloadN X30.here hx rfl (hb hby own_d4_14) rfl rfl ?_
    show oS p e below T30 m 15 #[oa a0, oa a1, oa b1, oi (1 : Int32), oi (2 : Int32)] [(.ref a0), (.int (1 : Int32))] _
    refine oLen X30 hx hZ e30 F31 (hb hby own_d4_15) ?_
    show oS p e below T30 m 16 #[oa a0, oa a1, oa b1, oi (1 : Int32), oi (2 : Int32)] [(.int (1 : Int32)), (.int (1 : Int32))] _
    refine XS.icmpNo X30.here hx rfl (hb hby own_d4_16) rfl (flt b35).1 ?_
    refine XS.iload X30.here hx rfl (hb hby own_d4_19) rfl ?_
    refine XS.aloadN X30.here hx rfl (hb hby own_d4_21) rfl rfl ?_
    show oS p e below T30 m 22 #[oa a0, oa a1, oa b1, oi (1 : Int32), oi (2 : Int32)] [(.ref a1), (.int (2 : Int32))] _
    refine oLen X30 hx hZ e30 F32 (hb hby own_d4_22) ?_
    show oS p e below T30 m 23 #[oa a0, oa a1, oa b1, oi (1 : Int32), oi (2 : Int32)] [(.int (2 : Int32)), (.int (2 : Int32))] _
    refine XS.icmpYes X30.here hx rfl (pc0 := 23) (pc' := 80) rfl (hb hby own_d4_23) rfl (flt b36).2.1 (by decide) (by decide) ?_
    refine XS.aloadN X30.here hx rfl (hb hby own_d4_80) rfl rfl ?_
    show oS p e below T30 m 81 #[oa a0, oa a1, oa b1, oi (1 : Int32), oi (2 : Int32)] [(.ref b1)] _
    exact retOut X30 hx Bd.returns rfl (Or.inr (Or.inr (Or.inr (Or.inr ⟨rfl, rfl, rfl⟩)))) (hb hby own_d4_81) hr
  · show own_Q4_12xyy Z a0 a1 k_a0 x0 k_a1 y0 y1 h0 n0 _ T30.heap _
    rw [e30]
    exact ⟨b1, k1, rfl, N30, K_34, sz_b1, V_33⟩
theorem own_ef4_12yxy (m : MethodId) (a0 : Addr) (a1 : Addr) : entryFrame m #[(.ref a0), (.ref a1)] 5 = mkF m 0 #[oa a0, oa a1, .unset, .unset, .unset] [] := by first | (simp [entryFrame, mkF, argsToLocals, Value.category]; done) | rfl
def own_Q4_12yxy (Z : State) (a0 : Addr) (a1 : Addr) (k_a0 : ClassId) (x0 : Int32) (k_a1 : ClassId) (y0 : Int32) (y1 : Int32) (h0 : Heap) (n0 : Nat) (v : Option Value) (h : Heap) (L : List Loc) : Prop := ∃ (u : Addr) (k_u : ClassId), v = some (.ref u) ∧ Fr n0 L ∧ Keep h0 h [] ∧ h0.size ≤ u ∧ Arv Z h u k_u .int (3 : Int32) [(.int y0), (.int x0), (.int y1)] (.int (0 : Int32))
set_option maxRecDepth 65536 in
set_option maxHeartbeats 40000000 in
theorem own_rm4_12yxy (l : Launch) (Z : State) (av : Array Value) (hw : ∀ d ∈ tables_1, d.before av Z = true) (ws : List Jvm.Cond) (a0 : Addr) (a1 : Addr) (k_a0 : ClassId) (x0 : Int32) (k_a1 : ClassId) (y0 : Int32) (y1 : Int32) (h0 : Heap) (n0 : Nat) (Z0 : n0 ≤ h0.size) (V_a0 : Arv Z h0 a0 k_a0 .int (1 : Int32) [(.int x0)] (.int (0 : Int32))) (V_a1 : Arv Z h0 a1 k_a1 .int (2 : Int32) [(.int y0), (.int y1)] (.int (0 : Int32))) (c_x0_y0 : ¬ (x0 < y0)) (c_x0_y1 : x0 < y1) :
    MetFree l (⟨"com/example/strict_anon/strictanon/service/RecordSets", "union", "([I[I)[I"⟩ : MethodName) (head1 (Jvm.Cond.code (⟨"com/example/strict_anon/strictanon/service/RecordSets", "union", "([I[I)[I"⟩ : MethodName) prog_30_method_2_code 5 (some (.array .int)) :: ws) ({ frames := 0, cells := 1, slots := 3, locals := 0 } : Room)) (fun a U => a = #[(.ref a0), (.ref a1)] ∧ Z.Warmed39 U.vm ∧ U.heap = h0) (fun _ _ _ _ _ => True) (fun _ U o U' => ∃ v L, o = .returned v ∧ own_Q4_12yxy Z a0 a1 k_a0 x0 k_a1 y0 y1 h0 n0 v U'.heap L ∧ FrameEnd U o U' L ({ frames := 0, cells := 1, slots := 3, locals := 0 } : Room).cells ({ frames := 0, cells := 1, slots := 3, locals := 0 } : Room).slots) := by
  refine MetFree.of_bodySF (plainFor_of_name own_pn1) hisR ?_
  intro p e s m args below meth c s₁ Bd hml0 hP hK
  obtain ⟨rfl, hZ, hh⟩ := hP
  have hx := Bd.exec
  have hby := Bd.bytes
  have hml : c.maxLocals = 5 := hml0
  have hown : s.vm.findClass "com/example/strict_anon/strictanon/service/RecordSets" = some m.cls := findClass_of_methodNamed Bd.named
  have hnm := (name_of_methodNamed Bd.named Bd.method).1
  have X0 : Stand p l e ({ frames := 0, cells := 1, slots := 3, locals := 0 } : Room) s m #[(.ref a0), (.ref a1)] below meth c s₁ [] 0 0 := Stand.of_body Bd
  have e0 : s₁.heap = h0 := by rw [← hh, Bd.state]; rfl
  have N0 := Fr.nil n0
  have pre0 : ∀ t, Steps p.tables e below (s₁.setTop (mkF m 0 #[oa a0, oa a1, .unset, .unset, .unset] [])) t → Steps p.tables e below (s₁.setTop (entryFrame m #[(.ref a0), (.ref a1)] 5)) t := fun t k => castTop (own_ef4_12yxy m a0 a1) k
  obtain ⟨T1, h1, k1, X1, e1, E1, A1, st1⟩ := newP X0 hx hZ (hw _ (List.mem_of_getElem? (i := 8) rfl)) e0 (g := (mkF m 5 #[oa a0, oa a1, .unset, .unset, .unset] [(.int (3 : Int32))])) rfl (hb hby own_d4_5) rfl (by decide) (cap := 3) (by decide) (by decide) (by decide) (by decide)
  obtain ⟨b1, g1⟩ : ∃ z, z = h0.size := ⟨_, rfl⟩
  rw [← g1] at A1 st1
  have g_b1 : n0 ≤ b1 := Nat.le_trans Z0 (Nat.le_of_eq g1.symm)
  have ne2 : a0 ≠ b1 := Nat.ne_of_lt (Nat.lt_of_lt_of_le V_a0.lt (Nat.le_of_eq g1.symm))
  have ne3 : a1 ≠ b1 := Nat.ne_of_lt (Nat.lt_of_lt_of_le V_a1.lt (Nat.le_of_eq g1.symm))
  have Z1 : n0 ≤ h1.size := Nat.le_trans Z0 E1.1
  have sz_b1 : h0.size ≤ b1 := Nat.le_trans (Keep.refl h0 []).1 (Nat.le_of_eq g1.symm)
  have K_4 : Keep h0 h1 [] := (Keep.refl h0 []).ext E1
  have F5 := V_a0.ext E1
  have F6 := V_a1.ext E1
  have V_7 : Arv Z h1 b1 k1 .int (3 : Int32) [(.int (0 : Int32)), (.int (0 : Int32)), (.int (0 : Int32))] (.int (0 : Int32)) := (Arv.new A1 (by decide)).pad (pad_rep [] (.int (0 : Int32)) 3)
  have b8 : (0 : Int32) < (1 : Int32) := (by decide)
  have b9 : ¬ ((0 : Int32) = (2 : Int32)) := (by decide)
  have b10 : (0 : Int32) < (1 : Int32) := (by decide)
  have b11 : ¬ (x0 < y0) := c_x0_y0
  obtain ⟨T12, h12, X12, e12, W12, V12, st12⟩ := oStI X1 hx hZ e1 V_7 (j := (0 : Int32)) ⟨by decide, by decide⟩ 0 rfl (Nat.le_of_ble_eq_true rfl) (g := (mkF m 73 #[oa a0, oa a1, oa b1, oi (0 : Int32), oi (0 : Int32)] [(.int y0), (.int (0 : Int32)), (.ref b1)])) rfl rfl (hb hby own_d4_73)
  obtain ⟨Lo12, X12, N12⟩ := oOpq X12 (Fr.snoc X12 N0 g_b1)
  have Z12 := Nat.le_trans Z1 (Keep.of_wr W12).1
  have F13 := F5.other W12 ne2
  have F14 := F6.other W12 ne3
  have V_15 : Arv Z h12 b1 k1 .int (3 : Int32) [(.int y0), (.int (0 : Int32)), (.int (0 : Int32))] (.int (0 : Int32)) := V12
  have K_16 : Keep h0 h12 [] := K_4.wr W12 (Or.inr sz_b1)
  have b17 : (0 : Int32) < (1 : Int32) := (by decide)
  have b18 : ¬ ((1 : Int32) = (2 : Int32)) := (by decide)
  have b19 : (0 : Int32) < (1 : Int32) := (by decide)
  have b20 : x0 < y1 := c_x0_y1
  obtain ⟨T21, h21, X21, e21, W21, V21, st21⟩ := oStI X12 hx hZ e12 V_15 (j := (1 : Int32)) ⟨by decide, by decide⟩ 1 rfl (Nat.le_of_ble_eq_true rfl) (g := (mkF m 57 #[oa a0, oa a1, oa b1, oi (0 : Int32), oi (1 : Int32)] [(.int x0), (.int (1 : Int32)), (.ref b1)])) rfl rfl (hb hby own_d4_57)
  obtain ⟨Lo21, X21, N21⟩ := oOpq X21 (Fr.snoc X21 N12 g_b1)
  have Z21 := Nat.le_trans Z12 (Keep.of_wr W21).1
  have F22 := F13.other W21 ne2
  have F23 := F14.other W21 ne3
  have V_24 : Arv Z h21 b1 k1 .int (3 : Int32) [(.int y0), (.int x0), (.int (0 : Int32))] (.int (0 : Int32)) := V21
  have K_25 : Keep h0 h21 [] := K_16.wr W21 (Or.inr sz_b1)
  have b26 : ¬ ((1 : Int32) < (1 : Int32)) := (by decide)
  have b27 : (1 : Int32) < (2 : Int32) := (by decide)
  have b28 : ¬ ((1 : Int32) = (2 : Int32)) := (by decide)
  have b29 : ¬ ((1 : Int32) < (1 : Int32)) := (by decide)
  obtain ⟨T30, h30, X30, e30, W30, V30, st30⟩ := oStI X21 hx hZ e21 V_24 (j := (2 : Int32)) ⟨by decide, by decide⟩ 2 rfl (Nat.le_of_ble_eq_true rfl) (g := (mkF m 73 #[oa a0, oa a1, oa b1, oi (1 : Int32), oi (1 : Int32)] [(.int y1), (.int (2 : Int32)), (.ref b1)])) rfl rfl (hb hby own_d4_73)
  obtain ⟨Lo30, X30, N30⟩ := oOpq X30 (Fr.snoc X30 N21 g_b1)
  have Z30 := Nat.le_trans Z21 (Keep.of_wr W30).1
  have F31 := F22.other W30 ne2
  have F32 := F23.other W30 ne3
  have V_33 : Arv Z h30 b1 k1 .int (3 : Int32) [(.int y0), (.int x0), (.int y1)] (.int (0 : Int32)) := V30
  have K_34 : Keep h0 h30 [] := K_25.wr W30 (Or.inr sz_b1)
  have b35 : ¬ ((1 : Int32) < (1 : Int32)) := (by decide)
  have b36 : ¬ ((2 : Int32) < (2 : Int32)) := (by decide)
  obtain ⟨fs, hr, hrun, hended, hW, hsame⟩ := X30.leave (v := (some (.ref b1))) (fun h => by rw [Bd.returns] at h; cases h)
  refine ⟨_, _, pre0 _ ?_, hrun, hended, _, _, rfl, ?_, ⟨_, rfl⟩, hW, hsame.mono (by decide) (by decide)⟩
  · show oS p e below s₁ m 0 #[oa a0, oa a1, .unset, .unset, .unset] [] _
    refine XS.aloadN X0.here hx rfl (hb hby own_d4_0) rfl rfl ?_
    show oS p e below s₁ m 1 #[oa a0, oa a1, .unset, .unset, .unset] [(.ref a0)] _
    refine oLen X0 hx hZ e0 V_a0 (hb hby own_d4_1) ?_
    refine XS.aloadN X0.here hx rfl (hb hby own_d4_2) rfl rfl ?_
    show oS p e below s₁ m 3 #[oa a0, oa a1, .unset, .unset, .unset] [(.ref a1), (.int (1 : Int32))] _
    refine oLen X0 hx hZ e0 V_a1 (hb hby own_d4_3) ?_
    refine XS.iadd X0.here hx rfl (hb hby own_d4_4) rfl ?_
    show oS p e below s₁ m 5 #[oa a0, oa a1, .unset, .unset, .unset] [(.int (3 : Int32))] _
    refine st1 _ ?_
    show oS p e below T1 m 7 #[oa a0, oa a1, .unset, .unset, .unset] [(.ref b1)] _
    refine XS.astoreN X1.here hx rfl (hb hby own_d4_7) rfl rfl (l' := #[oa a0, oa a1, oa b1, .unset, .unset]) rfl ?_
    refine XS.iconst X1.here hx rfl (hb hby own_d4_8) ?_
    refine XS.istoreN X1.here hx rfl (hb hby own_d4_9) rfl (l' := #[oa a0, oa a1, oa b1, oi (0 : Int32), .unset]) rfl ?_
    refine XS.iconst X1.here hx rfl (hb hby own_d4_10) ?_
    show oS p e below T1 m 11 #[oa a0, oa a1, oa b1, oi (0 : Int32), .unset] [(.int (0 : Int32))] _
    refine XS.istore X1.here hx rfl (hb hby own_d4_11) rfl (l' := #[oa a0, oa a1, oa b1, oi (0 : Int32), oi (0 : Int32)]) rfl ?_
    refine XS.iloadN X1.here hx rfl (hb hby own_d4_13) rfl ?_
    refine XS.aloadN X1.here hx rfl (hb hby own_d4_14) rfl rfl ?_
    show oS p e below T1 m 15 #[oa a0, oa a1, oa b1, oi (0 : Int32), oi (0 : Int32)] [(.ref a0), (.int (0 : Int32))] _
    refine oLen X1 hx hZ e1 F5 (hb hby own_d4_15) ?_
    show oS p e below T1 m 16 #[oa a0, oa a1, oa b1, oi (0 : Int32), oi (0 : Int32)] [(.int (1 : Int32)), (.int (0 : Int32))] _
    refine XS.icmpYes X1.here hx rfl (pc0 := 16) (pc' := 26) rfl (hb hby own_d4_16) rfl (tlt b8).1 (by decide) (by decide) ?_
    refine XS.iload X1.here hx rfl (hb hby own_d4_26) rfl ?_
    refine XS.aloadN X1.here hx rfl (hb hby own_d4_28) rfl rfl ?_
    show oS p e below T1 m 29 #[oa a0, oa a1, oa b1, oi (0 : Int32), oi (0 : Int32)] [(.ref a1), (.int (0 : Int32))] _
    refine oLen X1 hx hZ e1 F6 (hb hby own_d4_29) ?_
    show oS p e below T1 m 30 #[oa a0, oa a1, oa b1, oi (0 : Int32), oi (0 : Int32)] [(.int (2 : Int32)), (.int (0 : Int32))] _
    refine XS.icmpNo X1.here hx rfl (hb hby own_d4_30) rfl (feq b9).1 ?_
    refine XS.iloadN X1.here hx rfl (hb hby own_d4_33) rfl ?_
    refine XS.aloadN X1.here hx rfl (hb hby own_d4_34) rfl rfl ?_
    show oS p e below T1 m 35 #[oa a0, oa a1, oa b1, oi (0 : Int32), oi (0 : Int32)] [(.ref a0), (.int (0 : Int32))] _
    refine oLen X1 hx hZ e1 F5 (hb hby own_d4_35) ?_
    show oS p e below T1 m 36 #[oa a0, oa a1, oa b1, oi (0 : Int32), oi (0 : Int32)] [(.int (1 : Int32)), (.int (0 : Int32))] _
    refine XS.icmpNo X1.here hx rfl (hb hby own_d4_36) rfl (tlt b10).2.1 ?_
    refine XS.aloadN X1.here hx rfl (hb hby own_d4_39) rfl rfl ?_
    refine XS.iloadN X1.here hx rfl (hb hby own_d4_40) rfl ?_
    show oS p e below T1 m 41 #[oa a0, oa a1, oa b1, oi (0 : Int32), oi (0 : Int32)] [(.int (0 : Int32)), (.ref a0)] _
    refine oLdI X1 hx hZ e1 F5 (v := (.int x0)) ⟨by decide, by decide⟩ rfl (hb hby own_d4_41) ?_
    refine XS.aloadN X1.here hx rfl (hb hby own_d4_42) rfl rfl ?_
    refine XS.iload X1.here hx rfl (hb hby own_d4_43) rfl ?_
    show oS p e below T1 m 45 #[oa a0, oa a1, oa b1, oi (0 : Int32), oi (0 : Int32)] [(.int (0 : Int32)), (.ref a1), (.int x0)] _
    refine oLdI X1 hx hZ e1 F6 (v := (.int y0)) ⟨by decide, by decide⟩ rfl (hb hby own_d4_45) ?_
    show oS p e below T1 m 46 #[oa a0, oa a1, oa b1, oi (0 : Int32), oi (0 : Int32)] [(.int y0), (.int x0)] _
    refine XS.icmpYes X1.here hx rfl (pc0 := 46) (pc' := 64) rfl (hb hby own_d4_46) rfl (flt b11).2.1 (by decide) (by decide) ?_
    refine XS.aloadN X1.here hx rfl (hb hby own_d4_64) rfl rfl ?_
    refine XS.iloadN X1.here hx rfl (hb hby own_d4_65) rfl ?_
    refine XS.iload X1.here hx rfl (hb hby own_d4_66) rfl ?_
    show oS p e below T1 m 68 #[oa a0, oa a1, oa b1, oi (0 : Int32), oi (0 : Int32)] [(.int (0 : Int32)), (.int (0 : Int32)), (.ref b1)] _
    refine XS.iadd X1.here hx rfl (hb hby own_d4_68) rfl ?_
    refine XS.aloadN X1.here hx rfl (hb hby own_d4_69) rfl rfl ?_
    refine XS.iload X1.here hx rfl (hb hby own_d4_70) rfl ?_
    show oS p e below T1 m 72 #[oa a0, oa a1, oa b1, oi (0 : Int32), oi (0 : Int32)] [(.int (0 : Int32)), (.ref a1), (.int (0 : Int32)), (.ref b1)] _
    refine oLdI X1 hx hZ e1 F6 (v := (.int y0)) ⟨by decide, by decide⟩ rfl (hb hby own_d4_72) ?_
    show oS p e below T1 m 73 #[oa a0, oa a1, oa b1, oi (0 : Int32), oi (0 : Int32)] [(.int y0), (.int (0 : Int32)), (.ref b1)] _
    refine st12 _ ?_
    show oS p e below T12 m 74 #[oa a0, oa a1, oa b1, oi (0 : Int32), oi (0 : Int32)] [] _
    refine XS.iinc X12.here hx rfl (hb hby own_d4_74) rfl (l' := #[oa a0, oa a1, oa b1, oi (0 : Int32), oi (1 : Int32)]) rfl ?_
    refine XS.goto X12.here hx rfl (pc0 := 77) (pc' := 13) rfl (hb hby own_d4_77) (by decide) (by decide) ?_
    refine XS.iloadN X12.here hx rfl (hb hby own_d4_13) rfl ?_
    refine XS.aloadN X12.here hx rfl (hb hby own_d4_14) rfl rfl ?_
    show oS p e below T12 m 15 #[oa a0, oa a1, oa b1, oi (0 : Int32), oi (1 : Int32)] [(.ref a0), (.int (0 : Int32))] _
    refine oLen X12 hx hZ e12 F13 (hb hby own_d4_15) ?_
    show oS p e below T12 m 16 #[oa a0, oa a1, oa b1, oi (0 : Int32), oi (1 : Int32)] [(.int (1 : Int32)), (.int (0 : Int32))] _
    refine XS.icmpYes X12.here hx rfl (pc0 := 16) (pc' := 26) rfl (hb hby own_d4_16) rfl (tlt b17).1 (by decide) (by decide) ?_
    refine XS.iload X12.here hx rfl (hb hby own_d4_26) rfl ?_
    refine XS.aloadN X12.here hx rfl (hb hby own_d4_28) rfl rfl ?_
    show oS p e below T12 m 29 #[oa a0, oa a1, oa b1, oi (0 : Int32), oi (1 : Int32)] [(.ref a1), (.int (1 : Int32))] _
    refine oLen X12 hx hZ e12 F14 (hb hby own_d4_29) ?_
    show oS p e below T12 m 30 #[oa a0, oa a1, oa b1, oi (0 : Int32), oi (1 : Int32)] [(.int (2 : Int32)), (.int (1 : Int32))] _
    refine XS.icmpNo X12.here hx rfl (hb hby own_d4_30) rfl (feq b18).1 ?_
    refine XS.iloadN X12.here hx rfl (hb hby own_d4_33) rfl ?_
    refine XS.aloadN X12.here hx rfl (hb hby own_d4_34) rfl rfl ?_
    show oS p e below T12 m 35 #[oa a0, oa a1, oa b1, oi (0 : Int32), oi (1 : Int32)] [(.ref a0), (.int (0 : Int32))] _
    refine oLen X12 hx hZ e12 F13 (hb hby own_d4_35) ?_
    show oS p e below T12 m 36 #[oa a0, oa a1, oa b1, oi (0 : Int32), oi (1 : Int32)] [(.int (1 : Int32)), (.int (0 : Int32))] _
    refine XS.icmpNo X12.here hx rfl (hb hby own_d4_36) rfl (tlt b19).2.1 ?_
    refine XS.aloadN X12.here hx rfl (hb hby own_d4_39) rfl rfl ?_
    refine XS.iloadN X12.here hx rfl (hb hby own_d4_40) rfl ?_
    show oS p e below T12 m 41 #[oa a0, oa a1, oa b1, oi (0 : Int32), oi (1 : Int32)] [(.int (0 : Int32)), (.ref a0)] _
    refine oLdI X12 hx hZ e12 F13 (v := (.int x0)) ⟨by decide, by decide⟩ rfl (hb hby own_d4_41) ?_
    refine XS.aloadN X12.here hx rfl (hb hby own_d4_42) rfl rfl ?_
    refine XS.iload X12.here hx rfl (hb hby own_d4_43) rfl ?_
    show oS p e below T12 m 45 #[oa a0, oa a1, oa b1, oi (0 : Int32), oi (1 : Int32)] [(.int (1 : Int32)), (.ref a1), (.int x0)] _
    refine oLdI X12 hx hZ e12 F14 (v := (.int y1)) ⟨by decide, by decide⟩ rfl (hb hby own_d4_45) ?_
    show oS p e below T12 m 46 #[oa a0, oa a1, oa b1, oi (0 : Int32), oi (1 : Int32)] [(.int y1), (.int x0)] _
    refine XS.icmpNo X12.here hx rfl (hb hby own_d4_46) rfl (tlt b20).2.1 ?_
    refine XS.aloadN X12.here hx rfl (hb hby own_d4_49) rfl rfl ?_
    refine XS.iloadN X12.here hx rfl (hb hby own_d4_50) rfl ?_
    refine XS.iload X12.here hx rfl (hb hby own_d4_51) rfl ?_
    show oS p e below T12 m 53 #[oa a0, oa a1, oa b1, oi (0 : Int32), oi (1 : Int32)] [(.int (1 : Int32)), (.int (0 : Int32)), (.ref b1)] _
    refine XS.iadd X12.here hx rfl (hb hby own_d4_53) rfl ?_
    refine XS.aloadN X12.here hx rfl (hb hby own_d4_54) rfl rfl ?_
    refine XS.iloadN X12.here hx rfl (hb hby own_d4_55) rfl ?_
    show oS p e below T12 m 56 #[oa a0, oa a1, oa b1, oi (0 : Int32), oi (1 : Int32)] [(.int (0 : Int32)), (.ref a0), (.int (1 : Int32)), (.ref b1)] _
    refine oLdI X12 hx hZ e12 F13 (v := (.int x0)) ⟨by decide, by decide⟩ rfl (hb hby own_d4_56) ?_
    show oS p e below T12 m 57 #[oa a0, oa a1, oa b1, oi (0 : Int32), oi (1 : Int32)] [(.int x0), (.int (1 : Int32)), (.ref b1)] _
    refine st21 _ ?_
    show oS p e below T21 m 58 #[oa a0, oa a1, oa b1, oi (0 : Int32), oi (1 : Int32)] [] _
    refine XS.iinc X21.here hx rfl (hb hby own_d4_58) rfl (l' := #[oa a0, oa a1, oa b1, oi (1 : Int32), oi (1 : Int32)]) rfl ?_
    refine XS.goto X21.here hx rfl (pc0 := 61) (pc' := 13) rfl (hb hby own_d4_61) (by decide) (by decide) ?_
    refine XS.iloadN X21.here hx rfl (hb hby own_d4_13) rfl ?_
    refine XS.aloadN X21.here hx rfl (hb hby own_d4_14) rfl rfl ?_
    show oS p e below T21 m 15 #[oa a0, oa a1, oa b1, oi (1 : Int32), oi (1 : Int32)] [(.ref a0), (.int (1 : Int32))] _
    refine oLen X21 hx hZ e21 F22 (hb hby own_d4_15) ?_
    show oS p e below T21 m 16 #[oa a0, oa a1, oa b1, oi (1 : Int32), oi (1 : Int32)] [(.int (1 : Int32)), (.int (1 : Int32))] _
    refine XS.icmpNo X21.here hx rfl (hb hby own_d4_16) rfl (flt b26).1 ?_
    refine XS.iload X21.here hx rfl (hb hby own_d4_19) rfl ?_
    refine XS.aloadN X21.here hx rfl (hb hby own_d4_21) rfl rfl ?_
    show oS p e below T21 m 22 #[oa a0, oa a1, oa b1, oi (1 : Int32), oi (1 : Int32)] [(.ref a1), (.int (1 : Int32))] _
    refine oLen X21 hx hZ e21 F23 (hb hby own_d4_22) ?_
    show oS p e below T21 m 23 #[oa a0, oa a1, oa b1, oi (1 : Int32), oi (1 : Int32)] [(.int (2 : Int32)), (.int (1 : Int32))] _
    refine XS.icmpNo X21.here hx rfl (hb hby own_d4_23) rfl (tlt b27).2.1 ?_
    refine XS.iload X21.here hx rfl (hb hby own_d4_26) rfl ?_
    refine XS.aloadN X21.here hx rfl (hb hby own_d4_28) rfl rfl ?_
    show oS p e below T21 m 29 #[oa a0, oa a1, oa b1, oi (1 : Int32), oi (1 : Int32)] [(.ref a1), (.int (1 : Int32))] _
    refine oLen X21 hx hZ e21 F23 (hb hby own_d4_29) ?_
    show oS p e below T21 m 30 #[oa a0, oa a1, oa b1, oi (1 : Int32), oi (1 : Int32)] [(.int (2 : Int32)), (.int (1 : Int32))] _
    refine XS.icmpNo X21.here hx rfl (hb hby own_d4_30) rfl (feq b28).1 ?_
    refine XS.iloadN X21.here hx rfl (hb hby own_d4_33) rfl ?_
    refine XS.aloadN X21.here hx rfl (hb hby own_d4_34) rfl rfl ?_
    show oS p e below T21 m 35 #[oa a0, oa a1, oa b1, oi (1 : Int32), oi (1 : Int32)] [(.ref a0), (.int (1 : Int32))] _
    refine oLen X21 hx hZ e21 F22 (hb hby own_d4_35) ?_
    show oS p e below T21 m 36 #[oa a0, oa a1, oa b1, oi (1 : Int32), oi (1 : Int32)] [(.int (1 : Int32)), (.int (1 : Int32))] _
    refine XS.icmpYes X21.here hx rfl (pc0 := 36) (pc' := 64) rfl (hb hby own_d4_36) rfl (flt b29).2.1 (by decide) (by decide) ?_
    refine XS.aloadN X21.here hx rfl (hb hby own_d4_64) rfl rfl ?_
    refine XS.iloadN X21.here hx rfl (hb hby own_d4_65) rfl ?_
    refine XS.iload X21.here hx rfl (hb hby own_d4_66) rfl ?_
    show oS p e below T21 m 68 #[oa a0, oa a1, oa b1, oi (1 : Int32), oi (1 : Int32)] [(.int (1 : Int32)), (.int (1 : Int32)), (.ref b1)] _
    refine XS.iadd X21.here hx rfl (hb hby own_d4_68) rfl ?_
    refine XS.aloadN X21.here hx rfl (hb hby own_d4_69) rfl rfl ?_
    refine XS.iload X21.here hx rfl (hb hby own_d4_70) rfl ?_
    show oS p e below T21 m 72 #[oa a0, oa a1, oa b1, oi (1 : Int32), oi (1 : Int32)] [(.int (1 : Int32)), (.ref a1), (.int (2 : Int32)), (.ref b1)] _
    refine oLdI X21 hx hZ e21 F23 (v := (.int y1)) ⟨by decide, by decide⟩ rfl (hb hby own_d4_72) ?_
    show oS p e below T21 m 73 #[oa a0, oa a1, oa b1, oi (1 : Int32), oi (1 : Int32)] [(.int y1), (.int (2 : Int32)), (.ref b1)] _
    refine st30 _ ?_
    show oS p e below T30 m 74 #[oa a0, oa a1, oa b1, oi (1 : Int32), oi (1 : Int32)] [] _
    refine XS.iinc X30.here hx rfl (hb hby own_d4_74) rfl (l' := #[oa a0, oa a1, oa b1, oi (1 : Int32), oi (2 : Int32)]) rfl ?_
    refine XS.goto X30.here hx rfl (pc0 := 77) (pc' := 13) rfl (hb hby own_d4_77) (by decide) (by decide) ?_
    refine XS.iloadN X30.here hx rfl (hb hby own_d4_13) rfl ?_
    refine XS.aloadN X30.here hx rfl (hb hby own_d4_14) rfl rfl ?_
    show oS p e below T30 m 15 #[oa a0, oa a1, oa b1, oi (1 : Int32), oi (2 : Int32)] [(.ref a0), (.int (1 : Int32))] _
    refine oLen X30 hx hZ e30 F31 (hb hby own_d4_15) ?_
    show oS p e below T30 m 16 #[oa a0, oa a1, oa b1, oi (1 : Int32), oi (2 : Int32)] [(.int (1 : Int32)), (.int (1 : Int32))] _
    refine XS.icmpNo X30.here hx rfl (hb hby own_d4_16) rfl (flt b35).1 ?_
    refine XS.iload X30.here hx rfl (hb hby own_d4_19) rfl ?_
    refine XS.aloadN X30.here hx rfl (hb hby own_d4_21) rfl rfl ?_
    show oS p e below T30 m 22 #[oa a0, oa a1, oa b1, oi (1 : Int32), oi (2 : Int32)] [(.ref a1), (.int (2 : Int32))] _
    refine oLen X30 hx hZ e30 F32 (hb hby own_d4_22) ?_
    show oS p e below T30 m 23 #[oa a0, oa a1, oa b1, oi (1 : Int32), oi (2 : Int32)] [(.int (2 : Int32)), (.int (2 : Int32))] _
    refine XS.icmpYes X30.here hx rfl (pc0 := 23) (pc' := 80) rfl (hb hby own_d4_23) rfl (flt b36).2.1 (by decide) (by decide) ?_
    refine XS.aloadN X30.here hx rfl (hb hby own_d4_80) rfl rfl ?_
    show oS p e below T30 m 81 #[oa a0, oa a1, oa b1, oi (1 : Int32), oi (2 : Int32)] [(.ref b1)] _
    exact retOut X30 hx Bd.returns rfl (Or.inr (Or.inr (Or.inr (Or.inr ⟨rfl, rfl, rfl⟩)))) (hb hby own_d4_81) hr
  · show own_Q4_12yxy Z a0 a1 k_a0 x0 k_a1 y0 y1 h0 n0 _ T30.heap _
    rw [e30]
    exact ⟨b1, k1, rfl, N30, K_34, sz_b1, V_33⟩
theorem own_ef4_12yyx (m : MethodId) (a0 : Addr) (a1 : Addr) : entryFrame m #[(.ref a0), (.ref a1)] 5 = mkF m 0 #[oa a0, oa a1, .unset, .unset, .unset] [] := by first | (simp [entryFrame, mkF, argsToLocals, Value.category]; done) | rfl
def own_Q4_12yyx (Z : State) (a0 : Addr) (a1 : Addr) (k_a0 : ClassId) (x0 : Int32) (k_a1 : ClassId) (y0 : Int32) (y1 : Int32) (h0 : Heap) (n0 : Nat) (v : Option Value) (h : Heap) (L : List Loc) : Prop := ∃ (u : Addr) (k_u : ClassId), v = some (.ref u) ∧ Fr n0 L ∧ Keep h0 h [] ∧ h0.size ≤ u ∧ Arv Z h u k_u .int (3 : Int32) [(.int y0), (.int y1), (.int x0)] (.int (0 : Int32))
set_option maxRecDepth 65536 in
set_option maxHeartbeats 40000000 in
theorem own_rm4_12yyx (l : Launch) (Z : State) (av : Array Value) (hw : ∀ d ∈ tables_1, d.before av Z = true) (ws : List Jvm.Cond) (a0 : Addr) (a1 : Addr) (k_a0 : ClassId) (x0 : Int32) (k_a1 : ClassId) (y0 : Int32) (y1 : Int32) (h0 : Heap) (n0 : Nat) (Z0 : n0 ≤ h0.size) (V_a0 : Arv Z h0 a0 k_a0 .int (1 : Int32) [(.int x0)] (.int (0 : Int32))) (V_a1 : Arv Z h0 a1 k_a1 .int (2 : Int32) [(.int y0), (.int y1)] (.int (0 : Int32))) (c_x0_y0 : ¬ (x0 < y0)) (c_x0_y1 : ¬ (x0 < y1)) :
    MetFree l (⟨"com/example/strict_anon/strictanon/service/RecordSets", "union", "([I[I)[I"⟩ : MethodName) (head1 (Jvm.Cond.code (⟨"com/example/strict_anon/strictanon/service/RecordSets", "union", "([I[I)[I"⟩ : MethodName) prog_30_method_2_code 5 (some (.array .int)) :: ws) ({ frames := 0, cells := 1, slots := 3, locals := 0 } : Room)) (fun a U => a = #[(.ref a0), (.ref a1)] ∧ Z.Warmed39 U.vm ∧ U.heap = h0) (fun _ _ _ _ _ => True) (fun _ U o U' => ∃ v L, o = .returned v ∧ own_Q4_12yyx Z a0 a1 k_a0 x0 k_a1 y0 y1 h0 n0 v U'.heap L ∧ FrameEnd U o U' L ({ frames := 0, cells := 1, slots := 3, locals := 0 } : Room).cells ({ frames := 0, cells := 1, slots := 3, locals := 0 } : Room).slots) := by
  refine MetFree.of_bodySF (plainFor_of_name own_pn1) hisR ?_
  intro p e s m args below meth c s₁ Bd hml0 hP hK
  obtain ⟨rfl, hZ, hh⟩ := hP
  have hx := Bd.exec
  have hby := Bd.bytes
  have hml : c.maxLocals = 5 := hml0
  have hown : s.vm.findClass "com/example/strict_anon/strictanon/service/RecordSets" = some m.cls := findClass_of_methodNamed Bd.named
  have hnm := (name_of_methodNamed Bd.named Bd.method).1
  have X0 : Stand p l e ({ frames := 0, cells := 1, slots := 3, locals := 0 } : Room) s m #[(.ref a0), (.ref a1)] below meth c s₁ [] 0 0 := Stand.of_body Bd
  have e0 : s₁.heap = h0 := by rw [← hh, Bd.state]; rfl
  have N0 := Fr.nil n0
  have pre0 : ∀ t, Steps p.tables e below (s₁.setTop (mkF m 0 #[oa a0, oa a1, .unset, .unset, .unset] [])) t → Steps p.tables e below (s₁.setTop (entryFrame m #[(.ref a0), (.ref a1)] 5)) t := fun t k => castTop (own_ef4_12yyx m a0 a1) k
  obtain ⟨T1, h1, k1, X1, e1, E1, A1, st1⟩ := newP X0 hx hZ (hw _ (List.mem_of_getElem? (i := 8) rfl)) e0 (g := (mkF m 5 #[oa a0, oa a1, .unset, .unset, .unset] [(.int (3 : Int32))])) rfl (hb hby own_d4_5) rfl (by decide) (cap := 3) (by decide) (by decide) (by decide) (by decide)
  obtain ⟨b1, g1⟩ : ∃ z, z = h0.size := ⟨_, rfl⟩
  rw [← g1] at A1 st1
  have g_b1 : n0 ≤ b1 := Nat.le_trans Z0 (Nat.le_of_eq g1.symm)
  have ne2 : a0 ≠ b1 := Nat.ne_of_lt (Nat.lt_of_lt_of_le V_a0.lt (Nat.le_of_eq g1.symm))
  have ne3 : a1 ≠ b1 := Nat.ne_of_lt (Nat.lt_of_lt_of_le V_a1.lt (Nat.le_of_eq g1.symm))
  have Z1 : n0 ≤ h1.size := Nat.le_trans Z0 E1.1
  have sz_b1 : h0.size ≤ b1 := Nat.le_trans (Keep.refl h0 []).1 (Nat.le_of_eq g1.symm)
  have K_4 : Keep h0 h1 [] := (Keep.refl h0 []).ext E1
  have F5 := V_a0.ext E1
  have F6 := V_a1.ext E1
  have V_7 : Arv Z h1 b1 k1 .int (3 : Int32) [(.int (0 : Int32)), (.int (0 : Int32)), (.int (0 : Int32))] (.int (0 : Int32)) := (Arv.new A1 (by decide)).pad (pad_rep [] (.int (0 : Int32)) 3)
  have b8 : (0 : Int32) < (1 : Int32) := (by decide)
  have b9 : ¬ ((0 : Int32) = (2 : Int32)) := (by decide)
  have b10 : (0 : Int32) < (1 : Int32) := (by decide)
  have b11 : ¬ (x0 < y0) := c_x0_y0
  obtain ⟨T12, h12, X12, e12, W12, V12, st12⟩ := oStI X1 hx hZ e1 V_7 (j := (0 : Int32)) ⟨by decide, by decide⟩ 0 rfl (Nat.le_of_ble_eq_true rfl) (g := (mkF m 73 #[oa a0, oa a1, oa b1, oi (0 : Int32), oi (0 : Int32)] [(.int y0), (.int (0 : Int32)), (.ref b1)])) rfl rfl (hb hby own_d4_73)
  obtain ⟨Lo12, X12, N12⟩ := oOpq X12 (Fr.snoc X12 N0 g_b1)
  have Z12 := Nat.le_trans Z1 (Keep.of_wr W12).1
  have F13 := F5.other W12 ne2
  have F14 := F6.other W12 ne3
  have V_15 : Arv Z h12 b1 k1 .int (3 : Int32) [(.int y0), (.int (0 : Int32)), (.int (0 : Int32))] (.int (0 : Int32)) := V12
  have K_16 : Keep h0 h12 [] := K_4.wr W12 (Or.inr sz_b1)
  have b17 : (0 : Int32) < (1 : Int32) := (by decide)
  have b18 : ¬ ((1 : Int32) = (2 : Int32)) := (by decide)
  have b19 : (0 : Int32) < (1 : Int32) := (by decide)
  have b20 : ¬ (x0 < y1) := c_x0_y1
  obtain ⟨T21, h21, X21, e21, W21, V21, st21⟩ := oStI X12 hx hZ e12 V_15 (j := (1 : Int32)) ⟨by decide, by decide⟩ 1 rfl (Nat.le_of_ble_eq_true rfl) (g := (mkF m 73 #[oa a0, oa a1, oa b1, oi (0 : Int32), oi (1 : Int32)] [(.int y1), (.int (1 : Int32)), (.ref b1)])) rfl rfl (hb hby own_d4_73)
  obtain ⟨Lo21, X21, N21⟩ := oOpq X21 (Fr.snoc X21 N12 g_b1)
  have Z21 := Nat.le_trans Z12 (Keep.of_wr W21).1
  have F22 := F13.other W21 ne2
  have F23 := F14.other W21 ne3
  have V_24 : Arv Z h21 b1 k1 .int (3 : Int32) [(.int y0), (.int y1), (.int (0 : Int32))] (.int (0 : Int32)) := V21
  have K_25 : Keep h0 h21 [] := K_16.wr W21 (Or.inr sz_b1)
  have b26 : (0 : Int32) < (1 : Int32) := (by decide)
  have b27 : (2 : Int32) = (2 : Int32) := (by decide)
  obtain ⟨T28, h28, X28, e28, W28, V28, st28⟩ := oStI X21 hx hZ e21 V_24 (j := (2 : Int32)) ⟨by decide, by decide⟩ 2 rfl (Nat.le_of_ble_eq_true rfl) (g := (mkF m 57 #[oa a0, oa a1, oa b1, oi (0 : Int32), oi (2 : Int32)] [(.int x0), (.int (2 : Int32)), (.ref b1)])) rfl rfl (hb hby own_d4_57)
  obtain ⟨Lo28, X28, N28⟩ := oOpq X28 (Fr.snoc X28 N21 g_b1)
  have Z28 := Nat.le_trans Z21 (Keep.of_wr W28).1
  have F29 := F22.other W28 ne2
  have F30 := F23.other W28 ne3
  have V_31 : Arv Z h28 b1 k1 .int (3 : Int32) [(.int y0), (.int y1), (.int x0)] (.int (0 : Int32)) := V28
  have K_32 : Keep h0 h28 [] := K_25.wr W28 (Or.inr sz_b1)
  have b33 : ¬ ((1 : Int32) < (1 : Int32)) := (by decide)
  have b34 : ¬ ((2 : Int32) < (2 : Int32)) := (by decide)
  obtain ⟨fs, hr, hrun, hended, hW, hsame⟩ := X28.leave (v := (some (.ref b1))) (fun h => by rw [Bd.returns] at h; cases h)
  refine ⟨_, _, pre0 _ ?_, hrun, hended, _, _, rfl, ?_, ⟨_, rfl⟩, hW, hsame.mono (by decide) (by decide)⟩
  · show oS p e below s₁ m 0 #[oa a0, oa a1, .unset, .unset, .unset] [] _
    refine XS.aloadN X0.here hx rfl (hb hby own_d4_0) rfl rfl ?_
    show oS p e below s₁ m 1 #[oa a0, oa a1, .unset, .unset, .unset] [(.ref a0)] _
    refine oLen X0 hx hZ e0 V_a0 (hb hby own_d4_1) ?_
    refine XS.aloadN X0.here hx rfl (hb hby own_d4_2) rfl rfl ?_
    show oS p e below s₁ m 3 #[oa a0, oa a1, .unset, .unset, .unset] [(.ref a1), (.int (1 : Int32))] _
    refine oLen X0 hx hZ e0 V_a1 (hb hby own_d4_3) ?_
    refine XS.iadd X0.here hx rfl (hb hby own_d4_4) rfl ?_
    show oS p e below s₁ m 5 #[oa a0, oa a1, .unset, .unset, .unset] [(.int (3 : Int32))] _
    refine st1 _ ?_
    show oS p e below T1 m 7 #[oa a0, oa a1, .unset, .unset, .unset] [(.ref b1)] _
    refine XS.astoreN X1.here hx rfl (hb hby own_d4_7) rfl rfl (l' := #[oa a0, oa a1, oa b1, .unset, .unset]) rfl ?_
    refine XS.iconst X1.here hx rfl (hb hby own_d4_8) ?_
    refine XS.istoreN X1.here hx rfl (hb hby own_d4_9) rfl (l' := #[oa a0, oa a1, oa b1, oi (0 : Int32), .unset]) rfl ?_
    refine XS.iconst X1.here hx rfl (hb hby own_d4_10) ?_
    show oS p e below T1 m 11 #[oa a0, oa a1, oa b1, oi (0 : Int32), .unset] [(.int (0 : Int32))] _
    refine XS.istore X1.here hx rfl (hb hby own_d4_11) rfl (l' := #[oa a0, oa a1, oa b1, oi (0 : Int32), oi (0 : Int32)]) rfl ?_
    refine XS.iloadN X1.here hx rfl (hb hby own_d4_13) rfl ?_
    refine XS.aloadN X1.here hx rfl (hb hby own_d4_14) rfl rfl ?_
    show oS p e below T1 m 15 #[oa a0, oa a1, oa b1, oi (0 : Int32), oi (0 : Int32)] [(.ref a0), (.int (0 : Int32))] _
    refine oLen X1 hx hZ e1 F5 (hb hby own_d4_15) ?_
    show oS p e below T1 m 16 #[oa a0, oa a1, oa b1, oi (0 : Int32), oi (0 : Int32)] [(.int (1 : Int32)), (.int (0 : Int32))] _
    refine XS.icmpYes X1.here hx rfl (pc0 := 16) (pc' := 26) rfl (hb hby own_d4_16) rfl (tlt b8).1 (by decide) (by decide) ?_
    refine XS.iload X1.here hx rfl (hb hby own_d4_26) rfl ?_
    refine XS.aloadN X1.here hx rfl (hb hby own_d4_28) rfl rfl ?_
    show oS p e below T1 m 29 #[oa a0, oa a1, oa b1, oi (0 : Int32), oi (0 : Int32)] [(.ref a1), (.int (0 : Int32))] _
    refine oLen X1 hx hZ e1 F6 (hb hby own_d4_29) ?_
    show oS p e below T1 m 30 #[oa a0, oa a1, oa b1, oi (0 : Int32), oi (0 : Int32)] [(.int (2 : Int32)), (.int (0 : Int32))] _
    refine XS.icmpNo X1.here hx rfl (hb hby own_d4_30) rfl (feq b9).1 ?_
    refine XS.iloadN X1.here hx rfl (hb hby own_d4_33) rfl ?_
    refine XS.aloadN X1.here hx rfl (hb hby own_d4_34) rfl rfl ?_
    show oS p e below T1 m 35 #[oa a0, oa a1, oa b1, oi (0 : Int32), oi (0 : Int32)] [(.ref a0), (.int (0 : Int32))] _
    refine oLen X1 hx hZ e1 F5 (hb hby own_d4_35) ?_
    show oS p e below T1 m 36 #[oa a0, oa a1, oa b1, oi (0 : Int32), oi (0 : Int32)] [(.int (1 : Int32)), (.int (0 : Int32))] _
    refine XS.icmpNo X1.here hx rfl (hb hby own_d4_36) rfl (tlt b10).2.1 ?_
    refine XS.aloadN X1.here hx rfl (hb hby own_d4_39) rfl rfl ?_
    refine XS.iloadN X1.here hx rfl (hb hby own_d4_40) rfl ?_
    show oS p e below T1 m 41 #[oa a0, oa a1, oa b1, oi (0 : Int32), oi (0 : Int32)] [(.int (0 : Int32)), (.ref a0)] _
    refine oLdI X1 hx hZ e1 F5 (v := (.int x0)) ⟨by decide, by decide⟩ rfl (hb hby own_d4_41) ?_
    refine XS.aloadN X1.here hx rfl (hb hby own_d4_42) rfl rfl ?_
    refine XS.iload X1.here hx rfl (hb hby own_d4_43) rfl ?_
    show oS p e below T1 m 45 #[oa a0, oa a1, oa b1, oi (0 : Int32), oi (0 : Int32)] [(.int (0 : Int32)), (.ref a1), (.int x0)] _
    refine oLdI X1 hx hZ e1 F6 (v := (.int y0)) ⟨by decide, by decide⟩ rfl (hb hby own_d4_45) ?_
    show oS p e below T1 m 46 #[oa a0, oa a1, oa b1, oi (0 : Int32), oi (0 : Int32)] [(.int y0), (.int x0)] _
    refine XS.icmpYes X1.here hx rfl (pc0 := 46) (pc' := 64) rfl (hb hby own_d4_46) rfl (flt b11).2.1 (by decide) (by decide) ?_
    refine XS.aloadN X1.here hx rfl (hb hby own_d4_64) rfl rfl ?_
    refine XS.iloadN X1.here hx rfl (hb hby own_d4_65) rfl ?_
    refine XS.iload X1.here hx rfl (hb hby own_d4_66) rfl ?_
    show oS p e below T1 m 68 #[oa a0, oa a1, oa b1, oi (0 : Int32), oi (0 : Int32)] [(.int (0 : Int32)), (.int (0 : Int32)), (.ref b1)] _
    refine XS.iadd X1.here hx rfl (hb hby own_d4_68) rfl ?_
    refine XS.aloadN X1.here hx rfl (hb hby own_d4_69) rfl rfl ?_
    refine XS.iload X1.here hx rfl (hb hby own_d4_70) rfl ?_
    show oS p e below T1 m 72 #[oa a0, oa a1, oa b1, oi (0 : Int32), oi (0 : Int32)] [(.int (0 : Int32)), (.ref a1), (.int (0 : Int32)), (.ref b1)] _
    refine oLdI X1 hx hZ e1 F6 (v := (.int y0)) ⟨by decide, by decide⟩ rfl (hb hby own_d4_72) ?_
    show oS p e below T1 m 73 #[oa a0, oa a1, oa b1, oi (0 : Int32), oi (0 : Int32)] [(.int y0), (.int (0 : Int32)), (.ref b1)] _
    refine st12 _ ?_
    show oS p e below T12 m 74 #[oa a0, oa a1, oa b1, oi (0 : Int32), oi (0 : Int32)] [] _
    refine XS.iinc X12.here hx rfl (hb hby own_d4_74) rfl (l' := #[oa a0, oa a1, oa b1, oi (0 : Int32), oi (1 : Int32)]) rfl ?_
    refine XS.goto X12.here hx rfl (pc0 := 77) (pc' := 13) rfl (hb hby own_d4_77) (by decide) (by decide) ?_
    refine XS.iloadN X12.here hx rfl (hb hby own_d4_13) rfl ?_
    refine XS.aloadN X12.here hx rfl (hb hby own_d4_14) rfl rfl ?_
    show oS p e below T12 m 15 #[oa a0, oa a1, oa b1, oi (0 : Int32), oi (1 : Int32)] [(.ref a0), (.int (0 : Int32))] _
    refine oLen X12 hx hZ e12 F13 (hb hby own_d4_15) ?_
    show oS p e below T12 m 16 #[oa a0, oa a1, oa b1, oi (0 : Int32), oi (1 : Int32)] [(.int (1 : Int32)), (.int (0 : Int32))] _
    refine XS.icmpYes X12.here hx rfl (pc0 := 16) (pc' := 26) rfl (hb hby own_d4_16) rfl (tlt b17).1 (by decide) (by decide) ?_
    refine XS.iload X12.here hx rfl (hb hby own_d4_26) rfl ?_
    refine XS.aloadN X12.here hx rfl (hb hby own_d4_28) rfl rfl ?_
    show oS p e below T12 m 29 #[oa a0, oa a1, oa b1, oi (0 : Int32), oi (1 : Int32)] [(.ref a1), (.int (1 : Int32))] _
    refine oLen X12 hx hZ e12 F14 (hb hby own_d4_29) ?_
    show oS p e below T12 m 30 #[oa a0, oa a1, oa b1, oi (0 : Int32), oi (1 : Int32)] [(.int (2 : Int32)), (.int (1 : Int32))] _
    refine XS.icmpNo X12.here hx rfl (hb hby own_d4_30) rfl (feq b18).1 ?_
    refine XS.iloadN X12.here hx rfl (hb hby own_d4_33) rfl ?_
    refine XS.aloadN X12.here hx rfl (hb hby own_d4_34) rfl rfl ?_
    show oS p e below T12 m 35 #[oa a0, oa a1, oa b1, oi (0 : Int32), oi (1 : Int32)] [(.ref a0), (.int (0 : Int32))] _
    refine oLen X12 hx hZ e12 F13 (hb hby own_d4_35) ?_
    show oS p e below T12 m 36 #[oa a0, oa a1, oa b1, oi (0 : Int32), oi (1 : Int32)] [(.int (1 : Int32)), (.int (0 : Int32))] _
    refine XS.icmpNo X12.here hx rfl (hb hby own_d4_36) rfl (tlt b19).2.1 ?_
    refine XS.aloadN X12.here hx rfl (hb hby own_d4_39) rfl rfl ?_
    refine XS.iloadN X12.here hx rfl (hb hby own_d4_40) rfl ?_
    show oS p e below T12 m 41 #[oa a0, oa a1, oa b1, oi (0 : Int32), oi (1 : Int32)] [(.int (0 : Int32)), (.ref a0)] _
    refine oLdI X12 hx hZ e12 F13 (v := (.int x0)) ⟨by decide, by decide⟩ rfl (hb hby own_d4_41) ?_
    refine XS.aloadN X12.here hx rfl (hb hby own_d4_42) rfl rfl ?_
    refine XS.iload X12.here hx rfl (hb hby own_d4_43) rfl ?_
    show oS p e below T12 m 45 #[oa a0, oa a1, oa b1, oi (0 : Int32), oi (1 : Int32)] [(.int (1 : Int32)), (.ref a1), (.int x0)] _
    refine oLdI X12 hx hZ e12 F14 (v := (.int y1)) ⟨by decide, by decide⟩ rfl (hb hby own_d4_45) ?_
    show oS p e below T12 m 46 #[oa a0, oa a1, oa b1, oi (0 : Int32), oi (1 : Int32)] [(.int y1), (.int x0)] _
    refine XS.icmpYes X12.here hx rfl (pc0 := 46) (pc' := 64) rfl (hb hby own_d4_46) rfl (flt b20).2.1 (by decide) (by decide) ?_
    refine XS.aloadN X12.here hx rfl (hb hby own_d4_64) rfl rfl ?_
    refine XS.iloadN X12.here hx rfl (hb hby own_d4_65) rfl ?_
    refine XS.iload X12.here hx rfl (hb hby own_d4_66) rfl ?_
    show oS p e below T12 m 68 #[oa a0, oa a1, oa b1, oi (0 : Int32), oi (1 : Int32)] [(.int (1 : Int32)), (.int (0 : Int32)), (.ref b1)] _
    refine XS.iadd X12.here hx rfl (hb hby own_d4_68) rfl ?_
    refine XS.aloadN X12.here hx rfl (hb hby own_d4_69) rfl rfl ?_
    refine XS.iload X12.here hx rfl (hb hby own_d4_70) rfl ?_
    show oS p e below T12 m 72 #[oa a0, oa a1, oa b1, oi (0 : Int32), oi (1 : Int32)] [(.int (1 : Int32)), (.ref a1), (.int (1 : Int32)), (.ref b1)] _
    refine oLdI X12 hx hZ e12 F14 (v := (.int y1)) ⟨by decide, by decide⟩ rfl (hb hby own_d4_72) ?_
    show oS p e below T12 m 73 #[oa a0, oa a1, oa b1, oi (0 : Int32), oi (1 : Int32)] [(.int y1), (.int (1 : Int32)), (.ref b1)] _
    refine st21 _ ?_
    show oS p e below T21 m 74 #[oa a0, oa a1, oa b1, oi (0 : Int32), oi (1 : Int32)] [] _
    refine XS.iinc X21.here hx rfl (hb hby own_d4_74) rfl (l' := #[oa a0, oa a1, oa b1, oi (0 : Int32), oi (2 : Int32)]) rfl ?_
    refine XS.goto X21.here hx rfl (pc0 := 77) (pc' := 13) rfl (hb hby own_d4_77) (by decide) (by decide) ?_
    refine XS.iloadN X21.here hx rfl (hb hby own_d4_13) rfl ?_
    refine XS.aloadN X21.here hx rfl (hb hby own_d4_14) rfl rfl ?_
    show oS p e below T21 m 15 #[oa a0, oa a1, oa b1, oi (0 : Int32), oi (2 : Int32)] [(.ref a0), (.int (0 : Int32))] _
    refine oLen X21 hx hZ e21 F22 (hb hby own_d4_15) ?_
    show oS p e below T21 m 16 #[oa a0, oa a1, oa b1, oi (0 : Int32), oi (2 : Int32)] [(.int (1 : Int32)), (.int (0 : Int32))] _
    refine XS.icmpYes X21.here hx rfl (pc0 := 16) (pc' := 26) rfl (hb hby own_d4_16) rfl (tlt b26).1 (by decide) (by decide) ?_
    refine XS.iload X21.here hx rfl (hb hby own_d4_26) rfl ?_
    refine XS.aloadN X21.here hx rfl (hb hby own_d4_28) rfl rfl ?_
    show oS p e below T21 m 29 #[oa a0, oa a1, oa b1, oi (0 : Int32), oi (2 : Int32)] [(.ref a1), (.int (2 : Int32))] _
    refine oLen X21 hx hZ e21 F23 (hb hby own_d4_29) ?_
    show oS p e below T21 m 30 #[oa a0, oa a1, oa b1, oi (0 : Int32), oi (2 : Int32)] [(.int (2 : Int32)), (.int (2 : Int32))] _
    refine XS.icmpYes X21.here hx rfl (pc0 := 30) (pc' := 49) rfl (hb hby own_d4_30) rfl (teq b27).1 (by decide) (by decide) ?_
    refine XS.aloadN X21.here hx rfl (hb hby own_d4_49) rfl rfl ?_
    refine XS.iloadN X21.here hx rfl (hb hby own_d4_50) rfl ?_
    refine XS.iload X21.here hx rfl (hb hby own_d4_51) rfl ?_
    show oS p e below T21 m 53 #[oa a0, oa a1, oa b1, oi (0 : Int32), oi (2 : Int32)] [(.int (2 : Int32)), (.int (0 : Int32)), (.ref b1)] _
    refine XS.iadd X21.here hx rfl (hb hby own_d4_53) rfl ?_
    refine XS.aloadN X21.here hx rfl (hb hby own_d4_54) rfl rfl ?_
    refine XS.iloadN X21.here hx rfl (hb hby own_d4_55) rfl ?_
    show oS p e below T21 m 56 #[oa a0, oa a1, oa b1, oi (0 : Int32), oi (2 : Int32)] [(.int (0 : Int32)), (.ref a0), (.int (2 : Int32)), (.ref b1)] _
    refine oLdI X21 hx hZ e21 F22 (v := (.int x0)) ⟨by decide, by decide⟩ rfl (hb hby own_d4_56) ?_
    show oS p e below T21 m 57 #[oa a0, oa a1, oa b1, oi (0 : Int32), oi (2 : Int32)] [(.int x0), (.int (2 : Int32)), (.ref b1)] _
    refine st28 _ ?_
    show oS p e below T28 m 58 #[oa a0, oa a1, oa b1, oi (0 : Int32), oi (2 : Int32)] [] _
    refine XS.iinc X28.here hx rfl (hb hby own_d4_58) rfl (l' := #[oa a0, oa a1, oa b1, oi (1 : Int32), oi (2 : Int32)]) rfl ?_
    refine XS.goto X28.here hx rfl (pc0 := 61) (pc' := 13) rfl (hb hby own_d4_61) (by decide) (by decide) ?_
    refine XS.iloadN X28.here hx rfl (hb hby own_d4_13) rfl ?_
    refine XS.aloadN X28.here hx rfl (hb hby own_d4_14) rfl rfl ?_
    show oS p e below T28 m 15 #[oa a0, oa a1, oa b1, oi (1 : Int32), oi (2 : Int32)] [(.ref a0), (.int (1 : Int32))] _
    refine oLen X28 hx hZ e28 F29 (hb hby own_d4_15) ?_
    show oS p e below T28 m 16 #[oa a0, oa a1, oa b1, oi (1 : Int32), oi (2 : Int32)] [(.int (1 : Int32)), (.int (1 : Int32))] _
    refine XS.icmpNo X28.here hx rfl (hb hby own_d4_16) rfl (flt b33).1 ?_
    refine XS.iload X28.here hx rfl (hb hby own_d4_19) rfl ?_
    refine XS.aloadN X28.here hx rfl (hb hby own_d4_21) rfl rfl ?_
    show oS p e below T28 m 22 #[oa a0, oa a1, oa b1, oi (1 : Int32), oi (2 : Int32)] [(.ref a1), (.int (2 : Int32))] _
    refine oLen X28 hx hZ e28 F30 (hb hby own_d4_22) ?_
    show oS p e below T28 m 23 #[oa a0, oa a1, oa b1, oi (1 : Int32), oi (2 : Int32)] [(.int (2 : Int32)), (.int (2 : Int32))] _
    refine XS.icmpYes X28.here hx rfl (pc0 := 23) (pc' := 80) rfl (hb hby own_d4_23) rfl (flt b34).2.1 (by decide) (by decide) ?_
    refine XS.aloadN X28.here hx rfl (hb hby own_d4_80) rfl rfl ?_
    show oS p e below T28 m 81 #[oa a0, oa a1, oa b1, oi (1 : Int32), oi (2 : Int32)] [(.ref b1)] _
    exact retOut X28 hx Bd.returns rfl (Or.inr (Or.inr (Or.inr (Or.inr ⟨rfl, rfl, rfl⟩)))) (hb hby own_d4_81) hr
  · show own_Q4_12yyx Z a0 a1 k_a0 x0 k_a1 y0 y1 h0 n0 _ T28.heap _
    rw [e28]
    exact ⟨b1, k1, rfl, N28, K_32, sz_b1, V_31⟩
theorem own_ef4_20xx (m : MethodId) (a0 : Addr) (a1 : Addr) : entryFrame m #[(.ref a0), (.ref a1)] 5 = mkF m 0 #[oa a0, oa a1, .unset, .unset, .unset] [] := by first | (simp [entryFrame, mkF, argsToLocals, Value.category]; done) | rfl
def own_Q4_20xx (Z : State) (a0 : Addr) (a1 : Addr) (k_a0 : ClassId) (x0 : Int32) (x1 : Int32) (k_a1 : ClassId) (h0 : Heap) (n0 : Nat) (v : Option Value) (h : Heap) (L : List Loc) : Prop := ∃ (u : Addr) (k_u : ClassId), v = some (.ref u) ∧ Fr n0 L ∧ Keep h0 h [] ∧ h0.size ≤ u ∧ Arv Z h u k_u .int (2 : Int32) [(.int x0), (.int x1)] (.int (0 : Int32))
set_option maxRecDepth 65536 in
set_option maxHeartbeats 40000000 in
theorem own_rm4_20xx (l : Launch) (Z : State) (av : Array Value) (hw : ∀ d ∈ tables_1, d.before av Z = true) (ws : List Jvm.Cond) (a0 : Addr) (a1 : Addr) (k_a0 : ClassId) (x0 : Int32) (x1 : Int32) (k_a1 : ClassId) (h0 : Heap) (n0 : Nat) (Z0 : n0 ≤ h0.size) (V_a0 : Arv Z h0 a0 k_a0 .int (2 : Int32) [(.int x0), (.int x1)] (.int (0 : Int32))) (V_a1 : Arv Z h0 a1 k_a1 .int (0 : Int32) [] (.int (0 : Int32))) :
    MetFree l (⟨"com/example/strict_anon/strictanon/service/RecordSets", "union", "([I[I)[I"⟩ : MethodName) (head1 (Jvm.Cond.code (⟨"com/example/strict_anon/strictanon/service/RecordSets", "union", "([I[I)[I"⟩ : MethodName) prog_30_method_2_code 5 (some (.array .int)) :: ws) ({ frames := 0, cells := 1, slots := 2, locals := 0 } : Room)) (fun a U => a = #[(.ref a0), (.ref a1)] ∧ Z.Warmed39 U.vm ∧ U.heap = h0) (fun _ _ _ _ _ => True) (fun _ U o U' => ∃ v L, o = .returned v ∧ own_Q4_20xx Z a0 a1 k_a0 x0 x1 k_a1 h0 n0 v U'.heap L ∧ FrameEnd U o U' L ({ frames := 0, cells := 1, slots := 2, locals := 0 } : Room).cells ({ frames := 0, cells := 1, slots := 2, locals := 0 } : Room).slots) := by
  refine MetFree.of_bodySF (plainFor_of_name own_pn1) hisR ?_
  intro p e s m args below meth c s₁ Bd hml0 hP hK
  obtain ⟨rfl, hZ, hh⟩ := hP
  have hx := Bd.exec
  have hby := Bd.bytes
  have hml : c.maxLocals = 5 := hml0
  have hown : s.vm.findClass "com/example/strict_anon/strictanon/service/RecordSets" = some m.cls := findClass_of_methodNamed Bd.named
  have hnm := (name_of_methodNamed Bd.named Bd.method).1
  have X0 : Stand p l e ({ frames := 0, cells := 1, slots := 2, locals := 0 } : Room) s m #[(.ref a0), (.ref a1)] below meth c s₁ [] 0 0 := Stand.of_body Bd
  have e0 : s₁.heap = h0 := by rw [← hh, Bd.state]; rfl
  have N0 := Fr.nil n0
  have pre0 : ∀ t, Steps p.tables e below (s₁.setTop (mkF m 0 #[oa a0, oa a1, .unset, .unset, .unset] [])) t → Steps p.tables e below (s₁.setTop (entryFrame m #[(.ref a0), (.ref a1)] 5)) t := fun t k => castTop (own_ef4_20xx m a0 a1) k
  obtain ⟨T1, h1, k1, X1, e1, E1, A1, st1⟩ := newP X0 hx hZ (hw _ (List.mem_of_getElem? (i := 8) rfl)) e0 (g := (mkF m 5 #[oa a0, oa a1, .unset, .unset, .unset] [(.int (2 : Int32))])) rfl (hb hby own_d4_5) rfl (by decide) (cap := 2) (by decide) (by decide) (by decide) (by decide)
  obtain ⟨b1, g1⟩ : ∃ z, z = h0.size := ⟨_, rfl⟩
  rw [← g1] at A1 st1
  have g_b1 : n0 ≤ b1 := Nat.le_trans Z0 (Nat.le_of_eq g1.symm)
  have ne2 : a0 ≠ b1 := Nat.ne_of_lt (Nat.lt_of_lt_of_le V_a0.lt (Nat.le_of_eq g1.symm))
  have ne3 : a1 ≠ b1 := Nat.ne_of_lt (Nat.lt_of_lt_of_le V_a1.lt (Nat.le_of_eq g1.symm))
  have Z1 : n0 ≤ h1.size := Nat.le_trans Z0 E1.1
  have sz_b1 : h0.size ≤ b1 := Nat.le_trans (Keep.refl h0 []).1 (Nat.le_of_eq g1.symm)
  have K_4 : Keep h0 h1 [] := (Keep.refl h0 []).ext E1
  have F5 := V_a0.ext E1
  have F6 := V_a1.ext E1
  have V_7 : Arv Z h1 b1 k1 .int (2 : Int32) [(.int (0 : Int32)), (.int (0 : Int32))] (.int (0 : Int32)) := (Arv.new A1 (by decide)).pad (pad_rep [] (.int (0 : Int32)) 2)
  have b8 : (0 : Int32) < (2 : Int32) := (by decide)
  have b9 : (0 : Int32) = (0 : Int32) := (by decide)
  obtain ⟨T10, h10, X10, e10, W10, V10, st10⟩ := oStI X1 hx hZ e1 V_7 (j := (0 : Int32)) ⟨by decide, by decide⟩ 0 rfl (Nat.le_of_ble_eq_true rfl) (g := (mkF m 57 #[oa a0, oa a1, oa b1, oi (0 : Int32), oi (0 : Int32)] [(.int x0), (.int (0 : Int32)), (.ref b1)])) rfl rfl (hb hby own_d4_57)
  obtain ⟨Lo10, X10, N10⟩ := oOpq X10 (Fr.snoc X10 N0 g_b1)
  have Z10 := Nat.le_trans Z1 (Keep.of_wr W10).1
  have F11 := F5.other W10 ne2
  have F12 := F6.other W10 ne3
  have V_13 : Arv Z h10 b1 k1 .int (2 : Int32) [(.int x0), (.int (0 : Int32))] (.int (0 : Int32)) := V10
  have K_14 : Keep h0 h10 [] := K_4.wr W10 (Or.inr sz_b1)
  have b15 : (1 : Int32) < (2 : Int32) := (by decide)
  have b16 : (0 : Int32) = (0 : Int32) := (by decide)
  obtain ⟨T17, h17, X17, e17, W17, V17, st17⟩ := oStI X10 hx hZ e10 V_13 (j := (1 : Int32)) ⟨by decide, by decide⟩ 1 rfl (Nat.le_of_ble_eq_true rfl) (g := (mkF m 57 #[oa a0, oa a1, oa b1, oi (1 : Int32), oi (0 : Int32)] [(.int x1), (.int (1 : Int32)), (.ref b1)])) rfl rfl (hb hby own_d4_57)
  obtain ⟨Lo17, X17, N17⟩ := oOpq X17 (Fr.snoc X17 N10 g_b1)
  have Z17 := Nat.le_trans Z10 (Keep.of_wr W17).1
  have F18 := F11.other W17 ne2
  have F19 := F12.other W17 ne3
  have V_20 : Arv Z h17 b1 k1 .int (2 : Int32) [(.int x0), (.int x1)] (.int (0 : Int32)) := V17
  have K_21 : Keep h0 h17 [] := K_14.wr W17 (Or.inr sz_b1)
  have b22 : ¬ ((2 : Int32) < (2 : Int32)) := (by decide)
  have b23 : ¬ ((0 : Int32) < (0 : Int32)) := (by decide)
  obtain ⟨fs, hr, hrun, hended, hW, hsame⟩ := X17.leave (v := (some (.ref b1))) (fun h => by rw [Bd.returns] at h; cases h)
  refine ⟨_, _, pre0 _ ?_, hrun, hended, _, _, rfl, ?_, ⟨_, rfl⟩, hW, hsame.mono (by decide) (by decide)⟩
  · show oS p e below s₁ m 0 #[oa a0, oa a1, .unset, .unset, .unset] [] _
    refine XS.aloadN X0.here hx rfl (hb hby own_d4_0) rfl rfl ?_
    show oS p e below s₁ m 1 #[oa a0, oa a1, .unset, .unset, .unset] [(.ref a0)] _
    refine oLen X0 hx hZ e0 V_a0 (hb hby own_d4_1) ?_
    refine XS.aloadN X0.here hx rfl (hb hby own_d4_2) rfl rfl ?_
    show oS p e below s₁ m 3 #[oa a0, oa a1, .unset, .unset, .unset] [(.ref a1), (.int (2 : Int32))] _
    refine oLen X0 hx hZ e0 V_a1 (hb hby own_d4_3) ?_
    refine XS.iadd X0.here hx rfl (hb hby own_d4_4) rfl ?_
    show oS p e below s₁ m 5 #[oa a0, oa a1, .unset, .unset, .unset] [(.int (2 : Int32))] _
    refine st1 _ ?_
    show oS p e below T1 m 7 #[oa a0, oa a1, .unset, .unset, .unset] [(.ref b1)] _
    refine XS.astoreN X1.here hx rfl (hb hby own_d4_7) rfl rfl (l' := #[oa a0, oa a1, oa b1, .unset, .unset]) rfl ?_
    refine XS.iconst X1.here hx rfl (hb hby own_d4_8) ?_
    refine XS.istoreN X1.here hx rfl (hb hby own_d4_9) rfl (l' := #[oa a0, oa a1, oa b1, oi (0 : Int32), .unset]) rfl ?_
    refine XS.iconst X1.here hx rfl (hb hby own_d4_10) ?_
    show oS p e below T1 m 11 #[oa a0, oa a1, oa b1, oi (0 : Int32), .unset] [(.int (0 : Int32))] _
    refine XS.istore X1.here hx rfl (hb hby own_d4_11) rfl (l' := #[oa a0, oa a1, oa b1, oi (0 : Int32), oi (0 : Int32)]) rfl ?_
    refine XS.iloadN X1.here hx rfl (hb hby own_d4_13) rfl ?_
    refine XS.aloadN X1.here hx rfl (hb hby own_d4_14) rfl rfl ?_
    show oS p e below T1 m 15 #[oa a0, oa a1, oa b1, oi (0 : Int32), oi (0 : Int32)] [(.ref a0), (.int (0 : Int32))] _
    refine oLen X1 hx hZ e1 F5 (hb hby own_d4_15) ?_
    show oS p e below T1 m 16 #[oa a0, oa a1, oa b1, oi (0 : Int32), oi (0 : Int32)] [(.int (2 : Int32)), (.int (0 : Int32))] _
    refine XS.icmpYes X1.here hx rfl (pc0 := 16) (pc' := 26) rfl (hb hby own_d4_16) rfl (tlt b8).1 (by decide) (by decide) ?_
    refine XS.iload X1.here hx rfl (hb hby own_d4_26) rfl ?_
    refine XS.aloadN X1.here hx rfl (hb hby own_d4_28) rfl rfl ?_
    show oS p e below T1 m 29 #[oa a0, oa a1, oa b1, oi (0 : Int32), oi (0 : Int32)] [(.ref a1), (.int (0 : Int32))] _
    refine oLen X1 hx hZ e1 F6 (hb hby own_d4_29) ?_
    show oS p e below T1 m 30 #[oa a0, oa a1, oa b1, oi (0 : Int32), oi (0 : Int32)] [(.int (0 : Int32)), (.int (0 : Int32))] _
    refine XS.icmpYes X1.here hx rfl (pc0 := 30) (pc' := 49) rfl (hb hby own_d4_30) rfl (teq b9).1 (by decide) (by decide) ?_
    refine XS.aloadN X1.here hx rfl (hb hby own_d4_49) rfl rfl ?_
    refine XS.iloadN X1.here hx rfl (hb hby own_d4_50) rfl ?_
    refine XS.iload X1.here hx rfl (hb hby own_d4_51) rfl ?_
    show oS p e below T1 m 53 #[oa a0, oa a1, oa b1, oi (0 : Int32), oi (0 : Int32)] [(.int (0 : Int32)), (.int (0 : Int32)), (.ref b1)] _
    refine XS.iadd X1.here hx rfl (hb hby own_d4_53) rfl ?_
    refine XS.aloadN X1.here hx rfl (hb hby own_d4_54) rfl rfl ?_
    refine XS.iloadN X1.here hx rfl (hb hby own_d4_55) rfl ?_
    show oS p e below T1 m 56 #[oa a0, oa a1, oa b1, oi (0 : Int32), oi (0 : Int32)] [(.int (0 : Int32)), (.ref a0), (.int (0 : Int32)), (.ref b1)] _
    refine oLdI X1 hx hZ e1 F5 (v := (.int x0)) ⟨by decide, by decide⟩ rfl (hb hby own_d4_56) ?_
    show oS p e below T1 m 57 #[oa a0, oa a1, oa b1, oi (0 : Int32), oi (0 : Int32)] [(.int x0), (.int (0 : Int32)), (.ref b1)] _
    refine st10 _ ?_
    show oS p e below T10 m 58 #[oa a0, oa a1, oa b1, oi (0 : Int32), oi (0 : Int32)] [] _
    refine XS.iinc X10.here hx rfl (hb hby own_d4_58) rfl (l' := #[oa a0, oa a1, oa b1, oi (1 : Int32), oi (0 : Int32)]) rfl ?_
    refine XS.goto X10.here hx rfl (pc0 := 61) (pc' := 13) rfl (hb hby own_d4_61) (by decide) (by decide) ?_
    refine XS.iloadN X10.here hx rfl (hb hby own_d4_13) rfl ?_
    refine XS.aloadN X10.here hx rfl (hb hby own_d4_14) rfl rfl ?_
    show oS p e below T10 m 15 #[oa a0, oa a1, oa b1, oi (1 : Int32), oi (0 : Int32)] [(.ref a0), (.int (1 : Int32))] _
    refine oLen X10 hx hZ e10 F11 (hb hby own_d4_15) ?_
    show oS p e below T10 m 16 #[oa a0, oa a1, oa b1, oi (1 : Int32), oi (0 : Int32)] [(.int (2 : Int32)), (.int (1 : Int32))] _
    refine XS.icmpYes X10.here hx rfl (pc0 := 16) (pc' := 26) rfl (hb hby own_d4_16) rfl (tlt b15).1 (by decide) (by decide) ?_
    refine XS.iload X10.here hx rfl (hb hby own_d4_26) rfl ?_
    refine XS.aloadN X10.here hx rfl (hb hby own_d4_28) rfl rfl ?_
    show oS p e below T10 m 29 #[oa a0, oa a1, oa b1, oi (1 : Int32), oi (0 : Int32)] [(.ref a1), (.int (0 : Int32))] _
    refine oLen X10 hx hZ e10 F12 (hb hby own_d4_29) ?_
    show oS p e below T10 m 30 #[oa a0, oa a1, oa b1, oi (1 : Int32), oi (0 : Int32)] [(.int (0 : Int32)), (.int (0 : Int32))] _
    refine XS.icmpYes X10.here hx rfl (pc0 := 30) (pc' := 49) rfl (hb hby own_d4_30) rfl (teq b16).1 (by decide) (by decide) ?_
    refine XS.aloadN X10.here hx rfl (hb hby own_d4_49) rfl rfl ?_
    refine XS.iloadN X10.here hx rfl (hb hby own_d4_50) rfl ?_
    refine XS.iload X10.here hx rfl (hb hby own_d4_51) rfl ?_
    show oS p e below T10 m 53 #[oa a0, oa a1, oa b1, oi (1 : Int32), oi (0 : Int32)] [(.int (0 : Int32)), (.int (1 : Int32)), (.ref b1)] _
    refine XS.iadd X10.here hx rfl (hb hby own_d4_53) rfl ?_
    refine XS.aloadN X10.here hx rfl (hb hby own_d4_54) rfl rfl ?_
    refine XS.iloadN X10.here hx rfl (hb hby own_d4_55) rfl ?_
    show oS p e below T10 m 56 #[oa a0, oa a1, oa b1, oi (1 : Int32), oi (0 : Int32)] [(.int (1 : Int32)), (.ref a0), (.int (1 : Int32)), (.ref b1)] _
    refine oLdI X10 hx hZ e10 F11 (v := (.int x1)) ⟨by decide, by decide⟩ rfl (hb hby own_d4_56) ?_
    show oS p e below T10 m 57 #[oa a0, oa a1, oa b1, oi (1 : Int32), oi (0 : Int32)] [(.int x1), (.int (1 : Int32)), (.ref b1)] _
    refine st17 _ ?_
    show oS p e below T17 m 58 #[oa a0, oa a1, oa b1, oi (1 : Int32), oi (0 : Int32)] [] _
    refine XS.iinc X17.here hx rfl (hb hby own_d4_58) rfl (l' := #[oa a0, oa a1, oa b1, oi (2 : Int32), oi (0 : Int32)]) rfl ?_
    refine XS.goto X17.here hx rfl (pc0 := 61) (pc' := 13) rfl (hb hby own_d4_61) (by decide) (by decide) ?_
    refine XS.iloadN X17.here hx rfl (hb hby own_d4_13) rfl ?_
    refine XS.aloadN X17.here hx rfl (hb hby own_d4_14) rfl rfl ?_
    show oS p e below T17 m 15 #[oa a0, oa a1, oa b1, oi (2 : Int32), oi (0 : Int32)] [(.ref a0), (.int (2 : Int32))] _
    refine oLen X17 hx hZ e17 F18 (hb hby own_d4_15) ?_
    show oS p e below T17 m 16 #[oa a0, oa a1, oa b1, oi (2 : Int32), oi (0 : Int32)] [(.int (2 : Int32)), (.int (2 : Int32))] _
    refine XS.icmpNo X17.here hx rfl (hb hby own_d4_16) rfl (flt b22).1 ?_
    refine XS.iload X17.here hx rfl (hb hby own_d4_19) rfl ?_
    refine XS.aloadN X17.here hx rfl (hb hby own_d4_21) rfl rfl ?_
    show oS p e below T17 m 22 #[oa a0, oa a1, oa b1, oi (2 : Int32), oi (0 : Int32)] [(.ref a1), (.int (0 : Int32))] _
    refine oLen X17 hx hZ e17 F19 (hb hby own_d4_22) ?_
    show oS p e below T17 m 23 #[oa a0, oa a1, oa b1, oi (2 : Int32), oi (0 : Int32)] [(.int (0 : Int32)), (.int (0 : Int32))] _
    refine XS.icmpYes X17.here hx rfl (pc0 := 23) (pc' := 80) rfl (hb hby own_d4_23) rfl (flt b23).2.1 (by decide) (by decide) ?_
    refine XS.aloadN X17.here hx rfl (hb hby own_d4_80) rfl rfl ?_
    show oS p e below T17 m 81 #[oa a0, oa a1, oa b1, oi (2 : Int32), oi (0 : Int32)] [(.ref b1)] _
    exact retOut X17 hx Bd.returns rfl (Or.inr (Or.inr (Or.inr (Or.inr ⟨rfl, rfl, rfl⟩)))) (hb hby own_d4_81) hr
  · show own_Q4_20xx Z a0 a1 k_a0 x0 x1 k_a1 h0 n0 _ T17.heap _
    rw [e17]
    exact ⟨b1, k1, rfl, N17, K_21, sz_b1, V_20⟩
theorem own_ef4_21xxy (m : MethodId) (a0 : Addr) (a1 : Addr) : entryFrame m #[(.ref a0), (.ref a1)] 5 = mkF m 0 #[oa a0, oa a1, .unset, .unset, .unset] [] := by first | (simp [entryFrame, mkF, argsToLocals, Value.category]; done) | rfl
def own_Q4_21xxy (Z : State) (a0 : Addr) (a1 : Addr) (k_a0 : ClassId) (x0 : Int32) (x1 : Int32) (k_a1 : ClassId) (y0 : Int32) (h0 : Heap) (n0 : Nat) (v : Option Value) (h : Heap) (L : List Loc) : Prop := ∃ (u : Addr) (k_u : ClassId), v = some (.ref u) ∧ Fr n0 L ∧ Keep h0 h [] ∧ h0.size ≤ u ∧ Arv Z h u k_u .int (3 : Int32) [(.int x0), (.int x1), (.int y0)] (.int (0 : Int32))
set_option maxRecDepth 65536 in
set_option maxHeartbeats 40000000 in
theorem own_rm4_21xxy (l : Launch) (Z : State) (av : Array Value) (hw : ∀ d ∈ tables_1, d.before av Z = true) (ws : List Jvm.Cond) (a0 : Addr) (a1 : Addr) (k_a0 : ClassId) (x0 : Int32) (x1 : Int32) (k_a1 : ClassId) (y0 : Int32) (h0 : Heap) (n0 : Nat) (Z0 : n0 ≤ h0.size) (V_a0 : Arv Z h0 a0 k_a0 .int (2 : Int32) [(.int x0), (.int x1)] (.int (0 : Int32))) (V_a1 : Arv Z h0 a1 k_a1 .int (1 : Int32) [(.int y0)] (.int (0 : Int32))) (c_x0_y0 : x0 < y0) (c_x1_y0 : x1 < y0) :
    MetFree l (⟨"com/example/strict_anon/strictanon/service/RecordSets", "union", "([I[I)[I"⟩ : MethodName) (head1 (Jvm.Cond.code (⟨"com/example/strict_anon/strictanon/service/RecordSets", "union", "([I[I)[I"⟩ : MethodName) prog_30_method_2_code 5 (some (.array .int)) :: ws) ({ frames := 0, cells := 1, slots := 3, locals := 0 } : Room)) (fun a U => a = #[(.ref a0), (.ref a1)] ∧ Z.Warmed39 U.vm ∧ U.heap = h0) (fun _ _ _ _ _ => True) (fun _ U o U' => ∃ v L, o = .returned v ∧ own_Q4_21xxy Z a0 a1 k_a0 x0 x1 k_a1 y0 h0 n0 v U'.heap L ∧ FrameEnd U o U' L ({ frames := 0, cells := 1, slots := 3, locals := 0 } : Room).cells ({ frames := 0, cells := 1, slots := 3, locals := 0 } : Room).slots) := by
  refine MetFree.of_bodySF (plainFor_of_name own_pn1) hisR ?_
  intro p e s m args below meth c s₁ Bd hml0 hP hK
  obtain ⟨rfl, hZ, hh⟩ := hP
  have hx := Bd.exec
  have hby := Bd.bytes
  have hml : c.maxLocals = 5 := hml0
  have hown : s.vm.findClass "com/example/strict_anon/strictanon/service/RecordSets" = some m.cls := findClass_of_methodNamed Bd.named
  have hnm := (name_of_methodNamed Bd.named Bd.method).1
  have X0 : Stand p l e ({ frames := 0, cells := 1, slots := 3, locals := 0 } : Room) s m #[(.ref a0), (.ref a1)] below meth c s₁ [] 0 0 := Stand.of_body Bd
  have e0 : s₁.heap = h0 := by rw [← hh, Bd.state]; rfl
  have N0 := Fr.nil n0
  have pre0 : ∀ t, Steps p.tables e below (s₁.setTop (mkF m 0 #[oa a0, oa a1, .unset, .unset, .unset] [])) t → Steps p.tables e below (s₁.setTop (entryFrame m #[(.ref a0), (.ref a1)] 5)) t := fun t k => castTop (own_ef4_21xxy m a0 a1) k
  obtain ⟨T1, h1, k1, X1, e1, E1, A1, st1⟩ := newP X0 hx hZ (hw _ (List.mem_of_getElem? (i := 8) rfl)) e0 (g := (mkF m 5 #[oa a0, oa a1, .unset, .unset, .unset] [(.int (3 : Int32))])) rfl (hb hby own_d4_5) rfl (by decide) (cap := 3) (by decide) (by decide) (by decide) (by decide)
  obtain ⟨b1, g1⟩ : ∃ z, z = h0.size := ⟨_, rfl⟩
  rw [← g1] at A1 st1
  have g_b1 : n0 ≤ b1 := Nat.le_trans Z0 (Nat.le_of_eq g1.symm)
  have ne2 : a0 ≠ b1 := Nat.ne_of_lt (Nat.lt_of_lt_of_le V_a0.lt (Nat.le_of_eq g1.symm))
  have ne3 : a1 ≠ b1 := Nat.ne_of_lt (Nat.lt_of_lt_of_le V_a1.lt (Nat.le_of_eq g1.symm))
  have Z1 : n0 ≤ h1.size := Nat.le_trans Z0 E1.1
  have sz_b1 : h0.size ≤ b1 := Nat.le_trans (Keep.refl h0 []).1 (Nat.le_of_eq g1.symm)
  have K_4 : Keep h0 h1 [] := (Keep.refl h0 []).ext E1
  have F5 := V_a0.ext E1
  have F6 := V_a1.ext E1
  have V_7 : Arv Z h1 b1 k1 .int (3 : Int32) [(.int (0 : Int32)), (.int (0 : Int32)), (.int (0 : Int32))] (.int (0 : Int32)) := (Arv.new A1 (by decide)).pad (pad_rep [] (.int (0 : Int32)) 3)
  have b8 : (0 : Int32) < (2 : Int32) := (by decide)
  have b9 : ¬ ((0 : Int32) = (1 : Int32)) := (by decide)
  have b10 : (0 : Int32) < (2 : Int32) := (by decide)
  have b11 : x0 < y0 := c_x0_y0
  obtain ⟨T12, h12, X12, e12, W12, V12, st12⟩ := oStI X1 hx hZ e1 V_7 (j := (0 : Int32)) ⟨by decide, by decide⟩ 0 rfl (Nat.le_of_ble_eq_true rfl) (g := (mkF m 57 #[oa a0, oa a1, oa b1, oi (0 : Int32), oi (0 : Int32)] [(.int x0), (.int (0 : Int32)), (.ref b1)])) rfl rfl (hb hby own_d4_57)
  obtain ⟨Lo12, X12, N12⟩ := oOpq X12 (Fr.snoc X12 N0 g_b1)
  have Z12 := Nat.le_trans Z1 (Keep.of_wr W12).1
  have F13 := F5.other W12 ne2
  have F14 := F6.other W12 ne3
  have V_15 : Arv Z h12 b1 k1 .int (3 : Int32) [(.int x0), (.int (0 : Int32)), (.int (0 : Int32))] (.int (0 : Int32)) := V12
  have K_16 : Keep h0 h12 [] := K_4.wr W12 (Or.inr sz_b1)
  have b17 : (1 : Int32) < (2 : Int32) := (by decide)
  have b18 : ¬ ((0 : Int32) = (1 : Int32)) := (by decide)
  have b19 : (1 : Int32) < (2 : Int32) := (by decide)
  have b20 : x1 < y0 := c_x1_y0
  obtain ⟨T21, h21, X21, e21, W21, V21, st21⟩ := oStI X12 hx hZ e12 V_15 (j := (1 : Int32)) ⟨by decide, by decide⟩ 1 rfl (Nat.le_of_ble_eq_true rfl) (g := (mkF m 57 #[oa a0, oa a1, oa b1, oi (1 : Int32), oi (0 : Int32)] [(.int x1), (.int (1 : Int32)), (.ref b1)])) rfl rfl (hb hby own_d4_57)
  obtain ⟨Lo21, X21, N21⟩ := oOpq X21 (Fr.snoc X21 N12 g_b1)
  have Z21 := Nat.le_trans Z12 (Keep.of_wr W21).1
  have F22 := F13.other W21 ne2
  have F23 := F14.other W21 ne3
  have V_24 : Arv Z h21 b1 k1 .int (3 : Int32) [(.int x0), (.int x1), (.int (0 : Int32))] (.int (0 : Int32)) := V21
  have K_25 : Keep h0 h21 [] := K_16.wr W21 (Or.inr sz_b1)
  have b26 : ¬ ((2 : Int32) < (2 : Int32)) := (by decide)
  have b27 : (0 : Int32) < (1 : Int32) := (by decide)
  have b28 : ¬ ((0 : Int32) = (1 : Int32)) := (by decide)
  have b29 : ¬ ((2 : Int32) < (2 : Int32)) := (by decide)
  obtain ⟨T30, h30, X30, e30, W30, V30, st30⟩ := oStI X21 hx hZ e21 V_24 (j := (2 : Int32)) ⟨by decide, by decide⟩ 2 rfl (Nat.le_of_ble_eq_true rfl) (g := (mkF m 73 #[oa a0, oa a1, oa b1, oi (2 : Int32), oi (0 : Int32)] [(.int y0), (.int (2 : Int32)), (.ref b1)])) rfl rfl (hb hby own_d4_73)
  obtain ⟨Lo30, X30, N30⟩ := oOpq X30 (Fr.snoc X30 N21 g_b1)
  have Z30 := Nat.le_trans Z21 (Keep.of_wr W30).1
  have F31 := F22.other W30 ne2
  have F32 := F23.other W30 ne3
  have V_33 : Arv Z h30 b1 k1 .int (3 : Int32) [(.int x0), (.int x1), (.int y0)] (.int (0 : Int32)) := V30
  have K_34 : Keep h0 h30 [] := K_25.wr W30 (Or.inr sz_b1)
  have b35 : ¬ ((2 : Int32) < (2 : Int32)) := (by decide)
  have b36 : ¬ ((1 : Int32) < (1 : Int32)) := (by decide)
  obtain ⟨fs, hr, hrun, hended, hW, hsame⟩ := X30.leave (v := (some (.ref b1))) (fun h => by rw [Bd.returns] at h; cases h)
  refine ⟨_, _, pre0 _ ?_, hrun, hended, _, _, rfl, ?_, ⟨_, rfl⟩, hW, hsame.mono (by decide) (by decide)⟩
  · show oS p e below s₁ m 0 #[oa a0, oa a1, .unset, .unset, .unset] [] _
    refine XS.aloadN X0.here hx rfl (hb hby own_d4_0) rfl rfl ?_
    show oS p e below s₁ m 1 #[oa a0, oa a1, .unset, .unset, .unset] [(.ref a0)] _
    refine oLen X0 hx hZ e0 V_a0 (hb hby own_d4_1) ?_
    refine XS.aloadN X0.here hx rfl (hb hby own_d4_2) rfl rfl ?_
    show oS p e below s₁ m 3 #[oa a0, oa a1, .unset, .unset, .unset] [(.ref a1), (.int (2 : Int32))] _
    refine oLen X0 hx hZ e0 V_a1 (hb hby own_d4_3) ?_
    refine XS.iadd X0.here hx rfl (hb hby own_d4_4) rfl ?_
    show oS p e below s₁ m 5 #[oa a0, oa a1, .unset, .unset, .unset] [(.int (3 : Int32))] _
    refine st1 _ ?_
    show oS p e below T1 m 7 #[oa a0, oa a1, .unset, .unset, .unset] [(.ref b1)] _
    refine XS.astoreN X1.here hx rfl (hb hby own_d4_7) rfl rfl (l' := #[oa a0, oa a1, oa b1, .unset, .unset]) rfl ?_
    refine XS.iconst X1.here hx rfl (hb hby own_d4_8) ?_
    refine XS.istoreN X1.here hx rfl (hb hby own_d4_9) rfl (l' := #[oa a0, oa a1, oa b1, oi (0 : Int32), .unset]) rfl ?_
    refine XS.iconst X1.here hx rfl (hb hby own_d4_10) ?_
    show oS p e below T1 m 11 #[oa a0, oa a1, oa b1, oi (0 : Int32), .unset] [(.int (0 : Int32))] _
    refine XS.istore X1.here hx rfl (hb hby own_d4_11) rfl (l' := #[oa a0, oa a1, oa b1, oi (0 : Int32), oi (0 : Int32)]) rfl ?_
    refine XS.iloadN X1.here hx rfl (hb hby own_d4_13) rfl ?_
    refine XS.aloadN X1.here hx rfl (hb hby own_d4_14) rfl rfl ?_
    show oS p e below T1 m 15 #[oa a0, oa a1, oa b1, oi (0 : Int32), oi (0 : Int32)] [(.ref a0), (.int (0 : Int32))] _
    refine oLen X1 hx hZ e1 F5 (hb hby own_d4_15) ?_
    show oS p e below T1 m 16 #[oa a0, oa a1, oa b1, oi (0 : Int32), oi (0 : Int32)] [(.int (2 : Int32)), (.int (0 : Int32))] _
    refine XS.icmpYes X1.here hx rfl (pc0 := 16) (pc' := 26) rfl (hb hby own_d4_16) rfl (tlt b8).1 (by decide) (by decide) ?_
    refine XS.iload X1.here hx rfl (hb hby own_d4_26) rfl ?_
    refine XS.aloadN X1.here hx rfl (hb hby own_d4_28) rfl rfl ?_
    show oS p e below T1 m 29 #[oa a0, oa a1, oa b1, oi (0 : Int32), oi (0 : Int32)] [(.ref a1), (.int (0 : Int32))] _
    refine oLen X1 hx hZ e1 F6 (hb hby own_d4_29) ?_
    show oS p e below T1 m 30 #[oa a0, oa a1, oa b1, oi (0 : Int32), oi (0 : Int32)] [(.int (1 : Int32)), (.int (0 : Int32))] _
    refine XS.icmpNo X1.here hx rfl (hb hby own_d4_30) rfl (feq b9).1 ?_
    refine XS.iloadN X1.here hx rfl (hb hby own_d4_33) rfl ?_
    refine XS.aloadN X1.here hx rfl (hb hby own_d4_34) rfl rfl ?_
    show oS p e below T1 m 35 #[oa a0, oa a1, oa b1, oi (0 : Int32), oi (0 : Int32)] [(.ref a0), (.int (0 : Int32))] _
    refine oLen X1 hx hZ e1 F5 (hb hby own_d4_35) ?_
    show oS p e below T1 m 36 #[oa a0, oa a1, oa b1, oi (0 : Int32), oi (0 : Int32)] [(.int (2 : Int32)), (.int (0 : Int32))] _
    refine XS.icmpNo X1.here hx rfl (hb hby own_d4_36) rfl (tlt b10).2.1 ?_
    refine XS.aloadN X1.here hx rfl (hb hby own_d4_39) rfl rfl ?_
    refine XS.iloadN X1.here hx rfl (hb hby own_d4_40) rfl ?_
    show oS p e below T1 m 41 #[oa a0, oa a1, oa b1, oi (0 : Int32), oi (0 : Int32)] [(.int (0 : Int32)), (.ref a0)] _
    refine oLdI X1 hx hZ e1 F5 (v := (.int x0)) ⟨by decide, by decide⟩ rfl (hb hby own_d4_41) ?_
    refine XS.aloadN X1.here hx rfl (hb hby own_d4_42) rfl rfl ?_
    refine XS.iload X1.here hx rfl (hb hby own_d4_43) rfl ?_
    show oS p e below T1 m 45 #[oa a0, oa a1, oa b1, oi (0 : Int32), oi (0 : Int32)] [(.int (0 : Int32)), (.ref a1), (.int x0)] _
    refine oLdI X1 hx hZ e1 F6 (v := (.int y0)) ⟨by decide, by decide⟩ rfl (hb hby own_d4_45) ?_
    show oS p e below T1 m 46 #[oa a0, oa a1, oa b1, oi (0 : Int32), oi (0 : Int32)] [(.int y0), (.int x0)] _
    refine XS.icmpNo X1.here hx rfl (hb hby own_d4_46) rfl (tlt b11).2.1 ?_
    refine XS.aloadN X1.here hx rfl (hb hby own_d4_49) rfl rfl ?_
    refine XS.iloadN X1.here hx rfl (hb hby own_d4_50) rfl ?_
    refine XS.iload X1.here hx rfl (hb hby own_d4_51) rfl ?_
    show oS p e below T1 m 53 #[oa a0, oa a1, oa b1, oi (0 : Int32), oi (0 : Int32)] [(.int (0 : Int32)), (.int (0 : Int32)), (.ref b1)] _
    refine XS.iadd X1.here hx rfl (hb hby own_d4_53) rfl ?_
    refine XS.aloadN X1.here hx rfl (hb hby own_d4_54) rfl rfl ?_
    refine XS.iloadN X1.here hx rfl (hb hby own_d4_55) rfl ?_
    show oS p e below T1 m 56 #[oa a0, oa a1, oa b1, oi (0 : Int32), oi (0 : Int32)] [(.int (0 : Int32)), (.ref a0), (.int (0 : Int32)), (.ref b1)] _
    refine oLdI X1 hx hZ e1 F5 (v := (.int x0)) ⟨by decide, by decide⟩ rfl (hb hby own_d4_56) ?_
    show oS p e below T1 m 57 #[oa a0, oa a1, oa b1, oi (0 : Int32), oi (0 : Int32)] [(.int x0), (.int (0 : Int32)), (.ref b1)] _
    refine st12 _ ?_
    show oS p e below T12 m 58 #[oa a0, oa a1, oa b1, oi (0 : Int32), oi (0 : Int32)] [] _
    refine XS.iinc X12.here hx rfl (hb hby own_d4_58) rfl (l' := #[oa a0, oa a1, oa b1, oi (1 : Int32), oi (0 : Int32)]) rfl ?_
    refine XS.goto X12.here hx rfl (pc0 := 61) (pc' := 13) rfl (hb hby own_d4_61) (by decide) (by decide) ?_
    refine XS.iloadN X12.here hx rfl (hb hby own_d4_13) rfl ?_
    refine XS.aloadN X12.here hx rfl (hb hby own_d4_14) rfl rfl ?_
    show oS p e below T12 m 15 #[oa a0, oa a1, oa b1, oi (1 : Int32), oi (0 : Int32)] [(.ref a0), (.int (1 : Int32))] _
    refine oLen X12 hx hZ e12 F13 (hb hby own_d4_15) ?_
    show oS p e below T12 m 16 #[oa a0, oa a1, oa b1, oi (1 : Int32), oi (0 : Int32)] [(.int (2 : Int32)), (.int (1 : Int32))] _
    refine XS.icmpYes X12.here hx rfl (pc0 := 16) (pc' := 26) rfl (hb hby own_d4_16) rfl (tlt b17).1 (by decide) (by decide) ?_
    refine XS.iload X12.here hx rfl (hb hby own_d4_26) rfl ?_
    refine XS.aloadN X12.here hx rfl (hb hby own_d4_28) rfl rfl ?_
    show oS p e below T12 m 29 #[oa a0, oa a1, oa b1, oi (1 : Int32), oi (0 : Int32)] [(.ref a1), (.int (0 : Int32))] _
    refine oLen X12 hx hZ e12 F14 (hb hby own_d4_29) ?_
    show oS p e below T12 m 30 #[oa a0, oa a1, oa b1, oi (1 : Int32), oi (0 : Int32)] [(.int (1 : Int32)), (.int (0 : Int32))] _
    refine XS.icmpNo X12.here hx rfl (hb hby own_d4_30) rfl (feq b18).1 ?_
    refine XS.iloadN X12.here hx rfl (hb hby own_d4_33) rfl ?_
    refine XS.aloadN X12.here hx rfl (hb hby own_d4_34) rfl rfl ?_
    show oS p e below T12 m 35 #[oa a0, oa a1, oa b1, oi (1 : Int32), oi (0 : Int32)] [(.ref a0), (.int (1 : Int32))] _
    refine oLen X12 hx hZ e12 F13 (hb hby own_d4_35) ?_
    show oS p e below T12 m 36 #[oa a0, oa a1, oa b1, oi (1 : Int32), oi (0 : Int32)] [(.int (2 : Int32)), (.int (1 : Int32))] _
    refine XS.icmpNo X12.here hx rfl (hb hby own_d4_36) rfl (tlt b19).2.1 ?_
    refine XS.aloadN X12.here hx rfl (hb hby own_d4_39) rfl rfl ?_
    refine XS.iloadN X12.here hx rfl (hb hby own_d4_40) rfl ?_
    show oS p e below T12 m 41 #[oa a0, oa a1, oa b1, oi (1 : Int32), oi (0 : Int32)] [(.int (1 : Int32)), (.ref a0)] _
    refine oLdI X12 hx hZ e12 F13 (v := (.int x1)) ⟨by decide, by decide⟩ rfl (hb hby own_d4_41) ?_
    refine XS.aloadN X12.here hx rfl (hb hby own_d4_42) rfl rfl ?_
    refine XS.iload X12.here hx rfl (hb hby own_d4_43) rfl ?_
    show oS p e below T12 m 45 #[oa a0, oa a1, oa b1, oi (1 : Int32), oi (0 : Int32)] [(.int (0 : Int32)), (.ref a1), (.int x1)] _
    refine oLdI X12 hx hZ e12 F14 (v := (.int y0)) ⟨by decide, by decide⟩ rfl (hb hby own_d4_45) ?_
    show oS p e below T12 m 46 #[oa a0, oa a1, oa b1, oi (1 : Int32), oi (0 : Int32)] [(.int y0), (.int x1)] _
    refine XS.icmpNo X12.here hx rfl (hb hby own_d4_46) rfl (tlt b20).2.1 ?_
    refine XS.aloadN X12.here hx rfl (hb hby own_d4_49) rfl rfl ?_
    refine XS.iloadN X12.here hx rfl (hb hby own_d4_50) rfl ?_
    refine XS.iload X12.here hx rfl (hb hby own_d4_51) rfl ?_
    show oS p e below T12 m 53 #[oa a0, oa a1, oa b1, oi (1 : Int32), oi (0 : Int32)] [(.int (0 : Int32)), (.int (1 : Int32)), (.ref b1)] _
    refine XS.iadd X12.here hx rfl (hb hby own_d4_53) rfl ?_
    refine XS.aloadN X12.here hx rfl (hb hby own_d4_54) rfl rfl ?_
    refine XS.iloadN X12.here hx rfl (hb hby own_d4_55) rfl ?_
    show oS p e below T12 m 56 #[oa a0, oa a1, oa b1, oi (1 : Int32), oi (0 : Int32)] [(.int (1 : Int32)), (.ref a0), (.int (1 : Int32)), (.ref b1)] _
    refine oLdI X12 hx hZ e12 F13 (v := (.int x1)) ⟨by decide, by decide⟩ rfl (hb hby own_d4_56) ?_
    show oS p e below T12 m 57 #[oa a0, oa a1, oa b1, oi (1 : Int32), oi (0 : Int32)] [(.int x1), (.int (1 : Int32)), (.ref b1)] _
    refine st21 _ ?_
    show oS p e below T21 m 58 #[oa a0, oa a1, oa b1, oi (1 : Int32), oi (0 : Int32)] [] _
    refine XS.iinc X21.here hx rfl (hb hby own_d4_58) rfl (l' := #[oa a0, oa a1, oa b1, oi (2 : Int32), oi (0 : Int32)]) rfl ?_
    refine XS.goto X21.here hx rfl (pc0 := 61) (pc' := 13) rfl (hb hby own_d4_61) (by decide) (by decide) ?_
    refine XS.iloadN X21.here hx rfl (hb hby own_d4_13) rfl ?_
    refine XS.aloadN X21.here hx rfl (hb hby own_d4_14) rfl rfl ?_
    show oS p e below T21 m 15 #[oa a0, oa a1, oa b1, oi (2 : Int32), oi (0 : Int32)] [(.ref a0), (.int (2 : Int32))] _
    refine oLen X21 hx hZ e21 F22 (hb hby own_d4_15) ?_
    show oS p e below T21 m 16 #[oa a0, oa a1, oa b1, oi (2 : Int32), oi (0 : Int32)] [(.int (2 : Int32)), (.int (2 : Int32))] _
    refine XS.icmpNo X21.here hx rfl (hb hby own_d4_16) rfl (flt b26).1 ?_
    refine XS.iload X21.here hx rfl (hb hby own_d4_19) rfl ?_
    refine XS.aloadN X21.here hx rfl (hb hby own_d4_21) rfl rfl ?_
    show oS p e below T21 m 22 #[oa a0, oa a1, oa b1, oi (2 : Int32), oi (0 : Int32)] [(.ref a1), (.int (0 : Int32))] _
    refine oLen X21 hx hZ e21 F23 (hb hby own_d4_22) ?_
    show oS p e below T21 m 23 #[oa a0, oa a1, oa b1, oi (2 : Int32), oi (0 : Int32)] [(.int (1 : Int32)), (.int (0 : Int32))] _
    refine XS.icmpNo X21.here hx rfl (hb hby own_d4_23) rfl (tlt b27).2.1 ?_
    refine XS.iload X21.here hx rfl (hb hby own_d4_26) rfl ?_
    refine XS.aloadN X21.here hx rfl (hb hby own_d4_28) rfl rfl ?_
    show oS p e below T21 m 29 #[oa a0, oa a1, oa b1, oi (2 : Int32), oi (0 : Int32)] [(.ref a1), (.int (0 : Int32))] _
    refine oLen X21 hx hZ e21 F23 (hb hby own_d4_29) ?_
    show oS p e below T21 m 30 #[oa a0, oa a1, oa b1, oi (2 : Int32), oi (0 : Int32)] [(.int (1 : Int32)), (.int (0 : Int32))] _
    refine XS.icmpNo X21.here hx rfl (hb hby own_d4_30) rfl (feq b28).1 ?_
    refine XS.iloadN X21.here hx rfl (hb hby own_d4_33) rfl ?_
    refine XS.aloadN X21.here hx rfl (hb hby own_d4_34) rfl rfl ?_
    show oS p e below T21 m 35 #[oa a0, oa a1, oa b1, oi (2 : Int32), oi (0 : Int32)] [(.ref a0), (.int (2 : Int32))] _
    refine oLen X21 hx hZ e21 F22 (hb hby own_d4_35) ?_
    show oS p e below T21 m 36 #[oa a0, oa a1, oa b1, oi (2 : Int32), oi (0 : Int32)] [(.int (2 : Int32)), (.int (2 : Int32))] _
    refine XS.icmpYes X21.here hx rfl (pc0 := 36) (pc' := 64) rfl (hb hby own_d4_36) rfl (flt b29).2.1 (by decide) (by decide) ?_
    refine XS.aloadN X21.here hx rfl (hb hby own_d4_64) rfl rfl ?_
    refine XS.iloadN X21.here hx rfl (hb hby own_d4_65) rfl ?_
    refine XS.iload X21.here hx rfl (hb hby own_d4_66) rfl ?_
    show oS p e below T21 m 68 #[oa a0, oa a1, oa b1, oi (2 : Int32), oi (0 : Int32)] [(.int (0 : Int32)), (.int (2 : Int32)), (.ref b1)] _
    refine XS.iadd X21.here hx rfl (hb hby own_d4_68) rfl ?_
    refine XS.aloadN X21.here hx rfl (hb hby own_d4_69) rfl rfl ?_
    refine XS.iload X21.here hx rfl (hb hby own_d4_70) rfl ?_
    show oS p e below T21 m 72 #[oa a0, oa a1, oa b1, oi (2 : Int32), oi (0 : Int32)] [(.int (0 : Int32)), (.ref a1), (.int (2 : Int32)), (.ref b1)] _
    refine oLdI X21 hx hZ e21 F23 (v := (.int y0)) ⟨by decide, by decide⟩ rfl (hb hby own_d4_72) ?_
    show oS p e below T21 m 73 #[oa a0, oa a1, oa b1, oi (2 : Int32), oi (0 : Int32)] [(.int y0), (.int (2 : Int32)), (.ref b1)] _
    refine st30 _ ?_
    show oS p e below T30 m 74 #[oa a0, oa a1, oa b1, oi (2 : Int32), oi (0 : Int32)] [] _
    refine XS.iinc X30.here hx rfl (hb hby own_d4_74) rfl (l' := #[oa a0, oa a1, oa b1, oi (2 : Int32), oi (1 : Int32)]) rfl ?_
    refine XS.goto X30.here hx rfl (pc0 := 77) (pc' := 13) rfl (hb hby own_d4_77) (by decide) (by decide) ?_
    refine XS.iloadN X30.here hx rfl (hb hby own_d4_13) rfl ?_
    refine XS.aloadN X30.here hx rfl (hb hby own_d4_14) rfl rfl ?_
    show oS p e below T30 m 15 #[oa a0, oa a1, oa b1, oi (2 : Int32), oi (1 : Int32)] [(.ref a0), (.int (2 : Int32))] _
    refine oLen X30 hx hZ e30 F31 (hb hby own_d4_15) ?_
    show oS p e below T30 m 16 #[oa a0, oa a1, oa b1, oi (2 : Int32), oi (1 : Int32)] [(.int (2 : Int32)), (.int (2 : Int32))] _
    refine XS.icmpNo X30.here hx rfl (hb hby own_d4_16) rfl (flt b35).1 ?_
    refine XS.iload X30.here hx rfl (hb hby own_d4_19) rfl ?_
    refine XS.aloadN X30.here hx rfl (hb hby own_d4_21) rfl rfl ?_
    show oS p e below T30 m 22 #[oa a0, oa a1, oa b1, oi (2 : Int32), oi (1 : Int32)] [(.ref a1), (.int (1 : Int32))] _
    refine oLen X30 hx hZ e30 F32 (hb hby own_d4_22) ?_
    show oS p e below T30 m 23 #[oa a0, oa a1, oa b1, oi (2 : Int32), oi (1 : Int32)] [(.int (1 : Int32)), (.int (1 : Int32))] _
    refine XS.icmpYes X30.here hx rfl (pc0 := 23) (pc' := 80) rfl (hb hby own_d4_23) rfl (flt b36).2.1 (by decide) (by decide) ?_
    refine XS.aloadN X30.here hx rfl (hb hby own_d4_80) rfl rfl ?_
    show oS p e below T30 m 81 #[oa a0, oa a1, oa b1, oi (2 : Int32), oi (1 : Int32)] [(.ref b1)] _
    exact retOut X30 hx Bd.returns rfl (Or.inr (Or.inr (Or.inr (Or.inr ⟨rfl, rfl, rfl⟩)))) (hb hby own_d4_81) hr
  · show own_Q4_21xxy Z a0 a1 k_a0 x0 x1 k_a1 y0 h0 n0 _ T30.heap _
    rw [e30]
    exact ⟨b1, k1, rfl, N30, K_34, sz_b1, V_33⟩
theorem own_ef4_21xyx (m : MethodId) (a0 : Addr) (a1 : Addr) : entryFrame m #[(.ref a0), (.ref a1)] 5 = mkF m 0 #[oa a0, oa a1, .unset, .unset, .unset] [] := by first | (simp [entryFrame, mkF, argsToLocals, Value.category]; done) | rfl
def own_Q4_21xyx (Z : State) (a0 : Addr) (a1 : Addr) (k_a0 : ClassId) (x0 : Int32) (x1 : Int32) (k_a1 : ClassId) (y0 : Int32) (h0 : Heap) (n0 : Nat) (v : Option Value) (h : Heap) (L : List Loc) : Prop := ∃ (u : Addr) (k_u : ClassId), v = some (.ref u) ∧ Fr n0 L ∧ Keep h0 h [] ∧ h0.size ≤ u ∧ Arv Z h u k_u .int (3 : Int32) [(.int x0), (.int y0), (.int x1)] (.int (0 : Int32))
set_option maxRecDepth 65536 in
set_option maxHeartbeats 40000000 in
theorem own_rm4_21xyx (l : Launch) (Z : State) (av : Array Value) (hw : ∀ d ∈ tables_1, d.before av Z = true) (ws : List Jvm.Cond) (a0 : Addr) (a1 : Addr) (k_a0 : ClassId) (x0 : Int32) (x1 : Int32) (k_a1 : ClassId) (y0 : Int32) (h0 : Heap) (n0 : Nat) (Z0 : n0 ≤ h0.size) (V_a0 : Arv Z h0 a0 k_a0 .int (2 : Int32) [(.int x0), (.int x1)] (.int (0 : Int32))) (V_a1 : Arv Z h0 a1 k_a1 .int (1 : Int32) [(.int y0)] (.int (0 : Int32))) (c_x0_y0 : x0 < y0) (c_x1_y0 : ¬ (x1 < y0)) :
    MetFree l (⟨"com/example/strict_anon/strictanon/service/RecordSets", "union", "([I[I)[I"⟩ : MethodName) (head1 (Jvm.Cond.code (⟨"com/example/strict_anon/strictanon/service/RecordSets", "union", "([I[I)[I"⟩ : MethodName) prog_30_method_2_code 5 (some (.array .int)) :: ws) ({ frames := 0, cells := 1, slots := 3, locals := 0 } : Room)) (fun a U => a = #[(.ref a0), (.ref a1)] ∧ Z.Warmed39 U.vm ∧ U.heap = h0) (fun _ _ _ _ _ => True) (fun _ U o U' => ∃ v L, o = .returned v ∧ own_Q4_21xyx Z a0 a1 k_a0 x0 x1 k_a1 y0 h0 n0 v U'.heap L ∧ FrameEnd U o U' L ({ frames := 0, cells := 1, slots := 3, locals := 0 } : Room).cells ({ frames := 0, cells := 1, slots := 3, locals := 0 } : Room).slots) := by
  refine MetFree.of_bodySF (plainFor_of_name own_pn1) hisR ?_
  intro p e s m args below meth c s₁ Bd hml0 hP hK
  obtain ⟨rfl, hZ, hh⟩ := hP
  have hx := Bd.exec
  have hby := Bd.bytes
  have hml : c.maxLocals = 5 := hml0
  have hown : s.vm.findClass "com/example/strict_anon/strictanon/service/RecordSets" = some m.cls := findClass_of_methodNamed Bd.named
  have hnm := (name_of_methodNamed Bd.named Bd.method).1
  have X0 : Stand p l e ({ frames := 0, cells := 1, slots := 3, locals := 0 } : Room) s m #[(.ref a0), (.ref a1)] below meth c s₁ [] 0 0 := Stand.of_body Bd
  have e0 : s₁.heap = h0 := by rw [← hh, Bd.state]; rfl
  have N0 := Fr.nil n0
  have pre0 : ∀ t, Steps p.tables e below (s₁.setTop (mkF m 0 #[oa a0, oa a1, .unset, .unset, .unset] [])) t → Steps p.tables e below (s₁.setTop (entryFrame m #[(.ref a0), (.ref a1)] 5)) t := fun t k => castTop (own_ef4_21xyx m a0 a1) k
  obtain ⟨T1, h1, k1, X1, e1, E1, A1, st1⟩ := newP X0 hx hZ (hw _ (List.mem_of_getElem? (i := 8) rfl)) e0 (g := (mkF m 5 #[oa a0, oa a1, .unset, .unset, .unset] [(.int (3 : Int32))])) rfl (hb hby own_d4_5) rfl (by decide) (cap := 3) (by decide) (by decide) (by decide) (by decide)
  obtain ⟨b1, g1⟩ : ∃ z, z = h0.size := ⟨_, rfl⟩
  rw [← g1] at A1 st1
  have g_b1 : n0 ≤ b1 := Nat.le_trans Z0 (Nat.le_of_eq g1.symm)
  have ne2 : a0 ≠ b1 := Nat.ne_of_lt (Nat.lt_of_lt_of_le V_a0.lt (Nat.le_of_eq g1.symm))
  have ne3 : a1 ≠ b1 := Nat.ne_of_lt (Nat.lt_of_lt_of_le V_a1.lt (Nat.le_of_eq g1.symm))
  have Z1 : n0 ≤ h1.size := Nat.le_trans Z0 E1.1
  have sz_b1 : h0.size ≤ b1 := Nat.le_trans (Keep.refl h0 []).1 (Nat.le_of_eq g1.symm)
  have K_4 : Keep h0 h1 [] := (Keep.refl h0 []).ext E1
  have F5 := V_a0.ext E1
  have F6 := V_a1.ext E1
  have V_7 : Arv Z h1 b1 k1 .int (3 : Int32) [(.int (0 : Int32)), (.int (0 : Int32)), (.int (0 : Int32))] (.int (0 : Int32)) := (Arv.new A1 (by decide)).pad (pad_rep [] (.int (0 : Int32)) 3)
  have b8 : (0 : Int32) < (2 : Int32) := (by decide)
  have b9 : ¬ ((0 : Int32) = (1 : Int32)) := (by decide)
  have b10 : (0 : Int32) < (2 : Int32) := (by decide)
  have b11 : x0 < y0 := c_x0_y0
  obtain ⟨T12, h12, X12, e12, W12, V12, st12⟩ := oStI X1 hx hZ e1 V_7 (j := (0 : Int32)) ⟨by decide, by decide⟩ 0 rfl (Nat.le_of_ble_eq_true rfl) (g := (mkF m 57 #[oa a0, oa a1, oa b1, oi (0 : Int32), oi (0 : Int32)] [(.int x0), (.int (0 : Int32)), (.ref b1)])) rfl rfl (hb hby own_d4_57)
  obtain ⟨Lo12, X12, N12⟩ := oOpq X12 (Fr.snoc X12 N0 g_b1)
  have Z12 := Nat.le_trans Z1 (Keep.of_wr W12).1
  have F13 := F5.other W12 ne2
  have F14 := F6.other W12 ne3
  have V_15 : Arv Z h12 b1 k1 .int (3 : Int32) [(.int x0), (.int (0 : Int32)), (.int (0 : Int32))] (.int (0 : Int32)) := V12
  have K_16 : Keep h0 h12 [] := K_4.wr W12 (Or.inr sz_b1)
  have b17 : (1 : Int32) < (2 : Int32) := (by decide)
  have b18 : ¬ ((0 : Int32) = (1 : Int32)) := (by decide)
  have b19 : (1 : Int32) < (2 : Int32) := (by decide)
  have b20 : ¬ (x1 < y0) := c_x1_y0
  obtain ⟨T21, h21, X21, e21, W21, V21, st21⟩ := oStI X12 hx hZ e12 V_15 (j := (1 : Int32)) ⟨by decide, by decide⟩ 1 rfl (Nat.le_of_ble_eq_true rfl) (g := (mkF m 73 #[oa a0, oa a1, oa b1, oi (1 : Int32), oi (0 : Int32)] [(.int y0), (.int (1 : Int32)), (.ref b1)])) rfl rfl (hb hby own_d4_73)
  obtain ⟨Lo21, X21, N21⟩ := oOpq X21 (Fr.snoc X21 N12 g_b1)
  have Z21 := Nat.le_trans Z12 (Keep.of_wr W21).1
  have F22 := F13.other W21 ne2
  have F23 := F14.other W21 ne3
  have V_24 : Arv Z h21 b1 k1 .int (3 : Int32) [(.int x0), (.int y0), (.int (0 : Int32))] (.int (0 : Int32)) := V21
  have K_25 : Keep h0 h21 [] := K_16.wr W21 (Or.inr sz_b1)
  have b26 : (1 : Int32) < (2 : Int32) := (by decide)
  have b27 : (1 : Int32) = (1 : Int32) := (by decide)
  obtain ⟨T28, h28, X28, e28, W28, V28, st28⟩ := oStI X21 hx hZ e21 V_24 (j := (2 : Int32)) ⟨by decide, by decide⟩ 2 rfl (Nat.le_of_ble_eq_true rfl) (g := (mkF m 57 #[oa a0, oa a1, oa b1, oi (1 : Int32), oi (1 : Int32)] [(.int x1), (.int (2 : Int32)), (.ref b1)])) rfl rfl (hb hby own_d4_57)
  obtain ⟨Lo28, X28, N28⟩ := oOpq X28 (Fr.snoc X28 N21 g_b1)
  have Z28 := Nat.le_trans Z21 (Keep.of_wr W28).1
  have F29 := F22.other W28 ne2
  have F30 := F23.other W28 ne3
  have V_31 : Arv Z h28 b1 k1 .int (3 : Int32) [(.int x0), (.int y0), (.int x1)] (.int (0 : Int32)) := V28
  have K_32 : Keep h0 h28 [] := K_25.wr W28 (Or.inr sz_b1)
  have b33 : ¬ ((2 : Int32) < (2 : Int32)) := (by decide)
  have b34 : ¬ ((1 : Int32) < (1 : Int32)) := (by decide)
  obtain ⟨fs, hr, hrun, hended, hW, hsame⟩ := X28.leave (v := (some (.ref b1))) (fun h => by rw [Bd.returns] at h; cases h)
  refine ⟨_, _, pre0 _ ?_, hrun, hended, _, _, rfl, ?_, ⟨_, rfl⟩, hW, hsame.mono (by decide) (by decide)⟩
  · show oS p e below s₁ m 0 #[oa a0, oa a1, .unset, .unset, .unset] [] _
    refine XS.aloadN X0.here hx rfl (hb hby own_d4_0) rfl rfl ?_
    show oS p e below s₁ m 1 #[oa a0, oa a1, .unset, .unset, .unset] [(.ref a0)] _
    refine oLen X0 hx hZ e0 V_a0 (hb hby own_d4_1) ?_
    refine XS.aloadN X0.here hx rfl (hb hby own_d4_2) rfl rfl ?_
    show oS p e below s₁ m 3 #[oa a0, oa a1, .unset, .unset, .unset] [(.ref a1), (.int (2 : Int32))] _
    refine oLen X0 hx hZ e0 V_a1 (hb hby own_d4_3) ?_
    refine XS.iadd X0.here hx rfl (hb hby own_d4_4) rfl ?_
    show oS p e below s₁ m 5 #[oa a0, oa a1, .unset, .unset, .unset] [(.int (3 : Int32))] _
    refine st1 _ ?_
    show oS p e below T1 m 7 #[oa a0, oa a1, .unset, .unset, .unset] [(.ref b1)] _
    refine XS.astoreN X1.here hx rfl (hb hby own_d4_7) rfl rfl (l' := #[oa a0, oa a1, oa b1, .unset, .unset]) rfl ?_
    refine XS.iconst X1.here hx rfl (hb hby own_d4_8) ?_
    refine XS.istoreN X1.here hx rfl (hb hby own_d4_9) rfl (l' := #[oa a0, oa a1, oa b1, oi (0 : Int32), .unset]) rfl ?_
    refine XS.iconst X1.here hx rfl (hb hby own_d4_10) ?_
    show oS p e below T1 m 11 #[oa a0, oa a1, oa b1, oi (0 : Int32), .unset] [(.int (0 : Int32))] _
    refine XS.istore X1.here hx rfl (hb hby own_d4_11) rfl (l' := #[oa a0, oa a1, oa b1, oi (0 : Int32), oi (0 : Int32)]) rfl ?_
    refine XS.iloadN X1.here hx rfl (hb hby own_d4_13) rfl ?_
    refine XS.aloadN X1.here hx rfl (hb hby own_d4_14) rfl rfl ?_
    show oS p e below T1 m 15 #[oa a0, oa a1, oa b1, oi (0 : Int32), oi (0 : Int32)] [(.ref a0), (.int (0 : Int32))] _
    refine oLen X1 hx hZ e1 F5 (hb hby own_d4_15) ?_
    show oS p e below T1 m 16 #[oa a0, oa a1, oa b1, oi (0 : Int32), oi (0 : Int32)] [(.int (2 : Int32)), (.int (0 : Int32))] _
    refine XS.icmpYes X1.here hx rfl (pc0 := 16) (pc' := 26) rfl (hb hby own_d4_16) rfl (tlt b8).1 (by decide) (by decide) ?_
    refine XS.iload X1.here hx rfl (hb hby own_d4_26) rfl ?_
    refine XS.aloadN X1.here hx rfl (hb hby own_d4_28) rfl rfl ?_
    show oS p e below T1 m 29 #[oa a0, oa a1, oa b1, oi (0 : Int32), oi (0 : Int32)] [(.ref a1), (.int (0 : Int32))] _
    refine oLen X1 hx hZ e1 F6 (hb hby own_d4_29) ?_
    show oS p e below T1 m 30 #[oa a0, oa a1, oa b1, oi (0 : Int32), oi (0 : Int32)] [(.int (1 : Int32)), (.int (0 : Int32))] _
    refine XS.icmpNo X1.here hx rfl (hb hby own_d4_30) rfl (feq b9).1 ?_
    refine XS.iloadN X1.here hx rfl (hb hby own_d4_33) rfl ?_
    refine XS.aloadN X1.here hx rfl (hb hby own_d4_34) rfl rfl ?_
    show oS p e below T1 m 35 #[oa a0, oa a1, oa b1, oi (0 : Int32), oi (0 : Int32)] [(.ref a0), (.int (0 : Int32))] _
    refine oLen X1 hx hZ e1 F5 (hb hby own_d4_35) ?_
    show oS p e below T1 m 36 #[oa a0, oa a1, oa b1, oi (0 : Int32), oi (0 : Int32)] [(.int (2 : Int32)), (.int (0 : Int32))] _
    refine XS.icmpNo X1.here hx rfl (hb hby own_d4_36) rfl (tlt b10).2.1 ?_
    refine XS.aloadN X1.here hx rfl (hb hby own_d4_39) rfl rfl ?_
    refine XS.iloadN X1.here hx rfl (hb hby own_d4_40) rfl ?_
    show oS p e below T1 m 41 #[oa a0, oa a1, oa b1, oi (0 : Int32), oi (0 : Int32)] [(.int (0 : Int32)), (.ref a0)] _
    refine oLdI X1 hx hZ e1 F5 (v := (.int x0)) ⟨by decide, by decide⟩ rfl (hb hby own_d4_41) ?_
    refine XS.aloadN X1.here hx rfl (hb hby own_d4_42) rfl rfl ?_
    refine XS.iload X1.here hx rfl (hb hby own_d4_43) rfl ?_
    show oS p e below T1 m 45 #[oa a0, oa a1, oa b1, oi (0 : Int32), oi (0 : Int32)] [(.int (0 : Int32)), (.ref a1), (.int x0)] _
    refine oLdI X1 hx hZ e1 F6 (v := (.int y0)) ⟨by decide, by decide⟩ rfl (hb hby own_d4_45) ?_
    show oS p e below T1 m 46 #[oa a0, oa a1, oa b1, oi (0 : Int32), oi (0 : Int32)] [(.int y0), (.int x0)] _
    refine XS.icmpNo X1.here hx rfl (hb hby own_d4_46) rfl (tlt b11).2.1 ?_
    refine XS.aloadN X1.here hx rfl (hb hby own_d4_49) rfl rfl ?_
    refine XS.iloadN X1.here hx rfl (hb hby own_d4_50) rfl ?_
    refine XS.iload X1.here hx rfl (hb hby own_d4_51) rfl ?_
    show oS p e below T1 m 53 #[oa a0, oa a1, oa b1, oi (0 : Int32), oi (0 : Int32)] [(.int (0 : Int32)), (.int (0 : Int32)), (.ref b1)] _
    refine XS.iadd X1.here hx rfl (hb hby own_d4_53) rfl ?_
    refine XS.aloadN X1.here hx rfl (hb hby own_d4_54) rfl rfl ?_
    refine XS.iloadN X1.here hx rfl (hb hby own_d4_55) rfl ?_
    show oS p e below T1 m 56 #[oa a0, oa a1, oa b1, oi (0 : Int32), oi (0 : Int32)] [(.int (0 : Int32)), (.ref a0), (.int (0 : Int32)), (.ref b1)] _
    refine oLdI X1 hx hZ e1 F5 (v := (.int x0)) ⟨by decide, by decide⟩ rfl (hb hby own_d4_56) ?_
    show oS p e below T1 m 57 #[oa a0, oa a1, oa b1, oi (0 : Int32), oi (0 : Int32)] [(.int x0), (.int (0 : Int32)), (.ref b1)] _
    refine st12 _ ?_
    show oS p e below T12 m 58 #[oa a0, oa a1, oa b1, oi (0 : Int32), oi (0 : Int32)] [] _
    refine XS.iinc X12.here hx rfl (hb hby own_d4_58) rfl (l' := #[oa a0, oa a1, oa b1, oi (1 : Int32), oi (0 : Int32)]) rfl ?_
    refine XS.goto X12.here hx rfl (pc0 := 61) (pc' := 13) rfl (hb hby own_d4_61) (by decide) (by decide) ?_
    refine XS.iloadN X12.here hx rfl (hb hby own_d4_13) rfl ?_
    refine XS.aloadN X12.here hx rfl (hb hby own_d4_14) rfl rfl ?_
    show oS p e below T12 m 15 #[oa a0, oa a1, oa b1, oi (1 : Int32), oi (0 : Int32)] [(.ref a0), (.int (1 : Int32))] _
    refine oLen X12 hx hZ e12 F13 (hb hby own_d4_15) ?_
    show oS p e below T12 m 16 #[oa a0, oa a1, oa b1, oi (1 : Int32), oi (0 : Int32)] [(.int (2 : Int32)), (.int (1 : Int32))] _
    refine XS.icmpYes X12.here hx rfl (pc0 := 16) (pc' := 26) rfl (hb hby own_d4_16) rfl (tlt b17).1 (by decide) (by decide) ?_
    refine XS.iload X12.here hx rfl (hb hby own_d4_26) rfl ?_
    refine XS.aloadN X12.here hx rfl (hb hby own_d4_28) rfl rfl ?_
    show oS p e below T12 m 29 #[oa a0, oa a1, oa b1, oi (1 : Int32), oi (0 : Int32)] [(.ref a1), (.int (0 : Int32))] _
    refine oLen X12 hx hZ e12 F14 (hb hby own_d4_29) ?_
    show oS p e below T12 m 30 #[oa a0, oa a1, oa b1, oi (1 : Int32), oi (0 : Int32)] [(.int (1 : Int32)), (.int (0 : Int32))] _
    refine XS.icmpNo X12.here hx rfl (hb hby own_d4_30) rfl (feq b18).1 ?_
    refine XS.iloadN X12.here hx rfl (hb hby own_d4_33) rfl ?_
    refine XS.aloadN X12.here hx rfl (hb hby own_d4_34) rfl rfl ?_
    show oS p e below T12 m 35 #[oa a0, oa a1, oa b1, oi (1 : Int32), oi (0 : Int32)] [(.ref a0), (.int (1 : Int32))] _
    refine oLen X12 hx hZ e12 F13 (hb hby own_d4_35) ?_
    show oS p e below T12 m 36 #[oa a0, oa a1, oa b1, oi (1 : Int32), oi (0 : Int32)] [(.int (2 : Int32)), (.int (1 : Int32))] _
    refine XS.icmpNo X12.here hx rfl (hb hby own_d4_36) rfl (tlt b19).2.1 ?_
    refine XS.aloadN X12.here hx rfl (hb hby own_d4_39) rfl rfl ?_
    refine XS.iloadN X12.here hx rfl (hb hby own_d4_40) rfl ?_
    show oS p e below T12 m 41 #[oa a0, oa a1, oa b1, oi (1 : Int32), oi (0 : Int32)] [(.int (1 : Int32)), (.ref a0)] _
    refine oLdI X12 hx hZ e12 F13 (v := (.int x1)) ⟨by decide, by decide⟩ rfl (hb hby own_d4_41) ?_
    refine XS.aloadN X12.here hx rfl (hb hby own_d4_42) rfl rfl ?_
    refine XS.iload X12.here hx rfl (hb hby own_d4_43) rfl ?_
    show oS p e below T12 m 45 #[oa a0, oa a1, oa b1, oi (1 : Int32), oi (0 : Int32)] [(.int (0 : Int32)), (.ref a1), (.int x1)] _
    refine oLdI X12 hx hZ e12 F14 (v := (.int y0)) ⟨by decide, by decide⟩ rfl (hb hby own_d4_45) ?_
    show oS p e below T12 m 46 #[oa a0, oa a1, oa b1, oi (1 : Int32), oi (0 : Int32)] [(.int y0), (.int x1)] _
    refine XS.icmpYes X12.here hx rfl (pc0 := 46) (pc' := 64) rfl (hb hby own_d4_46) rfl (flt b20).2.1 (by decide) (by decide) ?_
    refine XS.aloadN X12.here hx rfl (hb hby own_d4_64) rfl rfl ?_
    refine XS.iloadN X12.here hx rfl (hb hby own_d4_65) rfl ?_
    refine XS.iload X12.here hx rfl (hb hby own_d4_66) rfl ?_
    show oS p e below T12 m 68 #[oa a0, oa a1, oa b1, oi (1 : Int32), oi (0 : Int32)] [(.int (0 : Int32)), (.int (1 : Int32)), (.ref b1)] _
    refine XS.iadd X12.here hx rfl (hb hby own_d4_68) rfl ?_
    refine XS.aloadN X12.here hx rfl (hb hby own_d4_69) rfl rfl ?_
    refine XS.iload X12.here hx rfl (hb hby own_d4_70) rfl ?_
    show oS p e below T12 m 72 #[oa a0, oa a1, oa b1, oi (1 : Int32), oi (0 : Int32)] [(.int (0 : Int32)), (.ref a1), (.int (1 : Int32)), (.ref b1)] _
    refine oLdI X12 hx hZ e12 F14 (v := (.int y0)) ⟨by decide, by decide⟩ rfl (hb hby own_d4_72) ?_
    show oS p e below T12 m 73 #[oa a0, oa a1, oa b1, oi (1 : Int32), oi (0 : Int32)] [(.int y0), (.int (1 : Int32)), (.ref b1)] _
    refine st21 _ ?_
    show oS p e below T21 m 74 #[oa a0, oa a1, oa b1, oi (1 : Int32), oi (0 : Int32)] [] _
    refine XS.iinc X21.here hx rfl (hb hby own_d4_74) rfl (l' := #[oa a0, oa a1, oa b1, oi (1 : Int32), oi (1 : Int32)]) rfl ?_
    refine XS.goto X21.here hx rfl (pc0 := 77) (pc' := 13) rfl (hb hby own_d4_77) (by decide) (by decide) ?_
    refine XS.iloadN X21.here hx rfl (hb hby own_d4_13) rfl ?_
    refine XS.aloadN X21.here hx rfl (hb hby own_d4_14) rfl rfl ?_
    show oS p e below T21 m 15 #[oa a0, oa a1, oa b1, oi (1 : Int32), oi (1 : Int32)] [(.ref a0), (.int (1 : Int32))] _
    refine oLen X21 hx hZ e21 F22 (hb hby own_d4_15) ?_
    show oS p e below T21 m 16 #[oa a0, oa a1, oa b1, oi (1 : Int32), oi (1 : Int32)] [(.int (2 : Int32)), (.int (1 : Int32))] _
    refine XS.icmpYes X21.here hx rfl (pc0 := 16) (pc' := 26) rfl (hb hby own_d4_16) rfl (tlt b26).1 (by decide) (by decide) ?_
    refine XS.iload X21.here hx rfl (hb hby own_d4_26) rfl ?_
    refine XS.aloadN X21.here hx rfl (hb hby own_d4_28) rfl rfl ?_
    show oS p e below T21 m 29 #[oa a0, oa a1, oa b1, oi (1 : Int32), oi (1 : Int32)] [(.ref a1), (.int (1 : Int32))] _
    refine oLen X21 hx hZ e21 F23 (hb hby own_d4_29) ?_
    show oS p e below T21 m 30 #[oa a0, oa a1, oa b1, oi (1 : Int32), oi (1 : Int32)] [(.int (1 : Int32)), (.int (1 : Int32))] _
    refine XS.icmpYes X21.here hx rfl (pc0 := 30) (pc' := 49) rfl (hb hby own_d4_30) rfl (teq b27).1 (by decide) (by decide) ?_
    refine XS.aloadN X21.here hx rfl (hb hby own_d4_49) rfl rfl ?_
    refine XS.iloadN X21.here hx rfl (hb hby own_d4_50) rfl ?_
    refine XS.iload X21.here hx rfl (hb hby own_d4_51) rfl ?_
    show oS p e below T21 m 53 #[oa a0, oa a1, oa b1, oi (1 : Int32), oi (1 : Int32)] [(.int (1 : Int32)), (.int (1 : Int32)), (.ref b1)] _
    refine XS.iadd X21.here hx rfl (hb hby own_d4_53) rfl ?_
    refine XS.aloadN X21.here hx rfl (hb hby own_d4_54) rfl rfl ?_
    refine XS.iloadN X21.here hx rfl (hb hby own_d4_55) rfl ?_
    show oS p e below T21 m 56 #[oa a0, oa a1, oa b1, oi (1 : Int32), oi (1 : Int32)] [(.int (1 : Int32)), (.ref a0), (.int (2 : Int32)), (.ref b1)] _
    refine oLdI X21 hx hZ e21 F22 (v := (.int x1)) ⟨by decide, by decide⟩ rfl (hb hby own_d4_56) ?_
    show oS p e below T21 m 57 #[oa a0, oa a1, oa b1, oi (1 : Int32), oi (1 : Int32)] [(.int x1), (.int (2 : Int32)), (.ref b1)] _
    refine st28 _ ?_
    show oS p e below T28 m 58 #[oa a0, oa a1, oa b1, oi (1 : Int32), oi (1 : Int32)] [] _
    refine XS.iinc X28.here hx rfl (hb hby own_d4_58) rfl (l' := #[oa a0, oa a1, oa b1, oi (2 : Int32), oi (1 : Int32)]) rfl ?_
    refine XS.goto X28.here hx rfl (pc0 := 61) (pc' := 13) rfl (hb hby own_d4_61) (by decide) (by decide) ?_
    refine XS.iloadN X28.here hx rfl (hb hby own_d4_13) rfl ?_
    refine XS.aloadN X28.here hx rfl (hb hby own_d4_14) rfl rfl ?_
    show oS p e below T28 m 15 #[oa a0, oa a1, oa b1, oi (2 : Int32), oi (1 : Int32)] [(.ref a0), (.int (2 : Int32))] _
    refine oLen X28 hx hZ e28 F29 (hb hby own_d4_15) ?_
    show oS p e below T28 m 16 #[oa a0, oa a1, oa b1, oi (2 : Int32), oi (1 : Int32)] [(.int (2 : Int32)), (.int (2 : Int32))] _
    refine XS.icmpNo X28.here hx rfl (hb hby own_d4_16) rfl (flt b33).1 ?_
    refine XS.iload X28.here hx rfl (hb hby own_d4_19) rfl ?_
    refine XS.aloadN X28.here hx rfl (hb hby own_d4_21) rfl rfl ?_
    show oS p e below T28 m 22 #[oa a0, oa a1, oa b1, oi (2 : Int32), oi (1 : Int32)] [(.ref a1), (.int (1 : Int32))] _
    refine oLen X28 hx hZ e28 F30 (hb hby own_d4_22) ?_
    show oS p e below T28 m 23 #[oa a0, oa a1, oa b1, oi (2 : Int32), oi (1 : Int32)] [(.int (1 : Int32)), (.int (1 : Int32))] _
    refine XS.icmpYes X28.here hx rfl (pc0 := 23) (pc' := 80) rfl (hb hby own_d4_23) rfl (flt b34).2.1 (by decide) (by decide) ?_
    refine XS.aloadN X28.here hx rfl (hb hby own_d4_80) rfl rfl ?_
    show oS p e below T28 m 81 #[oa a0, oa a1, oa b1, oi (2 : Int32), oi (1 : Int32)] [(.ref b1)] _
    exact retOut X28 hx Bd.returns rfl (Or.inr (Or.inr (Or.inr (Or.inr ⟨rfl, rfl, rfl⟩)))) (hb hby own_d4_81) hr
  · show own_Q4_21xyx Z a0 a1 k_a0 x0 x1 k_a1 y0 h0 n0 _ T28.heap _
    rw [e28]
    exact ⟨b1, k1, rfl, N28, K_32, sz_b1, V_31⟩
theorem own_ef4_21yxx (m : MethodId) (a0 : Addr) (a1 : Addr) : entryFrame m #[(.ref a0), (.ref a1)] 5 = mkF m 0 #[oa a0, oa a1, .unset, .unset, .unset] [] := by first | (simp [entryFrame, mkF, argsToLocals, Value.category]; done) | rfl
def own_Q4_21yxx (Z : State) (a0 : Addr) (a1 : Addr) (k_a0 : ClassId) (x0 : Int32) (x1 : Int32) (k_a1 : ClassId) (y0 : Int32) (h0 : Heap) (n0 : Nat) (v : Option Value) (h : Heap) (L : List Loc) : Prop := ∃ (u : Addr) (k_u : ClassId), v = some (.ref u) ∧ Fr n0 L ∧ Keep h0 h [] ∧ h0.size ≤ u ∧ Arv Z h u k_u .int (3 : Int32) [(.int y0), (.int x0), (.int x1)] (.int (0 : Int32))
set_option maxRecDepth 65536 in
set_option maxHeartbeats 40000000 in
theorem own_rm4_21yxx (l : Launch) (Z : State) (av : Array Value) (hw : ∀ d ∈ tables_1, d.before av Z = true) (ws : List Jvm.Cond) (a0 : Addr) (a1 : Addr) (k_a0 : ClassId) (x0 : Int32) (x1 : Int32) (k_a1 : ClassId) (y0 : Int32) (h0 : Heap) (n0 : Nat) (Z0 : n0 ≤ h0.size) (V_a0 : Arv Z h0 a0 k_a0 .int (2 : Int32) [(.int x0), (.int x1)] (.int (0 : Int32))) (V_a1 : Arv Z h0 a1 k_a1 .int (1 : Int32) [(.int y0)] (.int (0 : Int32))) (c_x0_y0 : ¬ (x0 < y0)) :
    MetFree l (⟨"com/example/strict_anon/strictanon/service/RecordSets", "union", "([I[I)[I"⟩ : MethodName) (head1 (Jvm.Cond.code (⟨"com/example/strict_anon/strictanon/service/RecordSets", "union", "([I[I)[I"⟩ : MethodName) prog_30_method_2_code 5 (some (.array .int)) :: ws) ({ frames := 0, cells := 1, slots := 3, locals := 0 } : Room)) (fun a U => a = #[(.ref a0), (.ref a1)] ∧ Z.Warmed39 U.vm ∧ U.heap = h0) (fun _ _ _ _ _ => True) (fun _ U o U' => ∃ v L, o = .returned v ∧ own_Q4_21yxx Z a0 a1 k_a0 x0 x1 k_a1 y0 h0 n0 v U'.heap L ∧ FrameEnd U o U' L ({ frames := 0, cells := 1, slots := 3, locals := 0 } : Room).cells ({ frames := 0, cells := 1, slots := 3, locals := 0 } : Room).slots) := by
  refine MetFree.of_bodySF (plainFor_of_name own_pn1) hisR ?_
  intro p e s m args below meth c s₁ Bd hml0 hP hK
  obtain ⟨rfl, hZ, hh⟩ := hP
  have hx := Bd.exec
  have hby := Bd.bytes
  have hml : c.maxLocals = 5 := hml0
  have hown : s.vm.findClass "com/example/strict_anon/strictanon/service/RecordSets" = some m.cls := findClass_of_methodNamed Bd.named
  have hnm := (name_of_methodNamed Bd.named Bd.method).1
  have X0 : Stand p l e ({ frames := 0, cells := 1, slots := 3, locals := 0 } : Room) s m #[(.ref a0), (.ref a1)] below meth c s₁ [] 0 0 := Stand.of_body Bd
  have e0 : s₁.heap = h0 := by rw [← hh, Bd.state]; rfl
  have N0 := Fr.nil n0
  have pre0 : ∀ t, Steps p.tables e below (s₁.setTop (mkF m 0 #[oa a0, oa a1, .unset, .unset, .unset] [])) t → Steps p.tables e below (s₁.setTop (entryFrame m #[(.ref a0), (.ref a1)] 5)) t := fun t k => castTop (own_ef4_21yxx m a0 a1) k
  obtain ⟨T1, h1, k1, X1, e1, E1, A1, st1⟩ := newP X0 hx hZ (hw _ (List.mem_of_getElem? (i := 8) rfl)) e0 (g := (mkF m 5 #[oa a0, oa a1, .unset, .unset, .unset] [(.int (3 : Int32))])) rfl (hb hby own_d4_5) rfl (by decide) (cap := 3) (by decide) (by decide) (by decide) (by decide)
  obtain ⟨b1, g1⟩ : ∃ z, z = h0.size := ⟨_, rfl⟩
  rw [← g1] at A1 st1
  have g_b1 : n0 ≤ b1 := Nat.le_trans Z0 (Nat.le_of_eq g1.symm)
  have ne2 : a0 ≠ b1 := Nat.ne_of_lt (Nat.lt_of_lt_of_le V_a0.lt (Nat.le_of_eq g1.symm))
  have ne3 : a1 ≠ b1 := Nat.ne_of_lt (Nat.lt_of_lt_of_le V_a1.lt (Nat.le_of_eq g1.symm))
  have Z1 : n0 ≤ h1.size := Nat.le_trans Z0 E1.1
  have sz_b1 : h0.size ≤ b1 := Nat.le_trans (Keep.refl h0 []).1 (Nat.le_of_eq g1.symm)
  have K_4 : Keep h0 h1 [] := (Keep.refl h0 []).ext E1
  have F5 := V_a0.ext E1
  have F6 := V_a1.ext E1
  have V_7 : Arv Z h1 b1 k1 .int (3 : Int32) [(.int (0 : Int32)), (.int (0 : Int32)), (.int (0 : Int32))] (.int (0 : Int32)) := (Arv.new A1 (by decide)).pad (pad_rep [] (.int (0 : Int32)) 3)
  have b8 : (0 : Int32) < (2 : Int32) := (by decide)
  have b9 : ¬ ((0 : Int32) = (1 : Int32)) := (by decide)
  have b10 : (0 : Int32) < (2 : Int32) := (by decide)
  have b11 : ¬ (x0 < y0) := c_x0_y0
  obtain ⟨T12, h12, X12, e12, W12, V12, st12⟩ := oStI X1 hx hZ e1 V_7 (j := (0 : Int32)) ⟨by decide, by decide⟩ 0 rfl (Nat.le_of_ble_eq_true rfl) (g := (mkF m 73 #[oa a0, oa a1, oa b1, oi (0 : Int32), oi (0 : Int32)] [(.int y0), (.int (0 : Int32)), (.ref b1)])) rfl rfl (hb hby own_d4_73)
  obtain ⟨Lo12, X12, N12⟩ := oOpq X12 (Fr.snoc X12 N0 g_b1)
  have Z12 := Nat.le_trans Z1 (Keep.of_wr W12).1
  have F13 := F5.other W12 ne2
  have F14 := F6.other W12 ne3
  have V_15 : Arv Z h12 b1 k1 .int (3 : Int32) [(.int y0), (.int (0 : Int32)), (.int (0 : Int32))] (.int (0 : Int32)) := V12
  have K_16 : Keep h0 h12 [] := K_4.wr W12 (Or.inr sz_b1)
  have b17 : (0 : Int32) < (2 : Int32) := (by decide)
  have b18 : (1 : Int32) = (1 : Int32) := (by decide)
  obtain ⟨T19, h19, X19, e19, W19, V19, st19⟩ := oStI X12 hx hZ e12 V_15 (j := (1 : Int32)) ⟨by decide, by decide⟩ 1 rfl (Nat.le_of_ble_eq_true rfl) (g := (mkF m 57 #[oa a0, oa a1, oa b1, oi (0 : Int32), oi (1 : Int32)] [(.int x0), (.int (1 : Int32)), (.ref b1)])) rfl rfl (hb hby own_d4_57)
  obtain ⟨Lo19, X19, N19⟩ := oOpq X19 (Fr.snoc X19 N12 g_b1)
  have Z19 := Nat.le_trans Z12 (Keep.of_wr W19).1
  have F20 := F13.other W19 ne2
  have F21 := F14.other W19 ne3
  have V_22 : Arv Z h19 b1 k1 .int (3 : Int32) [(.int y0), (.int x0), (.int (0 : Int32))] (.int (0 : Int32)) := V19
  have K_23 : Keep h0 h19 [] := K_16.wr W19 (Or.inr sz_b1)
  have b24 : (1 : Int32) < (2 : Int32) := (by decide)
  have b25 : (1 : Int32) = (1 : Int32) := (by decide)
  obtain ⟨T26, h26, X26, e26, W26, V26, st26⟩ := oStI X19 hx hZ e19 V_22 (j := (2 : Int32)) ⟨by decide, by decide⟩ 2 rfl (Nat.le_of_ble_eq_true rfl) (g := (mkF m 57 #[oa a0, oa a1, oa b1, oi (1 : Int32), oi (1 : Int32)] [(.int x1), (.int (2 : Int32)), (.ref b1)])) rfl rfl (hb hby own_d4_57)
  obtain ⟨Lo26, X26, N26⟩ := oOpq X26 (Fr.snoc X26 N19 g_b1)
  have Z26 := Nat.le_trans Z19 (Keep.of_wr W26).1
  have F27 := F20.other W26 ne2
  have F28 := F21.other W26 ne3
  have V_29 : Arv Z h26 b1 k1 .int (3 : Int32) [(.int y0), (.int x0), (.int x1)] (.int (0 : Int32)) := V26
  have K_30 : Keep h0 h26 [] := K_23.wr W26 (Or.inr sz_b1)
  have b31 : ¬ ((2 : Int32) < (2 : Int32)) := (by decide)
  have b32 : ¬ ((1 : Int32) < (1 : Int32)) := (by decide)
  obtain ⟨fs, hr, hrun, hended, hW, hsame⟩ := X26.leave (v := (some (.ref b1))) (fun h => by rw [Bd.returns] at h; cases h)
  refine ⟨_, _, pre0 _ ?_, hrun, hended, _, _, rfl, ?_, ⟨_, rfl⟩, hW, hsame.mono (by decide) (by decide)⟩
  · show oS p e below s₁ m 0 #[oa a0, oa a1, .unset, .unset, .unset] [] _
    refine XS.aloadN X0.here hx rfl (hb hby own_d4_0) rfl rfl ?_
    show oS p e below s₁ m 1 #[oa a0, oa a1, .unset, .unset, .unset] [(.ref a0)] _
    refine oLen X0 hx hZ e0 V_a0 (hb hby own_d4_1) ?_
    refine XS.aloadN X0.here hx rfl (hb hby own_d4_2) rfl rfl ?_
    show oS p e below s₁ m 3 #[oa a0, oa a1, .unset, .unset, .unset] [(.ref a1), (.int (2 : Int32))] _
    refine oLen X0 hx hZ e0 V_a1 (hb hby own_d4_3) ?_
    refine XS.iadd X0.here hx rfl (hb hby own_d4_4) rfl ?_
    show oS p e below s₁ m 5 #[oa a0, oa a1, .unset, .unset, .unset] [(.int (3 : Int32))] _
    refine st1 _ ?_
    show oS p e below T1 m 7 #[oa a0, oa a1, .unset, .unset, .unset] [(.ref b1)] _
    refine XS.astoreN X1.here hx rfl (hb hby own_d4_7) rfl rfl (l' := #[oa a0, oa a1, oa b1, .unset, .unset]) rfl ?_
    refine XS.iconst X1.here hx rfl (hb hby own_d4_8) ?_
    refine XS.istoreN X1.here hx rfl (hb hby own_d4_9) rfl (l' := #[oa a0, oa a1, oa b1, oi (0 : Int32), .unset]) rfl ?_
    refine XS.iconst X1.here hx rfl (hb hby own_d4_10) ?_
    show oS p e below T1 m 11 #[oa a0, oa a1, oa b1, oi (0 : Int32), .unset] [(.int (0 : Int32))] _
    refine XS.istore X1.here hx rfl (hb hby own_d4_11) rfl (l' := #[oa a0, oa a1, oa b1, oi (0 : Int32), oi (0 : Int32)]) rfl ?_
    refine XS.iloadN X1.here hx rfl (hb hby own_d4_13) rfl ?_
    refine XS.aloadN X1.here hx rfl (hb hby own_d4_14) rfl rfl ?_
    show oS p e below T1 m 15 #[oa a0, oa a1, oa b1, oi (0 : Int32), oi (0 : Int32)] [(.ref a0), (.int (0 : Int32))] _
    refine oLen X1 hx hZ e1 F5 (hb hby own_d4_15) ?_
    show oS p e below T1 m 16 #[oa a0, oa a1, oa b1, oi (0 : Int32), oi (0 : Int32)] [(.int (2 : Int32)), (.int (0 : Int32))] _
    refine XS.icmpYes X1.here hx rfl (pc0 := 16) (pc' := 26) rfl (hb hby own_d4_16) rfl (tlt b8).1 (by decide) (by decide) ?_
    refine XS.iload X1.here hx rfl (hb hby own_d4_26) rfl ?_
    refine XS.aloadN X1.here hx rfl (hb hby own_d4_28) rfl rfl ?_
    show oS p e below T1 m 29 #[oa a0, oa a1, oa b1, oi (0 : Int32), oi (0 : Int32)] [(.ref a1), (.int (0 : Int32))] _
    refine oLen X1 hx hZ e1 F6 (hb hby own_d4_29) ?_
    show oS p e below T1 m 30 #[oa a0, oa a1, oa b1, oi (0 : Int32), oi (0 : Int32)] [(.int (1 : Int32)), (.int (0 : Int32))] _
    refine XS.icmpNo X1.here hx rfl (hb hby own_d4_30) rfl (feq b9).1 ?_
    refine XS.iloadN X1.here hx rfl (hb hby own_d4_33) rfl ?_
    refine XS.aloadN X1.here hx rfl (hb hby own_d4_34) rfl rfl ?_
    show oS p e below T1 m 35 #[oa a0, oa a1, oa b1, oi (0 : Int32), oi (0 : Int32)] [(.ref a0), (.int (0 : Int32))] _
    refine oLen X1 hx hZ e1 F5 (hb hby own_d4_35) ?_
    show oS p e below T1 m 36 #[oa a0, oa a1, oa b1, oi (0 : Int32), oi (0 : Int32)] [(.int (2 : Int32)), (.int (0 : Int32))] _
    refine XS.icmpNo X1.here hx rfl (hb hby own_d4_36) rfl (tlt b10).2.1 ?_
    refine XS.aloadN X1.here hx rfl (hb hby own_d4_39) rfl rfl ?_
    refine XS.iloadN X1.here hx rfl (hb hby own_d4_40) rfl ?_
    show oS p e below T1 m 41 #[oa a0, oa a1, oa b1, oi (0 : Int32), oi (0 : Int32)] [(.int (0 : Int32)), (.ref a0)] _
    refine oLdI X1 hx hZ e1 F5 (v := (.int x0)) ⟨by decide, by decide⟩ rfl (hb hby own_d4_41) ?_
    refine XS.aloadN X1.here hx rfl (hb hby own_d4_42) rfl rfl ?_
    refine XS.iload X1.here hx rfl (hb hby own_d4_43) rfl ?_
    show oS p e below T1 m 45 #[oa a0, oa a1, oa b1, oi (0 : Int32), oi (0 : Int32)] [(.int (0 : Int32)), (.ref a1), (.int x0)] _
    refine oLdI X1 hx hZ e1 F6 (v := (.int y0)) ⟨by decide, by decide⟩ rfl (hb hby own_d4_45) ?_
    show oS p e below T1 m 46 #[oa a0, oa a1, oa b1, oi (0 : Int32), oi (0 : Int32)] [(.int y0), (.int x0)] _
    refine XS.icmpYes X1.here hx rfl (pc0 := 46) (pc' := 64) rfl (hb hby own_d4_46) rfl (flt b11).2.1 (by decide) (by decide) ?_
    refine XS.aloadN X1.here hx rfl (hb hby own_d4_64) rfl rfl ?_
    refine XS.iloadN X1.here hx rfl (hb hby own_d4_65) rfl ?_
    refine XS.iload X1.here hx rfl (hb hby own_d4_66) rfl ?_
    show oS p e below T1 m 68 #[oa a0, oa a1, oa b1, oi (0 : Int32), oi (0 : Int32)] [(.int (0 : Int32)), (.int (0 : Int32)), (.ref b1)] _
    refine XS.iadd X1.here hx rfl (hb hby own_d4_68) rfl ?_
    refine XS.aloadN X1.here hx rfl (hb hby own_d4_69) rfl rfl ?_
    refine XS.iload X1.here hx rfl (hb hby own_d4_70) rfl ?_
    show oS p e below T1 m 72 #[oa a0, oa a1, oa b1, oi (0 : Int32), oi (0 : Int32)] [(.int (0 : Int32)), (.ref a1), (.int (0 : Int32)), (.ref b1)] _
    refine oLdI X1 hx hZ e1 F6 (v := (.int y0)) ⟨by decide, by decide⟩ rfl (hb hby own_d4_72) ?_
    show oS p e below T1 m 73 #[oa a0, oa a1, oa b1, oi (0 : Int32), oi (0 : Int32)] [(.int y0), (.int (0 : Int32)), (.ref b1)] _
    refine st12 _ ?_
    show oS p e below T12 m 74 #[oa a0, oa a1, oa b1, oi (0 : Int32), oi (0 : Int32)] [] _
    refine XS.iinc X12.here hx rfl (hb hby own_d4_74) rfl (l' := #[oa a0, oa a1, oa b1, oi (0 : Int32), oi (1 : Int32)]) rfl ?_
    refine XS.goto X12.here hx rfl (pc0 := 77) (pc' := 13) rfl (hb hby own_d4_77) (by decide) (by decide) ?_
    refine XS.iloadN X12.here hx rfl (hb hby own_d4_13) rfl ?_
    refine XS.aloadN X12.here hx rfl (hb hby own_d4_14) rfl rfl ?_
    show oS p e below T12 m 15 #[oa a0, oa a1, oa b1, oi (0 : Int32), oi (1 : Int32)] [(.ref a0), (.int (0 : Int32))] _
    refine oLen X12 hx hZ e12 F13 (hb hby own_d4_15) ?_
    show oS p e below T12 m 16 #[oa a0, oa a1, oa b1, oi (0 : Int32), oi (1 : Int32)] [(.int (2 : Int32)), (.int (0 : Int32))] _
    refine XS.icmpYes X12.here hx rfl (pc0 := 16) (pc' := 26) rfl (hb hby own_d4_16) rfl (tlt b17).1 (by decide) (by decide) ?_
    refine XS.iload X12.here hx rfl (hb hby own_d4_26) rfl ?_
    refine XS.aloadN X12.here hx rfl (hb hby own_d4_28) rfl rfl ?_
    show oS p e below T12 m 29 #[oa a0, oa a1, oa b1, oi (0 : Int32), oi (1 : Int32)] [(.ref a1), (.int (1 : Int32))] _
    refine oLen X12 hx hZ e12 F14 (hb hby own_d4_29) ?_
    show oS p e below T12 m 30 #[oa a0, oa a1, oa b1, oi (0 : Int32), oi (1 : Int32)] [(.int (1 : Int32)), (.int (1 : Int32))] _
    refine XS.icmpYes X12.here hx rfl (pc0 := 30) (pc' := 49) rfl (hb hby own_d4_30) rfl (teq b18).1 (by decide) (by decide) ?_
    refine XS.aloadN X12.here hx rfl (hb hby own_d4_49) rfl rfl ?_
    refine XS.iloadN X12.here hx rfl (hb hby own_d4_50) rfl ?_
    refine XS.iload X12.here hx rfl (hb hby own_d4_51) rfl ?_
    show oS p e below T12 m 53 #[oa a0, oa a1, oa b1, oi (0 : Int32), oi (1 : Int32)] [(.int (1 : Int32)), (.int (0 : Int32)), (.ref b1)] _
    refine XS.iadd X12.here hx rfl (hb hby own_d4_53) rfl ?_
    refine XS.aloadN X12.here hx rfl (hb hby own_d4_54) rfl rfl ?_
    refine XS.iloadN X12.here hx rfl (hb hby own_d4_55) rfl ?_
    show oS p e below T12 m 56 #[oa a0, oa a1, oa b1, oi (0 : Int32), oi (1 : Int32)] [(.int (0 : Int32)), (.ref a0), (.int (1 : Int32)), (.ref b1)] _
    refine oLdI X12 hx hZ e12 F13 (v := (.int x0)) ⟨by decide, by decide⟩ rfl (hb hby own_d4_56) ?_
    show oS p e below T12 m 57 #[oa a0, oa a1, oa b1, oi (0 : Int32), oi (1 : Int32)] [(.int x0), (.int (1 : Int32)), (.ref b1)] _
    refine st19 _ ?_
    show oS p e below T19 m 58 #[oa a0, oa a1, oa b1, oi (0 : Int32), oi (1 : Int32)] [] _
    refine XS.iinc X19.here hx rfl (hb hby own_d4_58) rfl (l' := #[oa a0, oa a1, oa b1, oi (1 : Int32), oi (1 : Int32)]) rfl ?_
    refine XS.goto X19.here hx rfl (pc0 := 61) (pc' := 13) rfl (hb hby own_d4_61) (by decide) (by decide) ?_
    refine XS.iloadN X19.here hx rfl (hb hby own_d4_13) rfl ?_
    refine XS.aloadN X19.here hx rfl (hb hby own_d4_14) rfl rfl ?_
    show oS p e below T19 m 15 #[oa a0, oa a1, oa b1, oi (1 : Int32), oi (1 : Int32)] [(.ref a0), (.int (1 : Int32))] _
    refine oLen X19 hx hZ e19 F20 (hb hby own_d4_15) ?_
    show oS p e below T19 m 16 #[oa a0, oa a1, oa b1, oi (1 : Int32), oi (1 : Int32)] [(.int (2 : Int32)), (.int (1 : Int32))] _
    refine XS.icmpYes X19.here hx rfl (pc0 := 16) (pc' := 26) rfl (hb hby own_d4_16) rfl (tlt b24).1 (by decide) (by decide) ?_
    refine XS.iload X19.here hx rfl (hb hby own_d4_26) rfl ?_
    refine XS.aloadN X19.here hx rfl (hb hby own_d4_28) rfl rfl ?_
    show oS p e below T19 m 29 #[oa a0, oa a1, oa b1, oi (1 : Int32), oi (1 : Int32)] [(.ref a1), (.int (1 : Int32))] _
    refine oLen X19 hx hZ e19 F21 (hb hby own_d4_29) ?_
    show oS p e below T19 m 30 #[oa a0, oa a1, oa b1, oi (1 : Int32), oi (1 : Int32)] [(.int (1 : Int32)), (.int (1 : Int32))] _
    refine XS.icmpYes X19.here hx rfl (pc0 := 30) (pc' := 49) rfl (hb hby own_d4_30) rfl (teq b25).1 (by decide) (by decide) ?_
    refine XS.aloadN X19.here hx rfl (hb hby own_d4_49) rfl rfl ?_
    refine XS.iloadN X19.here hx rfl (hb hby own_d4_50) rfl ?_
    refine XS.iload X19.here hx rfl (hb hby own_d4_51) rfl ?_
    show oS p e below T19 m 53 #[oa a0, oa a1, oa b1, oi (1 : Int32), oi (1 : Int32)] [(.int (1 : Int32)), (.int (1 : Int32)), (.ref b1)] _
    refine XS.iadd X19.here hx rfl (hb hby own_d4_53) rfl ?_
    refine XS.aloadN X19.here hx rfl (hb hby own_d4_54) rfl rfl ?_
    refine XS.iloadN X19.here hx rfl (hb hby own_d4_55) rfl ?_
    show oS p e below T19 m 56 #[oa a0, oa a1, oa b1, oi (1 : Int32), oi (1 : Int32)] [(.int (1 : Int32)), (.ref a0), (.int (2 : Int32)), (.ref b1)] _
    refine oLdI X19 hx hZ e19 F20 (v := (.int x1)) ⟨by decide, by decide⟩ rfl (hb hby own_d4_56) ?_
    show oS p e below T19 m 57 #[oa a0, oa a1, oa b1, oi (1 : Int32), oi (1 : Int32)] [(.int x1), (.int (2 : Int32)), (.ref b1)] _
    refine st26 _ ?_
    show oS p e below T26 m 58 #[oa a0, oa a1, oa b1, oi (1 : Int32), oi (1 : Int32)] [] _
    refine XS.iinc X26.here hx rfl (hb hby own_d4_58) rfl (l' := #[oa a0, oa a1, oa b1, oi (2 : Int32), oi (1 : Int32)]) rfl ?_
    refine XS.goto X26.here hx rfl (pc0 := 61) (pc' := 13) rfl (hb hby own_d4_61) (by decide) (by decide) ?_
    refine XS.iloadN X26.here hx rfl (hb hby own_d4_13) rfl ?_
    refine XS.aloadN X26.here hx rfl (hb hby own_d4_14) rfl rfl ?_
    show oS p e below T26 m 15 #[oa a0, oa a1, oa b1, oi (2 : Int32), oi (1 : Int32)] [(.ref a0), (.int (2 : Int32))] _
    refine oLen X26 hx hZ e26 F27 (hb hby own_d4_15) ?_
    show oS p e below T26 m 16 #[oa a0, oa a1, oa b1, oi (2 : Int32), oi (1 : Int32)] [(.int (2 : Int32)), (.int (2 : Int32))] _
    refine XS.icmpNo X26.here hx rfl (hb hby own_d4_16) rfl (flt b31).1 ?_
    refine XS.iload X26.here hx rfl (hb hby own_d4_19) rfl ?_
    refine XS.aloadN X26.here hx rfl (hb hby own_d4_21) rfl rfl ?_
    show oS p e below T26 m 22 #[oa a0, oa a1, oa b1, oi (2 : Int32), oi (1 : Int32)] [(.ref a1), (.int (1 : Int32))] _
    refine oLen X26 hx hZ e26 F28 (hb hby own_d4_22) ?_
    show oS p e below T26 m 23 #[oa a0, oa a1, oa b1, oi (2 : Int32), oi (1 : Int32)] [(.int (1 : Int32)), (.int (1 : Int32))] _
    refine XS.icmpYes X26.here hx rfl (pc0 := 23) (pc' := 80) rfl (hb hby own_d4_23) rfl (flt b32).2.1 (by decide) (by decide) ?_
    refine XS.aloadN X26.here hx rfl (hb hby own_d4_80) rfl rfl ?_
    show oS p e below T26 m 81 #[oa a0, oa a1, oa b1, oi (2 : Int32), oi (1 : Int32)] [(.ref b1)] _
    exact retOut X26 hx Bd.returns rfl (Or.inr (Or.inr (Or.inr (Or.inr ⟨rfl, rfl, rfl⟩)))) (hb hby own_d4_81) hr
  · show own_Q4_21yxx Z a0 a1 k_a0 x0 x1 k_a1 y0 h0 n0 _ T26.heap _
    rw [e26]
    exact ⟨b1, k1, rfl, N26, K_30, sz_b1, V_29⟩
theorem own_ef4_22xxyy (m : MethodId) (a0 : Addr) (a1 : Addr) : entryFrame m #[(.ref a0), (.ref a1)] 5 = mkF m 0 #[oa a0, oa a1, .unset, .unset, .unset] [] := by first | (simp [entryFrame, mkF, argsToLocals, Value.category]; done) | rfl
def own_Q4_22xxyy (Z : State) (a0 : Addr) (a1 : Addr) (k_a0 : ClassId) (x0 : Int32) (x1 : Int32) (k_a1 : ClassId) (y0 : Int32) (y1 : Int32) (h0 : Heap) (n0 : Nat) (v : Option Value) (h : Heap) (L : List Loc) : Prop := ∃ (u : Addr) (k_u : ClassId), v = some (.ref u) ∧ Fr n0 L ∧ Keep h0 h [] ∧ h0.size ≤ u ∧ Arv Z h u k_u .int (4 : Int32) [(.int x0), (.int x1), (.int y0), (.int y1)] (.int (0 : Int32))
set_option maxRecDepth 65536 in
set_option maxHeartbeats 40000000 in
theorem own_rm4_22xxyy (l : Launch) (Z : State) (av : Array Value) (hw : ∀ d ∈ tables_1, d.before av Z = true) (ws : List Jvm.Cond) (a0 : Addr) (a1 : Addr) (k_a0 : ClassId) (x0 : Int32) (x1 : Int32) (k_a1 : ClassId) (y0 : Int32) (y1 : Int32) (h0 : Heap) (n0 : Nat) (Z0 : n0 ≤ h0.size) (V_a0 : Arv Z h0 a0 k_a0 .int (2 : Int32) [(.int x0), (.int x1)] (.int (0 : Int32))) (V_a1 : Arv Z h0 a1 k_a1 .int (2 : Int32) [(.int y0), (.int y1)] (.int (0 : Int32))) (c_x0_y0 : x0 < y0) (c_x1_y0 : x1 < y0) :
    MetFree l (⟨"com/example/strict_anon/strictanon/service/RecordSets", "union", "([I[I)[I"⟩ : MethodName) (head1 (Jvm.Cond.code (⟨"com/example/strict_anon/strictanon/service/RecordSets", "union", "([I[I)[I"⟩ : MethodName) prog_30_method_2_code 5 (some (.array .int)) :: ws) ({ frames := 0, cells := 1, slots := 4, locals := 0 } : Room)) (fun a U => a = #[(.ref a0), (.ref a1)] ∧ Z.Warmed39 U.vm ∧ U.heap = h0) (fun _ _ _ _ _ => True) (fun _ U o U' => ∃ v L, o = .returned v ∧ own_Q4_22xxyy Z a0 a1 k_a0 x0 x1 k_a1 y0 y1 h0 n0 v U'.heap L ∧ FrameEnd U o U' L ({ frames := 0, cells := 1, slots := 4, locals := 0 } : Room).cells ({ frames := 0, cells := 1, slots := 4, locals := 0 } : Room).slots) := by
  refine MetFree.of_bodySF (plainFor_of_name own_pn1) hisR ?_
  intro p e s m args below meth c s₁ Bd hml0 hP hK
  obtain ⟨rfl, hZ, hh⟩ := hP
  have hx := Bd.exec
  have hby := Bd.bytes
  have hml : c.maxLocals = 5 := hml0
  have hown : s.vm.findClass "com/example/strict_anon/strictanon/service/RecordSets" = some m.cls := findClass_of_methodNamed Bd.named
  have hnm := (name_of_methodNamed Bd.named Bd.method).1
  have X0 : Stand p l e ({ frames := 0, cells := 1, slots := 4, locals := 0 } : Room) s m #[(.ref a0), (.ref a1)] below meth c s₁ [] 0 0 := Stand.of_body Bd
  have e0 : s₁.heap = h0 := by rw [← hh, Bd.state]; rfl
  have N0 := Fr.nil n0
  have pre0 : ∀ t, Steps p.tables e below (s₁.setTop (mkF m 0 #[oa a0, oa a1, .unset, .unset, .unset] [])) t → Steps p.tables e below (s₁.setTop (entryFrame m #[(.ref a0), (.ref a1)] 5)) t := fun t k => castTop (own_ef4_22xxyy m a0 a1) k
  obtain ⟨T1, h1, k1, X1, e1, E1, A1, st1⟩ := newP X0 hx hZ (hw _ (List.mem_of_getElem? (i := 8) rfl)) e0 (g := (mkF m 5 #[oa a0, oa a1, .unset, .unset, .unset] [(.int (4 : Int32))])) rfl (hb hby own_d4_5) rfl (by decide) (cap := 4) (by decide) (by decide) (by decide) (by decide)
  obtain ⟨b1, g1⟩ : ∃ z, z = h0.size := ⟨_, rfl⟩
  rw [← g1] at A1 st1
  have g_b1 : n0 ≤ b1 := Nat.le_trans Z0 (Nat.le_of_eq g1.symm)
  have ne2 : a0 ≠ b1 := Nat.ne_of_lt (Nat.lt_of_lt_of_le V_a0.lt (Nat.le_of_eq g1.symm))
  have ne3 : a1 ≠ b1 := Nat.ne_of_lt (Nat.lt_of_lt_of_le V_a1.lt (Nat.le_of_eq g1.symm))
  have Z1 : n0 ≤ h1.size := Nat.le_trans Z0 E1.1
  have sz_b1 : h0.size ≤ b1 := Nat.le_trans (Keep.refl h0 []).1 (Nat.le_of_eq g1.symm)
  have K_4 : Keep h0 h1 [] := (Keep.refl h0 []).ext E1
  have F5 := V_a0.ext E1
  have F6 := V_a1.ext E1
  have V_7 : Arv Z h1 b1 k1 .int (4 : Int32) [(.int (0 : Int32)), (.int (0 : Int32)), (.int (0 : Int32)), (.int (0 : Int32))] (.int (0 : Int32)) := (Arv.new A1 (by decide)).pad (pad_rep [] (.int (0 : Int32)) 4)
  have b8 : (0 : Int32) < (2 : Int32) := (by decide)
  have b9 : ¬ ((0 : Int32) = (2 : Int32)) := (by decide)
  have b10 : (0 : Int32) < (2 : Int32) := (by decide)
  have b11 : x0 < y0 := c_x0_y0
  obtain ⟨T12, h12, X12, e12, W12, V12, st12⟩ := oStI X1 hx hZ e1 V_7 (j := (0 : Int32)) ⟨by decide, by decide⟩ 0 rfl (Nat.le_of_ble_eq_true rfl) (g := (mkF m 57 #[oa a0, oa a1, oa b1, oi (0 : Int32), oi (0 : Int32)] [(.int x0), (.int (0 : Int32)), (.ref b1)])) rfl rfl (hb hby own_d4_57)
  obtain ⟨Lo12, X12, N12⟩ := oOpq X12 (Fr.snoc X12 N0 g_b1)
  have Z12 := Nat.le_trans Z1 (Keep.of_wr W12).1
  have F13 := F5.other W12 ne2
  have F14 := F6.other W12 ne3
  have V_15 : Arv Z h12 b1 k1 .int (4 : Int32) [(.int x0), (.int (0 : Int32)), (.int (0 : Int32)), (.int (0 : Int32))] (.int (0 : Int32)) := V12
  have K_16 : Keep h0 h12 [] := K_4.wr W12 (Or.inr sz_b1)
  have b17 : (1 : Int32) < (2 : Int32) := (by decide)
  have b18 : ¬ ((0 : Int32) = (2 : Int32)) := (by decide)
  have b19 : (1 : Int32) < (2 : Int32) := (by decide)
  have b20 : x1 < y0 := c_x1_y0
  obtain ⟨T21, h21, X21, e21, W21, V21, st21⟩ := oStI X12 hx hZ e12 V_15 (j := (1 : Int32)) ⟨by decide, by decide⟩ 1 rfl (Nat.le_of_ble_eq_true rfl) (g := (mkF m 57 #[oa a0, oa a1, oa b1, oi (1 : Int32), oi (0 : Int32)] [(.int x1), (.int (1 : Int32)), (.ref b1)])) rfl rfl (hb hby own_d4_57)
  obtain ⟨Lo21, X21, N21⟩ := oOpq X21 (Fr.snoc X21 N12 g_b1)
  have Z21 := Nat.le_trans Z12 (Keep.of_wr W21).1
  have F22 := F13.other W21 ne2
  have F23 := F14.other W21 ne3
  have V_24 : Arv Z h21 b1 k1 .int (4 : Int32) [(.int x0), (.int x1), (.int (0 : Int32)), (.int (0 : Int32))] (.int (0 : Int32)) := V21
  have K_25 : Keep h0 h21 [] := K_16.wr W21 (Or.inr sz_b1)
  have b26 : ¬ ((2 : Int32) < (2 : Int32)) := (by decide)
  have b27 : (0 : Int32) < (2 : Int32) := (by decide)
  have b28 : ¬ ((0 : Int32) = (2 : Int32)) := (by decide)
  have b29 : ¬ ((2 : Int32) < (2 : Int32)) := (by decide)
  obtain ⟨T30, h30, X30, e30, W30, V30, st30⟩ := oStI X21 hx hZ e21 V_24 (j := (2 : Int32)) ⟨by decide, by decide⟩ 2 rfl (Nat.le_of_ble_eq_true rfl) (g := (mkF m 73 #[oa a0, oa a1, oa b1, oi (2 : Int32), oi (0 : Int32)] [(.int y0), (.int (2 : Int32)), (.ref b1)])) rfl rfl (hb hby own_d4_73)
  obtain ⟨Lo30, X30, N30⟩ := oOpq X30 (Fr.snoc X30 N21 g_b1)
  have Z30 := Nat.le_trans Z21 (Keep.of_wr W30).1
  have F31 := F22.other W30 ne2
  have F32 := F23.other W30 ne3
  have V_33 : Arv Z h30 b1 k1 .int (4 : Int32) [(.int x0), (.int x1), (.int y0), (.int (0 : Int32))] (.int (0 : Int32)) := V30
  have K_34 : Keep h0 h30 [] := K_25.wr W30 (Or.inr sz_b1)
  have b35 : ¬ ((2 : Int32) < (2 : Int32)) := (by decide)
  have b36 : (1 : Int32) < (2 : Int32) := (by decide)
  have b37 : ¬ ((1 : Int32) = (2 : Int32)) := (by decide)
  have b38 : ¬ ((2 : Int32) < (2 : Int32)) := (by decide)
  obtain ⟨T39, h39, X39, e39, W39, V39, st39⟩ := oStI X30 hx hZ e30 V_33 (j := (3 : Int32)) ⟨by decide, by decide⟩ 3 rfl (Nat.le_of_ble_eq_true rfl) (g := (mkF m 73 #[oa a0, oa a1, oa b1, oi (2 : Int32), oi (1 : Int32)] [(.int y1), (.int (3 : Int32)), (.ref b1)])) rfl rfl (hb hby own_d4_73)
  obtain ⟨Lo39, X39, N39⟩ := oOpq X39 (Fr.snoc X39 N30 g_b1)
  have Z39 := Nat.le_trans Z30 (Keep.of_wr W39).1
  have F40 := F31.other W39 ne2
  have F41 := F32.other W39 ne3
  have V_42 : Arv Z h39 b1 k1 .int (4 : Int32) [(.int x0), (.int x1), (.int y0), (.int y1)] (.int (0 : Int32)) := V39
  have K_43 : Keep h0 h39 [] := K_34.wr W39 (Or.inr sz_b1)
  have b44 : ¬ ((2 : Int32) < (2 : Int32)) := (by decide)
  have b45 : ¬ ((2 : Int32) < (2 : Int32)) := (by decide)
  obtain ⟨fs, hr, hrun, hended, hW, hsame⟩ := X39.leave (v := (some (.ref b1))) (fun h => by rw [Bd.returns] at h; cases h)
  refine ⟨_, _, pre0 _ ?_, hrun, hended, _, _, rfl, ?_, ⟨_, rfl⟩, hW, hsame.mono (by decide) (by decide)⟩
  · show oS p e below s₁ m 0 #[oa a0, oa a1, .unset, .unset, .unset] [] _
    refine XS.aloadN X0.here hx rfl (hb hby own_d4_0) rfl rfl ?_
    show oS p e below s₁ m 1 #[oa a0, oa a1, .unset, .unset, .unset] [(.ref a0)] _
    refine oLen X0 hx hZ e0 V_a0 (hb hby own_d4_1) ?_
    refine XS.aloadN X0.here hx rfl (hb hby own_d4_2) rfl rfl ?_
    show oS p e below s₁ m 3 #[oa a0, oa a1, .unset, .unset, .unset] [(.ref a1), (.int (2 : Int32))] _
    refine oLen X0 hx hZ e0 V_a1 (hb hby own_d4_3) ?_
    refine XS.iadd X0.here hx rfl (hb hby own_d4_4) rfl ?_
    show oS p e below s₁ m 5 #[oa a0, oa a1, .unset, .unset, .unset] [(.int (4 : Int32))] _
    refine st1 _ ?_
    show oS p e below T1 m 7 #[oa a0, oa a1, .unset, .unset, .unset] [(.ref b1)] _
    refine XS.astoreN X1.here hx rfl (hb hby own_d4_7) rfl rfl (l' := #[oa a0, oa a1, oa b1, .unset, .unset]) rfl ?_
    refine XS.iconst X1.here hx rfl (hb hby own_d4_8) ?_
    refine XS.istoreN X1.here hx rfl (hb hby own_d4_9) rfl (l' := #[oa a0, oa a1, oa b1, oi (0 : Int32), .unset]) rfl ?_
    refine XS.iconst X1.here hx rfl (hb hby own_d4_10) ?_
    show oS p e below T1 m 11 #[oa a0, oa a1, oa b1, oi (0 : Int32), .unset] [(.int (0 : Int32))] _
    refine XS.istore X1.here hx rfl (hb hby own_d4_11) rfl (l' := #[oa a0, oa a1, oa b1, oi (0 : Int32), oi (0 : Int32)]) rfl ?_
    refine XS.iloadN X1.here hx rfl (hb hby own_d4_13) rfl ?_
    refine XS.aloadN X1.here hx rfl (hb hby own_d4_14) rfl rfl ?_
    show oS p e below T1 m 15 #[oa a0, oa a1, oa b1, oi (0 : Int32), oi (0 : Int32)] [(.ref a0), (.int (0 : Int32))] _
    refine oLen X1 hx hZ e1 F5 (hb hby own_d4_15) ?_
    show oS p e below T1 m 16 #[oa a0, oa a1, oa b1, oi (0 : Int32), oi (0 : Int32)] [(.int (2 : Int32)), (.int (0 : Int32))] _
    refine XS.icmpYes X1.here hx rfl (pc0 := 16) (pc' := 26) rfl (hb hby own_d4_16) rfl (tlt b8).1 (by decide) (by decide) ?_
    refine XS.iload X1.here hx rfl (hb hby own_d4_26) rfl ?_
    refine XS.aloadN X1.here hx rfl (hb hby own_d4_28) rfl rfl ?_
    show oS p e below T1 m 29 #[oa a0, oa a1, oa b1, oi (0 : Int32), oi (0 : Int32)] [(.ref a1), (.int (0 : Int32))] _
    refine oLen X1 hx hZ e1 F6 (hb hby own_d4_29) ?_
    show oS p e below T1 m 30 #[oa a0, oa a1, oa b1, oi (0 : Int32), oi (0 : Int32)] [(.int (2 : Int32)), (.int (0 : Int32))] _
    refine XS.icmpNo X1.here hx rfl (hb hby own_d4_30) rfl (feq b9).1 ?_
    refine XS.iloadN X1.here hx rfl (hb hby own_d4_33) rfl ?_
    refine XS.aloadN X1.here hx rfl (hb hby own_d4_34) rfl rfl ?_
    show oS p e below T1 m 35 #[oa a0, oa a1, oa b1, oi (0 : Int32), oi (0 : Int32)] [(.ref a0), (.int (0 : Int32))] _
    refine oLen X1 hx hZ e1 F5 (hb hby own_d4_35) ?_
    show oS p e below T1 m 36 #[oa a0, oa a1, oa b1, oi (0 : Int32), oi (0 : Int32)] [(.int (2 : Int32)), (.int (0 : Int32))] _
    refine XS.icmpNo X1.here hx rfl (hb hby own_d4_36) rfl (tlt b10).2.1 ?_
    refine XS.aloadN X1.here hx rfl (hb hby own_d4_39) rfl rfl ?_
    refine XS.iloadN X1.here hx rfl (hb hby own_d4_40) rfl ?_
    show oS p e below T1 m 41 #[oa a0, oa a1, oa b1, oi (0 : Int32), oi (0 : Int32)] [(.int (0 : Int32)), (.ref a0)] _
    refine oLdI X1 hx hZ e1 F5 (v := (.int x0)) ⟨by decide, by decide⟩ rfl (hb hby own_d4_41) ?_
    refine XS.aloadN X1.here hx rfl (hb hby own_d4_42) rfl rfl ?_
    refine XS.iload X1.here hx rfl (hb hby own_d4_43) rfl ?_
    show oS p e below T1 m 45 #[oa a0, oa a1, oa b1, oi (0 : Int32), oi (0 : Int32)] [(.int (0 : Int32)), (.ref a1), (.int x0)] _
    refine oLdI X1 hx hZ e1 F6 (v := (.int y0)) ⟨by decide, by decide⟩ rfl (hb hby own_d4_45) ?_
    show oS p e below T1 m 46 #[oa a0, oa a1, oa b1, oi (0 : Int32), oi (0 : Int32)] [(.int y0), (.int x0)] _
    refine XS.icmpNo X1.here hx rfl (hb hby own_d4_46) rfl (tlt b11).2.1 ?_
    refine XS.aloadN X1.here hx rfl (hb hby own_d4_49) rfl rfl ?_
    refine XS.iloadN X1.here hx rfl (hb hby own_d4_50) rfl ?_
    refine XS.iload X1.here hx rfl (hb hby own_d4_51) rfl ?_
    show oS p e below T1 m 53 #[oa a0, oa a1, oa b1, oi (0 : Int32), oi (0 : Int32)] [(.int (0 : Int32)), (.int (0 : Int32)), (.ref b1)] _
    refine XS.iadd X1.here hx rfl (hb hby own_d4_53) rfl ?_
    refine XS.aloadN X1.here hx rfl (hb hby own_d4_54) rfl rfl ?_
    refine XS.iloadN X1.here hx rfl (hb hby own_d4_55) rfl ?_
    show oS p e below T1 m 56 #[oa a0, oa a1, oa b1, oi (0 : Int32), oi (0 : Int32)] [(.int (0 : Int32)), (.ref a0), (.int (0 : Int32)), (.ref b1)] _
    refine oLdI X1 hx hZ e1 F5 (v := (.int x0)) ⟨by decide, by decide⟩ rfl (hb hby own_d4_56) ?_
    show oS p e below T1 m 57 #[oa a0, oa a1, oa b1, oi (0 : Int32), oi (0 : Int32)] [(.int x0), (.int (0 : Int32)), (.ref b1)] _
    refine st12 _ ?_
    show oS p e below T12 m 58 #[oa a0, oa a1, oa b1, oi (0 : Int32), oi (0 : Int32)] [] _
    refine XS.iinc X12.here hx rfl (hb hby own_d4_58) rfl (l' := #[oa a0, oa a1, oa b1, oi (1 : Int32), oi (0 : Int32)]) rfl ?_
    refine XS.goto X12.here hx rfl (pc0 := 61) (pc' := 13) rfl (hb hby own_d4_61) (by decide) (by decide) ?_
    refine XS.iloadN X12.here hx rfl (hb hby own_d4_13) rfl ?_
    refine XS.aloadN X12.here hx rfl (hb hby own_d4_14) rfl rfl ?_
    show oS p e below T12 m 15 #[oa a0, oa a1, oa b1, oi (1 : Int32), oi (0 : Int32)] [(.ref a0), (.int (1 : Int32))] _
    refine oLen X12 hx hZ e12 F13 (hb hby own_d4_15) ?_
    show oS p e below T12 m 16 #[oa a0, oa a1, oa b1, oi (1 : Int32), oi (0 : Int32)] [(.int (2 : Int32)), (.int (1 : Int32))] _
    refine XS.icmpYes X12.here hx rfl (pc0 := 16) (pc' := 26) rfl (hb hby own_d4_16) rfl (tlt b17).1 (by decide) (by decide) ?_
    refine XS.iload X12.here hx rfl (hb hby own_d4_26) rfl ?_
    refine XS.aloadN X12.here hx rfl (hb hby own_d4_28) rfl rfl ?_
    show oS p e below T12 m 29 #[oa a0, oa a1, oa b1, oi (1 : Int32), oi (0 : Int32)] [(.ref a1), (.int (0 : Int32))] _
    refine oLen X12 hx hZ e12 F14 (hb hby own_d4_29) ?_
    show oS p e below T12 m 30 #[oa a0, oa a1, oa b1, oi (1 : Int32), oi (0 : Int32)] [(.int (2 : Int32)), (.int (0 : Int32))] _
    refine XS.icmpNo X12.here hx rfl (hb hby own_d4_30) rfl (feq b18).1 ?_
    refine XS.iloadN X12.here hx rfl (hb hby own_d4_33) rfl ?_
    refine XS.aloadN X12.here hx rfl (hb hby own_d4_34) rfl rfl ?_
    show oS p e below T12 m 35 #[oa a0, oa a1, oa b1, oi (1 : Int32), oi (0 : Int32)] [(.ref a0), (.int (1 : Int32))] _
    refine oLen X12 hx hZ e12 F13 (hb hby own_d4_35) ?_
    show oS p e below T12 m 36 #[oa a0, oa a1, oa b1, oi (1 : Int32), oi (0 : Int32)] [(.int (2 : Int32)), (.int (1 : Int32))] _
    refine XS.icmpNo X12.here hx rfl (hb hby own_d4_36) rfl (tlt b19).2.1 ?_
    refine XS.aloadN X12.here hx rfl (hb hby own_d4_39) rfl rfl ?_
    refine XS.iloadN X12.here hx rfl (hb hby own_d4_40) rfl ?_
    show oS p e below T12 m 41 #[oa a0, oa a1, oa b1, oi (1 : Int32), oi (0 : Int32)] [(.int (1 : Int32)), (.ref a0)] _
    refine oLdI X12 hx hZ e12 F13 (v := (.int x1)) ⟨by decide, by decide⟩ rfl (hb hby own_d4_41) ?_
    refine XS.aloadN X12.here hx rfl (hb hby own_d4_42) rfl rfl ?_
    refine XS.iload X12.here hx rfl (hb hby own_d4_43) rfl ?_
    show oS p e below T12 m 45 #[oa a0, oa a1, oa b1, oi (1 : Int32), oi (0 : Int32)] [(.int (0 : Int32)), (.ref a1), (.int x1)] _
    refine oLdI X12 hx hZ e12 F14 (v := (.int y0)) ⟨by decide, by decide⟩ rfl (hb hby own_d4_45) ?_
    show oS p e below T12 m 46 #[oa a0, oa a1, oa b1, oi (1 : Int32), oi (0 : Int32)] [(.int y0), (.int x1)] _
    refine XS.icmpNo X12.here hx rfl (hb hby own_d4_46) rfl (tlt b20).2.1 ?_
    refine XS.aloadN X12.here hx rfl (hb hby own_d4_49) rfl rfl ?_
    refine XS.iloadN X12.here hx rfl (hb hby own_d4_50) rfl ?_
    refine XS.iload X12.here hx rfl (hb hby own_d4_51) rfl ?_
    show oS p e below T12 m 53 #[oa a0, oa a1, oa b1, oi (1 : Int32), oi (0 : Int32)] [(.int (0 : Int32)), (.int (1 : Int32)), (.ref b1)] _
    refine XS.iadd X12.here hx rfl (hb hby own_d4_53) rfl ?_
    refine XS.aloadN X12.here hx rfl (hb hby own_d4_54) rfl rfl ?_
    refine XS.iloadN X12.here hx rfl (hb hby own_d4_55) rfl ?_
    show oS p e below T12 m 56 #[oa a0, oa a1, oa b1, oi (1 : Int32), oi (0 : Int32)] [(.int (1 : Int32)), (.ref a0), (.int (1 : Int32)), (.ref b1)] _
    refine oLdI X12 hx hZ e12 F13 (v := (.int x1)) ⟨by decide, by decide⟩ rfl (hb hby own_d4_56) ?_
    show oS p e below T12 m 57 #[oa a0, oa a1, oa b1, oi (1 : Int32), oi (0 : Int32)] [(.int x1), (.int (1 : Int32)), (.ref b1)] _
    refine st21 _ ?_
    show oS p e below T21 m 58 #[oa a0, oa a1, oa b1, oi (1 : Int32), oi (0 : Int32)] [] _
    refine XS.iinc X21.here hx rfl (hb hby own_d4_58) rfl (l' := #[oa a0, oa a1, oa b1, oi (2 : Int32), oi (0 : Int32)]) rfl ?_
    refine XS.goto X21.here hx rfl (pc0 := 61) (pc' := 13) rfl (hb hby own_d4_61) (by decide) (by decide) ?_
    refine XS.iloadN X21.here hx rfl (hb hby own_d4_13) rfl ?_
    refine XS.aloadN X21.here hx rfl (hb hby own_d4_14) rfl rfl ?_
    show oS p e below T21 m 15 #[oa a0, oa a1, oa b1, oi (2 : Int32), oi (0 : Int32)] [(.ref a0), (.int (2 : Int32))] _
    refine oLen X21 hx hZ e21 F22 (hb hby own_d4_15) ?_
    show oS p e below T21 m 16 #[oa a0, oa a1, oa b1, oi (2 : Int32), oi (0 : Int32)] [(.int (2 : Int32)), (.int (2 : Int32))] _
    refine XS.icmpNo X21.here hx rfl (hb hby own_d4_16) rfl (flt b26).1 ?_
    refine XS.iload X21.here hx rfl (hb hby own_d4_19) rfl ?_
    refine XS.aloadN X21.here hx rfl (hb hby own_d4_21) rfl rfl ?_
    show oS p e below T21 m 22 #[oa a0, oa a1, oa b1, oi (2 : Int32), oi (0 : Int32)] [(.ref a1), (.int (0 : Int32))] _
    refine oLen X21 hx hZ e21 F23 (hb hby own_d4_22) ?_
    show oS p e below T21 m 23 #[oa a0, oa a1, oa b1, oi (2 : Int32), oi (0 : Int32)] [(.int (2 : Int32)), (.int (0 : Int32))] _
    refine XS.icmpNo X21.here hx rfl (hb hby own_d4_23) rfl (tlt b27).2.1 ?_
    refine XS.iload X21.here hx rfl (hb hby own_d4_26) rfl ?_
    refine XS.aloadN X21.here hx rfl (hb hby own_d4_28) rfl rfl ?_
    show oS p e below T21 m 29 #[oa a0, oa a1, oa b1, oi (2 : Int32), oi (0 : Int32)] [(.ref a1), (.int (0 : Int32))] _
    refine oLen X21 hx hZ e21 F23 (hb hby own_d4_29) ?_
    show oS p e below T21 m 30 #[oa a0, oa a1, oa b1, oi (2 : Int32), oi (0 : Int32)] [(.int (2 : Int32)), (.int (0 : Int32))] _
    refine XS.icmpNo X21.here hx rfl (hb hby own_d4_30) rfl (feq b28).1 ?_
    refine XS.iloadN X21.here hx rfl (hb hby own_d4_33) rfl ?_
    refine XS.aloadN X21.here hx rfl (hb hby own_d4_34) rfl rfl ?_
    show oS p e below T21 m 35 #[oa a0, oa a1, oa b1, oi (2 : Int32), oi (0 : Int32)] [(.ref a0), (.int (2 : Int32))] _
    refine oLen X21 hx hZ e21 F22 (hb hby own_d4_35) ?_
    show oS p e below T21 m 36 #[oa a0, oa a1, oa b1, oi (2 : Int32), oi (0 : Int32)] [(.int (2 : Int32)), (.int (2 : Int32))] _
    refine XS.icmpYes X21.here hx rfl (pc0 := 36) (pc' := 64) rfl (hb hby own_d4_36) rfl (flt b29).2.1 (by decide) (by decide) ?_
    refine XS.aloadN X21.here hx rfl (hb hby own_d4_64) rfl rfl ?_
    refine XS.iloadN X21.here hx rfl (hb hby own_d4_65) rfl ?_
    refine XS.iload X21.here hx rfl (hb hby own_d4_66) rfl ?_
    show oS p e below T21 m 68 #[oa a0, oa a1, oa b1, oi (2 : Int32), oi (0 : Int32)] [(.int (0 : Int32)), (.int (2 : Int32)), (.ref b1)] _
    refine XS.iadd X21.here hx rfl (hb hby own_d4_68) rfl ?_
    refine XS.aloadN X21.here hx rfl (hb hby own_d4_69) rfl rfl ?_
    refine XS.iload X21.here hx rfl (hb hby own_d4_70) rfl ?_
    show oS p e below T21 m 72 #[oa a0, oa a1, oa b1, oi (2 : Int32), oi (0 : Int32)] [(.int (0 : Int32)), (.ref a1), (.int (2 : Int32)), (.ref b1)] _
    refine oLdI X21 hx hZ e21 F23 (v := (.int y0)) ⟨by decide, by decide⟩ rfl (hb hby own_d4_72) ?_
    show oS p e below T21 m 73 #[oa a0, oa a1, oa b1, oi (2 : Int32), oi (0 : Int32)] [(.int y0), (.int (2 : Int32)), (.ref b1)] _
    refine st30 _ ?_
    show oS p e below T30 m 74 #[oa a0, oa a1, oa b1, oi (2 : Int32), oi (0 : Int32)] [] _
    refine XS.iinc X30.here hx rfl (hb hby own_d4_74) rfl (l' := #[oa a0, oa a1, oa b1, oi (2 : Int32), oi (1 : Int32)]) rfl ?_
    refine XS.goto X30.here hx rfl (pc0 := 77) (pc' := 13) rfl (hb hby own_d4_77) (by decide) (by decide) ?_
    refine XS.iloadN X30.here hx rfl (hb hby own_d4_13) rfl ?_
    refine XS.aloadN X30.here hx rfl (hb hby own_d4_14) rfl rfl ?_
    show oS p e below T30 m 15 #[oa a0, oa a1, oa b1, oi (2 : Int32), oi (1 : Int32)] [(.ref a0), (.int (2 : Int32))] _
    refine oLen X30 hx hZ e30 F31 (hb hby own_d4_15) ?_
    show oS p e below T30 m 16 #[oa a0, oa a1, oa b1, oi (2 : Int32), oi (1 : Int32)] [(.int (2 : Int32)), (.int (2 : Int32))] _
    refine XS.icmpNo X30.here hx rfl (hb hby own_d4_16) rfl (flt b35).1 ?_
    refine XS.iload X30.here hx rfl (hb hby own_d4_19) rfl ?_
    refine XS.aloadN X30.here hx rfl (hb hby own_d4_21) rfl rfl ?_
    show oS p e below T30 m 22 #[oa a0, oa a1, oa b1, oi (2 : Int32), oi (1 : Int32)] [(.ref a1), (.int (1 : Int32))] _
    refine oLen X30 hx hZ e30 F32 (hb hby own_d4_22) ?_
    show oS p e below T30 m 23 #[oa a0, oa a1, oa b1, oi (2 : Int32), oi (1 : Int32)] [(.int (2 : Int32)), (.int (1 : Int32))] _
    refine XS.icmpNo X30.here hx rfl (hb hby own_d4_23) rfl (tlt b36).2.1 ?_
    refine XS.iload X30.here hx rfl (hb hby own_d4_26) rfl ?_
    refine XS.aloadN X30.here hx rfl (hb hby own_d4_28) rfl rfl ?_
    show oS p e below T30 m 29 #[oa a0, oa a1, oa b1, oi (2 : Int32), oi (1 : Int32)] [(.ref a1), (.int (1 : Int32))] _
    refine oLen X30 hx hZ e30 F32 (hb hby own_d4_29) ?_
    show oS p e below T30 m 30 #[oa a0, oa a1, oa b1, oi (2 : Int32), oi (1 : Int32)] [(.int (2 : Int32)), (.int (1 : Int32))] _
    refine XS.icmpNo X30.here hx rfl (hb hby own_d4_30) rfl (feq b37).1 ?_
    refine XS.iloadN X30.here hx rfl (hb hby own_d4_33) rfl ?_
    refine XS.aloadN X30.here hx rfl (hb hby own_d4_34) rfl rfl ?_
    show oS p e below T30 m 35 #[oa a0, oa a1, oa b1, oi (2 : Int32), oi (1 : Int32)] [(.ref a0), (.int (2 : Int32))] _
    refine oLen X30 hx hZ e30 F31 (hb hby own_d4_35) ?_
    show oS p e below T30 m 36 #[oa a0, oa a1, oa b1, oi (2 : Int32), oi (1 : Int32)] [(.int (2 : Int32)), (.int (2 : Int32))] _
    refine XS.icmpYes X30.here hx rfl (pc0 := 36) (pc' := 64) rfl (hb hby own_d4_36) rfl (flt b38).2.1 (by decide) (by decide) ?_
    refine XS.aloadN X30.here hx rfl (hb hby own_d4_64) rfl rfl ?_
    refine XS.iloadN X30.here hx rfl (hb hby own_d4_65) rfl ?_
    refine XS.iload X30.here hx rfl (hb hby own_d4_66) rfl ?_
    show oS p e below T30 m 68 #[oa a0, oa a1, oa b1, oi (2 : Int32), oi (1 : Int32)] [(.int (1 : Int32)), (.int (2 : Int32)), (.ref b1)] _
    refine XS.iadd X30.here hx rfl (hb hby own_d4_68) rfl ?_
    refine XS.aloadN X30.here hx rfl (hb hby own_d4_69) rfl rfl ?_
    refine XS.iload X30.here hx rfl (hb hby own_d4_70) rfl ?_
    show oS p e below T30 m 72 #[oa a0, oa a1, oa b1, oi (2 : Int32), oi (1 : Int32)] [(.int (1 : Int32)), (.ref a1), (.int (3 : Int32)), (.ref b1)] _
    refine oLdI X30 hx hZ e30 F32 (v := (.int y1)) ⟨by decide, by decide⟩ rfl (hb hby own_d4_72) ?_
    show oS p e below T30 m 73 #[oa a0, oa a1, oa b1, oi (2 : Int32), oi (1 : Int32)] [(.int y1), (.int (3 : Int32)), (.ref b1)] _
    refine st39 _ ?_
    show oS p e below T39 m 74 #[oa a0, oa a1, oa b1, oi (2 : Int32), oi (1 : Int32)] [] _
    refine XS.iinc X39.here hx rfl (hb hby own_d4_74) rfl (l' := #[oa a0, oa a1, oa b1, oi (2 : Int32), oi (2 : Int32)]) rfl ?_
    refine XS.goto X39.here hx rfl (pc0 := 77) (pc' := 13) rfl (hb hby own_d4_77) (by decide) (by decide) ?_
    refine XS.iloadN X39.here hx rfl (hb hby own_d4_13) rfl ?_
    refine XS.aloadN X39.here hx rfl (hb hby own_d4_14) rfl rfl ?_
    show oS p e below T39 m 15 #[oa a0, oa a1, oa b1, oi (2 : Int32), oi (2 : Int32)] [(.ref a0), (.int (2 : Int32))] _
    refine oLen X39 hx hZ e39 F40 (hb hby own_d4_15) ?_
    show oS p e below T39 m 16 #[oa a0, oa a1, oa b1, oi (2 : Int32), oi (2 : Int32)] [(.int (2 : Int32)), (.int (2 : Int32))] _
    refine XS.icmpNo X39.here hx rfl (hb hby own_d4_16) rfl (flt b44).1 ?_
    refine XS.iload X39.here hx rfl (hb hby own_d4_19) rfl ?_
    refine XS.aloadN X39.here hx rfl (hb hby own_d4_21) rfl rfl ?_
    show oS p e below T39 m 22 #[oa a0, oa a1, oa b1, oi (2 : Int32), oi (2 : Int32)] [(.ref a1), (.int (2 : Int32))] _
    refine oLen X39 hx hZ e39 F41 (hb hby own_d4_22) ?_
    show oS p e below T39 m 23 #[oa a0, oa a1, oa b1, oi (2 : Int32), oi (2 : Int32)] [(.int (2 : Int32)), (.int (2 : Int32))] _
    refine XS.icmpYes X39.here hx rfl (pc0 := 23) (pc' := 80) rfl (hb hby own_d4_23) rfl (flt b45).2.1 (by decide) (by decide) ?_
    refine XS.aloadN X39.here hx rfl (hb hby own_d4_80) rfl rfl ?_
    show oS p e below T39 m 81 #[oa a0, oa a1, oa b1, oi (2 : Int32), oi (2 : Int32)] [(.ref b1)] _
    exact retOut X39 hx Bd.returns rfl (Or.inr (Or.inr (Or.inr (Or.inr ⟨rfl, rfl, rfl⟩)))) (hb hby own_d4_81) hr
  · show own_Q4_22xxyy Z a0 a1 k_a0 x0 x1 k_a1 y0 y1 h0 n0 _ T39.heap _
    rw [e39]
    exact ⟨b1, k1, rfl, N39, K_43, sz_b1, V_42⟩
theorem own_ef4_22xyxy (m : MethodId) (a0 : Addr) (a1 : Addr) : entryFrame m #[(.ref a0), (.ref a1)] 5 = mkF m 0 #[oa a0, oa a1, .unset, .unset, .unset] [] := by first | (simp [entryFrame, mkF, argsToLocals, Value.category]; done) | rfl
def own_Q4_22xyxy (Z : State) (a0 : Addr) (a1 : Addr) (k_a0 : ClassId) (x0 : Int32) (x1 : Int32) (k_a1 : ClassId) (y0 : Int32) (y1 : Int32) (h0 : Heap) (n0 : Nat) (v : Option Value) (h : Heap) (L : List Loc) : Prop := ∃ (u : Addr) (k_u : ClassId), v = some (.ref u) ∧ Fr n0 L ∧ Keep h0 h [] ∧ h0.size ≤ u ∧ Arv Z h u k_u .int (4 : Int32) [(.int x0), (.int y0), (.int x1), (.int y1)] (.int (0 : Int32))
set_option maxRecDepth 65536 in
set_option maxHeartbeats 40000000 in
theorem own_rm4_22xyxy (l : Launch) (Z : State) (av : Array Value) (hw : ∀ d ∈ tables_1, d.before av Z = true) (ws : List Jvm.Cond) (a0 : Addr) (a1 : Addr) (k_a0 : ClassId) (x0 : Int32) (x1 : Int32) (k_a1 : ClassId) (y0 : Int32) (y1 : Int32) (h0 : Heap) (n0 : Nat) (Z0 : n0 ≤ h0.size) (V_a0 : Arv Z h0 a0 k_a0 .int (2 : Int32) [(.int x0), (.int x1)] (.int (0 : Int32))) (V_a1 : Arv Z h0 a1 k_a1 .int (2 : Int32) [(.int y0), (.int y1)] (.int (0 : Int32))) (c_x0_y0 : x0 < y0) (c_x1_y0 : ¬ (x1 < y0)) (c_x1_y1 : x1 < y1) :
    MetFree l (⟨"com/example/strict_anon/strictanon/service/RecordSets", "union", "([I[I)[I"⟩ : MethodName) (head1 (Jvm.Cond.code (⟨"com/example/strict_anon/strictanon/service/RecordSets", "union", "([I[I)[I"⟩ : MethodName) prog_30_method_2_code 5 (some (.array .int)) :: ws) ({ frames := 0, cells := 1, slots := 4, locals := 0 } : Room)) (fun a U => a = #[(.ref a0), (.ref a1)] ∧ Z.Warmed39 U.vm ∧ U.heap = h0) (fun _ _ _ _ _ => True) (fun _ U o U' => ∃ v L, o = .returned v ∧ own_Q4_22xyxy Z a0 a1 k_a0 x0 x1 k_a1 y0 y1 h0 n0 v U'.heap L ∧ FrameEnd U o U' L ({ frames := 0, cells := 1, slots := 4, locals := 0 } : Room).cells ({ frames := 0, cells := 1, slots := 4, locals := 0 } : Room).slots) := by
  refine MetFree.of_bodySF (plainFor_of_name own_pn1) hisR ?_
  intro p e s m args below meth c s₁ Bd hml0 hP hK
  obtain ⟨rfl, hZ, hh⟩ := hP
  have hx := Bd.exec
  have hby := Bd.bytes
  have hml : c.maxLocals = 5 := hml0
  have hown : s.vm.findClass "com/example/strict_anon/strictanon/service/RecordSets" = some m.cls := findClass_of_methodNamed Bd.named
  have hnm := (name_of_methodNamed Bd.named Bd.method).1
  have X0 : Stand p l e ({ frames := 0, cells := 1, slots := 4, locals := 0 } : Room) s m #[(.ref a0), (.ref a1)] below meth c s₁ [] 0 0 := Stand.of_body Bd
  have e0 : s₁.heap = h0 := by rw [← hh, Bd.state]; rfl
  have N0 := Fr.nil n0
  have pre0 : ∀ t, Steps p.tables e below (s₁.setTop (mkF m 0 #[oa a0, oa a1, .unset, .unset, .unset] [])) t → Steps p.tables e below (s₁.setTop (entryFrame m #[(.ref a0), (.ref a1)] 5)) t := fun t k => castTop (own_ef4_22xyxy m a0 a1) k
  obtain ⟨T1, h1, k1, X1, e1, E1, A1, st1⟩ := newP X0 hx hZ (hw _ (List.mem_of_getElem? (i := 8) rfl)) e0 (g := (mkF m 5 #[oa a0, oa a1, .unset, .unset, .unset] [(.int (4 : Int32))])) rfl (hb hby own_d4_5) rfl (by decide) (cap := 4) (by decide) (by decide) (by decide) (by decide)
  obtain ⟨b1, g1⟩ : ∃ z, z = h0.size := ⟨_, rfl⟩
  rw [← g1] at A1 st1
  have g_b1 : n0 ≤ b1 := Nat.le_trans Z0 (Nat.le_of_eq g1.symm)
  have ne2 : a0 ≠ b1 := Nat.ne_of_lt (Nat.lt_of_lt_of_le V_a0.lt (Nat.le_of_eq g1.symm))
  have ne3 : a1 ≠ b1 := Nat.ne_of_lt (Nat.lt_of_lt_of_le V_a1.lt (Nat.le_of_eq g1.symm))
  have Z1 : n0 ≤ h1.size := Nat.le_trans Z0 E1.1
  have sz_b1 : h0.size ≤ b1 := Nat.le_trans (Keep.refl h0 []).1 (Nat.le_of_eq g1.symm)
  have K_4 : Keep h0 h1 [] := (Keep.refl h0 []).ext E1
  have F5 := V_a0.ext E1
  have F6 := V_a1.ext E1
  have V_7 : Arv Z h1 b1 k1 .int (4 : Int32) [(.int (0 : Int32)), (.int (0 : Int32)), (.int (0 : Int32)), (.int (0 : Int32))] (.int (0 : Int32)) := (Arv.new A1 (by decide)).pad (pad_rep [] (.int (0 : Int32)) 4)
  have b8 : (0 : Int32) < (2 : Int32) := (by decide)
  have b9 : ¬ ((0 : Int32) = (2 : Int32)) := (by decide)
  have b10 : (0 : Int32) < (2 : Int32) := (by decide)
  have b11 : x0 < y0 := c_x0_y0
  obtain ⟨T12, h12, X12, e12, W12, V12, st12⟩ := oStI X1 hx hZ e1 V_7 (j := (0 : Int32)) ⟨by decide, by decide⟩ 0 rfl (Nat.le_of_ble_eq_true rfl) (g := (mkF m 57 #[oa a0, oa a1, oa b1, oi (0 : Int32), oi (0 : Int32)] [(.int x0), (.int (0 : Int32)), (.ref b1)])) rfl rfl (hb hby own_d4_57)
  obtain ⟨Lo12, X12, N12⟩ := oOpq X12 (Fr.snoc X12 N0 g_b1)
  have Z12 := Nat.le_trans Z1 (Keep.of_wr W12).1
  have F13 := F5.other W12 ne2
  have F14 := F6.other W12 ne3
  have V_15 : Arv Z h12 b1 k1 .int (4 : Int32) [(.int x0), (.int (0 : Int32)), (.int (0 : Int32)), (.int (0 : Int32))] (.int (0 : Int32)) := V12
  have K_16 : Keep h0 h12 [] := K_4.wr W12 (Or.inr sz_b1)
  have b17 : (1 : Int32) < (2 : Int32) := (by decide)
  have b18 : ¬ ((0 : Int32) = (2 : Int32)) := (by decide)
  have b19 : (1 : Int32) < (2 : Int32) := (by decide)
  have b20 : ¬ (x1 < y0) := c_x1_y0
  obtain ⟨T21, h21, X21, e21, W21, V21, st21⟩ := oStI X12 hx hZ e12 V_15 (j := (1 : Int32)) ⟨by decide, by decide⟩ 1 rfl (Nat.le_of_ble_eq_true rfl) (g := (mkF m 73 #[oa a0, oa a1, oa b1, oi (1 : Int32), oi (0 : Int32)] [(.int y0), (.int (1 : Int32)), (.ref b1)])) rfl rfl (hb hby own_d4_73)
  obtain ⟨Lo21, X21, N21⟩ := oOpq X21 (Fr.snoc X21 N12 g_b1)
  have Z21 := Nat.le_trans Z12 (Keep.of_wr W21).1
  have F22 := F13.other W21 ne2
  have F23 := F14.other W21 ne3
  have V_24 : Arv Z h21 b1 k1 .int (4 : Int32) [(.int x0), (.int y0), (.int (0 : Int32)), (.int (0 : Int32))] (.int (0 : Int32)) := V21
  have K_25 : Keep h0 h21 [] := K_16.wr W21 (Or.inr sz_b1)
  have b26 : (1 : Int32) < (2 : Int32) := (by decide)
  have b27 : ¬ ((1 : Int32) = (2 : Int32)) := (by decide)
  have b28 : (1 : Int32) < (2 : Int32) := (by decide)
  have b29 : x1 < y1 := c_x1_y1
  obtain ⟨T30, h30, X30, e30, W30, V30, st30⟩ := oStI X21 hx hZ e21 V_24 (j := (2 : Int32)) ⟨by decide, by decide⟩ 2 rfl (Nat.le_of_ble_eq_true rfl) (g := (mkF m 57 #[oa a0, oa a1, oa b1, oi (1 : Int32), oi (1 : Int32)] [(.int x1), (.int (2 : Int32)), (.ref b1)])) rfl rfl (hb hby own_d4_57)
  obtain ⟨Lo30, X30, N30⟩ := oOpq X30 (Fr.snoc X30 N21 g_b1)
  have Z30 := Nat.le_trans Z21 (Keep.of_wr W30).1
  have F31 := F22.other W30 ne2
  have F32 := F23.other W30 ne3
  have V_33 : Arv Z h30 b1 k1 .int (4 : Int32) [(.int x0), (.int y0), (.int x1), (.int (0 : Int32))] (.int (0 : Int32)) := V30
  have K_34 : Keep h0 h30 [] := K_25.wr W30 (Or.inr sz_b1)
  have b35 : ¬ ((2 : Int32) < (2 : Int32)) := (by decide)
  have b36 : (1 : Int32) < (2 : Int32) := (by decide)
  have b37 : ¬ ((1 : Int32) = (2 : Int32)) := (by decide)
  have b38 : ¬ ((2 : Int32) < (2 : Int32)) := (by decide)
  obtain ⟨T39, h39, X39, e39, W39, V39, st39⟩ := oStI X30 hx hZ e30 V_33 (j := (3 : Int32)) ⟨by decide, by decide⟩ 3 rfl (Nat.le_of_ble_eq_true rfl) (g := (mkF m 73 #[oa a0, oa a1, oa b1, oi (2 : Int32), oi (1 : Int32)] [(.int y1), (.int (3 : Int32)), (.ref b1)])) rfl rfl (hb hby own_d4_73)
  obtain ⟨Lo39, X39, N39⟩ := oOpq X39 (Fr.snoc X39 N30 g_b1)
  have Z39 := Nat.le_trans Z30 (Keep.of_wr W39).1
  have F40 := F31.other W39 ne2
  have F41 := F32.other W39 ne3
  have V_42 : Arv Z h39 b1 k1 .int (4 : Int32) [(.int x0), (.int y0), (.int x1), (.int y1)] (.int (0 : Int32)) := V39
  have K_43 : Keep h0 h39 [] := K_34.wr W39 (Or.inr sz_b1)
  have b44 : ¬ ((2 : Int32) < (2 : Int32)) := (by decide)
  have b45 : ¬ ((2 : Int32) < (2 : Int32)) := (by decide)
  obtain ⟨fs, hr, hrun, hended, hW, hsame⟩ := X39.leave (v := (some (.ref b1))) (fun h => by rw [Bd.returns] at h; cases h)
  refine ⟨_, _, pre0 _ ?_, hrun, hended, _, _, rfl, ?_, ⟨_, rfl⟩, hW, hsame.mono (by decide) (by decide)⟩
  · show oS p e below s₁ m 0 #[oa a0, oa a1, .unset, .unset, .unset] [] _
    refine XS.aloadN X0.here hx rfl (hb hby own_d4_0) rfl rfl ?_
    show oS p e below s₁ m 1 #[oa a0, oa a1, .unset, .unset, .unset] [(.ref a0)] _
    refine oLen X0 hx hZ e0 V_a0 (hb hby own_d4_1) ?_
    refine XS.aloadN X0.here hx rfl (hb hby own_d4_2) rfl rfl ?_
    show oS p e below s₁ m 3 #[oa a0, oa a1, .unset, .unset, .unset] [(.ref a1), (.int (2 : Int32))] _
    refine oLen X0 hx hZ e0 V_a1 (hb hby own_d4_3) ?_
    refine XS.iadd X0.here hx rfl (hb hby own_d4_4) rfl ?_
    show oS p e below s₁ m 5 #[oa a0, oa a1, .unset, .unset, .unset] [(.int (4 : Int32))] _
    refine st1 _ ?_
    show oS p e below T1 m 7 #[oa a0, oa a1, .unset, .unset, .unset] [(.ref b1)] _
    refine XS.astoreN X1.here hx rfl (hb hby own_d4_7) rfl rfl (l' := #[oa a0, oa a1, oa b1, .unset, .unset]) rfl ?_
    refine XS.iconst X1.here hx rfl (hb hby own_d4_8) ?_
    refine XS.istoreN X1.here hx rfl (hb hby own_d4_9) rfl (l' := #[oa a0, oa a1, oa b1, oi (0 : Int32), .unset]) rfl ?_
    refine XS.iconst X1.here hx rfl (hb hby own_d4_10) ?_
    show oS p e below T1 m 11 #[oa a0, oa a1, oa b1, oi (0 : Int32), .unset] [(.int (0 : Int32))] _
    refine XS.istore X1.here hx rfl (hb hby own_d4_11) rfl (l' := #[oa a0, oa a1, oa b1, oi (0 : Int32), oi (0 : Int32)]) rfl ?_
    refine XS.iloadN X1.here hx rfl (hb hby own_d4_13) rfl ?_
    refine XS.aloadN X1.here hx rfl (hb hby own_d4_14) rfl rfl ?_
    show oS p e below T1 m 15 #[oa a0, oa a1, oa b1, oi (0 : Int32), oi (0 : Int32)] [(.ref a0), (.int (0 : Int32))] _
    refine oLen X1 hx hZ e1 F5 (hb hby own_d4_15) ?_
    show oS p e below T1 m 16 #[oa a0, oa a1, oa b1, oi (0 : Int32), oi (0 : Int32)] [(.int (2 : Int32)), (.int (0 : Int32))] _
    refine XS.icmpYes X1.here hx rfl (pc0 := 16) (pc' := 26) rfl (hb hby own_d4_16) rfl (tlt b8).1 (by decide) (by decide) ?_
    refine XS.iload X1.here hx rfl (hb hby own_d4_26) rfl ?_
    refine XS.aloadN X1.here hx rfl (hb hby own_d4_28) rfl rfl ?_
    show oS p e below T1 m 29 #[oa a0, oa a1, oa b1, oi (0 : Int32), oi (0 : Int32)] [(.ref a1), (.int (0 : Int32))] _
    refine oLen X1 hx hZ e1 F6 (hb hby own_d4_29) ?_
    show oS p e below T1 m 30 #[oa a0, oa a1, oa b1, oi (0 : Int32), oi (0 : Int32)] [(.int (2 : Int32)), (.int (0 : Int32))] _
    refine XS.icmpNo X1.here hx rfl (hb hby own_d4_30) rfl (feq b9).1 ?_
    refine XS.iloadN X1.here hx rfl (hb hby own_d4_33) rfl ?_
    refine XS.aloadN X1.here hx rfl (hb hby own_d4_34) rfl rfl ?_
    show oS p e below T1 m 35 #[oa a0, oa a1, oa b1, oi (0 : Int32), oi (0 : Int32)] [(.ref a0), (.int (0 : Int32))] _
    refine oLen X1 hx hZ e1 F5 (hb hby own_d4_35) ?_
    show oS p e below T1 m 36 #[oa a0, oa a1, oa b1, oi (0 : Int32), oi (0 : Int32)] [(.int (2 : Int32)), (.int (0 : Int32))] _
    refine XS.icmpNo X1.here hx rfl (hb hby own_d4_36) rfl (tlt b10).2.1 ?_
    refine XS.aloadN X1.here hx rfl (hb hby own_d4_39) rfl rfl ?_
    refine XS.iloadN X1.here hx rfl (hb hby own_d4_40) rfl ?_
    show oS p e below T1 m 41 #[oa a0, oa a1, oa b1, oi (0 : Int32), oi (0 : Int32)] [(.int (0 : Int32)), (.ref a0)] _
    refine oLdI X1 hx hZ e1 F5 (v := (.int x0)) ⟨by decide, by decide⟩ rfl (hb hby own_d4_41) ?_
    refine XS.aloadN X1.here hx rfl (hb hby own_d4_42) rfl rfl ?_
    refine XS.iload X1.here hx rfl (hb hby own_d4_43) rfl ?_
    show oS p e below T1 m 45 #[oa a0, oa a1, oa b1, oi (0 : Int32), oi (0 : Int32)] [(.int (0 : Int32)), (.ref a1), (.int x0)] _
    refine oLdI X1 hx hZ e1 F6 (v := (.int y0)) ⟨by decide, by decide⟩ rfl (hb hby own_d4_45) ?_
    show oS p e below T1 m 46 #[oa a0, oa a1, oa b1, oi (0 : Int32), oi (0 : Int32)] [(.int y0), (.int x0)] _
    refine XS.icmpNo X1.here hx rfl (hb hby own_d4_46) rfl (tlt b11).2.1 ?_
    refine XS.aloadN X1.here hx rfl (hb hby own_d4_49) rfl rfl ?_
    refine XS.iloadN X1.here hx rfl (hb hby own_d4_50) rfl ?_
    refine XS.iload X1.here hx rfl (hb hby own_d4_51) rfl ?_
    show oS p e below T1 m 53 #[oa a0, oa a1, oa b1, oi (0 : Int32), oi (0 : Int32)] [(.int (0 : Int32)), (.int (0 : Int32)), (.ref b1)] _
    refine XS.iadd X1.here hx rfl (hb hby own_d4_53) rfl ?_
    refine XS.aloadN X1.here hx rfl (hb hby own_d4_54) rfl rfl ?_
    refine XS.iloadN X1.here hx rfl (hb hby own_d4_55) rfl ?_
    show oS p e below T1 m 56 #[oa a0, oa a1, oa b1, oi (0 : Int32), oi (0 : Int32)] [(.int (0 : Int32)), (.ref a0), (.int (0 : Int32)), (.ref b1)] _
    refine oLdI X1 hx hZ e1 F5 (v := (.int x0)) ⟨by decide, by decide⟩ rfl (hb hby own_d4_56) ?_
    show oS p e below T1 m 57 #[oa a0, oa a1, oa b1, oi (0 : Int32), oi (0 : Int32)] [(.int x0), (.int (0 : Int32)), (.ref b1)] _
    refine st12 _ ?_
    show oS p e below T12 m 58 #[oa a0, oa a1, oa b1, oi (0 : Int32), oi (0 : Int32)] [] _
    refine XS.iinc X12.here hx rfl (hb hby own_d4_58) rfl (l' := #[oa a0, oa a1, oa b1, oi (1 : Int32), oi (0 : Int32)]) rfl ?_
    refine XS.goto X12.here hx rfl (pc0 := 61) (pc' := 13) rfl (hb hby own_d4_61) (by decide) (by decide) ?_
    refine XS.iloadN X12.here hx rfl (hb hby own_d4_13) rfl ?_
    refine XS.aloadN X12.here hx rfl (hb hby own_d4_14) rfl rfl ?_
    show oS p e below T12 m 15 #[oa a0, oa a1, oa b1, oi (1 : Int32), oi (0 : Int32)] [(.ref a0), (.int (1 : Int32))] _
    refine oLen X12 hx hZ e12 F13 (hb hby own_d4_15) ?_
    show oS p e below T12 m 16 #[oa a0, oa a1, oa b1, oi (1 : Int32), oi (0 : Int32)] [(.int (2 : Int32)), (.int (1 : Int32))] _
    refine XS.icmpYes X12.here hx rfl (pc0 := 16) (pc' := 26) rfl (hb hby own_d4_16) rfl (tlt b17).1 (by decide) (by decide) ?_
    refine XS.iload X12.here hx rfl (hb hby own_d4_26) rfl ?_
    refine XS.aloadN X12.here hx rfl (hb hby own_d4_28) rfl rfl ?_
    show oS p e below T12 m 29 #[oa a0, oa a1, oa b1, oi (1 : Int32), oi (0 : Int32)] [(.ref a1), (.int (0 : Int32))] _
    refine oLen X12 hx hZ e12 F14 (hb hby own_d4_29) ?_
    show oS p e below T12 m 30 #[oa a0, oa a1, oa b1, oi (1 : Int32), oi (0 : Int32)] [(.int (2 : Int32)), (.int (0 : Int32))] _
    refine XS.icmpNo X12.here hx rfl (hb hby own_d4_30) rfl (feq b18).1 ?_
    refine XS.iloadN X12.here hx rfl (hb hby own_d4_33) rfl ?_
    refine XS.aloadN X12.here hx rfl (hb hby own_d4_34) rfl rfl ?_
    show oS p e below T12 m 35 #[oa a0, oa a1, oa b1, oi (1 : Int32), oi (0 : Int32)] [(.ref a0), (.int (1 : Int32))] _
    refine oLen X12 hx hZ e12 F13 (hb hby own_d4_35) ?_
    show oS p e below T12 m 36 #[oa a0, oa a1, oa b1, oi (1 : Int32), oi (0 : Int32)] [(.int (2 : Int32)), (.int (1 : Int32))] _
    refine XS.icmpNo X12.here hx rfl (hb hby own_d4_36) rfl (tlt b19).2.1 ?_
    refine XS.aloadN X12.here hx rfl (hb hby own_d4_39) rfl rfl ?_
    refine XS.iloadN X12.here hx rfl (hb hby own_d4_40) rfl ?_
    show oS p e below T12 m 41 #[oa a0, oa a1, oa b1, oi (1 : Int32), oi (0 : Int32)] [(.int (1 : Int32)), (.ref a0)] _
    refine oLdI X12 hx hZ e12 F13 (v := (.int x1)) ⟨by decide, by decide⟩ rfl (hb hby own_d4_41) ?_
    refine XS.aloadN X12.here hx rfl (hb hby own_d4_42) rfl rfl ?_
    refine XS.iload X12.here hx rfl (hb hby own_d4_43) rfl ?_
    show oS p e below T12 m 45 #[oa a0, oa a1, oa b1, oi (1 : Int32), oi (0 : Int32)] [(.int (0 : Int32)), (.ref a1), (.int x1)] _
    refine oLdI X12 hx hZ e12 F14 (v := (.int y0)) ⟨by decide, by decide⟩ rfl (hb hby own_d4_45) ?_
    show oS p e below T12 m 46 #[oa a0, oa a1, oa b1, oi (1 : Int32), oi (0 : Int32)] [(.int y0), (.int x1)] _
    refine XS.icmpYes X12.here hx rfl (pc0 := 46) (pc' := 64) rfl (hb hby own_d4_46) rfl (flt b20).2.1 (by decide) (by decide) ?_
    refine XS.aloadN X12.here hx rfl (hb hby own_d4_64) rfl rfl ?_
    refine XS.iloadN X12.here hx rfl (hb hby own_d4_65) rfl ?_
    refine XS.iload X12.here hx rfl (hb hby own_d4_66) rfl ?_
    show oS p e below T12 m 68 #[oa a0, oa a1, oa b1, oi (1 : Int32), oi (0 : Int32)] [(.int (0 : Int32)), (.int (1 : Int32)), (.ref b1)] _
    refine XS.iadd X12.here hx rfl (hb hby own_d4_68) rfl ?_
    refine XS.aloadN X12.here hx rfl (hb hby own_d4_69) rfl rfl ?_
    refine XS.iload X12.here hx rfl (hb hby own_d4_70) rfl ?_
    show oS p e below T12 m 72 #[oa a0, oa a1, oa b1, oi (1 : Int32), oi (0 : Int32)] [(.int (0 : Int32)), (.ref a1), (.int (1 : Int32)), (.ref b1)] _
    refine oLdI X12 hx hZ e12 F14 (v := (.int y0)) ⟨by decide, by decide⟩ rfl (hb hby own_d4_72) ?_
    show oS p e below T12 m 73 #[oa a0, oa a1, oa b1, oi (1 : Int32), oi (0 : Int32)] [(.int y0), (.int (1 : Int32)), (.ref b1)] _
    refine st21 _ ?_
    show oS p e below T21 m 74 #[oa a0, oa a1, oa b1, oi (1 : Int32), oi (0 : Int32)] [] _
    refine XS.iinc X21.here hx rfl (hb hby own_d4_74) rfl (l' := #[oa a0, oa a1, oa b1, oi (1 : Int32), oi (1 : Int32)]) rfl ?_
    refine XS.goto X21.here hx rfl (pc0 := 77) (pc' := 13) rfl (hb hby own_d4_77) (by decide) (by decide) ?_
    refine XS.iloadN X21.here hx rfl (hb hby own_d4_13) rfl ?_
    refine XS.aloadN X21.here hx rfl (hb hby own_d4_14) rfl rfl ?_
    show oS p e below T21 m 15 #[oa a0, oa a1, oa b1, oi (1 : Int32), oi (1 : Int32)] [(.ref a0), (.int (1 : Int32))] _
    refine oLen X21 hx hZ e21 F22 (hb hby own_d4_15) ?_
    show oS p e below T21 m 16 #[oa a0, oa a1, oa b1, oi (1 : Int32), oi (1 : Int32)] [(.int (2 : Int32)), (.int (1 : Int32))] _
    refine XS.icmpYes X21.here hx rfl (pc0 := 16) (pc' := 26) rfl (hb hby own_d4_16) rfl (tlt b26).1 (by decide) (by decide) ?_
    refine XS.iload X21.here hx rfl (hb hby own_d4_26) rfl ?_
    refine XS.aloadN X21.here hx rfl (hb hby own_d4_28) rfl rfl ?_
    show oS p e below T21 m 29 #[oa a0, oa a1, oa b1, oi (1 : Int32), oi (1 : Int32)] [(.ref a1), (.int (1 : Int32))] _
    refine oLen X21 hx hZ e21 F23 (hb hby own_d4_29) ?_
    show oS p e below T21 m 30 #[oa a0, oa a1, oa b1, oi (1 : Int32), oi (1 : Int32)] [(.int (2 : Int32)), (.int (1 : Int32))] _
    refine XS.icmpNo X21.here hx rfl (hb hby own_d4_30) rfl (feq b27).1 ?_
    refine XS.iloadN X21.here hx rfl (hb hby own_d4_33) rfl ?_
    refine XS.aloadN X21.here hx rfl (hb hby own_d4_34) rfl rfl ?_
    show oS p e below T21 m 35 #[oa a0, oa a1, oa b1, oi (1 : Int32), oi (1 : Int32)] [(.ref a0), (.int (1 : Int32))] _
    refine oLen X21 hx hZ e21 F22 (hb hby own_d4_35) ?_
    show oS p e below T21 m 36 #[oa a0, oa a1, oa b1, oi (1 : Int32), oi (1 : Int32)] [(.int (2 : Int32)), (.int (1 : Int32))] _
    refine XS.icmpNo X21.here hx rfl (hb hby own_d4_36) rfl (tlt b28).2.1 ?_
    refine XS.aloadN X21.here hx rfl (hb hby own_d4_39) rfl rfl ?_
    refine XS.iloadN X21.here hx rfl (hb hby own_d4_40) rfl ?_
    show oS p e below T21 m 41 #[oa a0, oa a1, oa b1, oi (1 : Int32), oi (1 : Int32)] [(.int (1 : Int32)), (.ref a0)] _
    refine oLdI X21 hx hZ e21 F22 (v := (.int x1)) ⟨by decide, by decide⟩ rfl (hb hby own_d4_41) ?_
    refine XS.aloadN X21.here hx rfl (hb hby own_d4_42) rfl rfl ?_
    refine XS.iload X21.here hx rfl (hb hby own_d4_43) rfl ?_
    show oS p e below T21 m 45 #[oa a0, oa a1, oa b1, oi (1 : Int32), oi (1 : Int32)] [(.int (1 : Int32)), (.ref a1), (.int x1)] _
    refine oLdI X21 hx hZ e21 F23 (v := (.int y1)) ⟨by decide, by decide⟩ rfl (hb hby own_d4_45) ?_
    show oS p e below T21 m 46 #[oa a0, oa a1, oa b1, oi (1 : Int32), oi (1 : Int32)] [(.int y1), (.int x1)] _
    refine XS.icmpNo X21.here hx rfl (hb hby own_d4_46) rfl (tlt b29).2.1 ?_
    refine XS.aloadN X21.here hx rfl (hb hby own_d4_49) rfl rfl ?_
    refine XS.iloadN X21.here hx rfl (hb hby own_d4_50) rfl ?_
    refine XS.iload X21.here hx rfl (hb hby own_d4_51) rfl ?_
    show oS p e below T21 m 53 #[oa a0, oa a1, oa b1, oi (1 : Int32), oi (1 : Int32)] [(.int (1 : Int32)), (.int (1 : Int32)), (.ref b1)] _
    refine XS.iadd X21.here hx rfl (hb hby own_d4_53) rfl ?_
    refine XS.aloadN X21.here hx rfl (hb hby own_d4_54) rfl rfl ?_
    refine XS.iloadN X21.here hx rfl (hb hby own_d4_55) rfl ?_
    show oS p e below T21 m 56 #[oa a0, oa a1, oa b1, oi (1 : Int32), oi (1 : Int32)] [(.int (1 : Int32)), (.ref a0), (.int (2 : Int32)), (.ref b1)] _
    refine oLdI X21 hx hZ e21 F22 (v := (.int x1)) ⟨by decide, by decide⟩ rfl (hb hby own_d4_56) ?_
    show oS p e below T21 m 57 #[oa a0, oa a1, oa b1, oi (1 : Int32), oi (1 : Int32)] [(.int x1), (.int (2 : Int32)), (.ref b1)] _
    refine st30 _ ?_
    show oS p e below T30 m 58 #[oa a0, oa a1, oa b1, oi (1 : Int32), oi (1 : Int32)] [] _
    refine XS.iinc X30.here hx rfl (hb hby own_d4_58) rfl (l' := #[oa a0, oa a1, oa b1, oi (2 : Int32), oi (1 : Int32)]) rfl ?_
    refine XS.goto X30.here hx rfl (pc0 := 61) (pc' := 13) rfl (hb hby own_d4_61) (by decide) (by decide) ?_
    refine XS.iloadN X30.here hx rfl (hb hby own_d4_13) rfl ?_
    refine XS.aloadN X30.here hx rfl (hb hby own_d4_14) rfl rfl ?_
    show oS p e below T30 m 15 #[oa a0, oa a1, oa b1, oi (2 : Int32), oi (1 : Int32)] [(.ref a0), (.int (2 : Int32))] _
    refine oLen X30 hx hZ e30 F31 (hb hby own_d4_15) ?_
    show oS p e below T30 m 16 #[oa a0, oa a1, oa b1, oi (2 : Int32), oi (1 : Int32)] [(.int (2 : Int32)), (.int (2 : Int32))] _
    refine XS.icmpNo X30.here hx rfl (hb hby own_d4_16) rfl (flt b35).1 ?_
    refine XS.iload X30.here hx rfl (hb hby own_d4_19) rfl ?_
    refine XS.aloadN X30.here hx rfl (hb hby own_d4_21) rfl rfl ?_
    show oS p e below T30 m 22 #[oa a0, oa a1, oa b1, oi (2 : Int32), oi (1 : Int32)] [(.ref a1), (.int (1 : Int32))] _
    refine oLen X30 hx hZ e30 F32 (hb hby own_d4_22) ?_
    show oS p e below T30 m 23 #[oa a0, oa a1, oa b1, oi (2 : Int32), oi (1 : Int32)] [(.int (2 : Int32)), (.int (1 : Int32))] _
    refine XS.icmpNo X30.here hx rfl (hb hby own_d4_23) rfl (tlt b36).2.1 ?_
    refine XS.iload X30.here hx rfl (hb hby own_d4_26) rfl ?_
    refine XS.aloadN X30.here hx rfl (hb hby own_d4_28) rfl rfl ?_
    show oS p e below T30 m 29 #[oa a0, oa a1, oa b1, oi (2 : Int32), oi (1 : Int32)] [(.ref a1), (.int (1 : Int32))] _
    refine oLen X30 hx hZ e30 F32 (hb hby own_d4_29) ?_
    show oS p e below T30 m 30 #[oa a0, oa a1, oa b1, oi (2 : Int32), oi (1 : Int32)] [(.int (2 : Int32)), (.int (1 : Int32))] _
    refine XS.icmpNo X30.here hx rfl (hb hby own_d4_30) rfl (feq b37).1 ?_
    refine XS.iloadN X30.here hx rfl (hb hby own_d4_33) rfl ?_
    refine XS.aloadN X30.here hx rfl (hb hby own_d4_34) rfl rfl ?_
    show oS p e below T30 m 35 #[oa a0, oa a1, oa b1, oi (2 : Int32), oi (1 : Int32)] [(.ref a0), (.int (2 : Int32))] _
    refine oLen X30 hx hZ e30 F31 (hb hby own_d4_35) ?_
    show oS p e below T30 m 36 #[oa a0, oa a1, oa b1, oi (2 : Int32), oi (1 : Int32)] [(.int (2 : Int32)), (.int (2 : Int32))] _
    refine XS.icmpYes X30.here hx rfl (pc0 := 36) (pc' := 64) rfl (hb hby own_d4_36) rfl (flt b38).2.1 (by decide) (by decide) ?_
    refine XS.aloadN X30.here hx rfl (hb hby own_d4_64) rfl rfl ?_
    refine XS.iloadN X30.here hx rfl (hb hby own_d4_65) rfl ?_
    refine XS.iload X30.here hx rfl (hb hby own_d4_66) rfl ?_
    show oS p e below T30 m 68 #[oa a0, oa a1, oa b1, oi (2 : Int32), oi (1 : Int32)] [(.int (1 : Int32)), (.int (2 : Int32)), (.ref b1)] _
    refine XS.iadd X30.here hx rfl (hb hby own_d4_68) rfl ?_
    refine XS.aloadN X30.here hx rfl (hb hby own_d4_69) rfl rfl ?_
    refine XS.iload X30.here hx rfl (hb hby own_d4_70) rfl ?_
    show oS p e below T30 m 72 #[oa a0, oa a1, oa b1, oi (2 : Int32), oi (1 : Int32)] [(.int (1 : Int32)), (.ref a1), (.int (3 : Int32)), (.ref b1)] _
    refine oLdI X30 hx hZ e30 F32 (v := (.int y1)) ⟨by decide, by decide⟩ rfl (hb hby own_d4_72) ?_
    show oS p e below T30 m 73 #[oa a0, oa a1, oa b1, oi (2 : Int32), oi (1 : Int32)] [(.int y1), (.int (3 : Int32)), (.ref b1)] _
    refine st39 _ ?_
    show oS p e below T39 m 74 #[oa a0, oa a1, oa b1, oi (2 : Int32), oi (1 : Int32)] [] _
    refine XS.iinc X39.here hx rfl (hb hby own_d4_74) rfl (l' := #[oa a0, oa a1, oa b1, oi (2 : Int32), oi (2 : Int32)]) rfl ?_
    refine XS.goto X39.here hx rfl (pc0 := 77) (pc' := 13) rfl (hb hby own_d4_77) (by decide) (by decide) ?_
    refine XS.iloadN X39.here hx rfl (hb hby own_d4_13) rfl ?_
    refine XS.aloadN X39.here hx rfl (hb hby own_d4_14) rfl rfl ?_
    show oS p e below T39 m 15 #[oa a0, oa a1, oa b1, oi (2 : Int32), oi (2 : Int32)] [(.ref a0), (.int (2 : Int32))] _
    refine oLen X39 hx hZ e39 F40 (hb hby own_d4_15) ?_
    show oS p e below T39 m 16 #[oa a0, oa a1, oa b1, oi (2 : Int32), oi (2 : Int32)] [(.int (2 : Int32)), (.int (2 : Int32))] _
    refine XS.icmpNo X39.here hx rfl (hb hby own_d4_16) rfl (flt b44).1 ?_
    refine XS.iload X39.here hx rfl (hb hby own_d4_19) rfl ?_
    refine XS.aloadN X39.here hx rfl (hb hby own_d4_21) rfl rfl ?_
    show oS p e below T39 m 22 #[oa a0, oa a1, oa b1, oi (2 : Int32), oi (2 : Int32)] [(.ref a1), (.int (2 : Int32))] _
    refine oLen X39 hx hZ e39 F41 (hb hby own_d4_22) ?_
    show oS p e below T39 m 23 #[oa a0, oa a1, oa b1, oi (2 : Int32), oi (2 : Int32)] [(.int (2 : Int32)), (.int (2 : Int32))] _
    refine XS.icmpYes X39.here hx rfl (pc0 := 23) (pc' := 80) rfl (hb hby own_d4_23) rfl (flt b45).2.1 (by decide) (by decide) ?_
    refine XS.aloadN X39.here hx rfl (hb hby own_d4_80) rfl rfl ?_
    show oS p e below T39 m 81 #[oa a0, oa a1, oa b1, oi (2 : Int32), oi (2 : Int32)] [(.ref b1)] _
    exact retOut X39 hx Bd.returns rfl (Or.inr (Or.inr (Or.inr (Or.inr ⟨rfl, rfl, rfl⟩)))) (hb hby own_d4_81) hr
  · show own_Q4_22xyxy Z a0 a1 k_a0 x0 x1 k_a1 y0 y1 h0 n0 _ T39.heap _
    rw [e39]
    exact ⟨b1, k1, rfl, N39, K_43, sz_b1, V_42⟩
theorem own_ef4_22xyyx (m : MethodId) (a0 : Addr) (a1 : Addr) : entryFrame m #[(.ref a0), (.ref a1)] 5 = mkF m 0 #[oa a0, oa a1, .unset, .unset, .unset] [] := by first | (simp [entryFrame, mkF, argsToLocals, Value.category]; done) | rfl
def own_Q4_22xyyx (Z : State) (a0 : Addr) (a1 : Addr) (k_a0 : ClassId) (x0 : Int32) (x1 : Int32) (k_a1 : ClassId) (y0 : Int32) (y1 : Int32) (h0 : Heap) (n0 : Nat) (v : Option Value) (h : Heap) (L : List Loc) : Prop := ∃ (u : Addr) (k_u : ClassId), v = some (.ref u) ∧ Fr n0 L ∧ Keep h0 h [] ∧ h0.size ≤ u ∧ Arv Z h u k_u .int (4 : Int32) [(.int x0), (.int y0), (.int y1), (.int x1)] (.int (0 : Int32))
set_option maxRecDepth 65536 in
set_option maxHeartbeats 40000000 in
theorem own_rm4_22xyyx (l : Launch) (Z : State) (av : Array Value) (hw : ∀ d ∈ tables_1, d.before av Z = true) (ws : List Jvm.Cond) (a0 : Addr) (a1 : Addr) (k_a0 : ClassId) (x0 : Int32) (x1 : Int32) (k_a1 : ClassId) (y0 : Int32) (y1 : Int32) (h0 : Heap) (n0 : Nat) (Z0 : n0 ≤ h0.size) (V_a0 : Arv Z h0 a0 k_a0 .int (2 : Int32) [(.int x0), (.int x1)] (.int (0 : Int32))) (V_a1 : Arv Z h0 a1 k_a1 .int (2 : Int32) [(.int y0), (.int y1)] (.int (0 : Int32))) (c_x0_y0 : x0 < y0) (c_x1_y0 : ¬ (x1 < y0)) (c_x1_y1 : ¬ (x1 < y1)) :
    MetFree l (⟨"com/example/strict_anon/strictanon/service/RecordSets", "union", "([I[I)[I"⟩ : MethodName) (head1 (Jvm.Cond.code (⟨"com/example/strict_anon/strictanon/service/RecordSets", "union", "([I[I)[I"⟩ : MethodName) prog_30_method_2_code 5 (some (.array .int)) :: ws) ({ frames := 0, cells := 1, slots := 4, locals := 0 } : Room)) (fun a U => a = #[(.ref a0), (.ref a1)] ∧ Z.Warmed39 U.vm ∧ U.heap = h0) (fun _ _ _ _ _ => True) (fun _ U o U' => ∃ v L, o = .returned v ∧ own_Q4_22xyyx Z a0 a1 k_a0 x0 x1 k_a1 y0 y1 h0 n0 v U'.heap L ∧ FrameEnd U o U' L ({ frames := 0, cells := 1, slots := 4, locals := 0 } : Room).cells ({ frames := 0, cells := 1, slots := 4, locals := 0 } : Room).slots) := by
  refine MetFree.of_bodySF (plainFor_of_name own_pn1) hisR ?_
  intro p e s m args below meth c s₁ Bd hml0 hP hK
  obtain ⟨rfl, hZ, hh⟩ := hP
  have hx := Bd.exec
  have hby := Bd.bytes
  have hml : c.maxLocals = 5 := hml0
  have hown : s.vm.findClass "com/example/strict_anon/strictanon/service/RecordSets" = some m.cls := findClass_of_methodNamed Bd.named
  have hnm := (name_of_methodNamed Bd.named Bd.method).1
  have X0 : Stand p l e ({ frames := 0, cells := 1, slots := 4, locals := 0 } : Room) s m #[(.ref a0), (.ref a1)] below meth c s₁ [] 0 0 := Stand.of_body Bd
  have e0 : s₁.heap = h0 := by rw [← hh, Bd.state]; rfl
  have N0 := Fr.nil n0
  have pre0 : ∀ t, Steps p.tables e below (s₁.setTop (mkF m 0 #[oa a0, oa a1, .unset, .unset, .unset] [])) t → Steps p.tables e below (s₁.setTop (entryFrame m #[(.ref a0), (.ref a1)] 5)) t := fun t k => castTop (own_ef4_22xyyx m a0 a1) k
  obtain ⟨T1, h1, k1, X1, e1, E1, A1, st1⟩ := newP X0 hx hZ (hw _ (List.mem_of_getElem? (i := 8) rfl)) e0 (g := (mkF m 5 #[oa a0, oa a1, .unset, .unset, .unset] [(.int (4 : Int32))])) rfl (hb hby own_d4_5) rfl (by decide) (cap := 4) (by decide) (by decide) (by decide) (by decide)
  obtain ⟨b1, g1⟩ : ∃ z, z = h0.size := ⟨_, rfl⟩
  rw [← g1] at A1 st1
  have g_b1 : n0 ≤ b1 := Nat.le_trans Z0 (Nat.le_of_eq g1.symm)
  have ne2 : a0 ≠ b1 := Nat.ne_of_lt (Nat.lt_of_lt_of_le V_a0.lt (Nat.le_of_eq g1.symm))
  have ne3 : a1 ≠ b1 := Nat.ne_of_lt (Nat.lt_of_lt_of_le V_a1.lt (Nat.le_of_eq g1.symm))
  have Z1 : n0 ≤ h1.size := Nat.le_trans Z0 E1.1
  have sz_b1 : h0.size ≤ b1 := Nat.le_trans (Keep.refl h0 []).1 (Nat.le_of_eq g1.symm)
  have K_4 : Keep h0 h1 [] := (Keep.refl h0 []).ext E1
  have F5 := V_a0.ext E1
  have F6 := V_a1.ext E1
  have V_7 : Arv Z h1 b1 k1 .int (4 : Int32) [(.int (0 : Int32)), (.int (0 : Int32)), (.int (0 : Int32)), (.int (0 : Int32))] (.int (0 : Int32)) := (Arv.new A1 (by decide)).pad (pad_rep [] (.int (0 : Int32)) 4)
  have b8 : (0 : Int32) < (2 : Int32) := (by decide)
  have b9 : ¬ ((0 : Int32) = (2 : Int32)) := (by decide)
  have b10 : (0 : Int32) < (2 : Int32) := (by decide)
  have b11 : x0 < y0 := c_x0_y0
  obtain ⟨T12, h12, X12, e12, W12, V12, st12⟩ := oStI X1 hx hZ e1 V_7 (j := (0 : Int32)) ⟨by decide, by decide⟩ 0 rfl (Nat.le_of_ble_eq_true rfl) (g := (mkF m 57 #[oa a0, oa a1, oa b1, oi (0 : Int32), oi (0 : Int32)] [(.int x0), (.int (0 : Int32)), (.ref b1)])) rfl rfl (hb hby own_d4_57)
  obtain ⟨Lo12, X12, N12⟩ := oOpq X12 (Fr.snoc X12 N0 g_b1)
  have Z12 := Nat.le_trans Z1 (Keep.of_wr W12).1
  have F13 := F5.other W12 ne2
  have F14 := F6.other W12 ne3
  have V_15 : Arv Z h12 b1 k1 .int (4 : Int32) [(.int x0), (.int (0 : Int32)), (.int (0 : Int32)), (.int (0 : Int32))] (.int (0 : Int32)) := V12
  have K_16 : Keep h0 h12 [] := K_4.wr W12 (Or.inr sz_b1)
  have b17 : (1 : Int32) < (2 : Int32) := (by decide)
  have b18 : ¬ ((0 : Int32) = (2 : Int32)) := (by decide)
  have b19 : (1 : Int32) < (2 : Int32) := (by decide)
  have b20 : ¬ (x1 < y0) := c_x1_y0
  obtain ⟨T21, h21, X21, e21, W21, V21, st21⟩ := oStI X12 hx hZ e12 V_15 (j := (1 : Int32)) ⟨by decide, by decide⟩ 1 rfl (Nat.le_of_ble_eq_true rfl) (g := (mkF m 73 #[oa a0, oa a1, oa b1, oi (1 : Int32), oi (0 : Int32)] [(.int y0), (.int (1 : Int32)), (.ref b1)])) rfl rfl (hb hby own_d4_73)
  obtain ⟨Lo21, X21, N21⟩ := oOpq X21 (Fr.snoc X21 N12 g_b1)
  have Z21 := Nat.le_trans Z12 (Keep.of_wr W21).1
  have F22 := F13.other W21 ne2
  have F23 := F14.other W21 ne3
  have V_24 : Arv Z h21 b1 k1 .int (4 : Int32) [(.int x0), (.int y0), (.int (0 : Int32)), (.int (0 : Int32))] (.int (0 : Int32)) := V21
  have K_25 : Keep h0 h21 [] := K_16.wr W21 (Or.inr sz_b1)
  have b26 : (1 : Int32) < (2 : Int32) := (by decide)
  have b27 : ¬ ((1 : Int32) = (2 : Int32)) := (by decide)
  have b28 : (1 : Int32) < (2 : Int32) := (by decide)
  have b29 : ¬ (x1 < y1) := c_x1_y1
  obtain ⟨T30, h30, X30, e30, W30, V30, st30⟩ := oStI X21 hx hZ e21 V_24 (j := (2 : Int32)) ⟨by decide, by decide⟩ 2 rfl (Nat.le_of_ble_eq_true rfl) (g := (mkF m 73 #[oa a0, oa a1, oa b1, oi (1 : Int32), oi (1 : Int32)] [(.int y1), (.int (2 : Int32)), (.ref b1)])) rfl rfl (hb hby own_d4_73)
  obtain ⟨Lo30, X30, N30⟩ := oOpq X30 (Fr.snoc X30 N21 g_b1)
  have Z30 := Nat.le_trans Z21 (Keep.of_wr W30).1
  have F31 := F22.other W30 ne2
  have F32 := F23.other W30 ne3
  have V_33 : Arv Z h30 b1 k1 .int (4 : Int32) [(.int x0), (.int y0), (.int y1), (.int (0 : Int32))] (.int (0 : Int32)) := V30
  have K_34 : Keep h0 h30 [] := K_25.wr W30 (Or.inr sz_b1)
  have b35 : (1 : Int32) < (2 : Int32) := (by decide)
  have b36 : (2 : Int32) = (2 : Int32) := (by decide)
  obtain ⟨T37, h37, X37, e37, W37, V37, st37⟩ := oStI X30 hx hZ e30 V_33 (j := (3 : Int32)) ⟨by decide, by decide⟩ 3 rfl (Nat.le_of_ble_eq_true rfl) (g := (mkF m 57 #[oa a0, oa a1, oa b1, oi (1 : Int32), oi (2 : Int32)] [(.int x1), (.int (3 : Int32)), (.ref b1)])) rfl rfl (hb hby own_d4_57)
  obtain ⟨Lo37, X37, N37⟩ := oOpq X37 (Fr.snoc X37 N30 g_b1)
  have Z37 := Nat.le_trans Z30 (Keep.of_wr W37).1
  have F38 := F31.other W37 ne2
  have F39 := F32.other W37 ne3
  have V_40 : Arv Z h37 b1 k1 .int (4 : Int32) [(.int x0), (.int y0), (.int y1), (.int x1)] (.int (0 : Int32)) := V37
  have K_41 : Keep h0 h37 [] := K_34.wr W37 (Or.inr sz_b1)
  have b42 : ¬ ((2 : Int32) < (2 : Int32)) := (by decide)
  have b43 : ¬ ((2 : Int32) < (2 : Int32)) := (by decide)
  obtain ⟨fs, hr, hrun, hended, hW, hsame⟩ := X37.leave (v := (some (.ref b1))) (fun h => by rw [Bd.returns] at h; cases h)
  refine ⟨_, _, pre0 _ ?_, hrun, hended, _, _, rfl, ?_, ⟨_, rfl⟩, hW, hsame.mono (by decide) (by decide)⟩
  · show oS p e below s₁ m 0 #[oa a0, oa a1, .unset, .unset, .unset] [] _
    refine XS.aloadN X0.here hx rfl (hb hby own_d4_0) rfl rfl ?_
    show oS p e below s₁ m 1 #[oa a0, oa a1, .unset, .unset, .unset] [(.ref a0)] _
    refine oLen X0 hx hZ e0 V_a0 (hb hby own_d4_1) ?_
    refine XS.aloadN X0.here hx rfl (hb hby own_d4_2) rfl rfl ?_
    show oS p e below s₁ m 3 #[oa a0, oa a1, .unset, .unset, .unset] [(.ref a1), (.int (2 : Int32))] _
    refine oLen X0 hx hZ e0 V_a1 (hb hby own_d4_3) ?_
    refine XS.iadd X0.here hx rfl (hb hby own_d4_4) rfl ?_
    show oS p e below s₁ m 5 #[oa a0, oa a1, .unset, .unset, .unset] [(.int (4 : Int32))] _
    refine st1 _ ?_
    show oS p e below T1 m 7 #[oa a0, oa a1, .unset, .unset, .unset] [(.ref b1)] _
    refine XS.astoreN X1.here hx rfl (hb hby own_d4_7) rfl rfl (l' := #[oa a0, oa a1, oa b1, .unset, .unset]) rfl ?_
    refine XS.iconst X1.here hx rfl (hb hby own_d4_8) ?_
    refine XS.istoreN X1.here hx rfl (hb hby own_d4_9) rfl (l' := #[oa a0, oa a1, oa b1, oi (0 : Int32), .unset]) rfl ?_
    refine XS.iconst X1.here hx rfl (hb hby own_d4_10) ?_
    show oS p e below T1 m 11 #[oa a0, oa a1, oa b1, oi (0 : Int32), .unset] [(.int (0 : Int32))] _
    refine XS.istore X1.here hx rfl (hb hby own_d4_11) rfl (l' := #[oa a0, oa a1, oa b1, oi (0 : Int32), oi (0 : Int32)]) rfl ?_
    refine XS.iloadN X1.here hx rfl (hb hby own_d4_13) rfl ?_
    refine XS.aloadN X1.here hx rfl (hb hby own_d4_14) rfl rfl ?_
    show oS p e below T1 m 15 #[oa a0, oa a1, oa b1, oi (0 : Int32), oi (0 : Int32)] [(.ref a0), (.int (0 : Int32))] _
    refine oLen X1 hx hZ e1 F5 (hb hby own_d4_15) ?_
    show oS p e below T1 m 16 #[oa a0, oa a1, oa b1, oi (0 : Int32), oi (0 : Int32)] [(.int (2 : Int32)), (.int (0 : Int32))] _
    refine XS.icmpYes X1.here hx rfl (pc0 := 16) (pc' := 26) rfl (hb hby own_d4_16) rfl (tlt b8).1 (by decide) (by decide) ?_
    refine XS.iload X1.here hx rfl (hb hby own_d4_26) rfl ?_
    refine XS.aloadN X1.here hx rfl (hb hby own_d4_28) rfl rfl ?_
    show oS p e below T1 m 29 #[oa a0, oa a1, oa b1, oi (0 : Int32), oi (0 : Int32)] [(.ref a1), (.int (0 : Int32))] _
    refine oLen X1 hx hZ e1 F6 (hb hby own_d4_29) ?_
    show oS p e below T1 m 30 #[oa a0, oa a1, oa b1, oi (0 : Int32), oi (0 : Int32)] [(.int (2 : Int32)), (.int (0 : Int32))] _
    refine XS.icmpNo X1.here hx rfl (hb hby own_d4_30) rfl (feq b9).1 ?_
    refine XS.iloadN X1.here hx rfl (hb hby own_d4_33) rfl ?_
    refine XS.aloadN X1.here hx rfl (hb hby own_d4_34) rfl rfl ?_
    show oS p e below T1 m 35 #[oa a0, oa a1, oa b1, oi (0 : Int32), oi (0 : Int32)] [(.ref a0), (.int (0 : Int32))] _
    refine oLen X1 hx hZ e1 F5 (hb hby own_d4_35) ?_
    show oS p e below T1 m 36 #[oa a0, oa a1, oa b1, oi (0 : Int32), oi (0 : Int32)] [(.int (2 : Int32)), (.int (0 : Int32))] _
    refine XS.icmpNo X1.here hx rfl (hb hby own_d4_36) rfl (tlt b10).2.1 ?_
    refine XS.aloadN X1.here hx rfl (hb hby own_d4_39) rfl rfl ?_
    refine XS.iloadN X1.here hx rfl (hb hby own_d4_40) rfl ?_
    show oS p e below T1 m 41 #[oa a0, oa a1, oa b1, oi (0 : Int32), oi (0 : Int32)] [(.int (0 : Int32)), (.ref a0)] _
    refine oLdI X1 hx hZ e1 F5 (v := (.int x0)) ⟨by decide, by decide⟩ rfl (hb hby own_d4_41) ?_
    refine XS.aloadN X1.here hx rfl (hb hby own_d4_42) rfl rfl ?_
    refine XS.iload X1.here hx rfl (hb hby own_d4_43) rfl ?_
    show oS p e below T1 m 45 #[oa a0, oa a1, oa b1, oi (0 : Int32), oi (0 : Int32)] [(.int (0 : Int32)), (.ref a1), (.int x0)] _
    refine oLdI X1 hx hZ e1 F6 (v := (.int y0)) ⟨by decide, by decide⟩ rfl (hb hby own_d4_45) ?_
    show oS p e below T1 m 46 #[oa a0, oa a1, oa b1, oi (0 : Int32), oi (0 : Int32)] [(.int y0), (.int x0)] _
    refine XS.icmpNo X1.here hx rfl (hb hby own_d4_46) rfl (tlt b11).2.1 ?_
    refine XS.aloadN X1.here hx rfl (hb hby own_d4_49) rfl rfl ?_
    refine XS.iloadN X1.here hx rfl (hb hby own_d4_50) rfl ?_
    refine XS.iload X1.here hx rfl (hb hby own_d4_51) rfl ?_
    show oS p e below T1 m 53 #[oa a0, oa a1, oa b1, oi (0 : Int32), oi (0 : Int32)] [(.int (0 : Int32)), (.int (0 : Int32)), (.ref b1)] _
    refine XS.iadd X1.here hx rfl (hb hby own_d4_53) rfl ?_
    refine XS.aloadN X1.here hx rfl (hb hby own_d4_54) rfl rfl ?_
    refine XS.iloadN X1.here hx rfl (hb hby own_d4_55) rfl ?_
    show oS p e below T1 m 56 #[oa a0, oa a1, oa b1, oi (0 : Int32), oi (0 : Int32)] [(.int (0 : Int32)), (.ref a0), (.int (0 : Int32)), (.ref b1)] _
    refine oLdI X1 hx hZ e1 F5 (v := (.int x0)) ⟨by decide, by decide⟩ rfl (hb hby own_d4_56) ?_
    show oS p e below T1 m 57 #[oa a0, oa a1, oa b1, oi (0 : Int32), oi (0 : Int32)] [(.int x0), (.int (0 : Int32)), (.ref b1)] _
    refine st12 _ ?_
    show oS p e below T12 m 58 #[oa a0, oa a1, oa b1, oi (0 : Int32), oi (0 : Int32)] [] _
    refine XS.iinc X12.here hx rfl (hb hby own_d4_58) rfl (l' := #[oa a0, oa a1, oa b1, oi (1 : Int32), oi (0 : Int32)]) rfl ?_
    refine XS.goto X12.here hx rfl (pc0 := 61) (pc' := 13) rfl (hb hby own_d4_61) (by decide) (by decide) ?_
    refine XS.iloadN X12.here hx rfl (hb hby own_d4_13) rfl ?_
    refine XS.aloadN X12.here hx rfl (hb hby own_d4_14) rfl rfl ?_
    show oS p e below T12 m 15 #[oa a0, oa a1, oa b1, oi (1 : Int32), oi (0 : Int32)] [(.ref a0), (.int (1 : Int32))] _
    refine oLen X12 hx hZ e12 F13 (hb hby own_d4_15) ?_
    show oS p e below T12 m 16 #[oa a0, oa a1, oa b1, oi (1 : Int32), oi (0 : Int32)] [(.int (2 : Int32)), (.int (1 : Int32))] _
    refine XS.icmpYes X12.here hx rfl (pc0 := 16) (pc' := 26) rfl (hb hby own_d4_16) rfl (tlt b17).1 (by decide) (by decide) ?_
    refine XS.iload X12.here hx rfl (hb hby own_d4_26) rfl ?_
    refine XS.aloadN X12.here hx rfl (hb hby own_d4_28) rfl rfl ?_
    show oS p e below T12 m 29 #[oa a0, oa a1, oa b1, oi (1 : Int32), oi (0 : Int32)] [(.ref a1), (.int (0 : Int32))] _
    refine oLen X12 hx hZ e12 F14 (hb hby own_d4_29) ?_
    show oS p e below T12 m 30 #[oa a0, oa a1, oa b1, oi (1 : Int32), oi (0 : Int32)] [(.int (2 : Int32)), (.int (0 : Int32))] _
    refine XS.icmpNo X12.here hx rfl (hb hby own_d4_30) rfl (feq b18).1 ?_
    refine XS.iloadN X12.here hx rfl (hb hby own_d4_33) rfl ?_
    refine XS.aloadN X12.here hx rfl (hb hby own_d4_34) rfl rfl ?_
    show oS p e below T12 m 35 #[oa a0, oa a1, oa b1, oi (1 : Int32), oi (0 : Int32)] [(.ref a0), (.int (1 : Int32))] _
    refine oLen X12 hx hZ e12 F13 (hb hby own_d4_35) ?_
    show oS p e below T12 m 36 #[oa a0, oa a1, oa b1, oi (1 : Int32), oi (0 : Int32)] [(.int (2 : Int32)), (.int (1 : Int32))] _
    refine XS.icmpNo X12.here hx rfl (hb hby own_d4_36) rfl (tlt b19).2.1 ?_
    refine XS.aloadN X12.here hx rfl (hb hby own_d4_39) rfl rfl ?_
    refine XS.iloadN X12.here hx rfl (hb hby own_d4_40) rfl ?_
    show oS p e below T12 m 41 #[oa a0, oa a1, oa b1, oi (1 : Int32), oi (0 : Int32)] [(.int (1 : Int32)), (.ref a0)] _
    refine oLdI X12 hx hZ e12 F13 (v := (.int x1)) ⟨by decide, by decide⟩ rfl (hb hby own_d4_41) ?_
    refine XS.aloadN X12.here hx rfl (hb hby own_d4_42) rfl rfl ?_
    refine XS.iload X12.here hx rfl (hb hby own_d4_43) rfl ?_
    show oS p e below T12 m 45 #[oa a0, oa a1, oa b1, oi (1 : Int32), oi (0 : Int32)] [(.int (0 : Int32)), (.ref a1), (.int x1)] _
    refine oLdI X12 hx hZ e12 F14 (v := (.int y0)) ⟨by decide, by decide⟩ rfl (hb hby own_d4_45) ?_
    show oS p e below T12 m 46 #[oa a0, oa a1, oa b1, oi (1 : Int32), oi (0 : Int32)] [(.int y0), (.int x1)] _
    refine XS.icmpYes X12.here hx rfl (pc0 := 46) (pc' := 64) rfl (hb hby own_d4_46) rfl (flt b20).2.1 (by decide) (by decide) ?_
    refine XS.aloadN X12.here hx rfl (hb hby own_d4_64) rfl rfl ?_
    refine XS.iloadN X12.here hx rfl (hb hby own_d4_65) rfl ?_
    refine XS.iload X12.here hx rfl (hb hby own_d4_66) rfl ?_
    show oS p e below T12 m 68 #[oa a0, oa a1, oa b1, oi (1 : Int32), oi (0 : Int32)] [(.int (0 : Int32)), (.int (1 : Int32)), (.ref b1)] _
    refine XS.iadd X12.here hx rfl (hb hby own_d4_68) rfl ?_
    refine XS.aloadN X12.here hx rfl (hb hby own_d4_69) rfl rfl ?_
    refine XS.iload X12.here hx rfl (hb hby own_d4_70) rfl ?_
    show oS p e below T12 m 72 #[oa a0, oa a1, oa b1, oi (1 : Int32), oi (0 : Int32)] [(.int (0 : Int32)), (.ref a1), (.int (1 : Int32)), (.ref b1)] _
    refine oLdI X12 hx hZ e12 F14 (v := (.int y0)) ⟨by decide, by decide⟩ rfl (hb hby own_d4_72) ?_
    show oS p e below T12 m 73 #[oa a0, oa a1, oa b1, oi (1 : Int32), oi (0 : Int32)] [(.int y0), (.int (1 : Int32)), (.ref b1)] _
    refine st21 _ ?_
    show oS p e below T21 m 74 #[oa a0, oa a1, oa b1, oi (1 : Int32), oi (0 : Int32)] [] _
    refine XS.iinc X21.here hx rfl (hb hby own_d4_74) rfl (l' := #[oa a0, oa a1, oa b1, oi (1 : Int32), oi (1 : Int32)]) rfl ?_
    refine XS.goto X21.here hx rfl (pc0 := 77) (pc' := 13) rfl (hb hby own_d4_77) (by decide) (by decide) ?_
    refine XS.iloadN X21.here hx rfl (hb hby own_d4_13) rfl ?_
    refine XS.aloadN X21.here hx rfl (hb hby own_d4_14) rfl rfl ?_
    show oS p e below T21 m 15 #[oa a0, oa a1, oa b1, oi (1 : Int32), oi (1 : Int32)] [(.ref a0), (.int (1 : Int32))] _
    refine oLen X21 hx hZ e21 F22 (hb hby own_d4_15) ?_
    show oS p e below T21 m 16 #[oa a0, oa a1, oa b1, oi (1 : Int32), oi (1 : Int32)] [(.int (2 : Int32)), (.int (1 : Int32))] _
    refine XS.icmpYes X21.here hx rfl (pc0 := 16) (pc' := 26) rfl (hb hby own_d4_16) rfl (tlt b26).1 (by decide) (by decide) ?_
    refine XS.iload X21.here hx rfl (hb hby own_d4_26) rfl ?_
    refine XS.aloadN X21.here hx rfl (hb hby own_d4_28) rfl rfl ?_
    show oS p e below T21 m 29 #[oa a0, oa a1, oa b1, oi (1 : Int32), oi (1 : Int32)] [(.ref a1), (.int (1 : Int32))] _
    refine oLen X21 hx hZ e21 F23 (hb hby own_d4_29) ?_
    show oS p e below T21 m 30 #[oa a0, oa a1, oa b1, oi (1 : Int32), oi (1 : Int32)] [(.int (2 : Int32)), (.int (1 : Int32))] _
    refine XS.icmpNo X21.here hx rfl (hb hby own_d4_30) rfl (feq b27).1 ?_
    refine XS.iloadN X21.here hx rfl (hb hby own_d4_33) rfl ?_
    refine XS.aloadN X21.here hx rfl (hb hby own_d4_34) rfl rfl ?_
    show oS p e below T21 m 35 #[oa a0, oa a1, oa b1, oi (1 : Int32), oi (1 : Int32)] [(.ref a0), (.int (1 : Int32))] _
    refine oLen X21 hx hZ e21 F22 (hb hby own_d4_35) ?_
    show oS p e below T21 m 36 #[oa a0, oa a1, oa b1, oi (1 : Int32), oi (1 : Int32)] [(.int (2 : Int32)), (.int (1 : Int32))] _
    refine XS.icmpNo X21.here hx rfl (hb hby own_d4_36) rfl (tlt b28).2.1 ?_
    refine XS.aloadN X21.here hx rfl (hb hby own_d4_39) rfl rfl ?_
    refine XS.iloadN X21.here hx rfl (hb hby own_d4_40) rfl ?_
    show oS p e below T21 m 41 #[oa a0, oa a1, oa b1, oi (1 : Int32), oi (1 : Int32)] [(.int (1 : Int32)), (.ref a0)] _
    refine oLdI X21 hx hZ e21 F22 (v := (.int x1)) ⟨by decide, by decide⟩ rfl (hb hby own_d4_41) ?_
    refine XS.aloadN X21.here hx rfl (hb hby own_d4_42) rfl rfl ?_
    refine XS.iload X21.here hx rfl (hb hby own_d4_43) rfl ?_
    show oS p e below T21 m 45 #[oa a0, oa a1, oa b1, oi (1 : Int32), oi (1 : Int32)] [(.int (1 : Int32)), (.ref a1), (.int x1)] _
    refine oLdI X21 hx hZ e21 F23 (v := (.int y1)) ⟨by decide, by decide⟩ rfl (hb hby own_d4_45) ?_
    show oS p e below T21 m 46 #[oa a0, oa a1, oa b1, oi (1 : Int32), oi (1 : Int32)] [(.int y1), (.int x1)] _
    refine XS.icmpYes X21.here hx rfl (pc0 := 46) (pc' := 64) rfl (hb hby own_d4_46) rfl (flt b29).2.1 (by decide) (by decide) ?_
    refine XS.aloadN X21.here hx rfl (hb hby own_d4_64) rfl rfl ?_
    refine XS.iloadN X21.here hx rfl (hb hby own_d4_65) rfl ?_
    refine XS.iload X21.here hx rfl (hb hby own_d4_66) rfl ?_
    show oS p e below T21 m 68 #[oa a0, oa a1, oa b1, oi (1 : Int32), oi (1 : Int32)] [(.int (1 : Int32)), (.int (1 : Int32)), (.ref b1)] _
    refine XS.iadd X21.here hx rfl (hb hby own_d4_68) rfl ?_
    refine XS.aloadN X21.here hx rfl (hb hby own_d4_69) rfl rfl ?_
    refine XS.iload X21.here hx rfl (hb hby own_d4_70) rfl ?_
    show oS p e below T21 m 72 #[oa a0, oa a1, oa b1, oi (1 : Int32), oi (1 : Int32)] [(.int (1 : Int32)), (.ref a1), (.int (2 : Int32)), (.ref b1)] _
    refine oLdI X21 hx hZ e21 F23 (v := (.int y1)) ⟨by decide, by decide⟩ rfl (hb hby own_d4_72) ?_
    show oS p e below T21 m 73 #[oa a0, oa a1, oa b1, oi (1 : Int32), oi (1 : Int32)] [(.int y1), (.int (2 : Int32)), (.ref b1)] _
    refine st30 _ ?_
    show oS p e below T30 m 74 #[oa a0, oa a1, oa b1, oi (1 : Int32), oi (1 : Int32)] [] _
    refine XS.iinc X30.here hx rfl (hb hby own_d4_74) rfl (l' := #[oa a0, oa a1, oa b1, oi (1 : Int32), oi (2 : Int32)]) rfl ?_
    refine XS.goto X30.here hx rfl (pc0 := 77) (pc' := 13) rfl (hb hby own_d4_77) (by decide) (by decide) ?_
    refine XS.iloadN X30.here hx rfl (hb hby own_d4_13) rfl ?_
    refine XS.aloadN X30.here hx rfl (hb hby own_d4_14) rfl rfl ?_
    show oS p e below T30 m 15 #[oa a0, oa a1, oa b1, oi (1 : Int32), oi (2 : Int32)] [(.ref a0), (.int (1 : Int32))] _
    refine oLen X30 hx hZ e30 F31 (hb hby own_d4_15) ?_
    show oS p e below T30 m 16 #[oa a0, oa a1, oa b1, oi (1 : Int32), oi (2 : Int32)] [(.int (2 : Int32)), (.int (1 : Int32))] _
    refine XS.icmpYes X30.here hx rfl (pc0 := 16) (pc' := 26) rfl (hb hby own_d4_16) rfl (tlt b35).1 (by decide) (by decide) ?_
    refine XS.iload X30.here hx rfl (hb hby own_d4_26) rfl ?_
    refine XS.aloadN X30.here hx rfl (hb hby own_d4_28) rfl rfl ?_
    show oS p e below T30 m 29 #[oa a0, oa a1, oa b1, oi (1 : Int32), oi (2 : Int32)] [(.ref a1), (.int (2 : Int32))] _
    refine oLen X30 hx hZ e30 F32 (hb hby own_d4_29) ?_
    show oS p e below T30 m 30 #[oa a0, oa a1, oa b1, oi (1 : Int32), oi (2 : Int32)] [(.int (2 : Int32)), (.int (2 : Int32))] _
    refine XS.icmpYes X30.here hx rfl (pc0 := 30) (pc' := 49) rfl (hb hby own_d4_30) rfl (teq b36).1 (by decide) (by decide) ?_
    refine XS.aloadN X30.here hx rfl (hb hby own_d4_49) rfl rfl ?_
    refine XS.iloadN X30.here hx rfl (hb hby own_d4_50) rfl ?_
    refine XS.iload X30.here hx rfl (hb hby own_d4_51) rfl ?_
    show oS p e below T30 m 53 #[oa a0, oa a1, oa b1, oi (1 : Int32), oi (2 : Int32)] [(.int (2 : Int32)), (.int (1 : Int32)), (.ref b1)] _
    refine XS.iadd X30.here hx rfl (hb hby own_d4_53) rfl ?_
    refine XS.aloadN X30.here hx rfl (hb hby own_d4_54) rfl rfl ?_
    refine XS.iloadN X30.here hx rfl (hb hby own_d4_55) rfl ?_
    show oS p e below T30 m 56 #[oa a0, oa a1, oa b1, oi (1 : Int32), oi (2 : Int32)] [(.int (1 : Int32)), (.ref a0), (.int (3 : Int32)), (.ref b1)] _
    refine oLdI X30 hx hZ e30 F31 (v := (.int x1)) ⟨by decide, by decide⟩ rfl (hb hby own_d4_56) ?_
    show oS p e below T30 m 57 #[oa a0, oa a1, oa b1, oi (1 : Int32), oi (2 : Int32)] [(.int x1), (.int (3 : Int32)), (.ref b1)] _
    refine st37 _ ?_
    show oS p e below T37 m 58 #[oa a0, oa a1, oa b1, oi (1 : Int32), oi (2 : Int32)] [] _
    refine XS.iinc X37.here hx rfl (hb hby own_d4_58) rfl (l' := #[oa a0, oa a1, oa b1, oi (2 : Int32), oi (2 : Int32)]) rfl ?_
    refine XS.goto X37.here hx rfl (pc0 := 61) (pc' := 13) rfl (hb hby own_d4_61) (by decide) (by decide) ?_
    refine XS.iloadN X37.here hx rfl (hb hby own_d4_13) rfl ?_
    refine XS.aloadN X37.here hx rfl (hb hby own_d4_14) rfl rfl ?_
    show oS p e below T37 m 15 #[oa a0, oa a1, oa b1, oi (2 : Int32), oi (2 : Int32)] [(.ref a0), (.int (2 : Int32))] _
    refine oLen X37 hx hZ e37 F38 (hb hby own_d4_15) ?_
    show oS p e below T37 m 16 #[oa a0, oa a1, oa b1, oi (2 : Int32), oi (2 : Int32)] [(.int (2 : Int32)), (.int (2 : Int32))] _
    refine XS.icmpNo X37.here hx rfl (hb hby own_d4_16) rfl (flt b42).1 ?_
    refine XS.iload X37.here hx rfl (hb hby own_d4_19) rfl ?_
    refine XS.aloadN X37.here hx rfl (hb hby own_d4_21) rfl rfl ?_
    show oS p e below T37 m 22 #[oa a0, oa a1, oa b1, oi (2 : Int32), oi (2 : Int32)] [(.ref a1), (.int (2 : Int32))] _
    refine oLen X37 hx hZ e37 F39 (hb hby own_d4_22) ?_
    show oS p e below T37 m 23 #[oa a0, oa a1, oa b1, oi (2 : Int32), oi (2 : Int32)] [(.int (2 : Int32)), (.int (2 : Int32))] _
    refine XS.icmpYes X37.here hx rfl (pc0 := 23) (pc' := 80) rfl (hb hby own_d4_23) rfl (flt b43).2.1 (by decide) (by decide) ?_
    refine XS.aloadN X37.here hx rfl (hb hby own_d4_80) rfl rfl ?_
    show oS p e below T37 m 81 #[oa a0, oa a1, oa b1, oi (2 : Int32), oi (2 : Int32)] [(.ref b1)] _
    exact retOut X37 hx Bd.returns rfl (Or.inr (Or.inr (Or.inr (Or.inr ⟨rfl, rfl, rfl⟩)))) (hb hby own_d4_81) hr
  · show own_Q4_22xyyx Z a0 a1 k_a0 x0 x1 k_a1 y0 y1 h0 n0 _ T37.heap _
    rw [e37]
    exact ⟨b1, k1, rfl, N37, K_41, sz_b1, V_40⟩
theorem own_ef4_22yxxy (m : MethodId) (a0 : Addr) (a1 : Addr) : entryFrame m #[(.ref a0), (.ref a1)] 5 = mkF m 0 #[oa a0, oa a1, .unset, .unset, .unset] [] := by first | (simp [entryFrame, mkF, argsToLocals, Value.category]; done) | rfl
def own_Q4_22yxxy (Z : State) (a0 : Addr) (a1 : Addr) (k_a0 : ClassId) (x0 : Int32) (x1 : Int32) (k_a1 : ClassId) (y0 : Int32) (y1 : Int32) (h0 : Heap) (n0 : Nat) (v : Option Value) (h : Heap) (L : List Loc) : Prop := ∃ (u : Addr) (k_u : ClassId), v = some (.ref u) ∧ Fr n0 L ∧ Keep h0 h [] ∧ h0.size ≤ u ∧ Arv Z h u k_u .int (4 : Int32) [(.int y0), (.int x0), (.int x1), (.int y1)] (.int (0 : Int32))
set_option maxRecDepth 65536 in
set_option maxHeartbeats 40000000 in
theorem own_rm4_22yxxy (l : Launch) (Z : State) (av : Array Value) (hw : ∀ d ∈ tables_1, d.before av Z = true) (ws : List Jvm.Cond) (a0 : Addr) (a1 : Addr) (k_a0 : ClassId) (x0 : Int32) (x1 : Int32) (k_a1 : ClassId) (y0 : Int32) (y1 : Int32) (h0 : Heap) (n0 : Nat) (Z0 : n0 ≤ h0.size) (V_a0 : Arv Z h0 a0 k_a0 .int (2 : Int32) [(.int x0), (.int x1)] (.int (0 : Int32))) (V_a1 : Arv Z h0 a1 k_a1 .int (2 : Int32) [(.int y0), (.int y1)] (.int (0 : Int32))) (c_x0_y0 : ¬ (x0 < y0)) (c_x0_y1 : x0 < y1) (c_x1_y1 : x1 < y1) :
    MetFree l (⟨"com/example/strict_anon/strictanon/service/RecordSets", "union", "([I[I)[I"⟩ : MethodName) (head1 (Jvm.Cond.code (⟨"com/example/strict_anon/strictanon/service/RecordSets", "union", "([I[I)[I"⟩ : MethodName) prog_30_method_2_code 5 (some (.array .int)) :: ws) ({ frames := 0, cells := 1, slots := 4, locals := 0 } : Room)) (fun a U => a = #[(.ref a0), (.ref a1)] ∧ Z.Warmed39 U.vm ∧ U.heap = h0) (fun _ _ _ _ _ => True) (fun _ U o U' => ∃ v L, o = .returned v ∧ own_Q4_22yxxy Z a0 a1 k_a0 x0 x1 k_a1 y0 y1 h0 n0 v U'.heap L ∧ FrameEnd U o U' L ({ frames := 0, cells := 1, slots := 4, locals := 0 } : Room).cells ({ frames := 0, cells := 1, slots := 4, locals := 0 } : Room).slots) := by
  refine MetFree.of_bodySF (plainFor_of_name own_pn1) hisR ?_
  intro p e s m args below meth c s₁ Bd hml0 hP hK
  obtain ⟨rfl, hZ, hh⟩ := hP
  have hx := Bd.exec
  have hby := Bd.bytes
  have hml : c.maxLocals = 5 := hml0
  have hown : s.vm.findClass "com/example/strict_anon/strictanon/service/RecordSets" = some m.cls := findClass_of_methodNamed Bd.named
  have hnm := (name_of_methodNamed Bd.named Bd.method).1
  have X0 : Stand p l e ({ frames := 0, cells := 1, slots := 4, locals := 0 } : Room) s m #[(.ref a0), (.ref a1)] below meth c s₁ [] 0 0 := Stand.of_body Bd
  have e0 : s₁.heap = h0 := by rw [← hh, Bd.state]; rfl
  have N0 := Fr.nil n0
  have pre0 : ∀ t, Steps p.tables e below (s₁.setTop (mkF m 0 #[oa a0, oa a1, .unset, .unset, .unset] [])) t → Steps p.tables e below (s₁.setTop (entryFrame m #[(.ref a0), (.ref a1)] 5)) t := fun t k => castTop (own_ef4_22yxxy m a0 a1) k
  obtain ⟨T1, h1, k1, X1, e1, E1, A1, st1⟩ := newP X0 hx hZ (hw _ (List.mem_of_getElem? (i := 8) rfl)) e0 (g := (mkF m 5 #[oa a0, oa a1, .unset, .unset, .unset] [(.int (4 : Int32))])) rfl (hb hby own_d4_5) rfl (by decide) (cap := 4) (by decide) (by decide) (by decide) (by decide)
  obtain ⟨b1, g1⟩ : ∃ z, z = h0.size := ⟨_, rfl⟩
  rw [← g1] at A1 st1
  have g_b1 : n0 ≤ b1 := Nat.le_trans Z0 (Nat.le_of_eq g1.symm)
  have ne2 : a0 ≠ b1 := Nat.ne_of_lt (Nat.lt_of_lt_of_le V_a0.lt (Nat.le_of_eq g1.symm))
  have ne3 : a1 ≠ b1 := Nat.ne_of_lt (Nat.lt_of_lt_of_le V_a1.lt (Nat.le_of_eq g1.symm))
  have Z1 : n0 ≤ h1.size := Nat.le_trans Z0 E1.1
  have sz_b1 : h0.size ≤ b1 := Nat.le_trans (Keep.refl h0 []).1 (Nat.le_of_eq g1.symm)
  have K_4 : Keep h0 h1 [] := (Keep.refl h0 []).ext E1
  have F5 := V_a0.ext E1
  have F6 := V_a1.ext E1
  have V_7 : Arv Z h1 b1 k1 .int (4 : Int32) [(.int (0 : Int32)), (.int (0 : Int32)), (.int (0 : Int32)), (.int (0 : Int32))] (.int (0 : Int32)) := (Arv.new A1 (by decide)).pad (pad_rep [] (.int (0 : Int32)) 4)
  have b8 : (0 : Int32) < (2 : Int32) := (by decide)
  have b9 : ¬ ((0 : Int32) = (2 : Int32)) := (by decide)
  have b10 : (0 : Int32) < (2 : Int32) := (by decide)
  have b11 : ¬ (x0 < y0) := c_x0_y0
  obtain ⟨T12, h12, X12, e12, W12, V12, st12⟩ := oStI X1 hx hZ e1 V_7 (j := (0 : Int32)) ⟨by decide, by decide⟩ 0 rfl (Nat.le_of_ble_eq_true rfl) (g := (mkF m 73 #[oa a0, oa a1, oa b1, oi (0 : Int32), oi (0 : Int32)] [(.int y0), (.int (0 : Int32)), (.ref b1)])) rfl rfl (hb hby own_d4_73)
  obtain ⟨Lo12, X12, N12⟩ := oOpq X12 (Fr.snoc X12 N0 g_b1)
  have Z12 := Nat.le_trans Z1 (Keep.of_wr W12).1
  have F13 := F5.other W12 ne2
  have F14 := F6.other W12 ne3
  have V_15 : Arv Z h12 b1 k1 .int (4 : Int32) [(.int y0), (.int (0 : Int32)), (.int (0 : Int32)), (.int (0 : Int32))] (.int (0 : Int32)) := V12
  have K_16 : Keep h0 h12 [] := K_4.wr W12 (Or.inr sz_b1)
  have b17 : (0 : Int32) < (2 : Int32) := (by decide)
  have b18 : ¬ ((1 : Int32) = (2 : Int32)) := (by decide)
  have b19 : (0 : Int32) < (2 : Int32) := (by decide)
  have b20 : x0 < y1 := c_x0_y1
  obtain ⟨T21, h21, X21, e21, W21, V21, st21⟩ := oStI X12 hx hZ e12 V_15 (j := (1 : Int32)) ⟨by decide, by decide⟩ 1 rfl (Nat.le_of_ble_eq_true rfl) (g := (mkF m 57 #[oa a0, oa a1, oa b1, oi (0 : Int32), oi (1 : Int32)] [(.int x0), (.int (1 : Int32)), (.ref b1)])) rfl rfl (hb hby own_d4_57)
  obtain ⟨Lo21, X21, N21⟩ := oOpq X21 (Fr.snoc X21 N12 g_b1)
  have Z21 := Nat.le_trans Z12 (Keep.of_wr W21).1
  have F22 := F13.other W21 ne2
  have F23 := F14.other W21 ne3
  have V_24 : Arv Z h21 b1 k1 .int (4 : Int32) [(.int y0), (.int x0), (.int (0 : Int32)), (.int (0 : Int32))] (.int (0 : Int32)) := V21
  have K_25 : Keep h0 h21 [] := K_16.wr W21 (Or.inr sz_b1)
  have b26 : (1 : Int32) < (2 : Int32) := (by decide)
  have b27 : ¬ ((1 : Int32) = (2 : Int32)) := (by decide)
  have b28 : (1 : Int32) < (2 : Int32) := (by decide)
  have b29 : x1 < y1 := c_x1_y1
  obtain ⟨T30, h30, X30, e30, W30, V30, st30⟩ := oStI X21 hx hZ e21 V_24 (j := (2 : Int32)) ⟨by decide, by decide⟩ 2 rfl (Nat.le_of_ble_eq_true rfl) (g := (mkF m 57 #[oa a0, oa a1, oa b1, oi (1 : Int32), oi (1 : Int32)] [(.int x1), (.int (2 : Int32)), (.ref b1)])) rfl rfl (hb hby own_d4_57)
  obtain ⟨Lo30, X30, N30⟩ := oOpq X30 (Fr.snoc X30 N21 g_b1)
  have Z30 := Nat.le_trans Z21 (Keep.of_wr W30).1
  have F31 := F22.other W30 ne2
  have F32 := F23.other W30 ne3
  have V_33 : Arv Z h30 b1 k1 .int (4 : Int32) [(.int y0), (.int x0), (.int x1), (.int (0 : Int32))] (.int (0 : Int32)) := V30
  have K_34 : Keep h0 h30 [] := K_25.wr W30 (Or.inr sz_b1)
  have b35 : ¬ ((2 : Int32) < (2 : Int32)) := (by decide)
  have b36 : (1 : Int32) < (2 : Int32) := (by decide)
  have b37 : ¬ ((1 : Int32) = (2 : Int32)) := (by decide)
  have b38 : ¬ ((2 : Int32) < (2 : Int32)) := (by decide)
  obtain ⟨T39, h39, X39, e39, W39, V39, st39⟩ := oStI X30 hx hZ e30 V_33 (j := (3 : Int32)) ⟨by decide, by decide⟩ 3 rfl (Nat.le_of_ble_eq_true rfl) (g := (mkF m 73 #[oa a0, oa a1, oa b1, oi (2 : Int32), oi (1 : Int32)] [(.int y1), (.int (3 : Int32)), (.ref b1)])) rfl rfl (hb hby own_d4_73)
  obtain ⟨Lo39, X39, N39⟩ := oOpq X39 (Fr.snoc X39 N30 g_b1)
  have Z39 := Nat.le_trans Z30 (Keep.of_wr W39).1
  have F40 := F31.other W39 ne2
  have F41 := F32.other W39 ne3
  have V_42 : Arv Z h39 b1 k1 .int (4 : Int32) [(.int y0), (.int x0), (.int x1), (.int y1)] (.int (0 : Int32)) := V39
  have K_43 : Keep h0 h39 [] := K_34.wr W39 (Or.inr sz_b1)
  have b44 : ¬ ((2 : Int32) < (2 : Int32)) := (by decide)
  have b45 : ¬ ((2 : Int32) < (2 : Int32)) := (by decide)
  obtain ⟨fs, hr, hrun, hended, hW, hsame⟩ := X39.leave (v := (some (.ref b1))) (fun h => by rw [Bd.returns] at h; cases h)
  refine ⟨_, _, pre0 _ ?_, hrun, hended, _, _, rfl, ?_, ⟨_, rfl⟩, hW, hsame.mono (by decide) (by decide)⟩
  · show oS p e below s₁ m 0 #[oa a0, oa a1, .unset, .unset, .unset] [] _
    refine XS.aloadN X0.here hx rfl (hb hby own_d4_0) rfl rfl ?_
    show oS p e below s₁ m 1 #[oa a0, oa a1, .unset, .unset, .unset] [(.ref a0)] _
    refine oLen X0 hx hZ e0 V_a0 (hb hby own_d4_1) ?_
    refine XS.aloadN X0.here hx rfl (hb hby own_d4_2) rfl rfl ?_
    show oS p e below s₁ m 3 #[oa a0, oa a1, .unset, .unset, .unset] [(.ref a1), (.int (2 : Int32))] _
    refine oLen X0 hx hZ e0 V_a1 (hb hby own_d4_3) ?_
    refine XS.iadd X0.here hx rfl (hb hby own_d4_4) rfl ?_
    show oS p e below s₁ m 5 #[oa a0, oa a1, .unset, .unset, .unset] [(.int (4 : Int32))] _
    refine st1 _ ?_
    show oS p e below T1 m 7 #[oa a0, oa a1, .unset, .unset, .unset] [(.ref b1)] _
    refine XS.astoreN X1.here hx rfl (hb hby own_d4_7) rfl rfl (l' := #[oa a0, oa a1, oa b1, .unset, .unset]) rfl ?_
    refine XS.iconst X1.here hx rfl (hb hby own_d4_8) ?_
    refine XS.istoreN X1.here hx rfl (hb hby own_d4_9) rfl (l' := #[oa a0, oa a1, oa b1, oi (0 : Int32), .unset]) rfl ?_
    refine XS.iconst X1.here hx rfl (hb hby own_d4_10) ?_
    show oS p e below T1 m 11 #[oa a0, oa a1, oa b1, oi (0 : Int32), .unset] [(.int (0 : Int32))] _
    refine XS.istore X1.here hx rfl (hb hby own_d4_11) rfl (l' := #[oa a0, oa a1, oa b1, oi (0 : Int32), oi (0 : Int32)]) rfl ?_
    refine XS.iloadN X1.here hx rfl (hb hby own_d4_13) rfl ?_
    refine XS.aloadN X1.here hx rfl (hb hby own_d4_14) rfl rfl ?_
    show oS p e below T1 m 15 #[oa a0, oa a1, oa b1, oi (0 : Int32), oi (0 : Int32)] [(.ref a0), (.int (0 : Int32))] _
    refine oLen X1 hx hZ e1 F5 (hb hby own_d4_15) ?_
    show oS p e below T1 m 16 #[oa a0, oa a1, oa b1, oi (0 : Int32), oi (0 : Int32)] [(.int (2 : Int32)), (.int (0 : Int32))] _
    refine XS.icmpYes X1.here hx rfl (pc0 := 16) (pc' := 26) rfl (hb hby own_d4_16) rfl (tlt b8).1 (by decide) (by decide) ?_
    refine XS.iload X1.here hx rfl (hb hby own_d4_26) rfl ?_
    refine XS.aloadN X1.here hx rfl (hb hby own_d4_28) rfl rfl ?_
    show oS p e below T1 m 29 #[oa a0, oa a1, oa b1, oi (0 : Int32), oi (0 : Int32)] [(.ref a1), (.int (0 : Int32))] _
    refine oLen X1 hx hZ e1 F6 (hb hby own_d4_29) ?_
    show oS p e below T1 m 30 #[oa a0, oa a1, oa b1, oi (0 : Int32), oi (0 : Int32)] [(.int (2 : Int32)), (.int (0 : Int32))] _
    refine XS.icmpNo X1.here hx rfl (hb hby own_d4_30) rfl (feq b9).1 ?_
    refine XS.iloadN X1.here hx rfl (hb hby own_d4_33) rfl ?_
    refine XS.aloadN X1.here hx rfl (hb hby own_d4_34) rfl rfl ?_
    show oS p e below T1 m 35 #[oa a0, oa a1, oa b1, oi (0 : Int32), oi (0 : Int32)] [(.ref a0), (.int (0 : Int32))] _
    refine oLen X1 hx hZ e1 F5 (hb hby own_d4_35) ?_
    show oS p e below T1 m 36 #[oa a0, oa a1, oa b1, oi (0 : Int32), oi (0 : Int32)] [(.int (2 : Int32)), (.int (0 : Int32))] _
    refine XS.icmpNo X1.here hx rfl (hb hby own_d4_36) rfl (tlt b10).2.1 ?_
    refine XS.aloadN X1.here hx rfl (hb hby own_d4_39) rfl rfl ?_
    refine XS.iloadN X1.here hx rfl (hb hby own_d4_40) rfl ?_
    show oS p e below T1 m 41 #[oa a0, oa a1, oa b1, oi (0 : Int32), oi (0 : Int32)] [(.int (0 : Int32)), (.ref a0)] _
    refine oLdI X1 hx hZ e1 F5 (v := (.int x0)) ⟨by decide, by decide⟩ rfl (hb hby own_d4_41) ?_
    refine XS.aloadN X1.here hx rfl (hb hby own_d4_42) rfl rfl ?_
    refine XS.iload X1.here hx rfl (hb hby own_d4_43) rfl ?_
    show oS p e below T1 m 45 #[oa a0, oa a1, oa b1, oi (0 : Int32), oi (0 : Int32)] [(.int (0 : Int32)), (.ref a1), (.int x0)] _
    refine oLdI X1 hx hZ e1 F6 (v := (.int y0)) ⟨by decide, by decide⟩ rfl (hb hby own_d4_45) ?_
    show oS p e below T1 m 46 #[oa a0, oa a1, oa b1, oi (0 : Int32), oi (0 : Int32)] [(.int y0), (.int x0)] _
    refine XS.icmpYes X1.here hx rfl (pc0 := 46) (pc' := 64) rfl (hb hby own_d4_46) rfl (flt b11).2.1 (by decide) (by decide) ?_
    refine XS.aloadN X1.here hx rfl (hb hby own_d4_64) rfl rfl ?_
    refine XS.iloadN X1.here hx rfl (hb hby own_d4_65) rfl ?_
    refine XS.iload X1.here hx rfl (hb hby own_d4_66) rfl ?_
    show oS p e below T1 m 68 #[oa a0, oa a1, oa b1, oi (0 : Int32), oi (0 : Int32)] [(.int (0 : Int32)), (.int (0 : Int32)), (.ref b1)] _
    refine XS.iadd X1.here hx rfl (hb hby own_d4_68) rfl ?_
    refine XS.aloadN X1.here hx rfl (hb hby own_d4_69) rfl rfl ?_
    refine XS.iload X1.here hx rfl (hb hby own_d4_70) rfl ?_
    show oS p e below T1 m 72 #[oa a0, oa a1, oa b1, oi (0 : Int32), oi (0 : Int32)] [(.int (0 : Int32)), (.ref a1), (.int (0 : Int32)), (.ref b1)] _
    refine oLdI X1 hx hZ e1 F6 (v := (.int y0)) ⟨by decide, by decide⟩ rfl (hb hby own_d4_72) ?_
    show oS p e below T1 m 73 #[oa a0, oa a1, oa b1, oi (0 : Int32), oi (0 : Int32)] [(.int y0), (.int (0 : Int32)), (.ref b1)] _
    refine st12 _ ?_
    show oS p e below T12 m 74 #[oa a0, oa a1, oa b1, oi (0 : Int32), oi (0 : Int32)] [] _
    refine XS.iinc X12.here hx rfl (hb hby own_d4_74) rfl (l' := #[oa a0, oa a1, oa b1, oi (0 : Int32), oi (1 : Int32)]) rfl ?_
    refine XS.goto X12.here hx rfl (pc0 := 77) (pc' := 13) rfl (hb hby own_d4_77) (by decide) (by decide) ?_
    refine XS.iloadN X12.here hx rfl (hb hby own_d4_13) rfl ?_
    refine XS.aloadN X12.here hx rfl (hb hby own_d4_14) rfl rfl ?_
    show oS p e below T12 m 15 #[oa a0, oa a1, oa b1, oi (0 : Int32), oi (1 : Int32)] [(.ref a0), (.int (0 : Int32))] _
    refine oLen X12 hx hZ e12 F13 (hb hby own_d4_15) ?_
    show oS p e below T12 m 16 #[oa a0, oa a1, oa b1, oi (0 : Int32), oi (1 : Int32)] [(.int (2 : Int32)), (.int (0 : Int32))] _
    refine XS.icmpYes X12.here hx rfl (pc0 := 16) (pc' := 26) rfl (hb hby own_d4_16) rfl (tlt b17).1 (by decide) (by decide) ?_
    refine XS.iload X12.here hx rfl (hb hby own_d4_26) rfl ?_
    refine XS.aloadN X12.here hx rfl (hb hby own_d4_28) rfl rfl ?_
    show oS p e below T12 m 29 #[oa a0, oa a1, oa b1, oi (0 : Int32), oi (1 : Int32)] [(.ref a1), (.int (1 : Int32))] _
    refine oLen X12 hx hZ e12 F14 (hb hby own_d4_29) ?_
    show oS p e below T12 m 30 #[oa a0, oa a1, oa b1, oi (0 : Int32), oi (1 : Int32)] [(.int (2 : Int32)), (.int (1 : Int32))] _
    refine XS.icmpNo X12.here hx rfl (hb hby own_d4_30) rfl (feq b18).1 ?_
    refine XS.iloadN X12.here hx rfl (hb hby own_d4_33) rfl ?_
    refine XS.aloadN X12.here hx rfl (hb hby own_d4_34) rfl rfl ?_
    show oS p e below T12 m 35 #[oa a0, oa a1, oa b1, oi (0 : Int32), oi (1 : Int32)] [(.ref a0), (.int (0 : Int32))] _
    refine oLen X12 hx hZ e12 F13 (hb hby own_d4_35) ?_
    show oS p e below T12 m 36 #[oa a0, oa a1, oa b1, oi (0 : Int32), oi (1 : Int32)] [(.int (2 : Int32)), (.int (0 : Int32))] _
    refine XS.icmpNo X12.here hx rfl (hb hby own_d4_36) rfl (tlt b19).2.1 ?_
    refine XS.aloadN X12.here hx rfl (hb hby own_d4_39) rfl rfl ?_
    refine XS.iloadN X12.here hx rfl (hb hby own_d4_40) rfl ?_
    show oS p e below T12 m 41 #[oa a0, oa a1, oa b1, oi (0 : Int32), oi (1 : Int32)] [(.int (0 : Int32)), (.ref a0)] _
    refine oLdI X12 hx hZ e12 F13 (v := (.int x0)) ⟨by decide, by decide⟩ rfl (hb hby own_d4_41) ?_
    refine XS.aloadN X12.here hx rfl (hb hby own_d4_42) rfl rfl ?_
    refine XS.iload X12.here hx rfl (hb hby own_d4_43) rfl ?_
    show oS p e below T12 m 45 #[oa a0, oa a1, oa b1, oi (0 : Int32), oi (1 : Int32)] [(.int (1 : Int32)), (.ref a1), (.int x0)] _
    refine oLdI X12 hx hZ e12 F14 (v := (.int y1)) ⟨by decide, by decide⟩ rfl (hb hby own_d4_45) ?_
    show oS p e below T12 m 46 #[oa a0, oa a1, oa b1, oi (0 : Int32), oi (1 : Int32)] [(.int y1), (.int x0)] _
    refine XS.icmpNo X12.here hx rfl (hb hby own_d4_46) rfl (tlt b20).2.1 ?_
    refine XS.aloadN X12.here hx rfl (hb hby own_d4_49) rfl rfl ?_
    refine XS.iloadN X12.here hx rfl (hb hby own_d4_50) rfl ?_
    refine XS.iload X12.here hx rfl (hb hby own_d4_51) rfl ?_
    show oS p e below T12 m 53 #[oa a0, oa a1, oa b1, oi (0 : Int32), oi (1 : Int32)] [(.int (1 : Int32)), (.int (0 : Int32)), (.ref b1)] _
    refine XS.iadd X12.here hx rfl (hb hby own_d4_53) rfl ?_
    refine XS.aloadN X12.here hx rfl (hb hby own_d4_54) rfl rfl ?_
    refine XS.iloadN X12.here hx rfl (hb hby own_d4_55) rfl ?_
    show oS p e below T12 m 56 #[oa a0, oa a1, oa b1, oi (0 : Int32), oi (1 : Int32)] [(.int (0 : Int32)), (.ref a0), (.int (1 : Int32)), (.ref b1)] _
    refine oLdI X12 hx hZ e12 F13 (v := (.int x0)) ⟨by decide, by decide⟩ rfl (hb hby own_d4_56) ?_
    show oS p e below T12 m 57 #[oa a0, oa a1, oa b1, oi (0 : Int32), oi (1 : Int32)] [(.int x0), (.int (1 : Int32)), (.ref b1)] _
    refine st21 _ ?_
    show oS p e below T21 m 58 #[oa a0, oa a1, oa b1, oi (0 : Int32), oi (1 : Int32)] [] _
    refine XS.iinc X21.here hx rfl (hb hby own_d4_58) rfl (l' := #[oa a0, oa a1, oa b1, oi (1 : Int32), oi (1 : Int32)]) rfl ?_
    refine XS.goto X21.here hx rfl (pc0 := 61) (pc' := 13) rfl (hb hby own_d4_61) (by decide) (by decide) ?_
    refine XS.iloadN X21.here hx rfl (hb hby own_d4_13) rfl ?_
    refine XS.aloadN X21.here hx rfl (hb hby own_d4_14) rfl rfl ?_
    show oS p e below T21 m 15 #[oa a0, oa a1, oa b1, oi (1 : Int32), oi (1 : Int32)] [(.ref a0), (.int (1 : Int32))] _
    refine oLen X21 hx hZ e21 F22 (hb hby own_d4_15) ?_
    show oS p e below T21 m 16 #[oa a0, oa a1, oa b1, oi (1 : Int32), oi (1 : Int32)] [(.int (2 : Int32)), (.int (1 : Int32))] _
    refine XS.icmpYes X21.here hx rfl (pc0 := 16) (pc' := 26) rfl (hb hby own_d4_16) rfl (tlt b26).1 (by decide) (by decide) ?_
    refine XS.iload X21.here hx rfl (hb hby own_d4_26) rfl ?_
    refine XS.aloadN X21.here hx rfl (hb hby own_d4_28) rfl rfl ?_
    show oS p e below T21 m 29 #[oa a0, oa a1, oa b1, oi (1 : Int32), oi (1 : Int32)] [(.ref a1), (.int (1 : Int32))] _
    refine oLen X21 hx hZ e21 F23 (hb hby own_d4_29) ?_
    show oS p e below T21 m 30 #[oa a0, oa a1, oa b1, oi (1 : Int32), oi (1 : Int32)] [(.int (2 : Int32)), (.int (1 : Int32))] _
    refine XS.icmpNo X21.here hx rfl (hb hby own_d4_30) rfl (feq b27).1 ?_
    refine XS.iloadN X21.here hx rfl (hb hby own_d4_33) rfl ?_
    refine XS.aloadN X21.here hx rfl (hb hby own_d4_34) rfl rfl ?_
    show oS p e below T21 m 35 #[oa a0, oa a1, oa b1, oi (1 : Int32), oi (1 : Int32)] [(.ref a0), (.int (1 : Int32))] _
    refine oLen X21 hx hZ e21 F22 (hb hby own_d4_35) ?_
    show oS p e below T21 m 36 #[oa a0, oa a1, oa b1, oi (1 : Int32), oi (1 : Int32)] [(.int (2 : Int32)), (.int (1 : Int32))] _
    refine XS.icmpNo X21.here hx rfl (hb hby own_d4_36) rfl (tlt b28).2.1 ?_
    refine XS.aloadN X21.here hx rfl (hb hby own_d4_39) rfl rfl ?_
    refine XS.iloadN X21.here hx rfl (hb hby own_d4_40) rfl ?_
    show oS p e below T21 m 41 #[oa a0, oa a1, oa b1, oi (1 : Int32), oi (1 : Int32)] [(.int (1 : Int32)), (.ref a0)] _
    refine oLdI X21 hx hZ e21 F22 (v := (.int x1)) ⟨by decide, by decide⟩ rfl (hb hby own_d4_41) ?_
    refine XS.aloadN X21.here hx rfl (hb hby own_d4_42) rfl rfl ?_
    refine XS.iload X21.here hx rfl (hb hby own_d4_43) rfl ?_
    show oS p e below T21 m 45 #[oa a0, oa a1, oa b1, oi (1 : Int32), oi (1 : Int32)] [(.int (1 : Int32)), (.ref a1), (.int x1)] _
    refine oLdI X21 hx hZ e21 F23 (v := (.int y1)) ⟨by decide, by decide⟩ rfl (hb hby own_d4_45) ?_
    show oS p e below T21 m 46 #[oa a0, oa a1, oa b1, oi (1 : Int32), oi (1 : Int32)] [(.int y1), (.int x1)] _
    refine XS.icmpNo X21.here hx rfl (hb hby own_d4_46) rfl (tlt b29).2.1 ?_
    refine XS.aloadN X21.here hx rfl (hb hby own_d4_49) rfl rfl ?_
    refine XS.iloadN X21.here hx rfl (hb hby own_d4_50) rfl ?_
    refine XS.iload X21.here hx rfl (hb hby own_d4_51) rfl ?_
    show oS p e below T21 m 53 #[oa a0, oa a1, oa b1, oi (1 : Int32), oi (1 : Int32)] [(.int (1 : Int32)), (.int (1 : Int32)), (.ref b1)] _
    refine XS.iadd X21.here hx rfl (hb hby own_d4_53) rfl ?_
    refine XS.aloadN X21.here hx rfl (hb hby own_d4_54) rfl rfl ?_
    refine XS.iloadN X21.here hx rfl (hb hby own_d4_55) rfl ?_
    show oS p e below T21 m 56 #[oa a0, oa a1, oa b1, oi (1 : Int32), oi (1 : Int32)] [(.int (1 : Int32)), (.ref a0), (.int (2 : Int32)), (.ref b1)] _
    refine oLdI X21 hx hZ e21 F22 (v := (.int x1)) ⟨by decide, by decide⟩ rfl (hb hby own_d4_56) ?_
    show oS p e below T21 m 57 #[oa a0, oa a1, oa b1, oi (1 : Int32), oi (1 : Int32)] [(.int x1), (.int (2 : Int32)), (.ref b1)] _
    refine st30 _ ?_
    show oS p e below T30 m 58 #[oa a0, oa a1, oa b1, oi (1 : Int32), oi (1 : Int32)] [] _
    refine XS.iinc X30.here hx rfl (hb hby own_d4_58) rfl (l' := #[oa a0, oa a1, oa b1, oi (2 : Int32), oi (1 : Int32)]) rfl ?_
    refine XS.goto X30.here hx rfl (pc0 := 61) (pc' := 13) rfl (hb hby own_d4_61) (by decide) (by decide) ?_
    refine XS.iloadN X30.here hx rfl (hb hby own_d4_13) rfl ?_
    refine XS.aloadN X30.here hx rfl (hb hby own_d4_14) rfl rfl ?_
    show oS p e below T30 m 15 #[oa a0, oa a1, oa b1, oi (2 : Int32), oi (1 : Int32)] [(.ref a0), (.int (2 : Int32))] _
    refine oLen X30 hx hZ e30 F31 (hb hby own_d4_15) ?_
    show oS p e below T30 m 16 #[oa a0, oa a1, oa b1, oi (2 : Int32), oi (1 : Int32)] [(.int (2 : Int32)), (.int (2 : Int32))] _
    refine XS.icmpNo X30.here hx rfl (hb hby own_d4_16) rfl (flt b35).1 ?_
    refine XS.iload X30.here hx rfl (hb hby own_d4_19) rfl ?_
    refine XS.aloadN X30.here hx rfl (hb hby own_d4_21) rfl rfl ?_
    show oS p e below T30 m 22 #[oa a0, oa a1, oa b1, oi (2 : Int32), oi (1 : Int32)] [(.ref a1), (.int (1 : Int32))] _
    refine oLen X30 hx hZ e30 F32 (hb hby own_d4_22) ?_
    show oS p e below T30 m 23 #[oa a0, oa a1, oa b1, oi (2 : Int32), oi (1 : Int32)] [(.int (2 : Int32)), (.int (1 : Int32))] _
    refine XS.icmpNo X30.here hx rfl (hb hby own_d4_23) rfl (tlt b36).2.1 ?_
    refine XS.iload X30.here hx rfl (hb hby own_d4_26) rfl ?_
    refine XS.aloadN X30.here hx rfl (hb hby own_d4_28) rfl rfl ?_
    show oS p e below T30 m 29 #[oa a0, oa a1, oa b1, oi (2 : Int32), oi (1 : Int32)] [(.ref a1), (.int (1 : Int32))] _
    refine oLen X30 hx hZ e30 F32 (hb hby own_d4_29) ?_
    show oS p e below T30 m 30 #[oa a0, oa a1, oa b1, oi (2 : Int32), oi (1 : Int32)] [(.int (2 : Int32)), (.int (1 : Int32))] _
    refine XS.icmpNo X30.here hx rfl (hb hby own_d4_30) rfl (feq b37).1 ?_
    refine XS.iloadN X30.here hx rfl (hb hby own_d4_33) rfl ?_
    refine XS.aloadN X30.here hx rfl (hb hby own_d4_34) rfl rfl ?_
    show oS p e below T30 m 35 #[oa a0, oa a1, oa b1, oi (2 : Int32), oi (1 : Int32)] [(.ref a0), (.int (2 : Int32))] _
    refine oLen X30 hx hZ e30 F31 (hb hby own_d4_35) ?_
    show oS p e below T30 m 36 #[oa a0, oa a1, oa b1, oi (2 : Int32), oi (1 : Int32)] [(.int (2 : Int32)), (.int (2 : Int32))] _
    refine XS.icmpYes X30.here hx rfl (pc0 := 36) (pc' := 64) rfl (hb hby own_d4_36) rfl (flt b38).2.1 (by decide) (by decide) ?_
    refine XS.aloadN X30.here hx rfl (hb hby own_d4_64) rfl rfl ?_
    refine XS.iloadN X30.here hx rfl (hb hby own_d4_65) rfl ?_
    refine XS.iload X30.here hx rfl (hb hby own_d4_66) rfl ?_
    show oS p e below T30 m 68 #[oa a0, oa a1, oa b1, oi (2 : Int32), oi (1 : Int32)] [(.int (1 : Int32)), (.int (2 : Int32)), (.ref b1)] _
    refine XS.iadd X30.here hx rfl (hb hby own_d4_68) rfl ?_
    refine XS.aloadN X30.here hx rfl (hb hby own_d4_69) rfl rfl ?_
    refine XS.iload X30.here hx rfl (hb hby own_d4_70) rfl ?_
    show oS p e below T30 m 72 #[oa a0, oa a1, oa b1, oi (2 : Int32), oi (1 : Int32)] [(.int (1 : Int32)), (.ref a1), (.int (3 : Int32)), (.ref b1)] _
    refine oLdI X30 hx hZ e30 F32 (v := (.int y1)) ⟨by decide, by decide⟩ rfl (hb hby own_d4_72) ?_
    show oS p e below T30 m 73 #[oa a0, oa a1, oa b1, oi (2 : Int32), oi (1 : Int32)] [(.int y1), (.int (3 : Int32)), (.ref b1)] _
    refine st39 _ ?_
    show oS p e below T39 m 74 #[oa a0, oa a1, oa b1, oi (2 : Int32), oi (1 : Int32)] [] _
    refine XS.iinc X39.here hx rfl (hb hby own_d4_74) rfl (l' := #[oa a0, oa a1, oa b1, oi (2 : Int32), oi (2 : Int32)]) rfl ?_
    refine XS.goto X39.here hx rfl (pc0 := 77) (pc' := 13) rfl (hb hby own_d4_77) (by decide) (by decide) ?_
    refine XS.iloadN X39.here hx rfl (hb hby own_d4_13) rfl ?_
    refine XS.aloadN X39.here hx rfl (hb hby own_d4_14) rfl rfl ?_
    show oS p e below T39 m 15 #[oa a0, oa a1, oa b1, oi (2 : Int32), oi (2 : Int32)] [(.ref a0), (.int (2 : Int32))] _
    refine oLen X39 hx hZ e39 F40 (hb hby own_d4_15) ?_
    show oS p e below T39 m 16 #[oa a0, oa a1, oa b1, oi (2 : Int32), oi (2 : Int32)] [(.int (2 : Int32)), (.int (2 : Int32))] _
    refine XS.icmpNo X39.here hx rfl (hb hby own_d4_16) rfl (flt b44).1 ?_
    refine XS.iload X39.here hx rfl (hb hby own_d4_19) rfl ?_
    refine XS.aloadN X39.here hx rfl (hb hby own_d4_21) rfl rfl ?_
    show oS p e below T39 m 22 #[oa a0, oa a1, oa b1, oi (2 : Int32), oi (2 : Int32)] [(.ref a1), (.int (2 : Int32))] _
    refine oLen X39 hx hZ e39 F41 (hb hby own_d4_22) ?_
    show oS p e below T39 m 23 #[oa a0, oa a1, oa b1, oi (2 : Int32), oi (2 : Int32)] [(.int (2 : Int32)), (.int (2 : Int32))] _
    refine XS.icmpYes X39.here hx rfl (pc0 := 23) (pc' := 80) rfl (hb hby own_d4_23) rfl (flt b45).2.1 (by decide) (by decide) ?_
    refine XS.aloadN X39.here hx rfl (hb hby own_d4_80) rfl rfl ?_
    show oS p e below T39 m 81 #[oa a0, oa a1, oa b1, oi (2 : Int32), oi (2 : Int32)] [(.ref b1)] _
    exact retOut X39 hx Bd.returns rfl (Or.inr (Or.inr (Or.inr (Or.inr ⟨rfl, rfl, rfl⟩)))) (hb hby own_d4_81) hr
  · show own_Q4_22yxxy Z a0 a1 k_a0 x0 x1 k_a1 y0 y1 h0 n0 _ T39.heap _
    rw [e39]
    exact ⟨b1, k1, rfl, N39, K_43, sz_b1, V_42⟩
theorem own_ef4_22yxyx (m : MethodId) (a0 : Addr) (a1 : Addr) : entryFrame m #[(.ref a0), (.ref a1)] 5 = mkF m 0 #[oa a0, oa a1, .unset, .unset, .unset] [] := by first | (simp [entryFrame, mkF, argsToLocals, Value.category]; done) | rfl
def own_Q4_22yxyx (Z : State) (a0 : Addr) (a1 : Addr) (k_a0 : ClassId) (x0 : Int32) (x1 : Int32) (k_a1 : ClassId) (y0 : Int32) (y1 : Int32) (h0 : Heap) (n0 : Nat) (v : Option Value) (h : Heap) (L : List Loc) : Prop := ∃ (u : Addr) (k_u : ClassId), v = some (.ref u) ∧ Fr n0 L ∧ Keep h0 h [] ∧ h0.size ≤ u ∧ Arv Z h u k_u .int (4 : Int32) [(.int y0), (.int x0), (.int y1), (.int x1)] (.int (0 : Int32))
set_option maxRecDepth 65536 in
set_option maxHeartbeats 40000000 in
theorem own_rm4_22yxyx (l : Launch) (Z : State) (av : Array Value) (hw : ∀ d ∈ tables_1, d.before av Z = true) (ws : List Jvm.Cond) (a0 : Addr) (a1 : Addr) (k_a0 : ClassId) (x0 : Int32) (x1 : Int32) (k_a1 : ClassId) (y0 : Int32) (y1 : Int32) (h0 : Heap) (n0 : Nat) (Z0 : n0 ≤ h0.size) (V_a0 : Arv Z h0 a0 k_a0 .int (2 : Int32) [(.int x0), (.int x1)] (.int (0 : Int32))) (V_a1 : Arv Z h0 a1 k_a1 .int (2 : Int32) [(.int y0), (.int y1)] (.int (0 : Int32))) (c_x0_y0 : ¬ (x0 < y0)) (c_x0_y1 : x0 < y1) (c_x1_y1 : ¬ (x1 < y1)) :
    MetFree l (⟨"com/example/strict_anon/strictanon/service/RecordSets", "union", "([I[I)[I"⟩ : MethodName) (head1 (Jvm.Cond.code (⟨"com/example/strict_anon/strictanon/service/RecordSets", "union", "([I[I)[I"⟩ : MethodName) prog_30_method_2_code 5 (some (.array .int)) :: ws) ({ frames := 0, cells := 1, slots := 4, locals := 0 } : Room)) (fun a U => a = #[(.ref a0), (.ref a1)] ∧ Z.Warmed39 U.vm ∧ U.heap = h0) (fun _ _ _ _ _ => True) (fun _ U o U' => ∃ v L, o = .returned v ∧ own_Q4_22yxyx Z a0 a1 k_a0 x0 x1 k_a1 y0 y1 h0 n0 v U'.heap L ∧ FrameEnd U o U' L ({ frames := 0, cells := 1, slots := 4, locals := 0 } : Room).cells ({ frames := 0, cells := 1, slots := 4, locals := 0 } : Room).slots) := by
  refine MetFree.of_bodySF (plainFor_of_name own_pn1) hisR ?_
  intro p e s m args below meth c s₁ Bd hml0 hP hK
  obtain ⟨rfl, hZ, hh⟩ := hP
  have hx := Bd.exec
  have hby := Bd.bytes
  have hml : c.maxLocals = 5 := hml0
  have hown : s.vm.findClass "com/example/strict_anon/strictanon/service/RecordSets" = some m.cls := findClass_of_methodNamed Bd.named
  have hnm := (name_of_methodNamed Bd.named Bd.method).1
  have X0 : Stand p l e ({ frames := 0, cells := 1, slots := 4, locals := 0 } : Room) s m #[(.ref a0), (.ref a1)] below meth c s₁ [] 0 0 := Stand.of_body Bd
  have e0 : s₁.heap = h0 := by rw [← hh, Bd.state]; rfl
  have N0 := Fr.nil n0
  have pre0 : ∀ t, Steps p.tables e below (s₁.setTop (mkF m 0 #[oa a0, oa a1, .unset, .unset, .unset] [])) t → Steps p.tables e below (s₁.setTop (entryFrame m #[(.ref a0), (.ref a1)] 5)) t := fun t k => castTop (own_ef4_22yxyx m a0 a1) k
  obtain ⟨T1, h1, k1, X1, e1, E1, A1, st1⟩ := newP X0 hx hZ (hw _ (List.mem_of_getElem? (i := 8) rfl)) e0 (g := (mkF m 5 #[oa a0, oa a1, .unset, .unset, .unset] [(.int (4 : Int32))])) rfl (hb hby own_d4_5) rfl (by decide) (cap := 4) (by decide) (by decide) (by decide) (by decide)
  obtain ⟨b1, g1⟩ : ∃ z, z = h0.size := ⟨_, rfl⟩
  rw [← g1] at A1 st1
  have g_b1 : n0 ≤ b1 := Nat.le_trans Z0 (Nat.le_of_eq g1.symm)
  have ne2 : a0 ≠ b1 := Nat.ne_of_lt (Nat.lt_of_lt_of_le V_a0.lt (Nat.le_of_eq g1.symm))
  have ne3 : a1 ≠ b1 := Nat.ne_of_lt (Nat.lt_of_lt_of_le V_a1.lt (Nat.le_of_eq g1.symm))
  have Z1 : n0 ≤ h1.size := Nat.le_trans Z0 E1.1
  have sz_b1 : h0.size ≤ b1 := Nat.le_trans (Keep.refl h0 []).1 (Nat.le_of_eq g1.symm)
  have K_4 : Keep h0 h1 [] := (Keep.refl h0 []).ext E1
  have F5 := V_a0.ext E1
  have F6 := V_a1.ext E1
  have V_7 : Arv Z h1 b1 k1 .int (4 : Int32) [(.int (0 : Int32)), (.int (0 : Int32)), (.int (0 : Int32)), (.int (0 : Int32))] (.int (0 : Int32)) := (Arv.new A1 (by decide)).pad (pad_rep [] (.int (0 : Int32)) 4)
  have b8 : (0 : Int32) < (2 : Int32) := (by decide)
  have b9 : ¬ ((0 : Int32) = (2 : Int32)) := (by decide)
  have b10 : (0 : Int32) < (2 : Int32) := (by decide)
  have b11 : ¬ (x0 < y0) := c_x0_y0
  obtain ⟨T12, h12, X12, e12, W12, V12, st12⟩ := oStI X1 hx hZ e1 V_7 (j := (0 : Int32)) ⟨by decide, by decide⟩ 0 rfl (Nat.le_of_ble_eq_true rfl) (g := (mkF m 73 #[oa a0, oa a1, oa b1, oi (0 : Int32), oi (0 : Int32)] [(.int y0), (.int (0 : Int32)), (.ref b1)])) rfl rfl (hb hby own_d4_73)
  obtain ⟨Lo12, X12, N12⟩ := oOpq X12 (Fr.snoc X12 N0 g_b1)
  have Z12 := Nat.le_trans Z1 (Keep.of_wr W12).1
  have F13 := F5.other W12 ne2
  have F14 := F6.other W12 ne3
  have V_15 : Arv Z h12 b1 k1 .int (4 : Int32) [(.int y0), (.int (0 : Int32)), (.int (0 : Int32)), (.int (0 : Int32))] (.int (0 : Int32)) := V12
  have K_16 : Keep h0 h12 [] := K_4.wr W12 (Or.inr sz_b1)
  have b17 : (0 : Int32) < (2 : Int32) := (by decide)
  have b18 : ¬ ((1 : Int32) = (2 : Int32)) := (by decide)
  have b19 : (0 : Int32) < (2 : Int32) := (by decide)
  have b20 : x0 < y1 := c_x0_y1
  obtain ⟨T21, h21, X21, e21, W21, V21, st21⟩ := oStI X12 hx hZ e12 V_15 (j := (1 : Int32)) ⟨by decide, by decide⟩ 1 rfl (Nat.le_of_ble_eq_true rfl) (g := (mkF m 57 #[oa a0, oa a1, oa b1, oi (0 : Int32), oi (1 : Int32)] [(.int x0), (.int (1 : Int32)), (.ref b1)])) rfl rfl (hb hby own_d4_57)
  obtain ⟨Lo21, X21, N21⟩ := oOpq X21 (Fr.snoc X21 N12 g_b1)
  have Z21 := Nat.le_trans Z12 (Keep.of_wr W21).1
  have F22 := F13.other W21 ne2
  have F23 := F14.other W21 ne3
  have V_24 : Arv Z h21 b1 k1 .int (4 : Int32) [(.int y0), (.int x0), (.int (0 : Int32)), (.int (0 : Int32))] (.int (0 : Int32)) := V21
  have K_25 : Keep h0 h21 [] := K_16.wr W21 (Or.inr sz_b1)
  have b26 : (1 : Int32) < (2 : Int32) := (by decide)
  have b27 : ¬ ((1 : Int32) = (2 : Int32)) := (by decide)
  have b28 : (1 : Int32) < (2 : Int32) := (by decide)
  have b29 : ¬ (x1 < y1) := c_x1_y1
  obtain ⟨T30, h30, X30, e30, W30, V30, st30⟩ := oStI X21 hx hZ e21 V_24 (j := (2 : Int32)) ⟨by decide, by decide⟩ 2 rfl (Nat.le_of_ble_eq_true rfl) (g := (mkF m 73 #[oa a0, oa a1, oa b1, oi (1 : Int32), oi (1 : Int32)] [(.int y1), (.int (2 : Int32)), (.ref b1)])) rfl rfl (hb hby own_d4_73)
  obtain ⟨Lo30, X30, N30⟩ := oOpq X30 (Fr.snoc X30 N21 g_b1)
  have Z30 := Nat.le_trans Z21 (Keep.of_wr W30).1
  have F31 := F22.other W30 ne2
  have F32 := F23.other W30 ne3
  have V_33 : Arv Z h30 b1 k1 .int (4 : Int32) [(.int y0), (.int x0), (.int y1), (.int (0 : Int32))] (.int (0 : Int32)) := V30
  have K_34 : Keep h0 h30 [] := K_25.wr W30 (Or.inr sz_b1)
  have b35 : (1 : Int32) < (2 : Int32) := (by decide)
  have b36 : (2 : Int32) = (2 : Int32) := (by decide)
  obtain ⟨T37, h37, X37, e37, W37, V37, st37⟩ := oStI X30 hx hZ e30 V_33 (j := (3 : Int32)) ⟨by decide, by decide⟩ 3 rfl (Nat.le_of_ble_eq_true rfl) (g := (mkF m 57 #[oa a0, oa a1, oa b1, oi (1 : Int32), oi (2 : Int32)] [(.int x1), (.int (3 : Int32)), (.ref b1)])) rfl rfl (hb hby own_d4_57)
  obtain ⟨Lo37, X37, N37⟩ := oOpq X37 (Fr.snoc X37 N30 g_b1)
  have Z37 := Nat.le_trans Z30 (Keep.of_wr W37).1
  have F38 := F31.other W37 ne2
  have F39 := F32.other W37 ne3
  have V_40 : Arv Z h37 b1 k1 .int (4 : Int32) [(.int y0), (.int x0), (.int y1), (.int x1)] (.int (0 : Int32)) := V37
  have K_41 : Keep h0 h37 [] := K_34.wr W37 (Or.inr sz_b1)
  have b42 : ¬ ((2 : Int32) < (2 : Int32)) := (by decide)
  have b43 : ¬ ((2 : Int32) < (2 : Int32)) := (by decide)
  obtain ⟨fs, hr, hrun, hended, hW, hsame⟩ := X37.leave (v := (some (.ref b1))) (fun h => by rw [Bd.returns] at h; cases h)
  refine ⟨_, _, pre0 _ ?_, hrun, hended, _, _, rfl, ?_, ⟨_, rfl⟩, hW, hsame.mono (by decide) (by decide)⟩
  · show oS p e below s₁ m 0 #[oa a0, oa a1, .unset, .unset, .unset] [] _
    refine XS.aloadN X0.here hx rfl (hb hby own_d4_0) rfl rfl ?_
    show oS p e below s₁ m 1 #[oa a0, oa a1, .unset, .unset, .unset] [(.ref a0)] _
    refine oLen X0 hx hZ e0 V_a0 (hb hby own_d4_1) ?_
    refine XS.aloadN X0.here hx rfl (hb hby own_d4_2) rfl rfl ?_
    show oS p e below s₁ m 3 #[oa a0, oa a1, .unset, .unset, .unset] [(.ref a1), (.int (2 : Int32))] _
    refine oLen X0 hx hZ e0 V_a1 (hb hby own_d4_3) ?_
    refine XS.iadd X0.here hx rfl (hb hby own_d4_4) rfl ?_
    show oS p e below s₁ m 5 #[oa a0, oa a1, .unset, .unset, .unset] [(.int (4 : Int32))] _
    refine st1 _ ?_
    show oS p e below T1 m 7 #[oa a0, oa a1, .unset, .unset, .unset] [(.ref b1)] _
    refine XS.astoreN X1.here hx rfl (hb hby own_d4_7) rfl rfl (l' := #[oa a0, oa a1, oa b1, .unset, .unset]) rfl ?_
    refine XS.iconst X1.here hx rfl (hb hby own_d4_8) ?_
    refine XS.istoreN X1.here hx rfl (hb hby own_d4_9) rfl (l' := #[oa a0, oa a1, oa b1, oi (0 : Int32), .unset]) rfl ?_
    refine XS.iconst X1.here hx rfl (hb hby own_d4_10) ?_
    show oS p e below T1 m 11 #[oa a0, oa a1, oa b1, oi (0 : Int32), .unset] [(.int (0 : Int32))] _
    refine XS.istore X1.here hx rfl (hb hby own_d4_11) rfl (l' := #[oa a0, oa a1, oa b1, oi (0 : Int32), oi (0 : Int32)]) rfl ?_
    refine XS.iloadN X1.here hx rfl (hb hby own_d4_13) rfl ?_
    refine XS.aloadN X1.here hx rfl (hb hby own_d4_14) rfl rfl ?_
    show oS p e below T1 m 15 #[oa a0, oa a1, oa b1, oi (0 : Int32), oi (0 : Int32)] [(.ref a0), (.int (0 : Int32))] _
    refine oLen X1 hx hZ e1 F5 (hb hby own_d4_15) ?_
    show oS p e below T1 m 16 #[oa a0, oa a1, oa b1, oi (0 : Int32), oi (0 : Int32)] [(.int (2 : Int32)), (.int (0 : Int32))] _
    refine XS.icmpYes X1.here hx rfl (pc0 := 16) (pc' := 26) rfl (hb hby own_d4_16) rfl (tlt b8).1 (by decide) (by decide) ?_
    refine XS.iload X1.here hx rfl (hb hby own_d4_26) rfl ?_
    refine XS.aloadN X1.here hx rfl (hb hby own_d4_28) rfl rfl ?_
    show oS p e below T1 m 29 #[oa a0, oa a1, oa b1, oi (0 : Int32), oi (0 : Int32)] [(.ref a1), (.int (0 : Int32))] _
    refine oLen X1 hx hZ e1 F6 (hb hby own_d4_29) ?_
    show oS p e below T1 m 30 #[oa a0, oa a1, oa b1, oi (0 : Int32), oi (0 : Int32)] [(.int (2 : Int32)), (.int (0 : Int32))] _
    refine XS.icmpNo X1.here hx rfl (hb hby own_d4_30) rfl (feq b9).1 ?_
    refine XS.iloadN X1.here hx rfl (hb hby own_d4_33) rfl ?_
    refine XS.aloadN X1.here hx rfl (hb hby own_d4_34) rfl rfl ?_
    show oS p e below T1 m 35 #[oa a0, oa a1, oa b1, oi (0 : Int32), oi (0 : Int32)] [(.ref a0), (.int (0 : Int32))] _
    refine oLen X1 hx hZ e1 F5 (hb hby own_d4_35) ?_
    show oS p e below T1 m 36 #[oa a0, oa a1, oa b1, oi (0 : Int32), oi (0 : Int32)] [(.int (2 : Int32)), (.int (0 : Int32))] _
    refine XS.icmpNo X1.here hx rfl (hb hby own_d4_36) rfl (tlt b10).2.1 ?_
    refine XS.aloadN X1.here hx rfl (hb hby own_d4_39) rfl rfl ?_
    refine XS.iloadN X1.here hx rfl (hb hby own_d4_40) rfl ?_
    show oS p e below T1 m 41 #[oa a0, oa a1, oa b1, oi (0 : Int32), oi (0 : Int32)] [(.int (0 : Int32)), (.ref a0)] _
    refine oLdI X1 hx hZ e1 F5 (v := (.int x0)) ⟨by decide, by decide⟩ rfl (hb hby own_d4_41) ?_
    refine XS.aloadN X1.here hx rfl (hb hby own_d4_42) rfl rfl ?_
    refine XS.iload X1.here hx rfl (hb hby own_d4_43) rfl ?_
    show oS p e below T1 m 45 #[oa a0, oa a1, oa b1, oi (0 : Int32), oi (0 : Int32)] [(.int (0 : Int32)), (.ref a1), (.int x0)] _
    refine oLdI X1 hx hZ e1 F6 (v := (.int y0)) ⟨by decide, by decide⟩ rfl (hb hby own_d4_45) ?_
    show oS p e below T1 m 46 #[oa a0, oa a1, oa b1, oi (0 : Int32), oi (0 : Int32)] [(.int y0), (.int x0)] _
    refine XS.icmpYes X1.here hx rfl (pc0 := 46) (pc' := 64) rfl (hb hby own_d4_46) rfl (flt b11).2.1 (by decide) (by decide) ?_
    refine XS.aloadN X1.here hx rfl (hb hby own_d4_64) rfl rfl ?_
    refine XS.iloadN X1.here hx rfl (hb hby own_d4_65) rfl ?_
    refine XS.iload X1.here hx rfl (hb hby own_d4_66) rfl ?_
    show oS p e below T1 m 68 #[oa a0, oa a1, oa b1, oi (0 : Int32), oi (0 : Int32)] [(.int (0 : Int32)), (.int (0 : Int32)), (.ref b1)] _
    refine XS.iadd X1.here hx rfl (hb hby own_d4_68) rfl ?_
    refine XS.aloadN X1.here hx rfl (hb hby own_d4_69) rfl rfl ?_
    refine XS.iload X1.here hx rfl (hb hby own_d4_70) rfl ?_
    show oS p e below T1 m 72 #[oa a0, oa a1, oa b1, oi (0 : Int32), oi (0 : Int32)] [(.int (0 : Int32)), (.ref a1), (.int (0 : Int32)), (.ref b1)] _
    refine oLdI X1 hx hZ e1 F6 (v := (.int y0)) ⟨by decide, by decide⟩ rfl (hb hby own_d4_72) ?_
    show oS p e below T1 m 73 #[oa a0, oa a1, oa b1, oi (0 : Int32), oi (0 : Int32)] [(.int y0), (.int (0 : Int32)), (.ref b1)] _
    refine st12 _ ?_
    show oS p e below T12 m 74 #[oa a0, oa a1, oa b1, oi (0 : Int32), oi (0 : Int32)] [] _
    refine XS.iinc X12.here hx rfl (hb hby own_d4_74) rfl (l' := #[oa a0, oa a1, oa b1, oi (0 : Int32), oi (1 : Int32)]) rfl ?_
    refine XS.goto X12.here hx rfl (pc0 := 77) (pc' := 13) rfl (hb hby own_d4_77) (by decide) (by decide) ?_
    refine XS.iloadN X12.here hx rfl (hb hby own_d4_13) rfl ?_
    refine XS.aloadN X12.here hx rfl (hb hby own_d4_14) rfl rfl ?_
    show oS p e below T12 m 15 #[oa a0, oa a1, oa b1, oi (0 : Int32), oi (1 : Int32)] [(.ref a0), (.int (0 : Int32))] _
    refine oLen X12 hx hZ e12 F13 (hb hby own_d4_15) ?_
    show oS p e below T12 m 16 #[oa a0, oa a1, oa b1, oi (0 : Int32), oi (1 : Int32)] [(.int (2 : Int32)), (.int (0 : Int32))] _
    refine XS.icmpYes X12.here hx rfl (pc0 := 16) (pc' := 26) rfl (hb hby own_d4_16) rfl (tlt b17).1 (by decide) (by decide) ?_
    refine XS.iload X12.here hx rfl (hb hby own_d4_26) rfl ?_
    refine XS.aloadN X12.here hx rfl (hb hby own_d4_28) rfl rfl ?_
    show oS p e below T12 m 29 #[oa a0, oa a1, oa b1, oi (0 : Int32), oi (1 : Int32)] [(.ref a1), (.int (1 : Int32))] _
    refine oLen X12 hx hZ e12 F14 (hb hby own_d4_29) ?_
    show oS p e below T12 m 30 #[oa a0, oa a1, oa b1, oi (0 : Int32), oi (1 : Int32)] [(.int (2 : Int32)), (.int (1 : Int32))] _
    refine XS.icmpNo X12.here hx rfl (hb hby own_d4_30) rfl (feq b18).1 ?_
    refine XS.iloadN X12.here hx rfl (hb hby own_d4_33) rfl ?_
    refine XS.aloadN X12.here hx rfl (hb hby own_d4_34) rfl rfl ?_
    show oS p e below T12 m 35 #[oa a0, oa a1, oa b1, oi (0 : Int32), oi (1 : Int32)] [(.ref a0), (.int (0 : Int32))] _
    refine oLen X12 hx hZ e12 F13 (hb hby own_d4_35) ?_
    show oS p e below T12 m 36 #[oa a0, oa a1, oa b1, oi (0 : Int32), oi (1 : Int32)] [(.int (2 : Int32)), (.int (0 : Int32))] _
    refine XS.icmpNo X12.here hx rfl (hb hby own_d4_36) rfl (tlt b19).2.1 ?_
    refine XS.aloadN X12.here hx rfl (hb hby own_d4_39) rfl rfl ?_
    refine XS.iloadN X12.here hx rfl (hb hby own_d4_40) rfl ?_
    show oS p e below T12 m 41 #[oa a0, oa a1, oa b1, oi (0 : Int32), oi (1 : Int32)] [(.int (0 : Int32)), (.ref a0)] _
    refine oLdI X12 hx hZ e12 F13 (v := (.int x0)) ⟨by decide, by decide⟩ rfl (hb hby own_d4_41) ?_
    refine XS.aloadN X12.here hx rfl (hb hby own_d4_42) rfl rfl ?_
    refine XS.iload X12.here hx rfl (hb hby own_d4_43) rfl ?_
    show oS p e below T12 m 45 #[oa a0, oa a1, oa b1, oi (0 : Int32), oi (1 : Int32)] [(.int (1 : Int32)), (.ref a1), (.int x0)] _
    refine oLdI X12 hx hZ e12 F14 (v := (.int y1)) ⟨by decide, by decide⟩ rfl (hb hby own_d4_45) ?_
    show oS p e below T12 m 46 #[oa a0, oa a1, oa b1, oi (0 : Int32), oi (1 : Int32)] [(.int y1), (.int x0)] _
    refine XS.icmpNo X12.here hx rfl (hb hby own_d4_46) rfl (tlt b20).2.1 ?_
    refine XS.aloadN X12.here hx rfl (hb hby own_d4_49) rfl rfl ?_
    refine XS.iloadN X12.here hx rfl (hb hby own_d4_50) rfl ?_
    refine XS.iload X12.here hx rfl (hb hby own_d4_51) rfl ?_
    show oS p e below T12 m 53 #[oa a0, oa a1, oa b1, oi (0 : Int32), oi (1 : Int32)] [(.int (1 : Int32)), (.int (0 : Int32)), (.ref b1)] _
    refine XS.iadd X12.here hx rfl (hb hby own_d4_53) rfl ?_
    refine XS.aloadN X12.here hx rfl (hb hby own_d4_54) rfl rfl ?_
    refine XS.iloadN X12.here hx rfl (hb hby own_d4_55) rfl ?_
    show oS p e below T12 m 56 #[oa a0, oa a1, oa b1, oi (0 : Int32), oi (1 : Int32)] [(.int (0 : Int32)), (.ref a0), (.int (1 : Int32)), (.ref b1)] _
    refine oLdI X12 hx hZ e12 F13 (v := (.int x0)) ⟨by decide, by decide⟩ rfl (hb hby own_d4_56) ?_
    show oS p e below T12 m 57 #[oa a0, oa a1, oa b1, oi (0 : Int32), oi (1 : Int32)] [(.int x0), (.int (1 : Int32)), (.ref b1)] _
    refine st21 _ ?_
    show oS p e below T21 m 58 #[oa a0, oa a1, oa b1, oi (0 : Int32), oi (1 : Int32)] [] _
    refine XS.iinc X21.here hx rfl (hb hby own_d4_58) rfl (l' := #[oa a0, oa a1, oa b1, oi (1 : Int32), oi (1 : Int32)]) rfl ?_
    refine XS.goto X21.here hx rfl (pc0 := 61) (pc' := 13) rfl (hb hby own_d4_61) (by decide) (by decide) ?_
    refine XS.iloadN X21.here hx rfl (hb hby own_d4_13) rfl ?_
    refine XS.aloadN X21.here hx rfl (hb hby own_d4_14) rfl rfl ?_
    show oS p e below T21 m 15 #[oa a0, oa a1, oa b1, oi (1 : Int32), oi (1 : Int32)] [(.ref a0), (.int (1 : Int32))] _
    refine oLen X21 hx hZ e21 F22 (hb hby own_d4_15) ?_
    show oS p e below T21 m 16 #[oa a0, oa a1, oa b1, oi (1 : Int32), oi (1 : Int32)] [(.int (2 : Int32)), (.int (1 : Int32))] _
    refine XS.icmpYes X21.here hx rfl (pc0 := 16) (pc' := 26) rfl (hb hby own_d4_16) rfl (tlt b26).1 (by decide) (by decide) ?_
    refine XS.iload X21.here hx rfl (hb hby own_d4_26) rfl ?_
    refine XS.aloadN X21.here hx rfl (hb hby own_d4_28) rfl rfl ?_
    show oS p e below T21 m 29 #[oa a0, oa a1, oa b1, oi (1 : Int32), oi (1 : Int32)] [(.ref a1), (.int (1 : Int32))] _
    refine oLen X21 hx hZ e21 F23 (hb hby own_d4_29) ?_
    show oS p e below T21 m 30 #[oa a0, oa a1, oa b1, oi (1 : Int32), oi (1 : Int32)] [(.int (2 : Int32)), (.int (1 : Int32))] _
    refine XS.icmpNo X21.here hx rfl (hb hby own_d4_30) rfl (feq b27).1 ?_
    refine XS.iloadN X21.here hx rfl (hb hby own_d4_33) rfl ?_
    refine XS.aloadN X21.here hx rfl (hb hby own_d4_34) rfl rfl ?_
    show oS p e below T21 m 35 #[oa a0, oa a1, oa b1, oi (1 : Int32), oi (1 : Int32)] [(.ref a0), (.int (1 : Int32))] _
    refine oLen X21 hx hZ e21 F22 (hb hby own_d4_35) ?_
    show oS p e below T21 m 36 #[oa a0, oa a1, oa b1, oi (1 : Int32), oi (1 : Int32)] [(.int (2 : Int32)), (.int (1 : Int32))] _
    refine XS.icmpNo X21.here hx rfl (hb hby own_d4_36) rfl (tlt b28).2.1 ?_
    refine XS.aloadN X21.here hx rfl (hb hby own_d4_39) rfl rfl ?_
    refine XS.iloadN X21.here hx rfl (hb hby own_d4_40) rfl ?_
    show oS p e below T21 m 41 #[oa a0, oa a1, oa b1, oi (1 : Int32), oi (1 : Int32)] [(.int (1 : Int32)), (.ref a0)] _
    refine oLdI X21 hx hZ e21 F22 (v := (.int x1)) ⟨by decide, by decide⟩ rfl (hb hby own_d4_41) ?_
    refine XS.aloadN X21.here hx rfl (hb hby own_d4_42) rfl rfl ?_
    refine XS.iload X21.here hx rfl (hb hby own_d4_43) rfl ?_
    show oS p e below T21 m 45 #[oa a0, oa a1, oa b1, oi (1 : Int32), oi (1 : Int32)] [(.int (1 : Int32)), (.ref a1), (.int x1)] _
    refine oLdI X21 hx hZ e21 F23 (v := (.int y1)) ⟨by decide, by decide⟩ rfl (hb hby own_d4_45) ?_
    show oS p e below T21 m 46 #[oa a0, oa a1, oa b1, oi (1 : Int32), oi (1 : Int32)] [(.int y1), (.int x1)] _
    refine XS.icmpYes X21.here hx rfl (pc0 := 46) (pc' := 64) rfl (hb hby own_d4_46) rfl (flt b29).2.1 (by decide) (by decide) ?_
    refine XS.aloadN X21.here hx rfl (hb hby own_d4_64) rfl rfl ?_
    refine XS.iloadN X21.here hx rfl (hb hby own_d4_65) rfl ?_
    refine XS.iload X21.here hx rfl (hb hby own_d4_66) rfl ?_
    show oS p e below T21 m 68 #[oa a0, oa a1, oa b1, oi (1 : Int32), oi (1 : Int32)] [(.int (1 : Int32)), (.int (1 : Int32)), (.ref b1)] _
    refine XS.iadd X21.here hx rfl (hb hby own_d4_68) rfl ?_
    refine XS.aloadN X21.here hx rfl (hb hby own_d4_69) rfl rfl ?_
    refine XS.iload X21.here hx rfl (hb hby own_d4_70) rfl ?_
    show oS p e below T21 m 72 #[oa a0, oa a1, oa b1, oi (1 : Int32), oi (1 : Int32)] [(.int (1 : Int32)), (.ref a1), (.int (2 : Int32)), (.ref b1)] _
    refine oLdI X21 hx hZ e21 F23 (v := (.int y1)) ⟨by decide, by decide⟩ rfl (hb hby own_d4_72) ?_
    show oS p e below T21 m 73 #[oa a0, oa a1, oa b1, oi (1 : Int32), oi (1 : Int32)] [(.int y1), (.int (2 : Int32)), (.ref b1)] _
    refine st30 _ ?_
    show oS p e below T30 m 74 #[oa a0, oa a1, oa b1, oi (1 : Int32), oi (1 : Int32)] [] _
    refine XS.iinc X30.here hx rfl (hb hby own_d4_74) rfl (l' := #[oa a0, oa a1, oa b1, oi (1 : Int32), oi (2 : Int32)]) rfl ?_
    refine XS.goto X30.here hx rfl (pc0 := 77) (pc' := 13) rfl (hb hby own_d4_77) (by decide) (by decide) ?_
    refine XS.iloadN X30.here hx rfl (hb hby own_d4_13) rfl ?_
    refine XS.aloadN X30.here hx rfl (hb hby own_d4_14) rfl rfl ?_
    show oS p e below T30 m 15 #[oa a0, oa a1, oa b1, oi (1 : Int32), oi (2 : Int32)] [(.ref a0), (.int (1 : Int32))] _
    refine oLen X30 hx hZ e30 F31 (hb hby own_d4_15) ?_
    show oS p e below T30 m 16 #[oa a0, oa a1, oa b1, oi (1 : Int32), oi (2 : Int32)] [(.int (2 : Int32)), (.int (1 : Int32))] _
    refine XS.icmpYes X30.here hx rfl (pc0 := 16) (pc' := 26) rfl (hb hby own_d4_16) rfl (tlt b35).1 (by decide) (by decide) ?_
    refine XS.iload X30.here hx rfl (hb hby own_d4_26) rfl ?_
    refine XS.aloadN X30.here hx rfl (hb hby own_d4_28) rfl rfl ?_
    show oS p e below T30 m 29 #[oa a0, oa a1, oa b1, oi (1 : Int32), oi (2 : Int32)] [(.ref a1), (.int (2 : Int32))] _
    refine oLen X30 hx hZ e30 F32 (hb hby own_d4_29) ?_
    show oS p e below T30 m 30 #[oa a0, oa a1, oa b1, oi (1 : Int32), oi (2 : Int32)] [(.int (2 : Int32)), (.int (2 : Int32))] _
    refine XS.icmpYes X30.here hx rfl (pc0 := 30) (pc' := 49) rfl (hb hby own_d4_30) rfl (teq b36).1 (by decide) (by decide) ?_
    refine XS.aloadN X30.here hx rfl (hb hby own_d4_49) rfl rfl ?_
    refine XS.iloadN X30.here hx rfl (hb hby own_d4_50) rfl ?_
    refine XS.iload X30.here hx rfl (hb hby own_d4_51) rfl ?_
    show oS p e below T30 m 53 #[oa a0, oa a1, oa b1, oi (1 : Int32), oi (2 : Int32)] [(.int (2 : Int32)), (.int (1 : Int32)), (.ref b1)] _
    refine XS.iadd X30.here hx rfl (hb hby own_d4_53) rfl ?_
    refine XS.aloadN X30.here hx rfl (hb hby own_d4_54) rfl rfl ?_
    refine XS.iloadN X30.here hx rfl (hb hby own_d4_55) rfl ?_
    show oS p e below T30 m 56 #[oa a0, oa a1, oa b1, oi (1 : Int32), oi (2 : Int32)] [(.int (1 : Int32)), (.ref a0), (.int (3 : Int32)), (.ref b1)] _
    refine oLdI X30 hx hZ e30 F31 (v := (.int x1)) ⟨by decide, by decide⟩ rfl (hb hby own_d4_56) ?_
    show oS p e below T30 m 57 #[oa a0, oa a1, oa b1, oi (1 : Int32), oi (2 : Int32)] [(.int x1), (.int (3 : Int32)), (.ref b1)] _
    refine st37 _ ?_
    show oS p e below T37 m 58 #[oa a0, oa a1, oa b1, oi (1 : Int32), oi (2 : Int32)] [] _
    refine XS.iinc X37.here hx rfl (hb hby own_d4_58) rfl (l' := #[oa a0, oa a1, oa b1, oi (2 : Int32), oi (2 : Int32)]) rfl ?_
    refine XS.goto X37.here hx rfl (pc0 := 61) (pc' := 13) rfl (hb hby own_d4_61) (by decide) (by decide) ?_
    refine XS.iloadN X37.here hx rfl (hb hby own_d4_13) rfl ?_
    refine XS.aloadN X37.here hx rfl (hb hby own_d4_14) rfl rfl ?_
    show oS p e below T37 m 15 #[oa a0, oa a1, oa b1, oi (2 : Int32), oi (2 : Int32)] [(.ref a0), (.int (2 : Int32))] _
    refine oLen X37 hx hZ e37 F38 (hb hby own_d4_15) ?_
    show oS p e below T37 m 16 #[oa a0, oa a1, oa b1, oi (2 : Int32), oi (2 : Int32)] [(.int (2 : Int32)), (.int (2 : Int32))] _
    refine XS.icmpNo X37.here hx rfl (hb hby own_d4_16) rfl (flt b42).1 ?_
    refine XS.iload X37.here hx rfl (hb hby own_d4_19) rfl ?_
    refine XS.aloadN X37.here hx rfl (hb hby own_d4_21) rfl rfl ?_
    show oS p e below T37 m 22 #[oa a0, oa a1, oa b1, oi (2 : Int32), oi (2 : Int32)] [(.ref a1), (.int (2 : Int32))] _
    refine oLen X37 hx hZ e37 F39 (hb hby own_d4_22) ?_
    show oS p e below T37 m 23 #[oa a0, oa a1, oa b1, oi (2 : Int32), oi (2 : Int32)] [(.int (2 : Int32)), (.int (2 : Int32))] _
    refine XS.icmpYes X37.here hx rfl (pc0 := 23) (pc' := 80) rfl (hb hby own_d4_23) rfl (flt b43).2.1 (by decide) (by decide) ?_
    refine XS.aloadN X37.here hx rfl (hb hby own_d4_80) rfl rfl ?_
    show oS p e below T37 m 81 #[oa a0, oa a1, oa b1, oi (2 : Int32), oi (2 : Int32)] [(.ref b1)] _
    exact retOut X37 hx Bd.returns rfl (Or.inr (Or.inr (Or.inr (Or.inr ⟨rfl, rfl, rfl⟩)))) (hb hby own_d4_81) hr
  · show own_Q4_22yxyx Z a0 a1 k_a0 x0 x1 k_a1 y0 y1 h0 n0 _ T37.heap _
    rw [e37]
    exact ⟨b1, k1, rfl, N37, K_41, sz_b1, V_40⟩
theorem own_ef4_22yyxx (m : MethodId) (a0 : Addr) (a1 : Addr) : entryFrame m #[(.ref a0), (.ref a1)] 5 = mkF m 0 #[oa a0, oa a1, .unset, .unset, .unset] [] := by first | (simp [entryFrame, mkF, argsToLocals, Value.category]; done) | rfl
def own_Q4_22yyxx (Z : State) (a0 : Addr) (a1 : Addr) (k_a0 : ClassId) (x0 : Int32) (x1 : Int32) (k_a1 : ClassId) (y0 : Int32) (y1 : Int32) (h0 : Heap) (n0 : Nat) (v : Option Value) (h : Heap) (L : List Loc) : Prop := ∃ (u : Addr) (k_u : ClassId), v = some (.ref u) ∧ Fr n0 L ∧ Keep h0 h [] ∧ h0.size ≤ u ∧ Arv Z h u k_u .int (4 : Int32) [(.int y0), (.int y1), (.int x0), (.int x1)] (.int (0 : Int32))
set_option maxRecDepth 65536 in
set_option maxHeartbeats 40000000 in
theorem own_rm4_22yyxx (l : Launch) (Z : State) (av : Array Value) (hw : ∀ d ∈ tables_1, d.before av Z = true) (ws : List Jvm.Cond) (a0 : Addr) (a1 : Addr) (k_a0 : ClassId) (x0 : Int32) (x1 : Int32) (k_a1 : ClassId) (y0 : Int32) (y1 : Int32) (h0 : Heap) (n0 : Nat) (Z0 : n0 ≤ h0.size) (V_a0 : Arv Z h0 a0 k_a0 .int (2 : Int32) [(.int x0), (.int x1)] (.int (0 : Int32))) (V_a1 : Arv Z h0 a1 k_a1 .int (2 : Int32) [(.int y0), (.int y1)] (.int (0 : Int32))) (c_x0_y0 : ¬ (x0 < y0)) (c_x0_y1 : ¬ (x0 < y1)) :
    MetFree l (⟨"com/example/strict_anon/strictanon/service/RecordSets", "union", "([I[I)[I"⟩ : MethodName) (head1 (Jvm.Cond.code (⟨"com/example/strict_anon/strictanon/service/RecordSets", "union", "([I[I)[I"⟩ : MethodName) prog_30_method_2_code 5 (some (.array .int)) :: ws) ({ frames := 0, cells := 1, slots := 4, locals := 0 } : Room)) (fun a U => a = #[(.ref a0), (.ref a1)] ∧ Z.Warmed39 U.vm ∧ U.heap = h0) (fun _ _ _ _ _ => True) (fun _ U o U' => ∃ v L, o = .returned v ∧ own_Q4_22yyxx Z a0 a1 k_a0 x0 x1 k_a1 y0 y1 h0 n0 v U'.heap L ∧ FrameEnd U o U' L ({ frames := 0, cells := 1, slots := 4, locals := 0 } : Room).cells ({ frames := 0, cells := 1, slots := 4, locals := 0 } : Room).slots) := by
  refine MetFree.of_bodySF (plainFor_of_name own_pn1) hisR ?_
  intro p e s m args below meth c s₁ Bd hml0 hP hK
  obtain ⟨rfl, hZ, hh⟩ := hP
  have hx := Bd.exec
  have hby := Bd.bytes
  have hml : c.maxLocals = 5 := hml0
  have hown : s.vm.findClass "com/example/strict_anon/strictanon/service/RecordSets" = some m.cls := findClass_of_methodNamed Bd.named
  have hnm := (name_of_methodNamed Bd.named Bd.method).1
  have X0 : Stand p l e ({ frames := 0, cells := 1, slots := 4, locals := 0 } : Room) s m #[(.ref a0), (.ref a1)] below meth c s₁ [] 0 0 := Stand.of_body Bd
  have e0 : s₁.heap = h0 := by rw [← hh, Bd.state]; rfl
  have N0 := Fr.nil n0
  have pre0 : ∀ t, Steps p.tables e below (s₁.setTop (mkF m 0 #[oa a0, oa a1, .unset, .unset, .unset] [])) t → Steps p.tables e below (s₁.setTop (entryFrame m #[(.ref a0), (.ref a1)] 5)) t := fun t k => castTop (own_ef4_22yyxx m a0 a1) k
  obtain ⟨T1, h1, k1, X1, e1, E1, A1, st1⟩ := newP X0 hx hZ (hw _ (List.mem_of_getElem? (i := 8) rfl)) e0 (g := (mkF m 5 #[oa a0, oa a1, .unset, .unset, .unset] [(.int (4 : Int32))])) rfl (hb hby own_d4_5) rfl (by decide) (cap := 4) (by decide) (by decide) (by decide) (by decide)
  obtain ⟨b1, g1⟩ : ∃ z, z = h0.size := ⟨_, rfl⟩
  rw [← g1] at A1 st1
  have g_b1 : n0 ≤ b1 := Nat.le_trans Z0 (Nat.le_of_eq g1.symm)
  have ne2 : a0 ≠ b1 := Nat.ne_of_lt (Nat.lt_of_lt_of_le V_a0.lt (Nat.le_of_eq g1.symm))
  have ne3 : a1 ≠ b1 := Nat.ne_of_lt (Nat.lt_of_lt_of_le V_a1.lt (Nat.le_of_eq g1.symm))
  have Z1 : n0 ≤ h1.size := Nat.le_trans Z0 E1.1
  have sz_b1 : h0.size ≤ b1 := Nat.le_trans (Keep.refl h0 []).1 (Nat.le_of_eq g1.symm)
  have K_4 : Keep h0 h1 [] := (Keep.refl h0 []).ext E1
  have F5 := V_a0.ext E1
  have F6 := V_a1.ext E1
  have V_7 : Arv Z h1 b1 k1 .int (4 : Int32) [(.int (0 : Int32)), (.int (0 : Int32)), (.int (0 : Int32)), (.int (0 : Int32))] (.int (0 : Int32)) := (Arv.new A1 (by decide)).pad (pad_rep [] (.int (0 : Int32)) 4)
  have b8 : (0 : Int32) < (2 : Int32) := (by decide)
  have b9 : ¬ ((0 : Int32) = (2 : Int32)) := (by decide)
  have b10 : (0 : Int32) < (2 : Int32) := (by decide)
  have b11 : ¬ (x0 < y0) := c_x0_y0
  obtain ⟨T12, h12, X12, e12, W12, V12, st12⟩ := oStI X1 hx hZ e1 V_7 (j := (0 : Int32)) ⟨by decide, by decide⟩ 0 rfl (Nat.le_of_ble_eq_true rfl) (g := (mkF m 73 #[oa a0, oa a1, oa b1, oi (0 : Int32), oi (0 : Int32)] [(.int y0), (.int (0 : Int32)), (.ref b1)])) rfl rfl (hb hby own_d4_73)
  obtain ⟨Lo12, X12, N12⟩ := oOpq X12 (Fr.snoc X12 N0 g_b1)
  have Z12 := Nat.le_trans Z1 (Keep.of_wr W12).1
  have F13 := F5.other W12 ne2
  have F14 := F6.other W12 ne3
  have V_15 : Arv Z h12 b1 k1 .int (4 : Int32) [(.int y0), (.int (0 : Int32)), (.int (0 : Int32)), (.int (0 : Int32))] (.int (0 : Int32)) := V12
  have K_16 : Keep h0 h12 [] := K_4.wr W12 (Or.inr sz_b1)
  have b17 : (0 : Int32) < (2 : Int32) := (by decide)
  have b18 : ¬ ((1 : Int32) = (2 : Int32)) := (by decide)
  have b19 : (0 : Int32) < (2 : Int32) := (by decide)
  have b20 : ¬ (x0 < y1) := c_x0_y1
  obtain ⟨T21, h21, X21, e21, W21, V21, st21⟩ := oStI X12 hx hZ e12 V_15 (j := (1 : Int32)) ⟨by decide, by decide⟩ 1 rfl (Nat.le_of_ble_eq_true rfl) (g := (mkF m 73 #[oa a0, oa a1, oa b1, oi (0 : Int32), oi (1 : Int32)] [(.int y1), (.int (1 : Int32)), (.ref b1)])) rfl rfl (hb hby own_d4_73)
  obtain ⟨Lo21, X21, N21⟩ := oOpq X21 (Fr.snoc X21 N12 g_b1)
  have Z21 := Nat.le_trans Z12 (Keep.of_wr W21).1
  have F22 := F13.other W21 ne2
  have F23 := F14.other W21 ne3
  have V_24 : Arv Z h21 b1 k1 .int (4 : Int32) [(.int y0), (.int y1), (.int (0 : Int32)), (.int (0 : Int32))] (.int (0 : Int32)) := V21
  have K_25 : Keep h0 h21 [] := K_16.wr W21 (Or.inr sz_b1)
  have b26 : (0 : Int32) < (2 : Int32) := (by decide)
  have b27 : (2 : Int32) = (2 : Int32) := (by decide)
  obtain ⟨T28, h28, X28, e28, W28, V28, st28⟩ := oStI X21 hx hZ e21 V_24 (j := (2 : Int32)) ⟨by decide, by decide⟩ 2 rfl (Nat.le_of_ble_eq_true rfl) (g := (mkF m 57 #[oa a0, oa a1, oa b1, oi (0 : Int32), oi (2 : Int32)] [(.int x0), (.int (2 : Int32)), (.ref b1)])) rfl rfl (hb hby own_d4_57)
  obtain ⟨Lo28, X28, N28⟩ := oOpq X28 (Fr.snoc X28 N21 g_b1)
  have Z28 := Nat.le_trans Z21 (Keep.of_wr W28).1
  have F29 := F22.other W28 ne2
  have F30 := F23.other W28 ne3
  have V_31 : Arv Z h28 b1 k1 .int (4 : Int32) [(.int y0), (.int y1), (.int x0), (.int (0 : Int32))] (.int (0 : Int32)) := V28
  have K_32 : Keep h0 h28 [] := K_25.wr W28 (Or.inr sz_b1)
  have b33 : (1 : Int32) < (2 : Int32) := (by decide)
  have b34 : (2 : Int32) = (2 : Int32) := (by decide)
  obtain ⟨T35, h35, X35, e35, W35, V35, st35⟩ := oStI X28 hx hZ e28 V_31 (j := (3 : Int32)) ⟨by decide, by decide⟩ 3 rfl (Nat.le_of_ble_eq_true rfl) (g := (mkF m 57 #[oa a0, oa a1, oa b1, oi (1 : Int32), oi (2 : Int32)] [(.int x1), (.int (3 : Int32)), (.ref b1)])) rfl rfl (hb hby own_d4_57)
  obtain ⟨Lo35, X35, N35⟩ := oOpq X35 (Fr.snoc X35 N28 g_b1)
  have Z35 := Nat.le_trans Z28 (Keep.of_wr W35).1
  have F36 := F29.other W35 ne2
  have F37 := F30.other W35 ne3
  have V_38 : Arv Z h35 b1 k1 .int (4 : Int32) [(.int y0), (.int y1), (.int x0), (.int x1)] (.int (0 : Int32)) := V35
  have K_39 : Keep h0 h35 [] := K_32.wr W35 (Or.inr sz_b1)
  have b40 : ¬ ((2 : Int32) < (2 : Int32)) := (by decide)
  have b41 : ¬ ((2 : Int32) < (2 : Int32)) := (by decide)
  obtain ⟨fs, hr, hrun, hended, hW, hsame⟩ := X35.leave (v := (some (.ref b1))) (fun h => by rw [Bd.returns] at h; cases h)
  refine ⟨_, _, pre0 _ ?_, hrun, hended, _, _, rfl, ?_, ⟨_, rfl⟩, hW, hsame.mono (by decide) (by decide)⟩
  · show oS p e below s₁ m 0 #[oa a0, oa a1, .unset, .unset, .unset] [] _
    refine XS.aloadN X0.here hx rfl (hb hby own_d4_0) rfl rfl ?_
    show oS p e below s₁ m 1 #[oa a0, oa a1, .unset, .unset, .unset] [(.ref a0)] _
    refine oLen X0 hx hZ e0 V_a0 (hb hby own_d4_1) ?_
    refine XS.aloadN X0.here hx rfl (hb hby own_d4_2) rfl rfl ?_
    show oS p e below s₁ m 3 #[oa a0, oa a1, .unset, .unset, .unset] [(.ref a1), (.int (2 : Int32))] _
    refine oLen X0 hx hZ e0 V_a1 (hb hby own_d4_3) ?_
    refine XS.iadd X0.here hx rfl (hb hby own_d4_4) rfl ?_
    show oS p e below s₁ m 5 #[oa a0, oa a1, .unset, .unset, .unset] [(.int (4 : Int32))] _
    refine st1 _ ?_
    show oS p e below T1 m 7 #[oa a0, oa a1, .unset, .unset, .unset] [(.ref b1)] _
    refine XS.astoreN X1.here hx rfl (hb hby own_d4_7) rfl rfl (l' := #[oa a0, oa a1, oa b1, .unset, .unset]) rfl ?_
    refine XS.iconst X1.here hx rfl (hb hby own_d4_8) ?_
    refine XS.istoreN X1.here hx rfl (hb hby own_d4_9) rfl (l' := #[oa a0, oa a1, oa b1, oi (0 : Int32), .unset]) rfl ?_
    refine XS.iconst X1.here hx rfl (hb hby own_d4_10) ?_
    show oS p e below T1 m 11 #[oa a0, oa a1, oa b1, oi (0 : Int32), .unset] [(.int (0 : Int32))] _
    refine XS.istore X1.here hx rfl (hb hby own_d4_11) rfl (l' := #[oa a0, oa a1, oa b1, oi (0 : Int32), oi (0 : Int32)]) rfl ?_
    refine XS.iloadN X1.here hx rfl (hb hby own_d4_13) rfl ?_
    refine XS.aloadN X1.here hx rfl (hb hby own_d4_14) rfl rfl ?_
    show oS p e below T1 m 15 #[oa a0, oa a1, oa b1, oi (0 : Int32), oi (0 : Int32)] [(.ref a0), (.int (0 : Int32))] _
    refine oLen X1 hx hZ e1 F5 (hb hby own_d4_15) ?_
    show oS p e below T1 m 16 #[oa a0, oa a1, oa b1, oi (0 : Int32), oi (0 : Int32)] [(.int (2 : Int32)), (.int (0 : Int32))] _
    refine XS.icmpYes X1.here hx rfl (pc0 := 16) (pc' := 26) rfl (hb hby own_d4_16) rfl (tlt b8).1 (by decide) (by decide) ?_
    refine XS.iload X1.here hx rfl (hb hby own_d4_26) rfl ?_
    refine XS.aloadN X1.here hx rfl (hb hby own_d4_28) rfl rfl ?_
    show oS p e below T1 m 29 #[oa a0, oa a1, oa b1, oi (0 : Int32), oi (0 : Int32)] [(.ref a1), (.int (0 : Int32))] _
    refine oLen X1 hx hZ e1 F6 (hb hby own_d4_29) ?_
    show oS p e below T1 m 30 #[oa a0, oa a1, oa b1, oi (0 : Int32), oi (0 : Int32)] [(.int (2 : Int32)), (.int (0 : Int32))] _
    refine XS.icmpNo X1.here hx rfl (hb hby own_d4_30) rfl (feq b9).1 ?_
    refine XS.iloadN X1.here hx rfl (hb hby own_d4_33) rfl ?_
    refine XS.aloadN X1.here hx rfl (hb hby own_d4_34) rfl rfl ?_
    show oS p e below T1 m 35 #[oa a0, oa a1, oa b1, oi (0 : Int32), oi (0 : Int32)] [(.ref a0), (.int (0 : Int32))] _
    refine oLen X1 hx hZ e1 F5 (hb hby own_d4_35) ?_
    show oS p e below T1 m 36 #[oa a0, oa a1, oa b1, oi (0 : Int32), oi (0 : Int32)] [(.int (2 : Int32)), (.int (0 : Int32))] _
    refine XS.icmpNo X1.here hx rfl (hb hby own_d4_36) rfl (tlt b10).2.1 ?_
    refine XS.aloadN X1.here hx rfl (hb hby own_d4_39) rfl rfl ?_
    refine XS.iloadN X1.here hx rfl (hb hby own_d4_40) rfl ?_
    show oS p e below T1 m 41 #[oa a0, oa a1, oa b1, oi (0 : Int32), oi (0 : Int32)] [(.int (0 : Int32)), (.ref a0)] _
    refine oLdI X1 hx hZ e1 F5 (v := (.int x0)) ⟨by decide, by decide⟩ rfl (hb hby own_d4_41) ?_
    refine XS.aloadN X1.here hx rfl (hb hby own_d4_42) rfl rfl ?_
    refine XS.iload X1.here hx rfl (hb hby own_d4_43) rfl ?_
    show oS p e below T1 m 45 #[oa a0, oa a1, oa b1, oi (0 : Int32), oi (0 : Int32)] [(.int (0 : Int32)), (.ref a1), (.int x0)] _
    refine oLdI X1 hx hZ e1 F6 (v := (.int y0)) ⟨by decide, by decide⟩ rfl (hb hby own_d4_45) ?_
    show oS p e below T1 m 46 #[oa a0, oa a1, oa b1, oi (0 : Int32), oi (0 : Int32)] [(.int y0), (.int x0)] _
    refine XS.icmpYes X1.here hx rfl (pc0 := 46) (pc' := 64) rfl (hb hby own_d4_46) rfl (flt b11).2.1 (by decide) (by decide) ?_
    refine XS.aloadN X1.here hx rfl (hb hby own_d4_64) rfl rfl ?_
    refine XS.iloadN X1.here hx rfl (hb hby own_d4_65) rfl ?_
    refine XS.iload X1.here hx rfl (hb hby own_d4_66) rfl ?_
    show oS p e below T1 m 68 #[oa a0, oa a1, oa b1, oi (0 : Int32), oi (0 : Int32)] [(.int (0 : Int32)), (.int (0 : Int32)), (.ref b1)] _
    refine XS.iadd X1.here hx rfl (hb hby own_d4_68) rfl ?_
    refine XS.aloadN X1.here hx rfl (hb hby own_d4_69) rfl rfl ?_
    refine XS.iload X1.here hx rfl (hb hby own_d4_70) rfl ?_
    show oS p e below T1 m 72 #[oa a0, oa a1, oa b1, oi (0 : Int32), oi (0 : Int32)] [(.int (0 : Int32)), (.ref a1), (.int (0 : Int32)), (.ref b1)] _
    refine oLdI X1 hx hZ e1 F6 (v := (.int y0)) ⟨by decide, by decide⟩ rfl (hb hby own_d4_72) ?_
    show oS p e below T1 m 73 #[oa a0, oa a1, oa b1, oi (0 : Int32), oi (0 : Int32)] [(.int y0), (.int (0 : Int32)), (.ref b1)] _
    refine st12 _ ?_
    show oS p e below T12 m 74 #[oa a0, oa a1, oa b1, oi (0 : Int32), oi (0 : Int32)] [] _
    refine XS.iinc X12.here hx rfl (hb hby own_d4_74) rfl (l' := #[oa a0, oa a1, oa b1, oi (0 : Int32), oi (1 : Int32)]) rfl ?_
    refine XS.goto X12.here hx rfl (pc0 := 77) (pc' := 13) rfl (hb hby own_d4_77) (by decide) (by decide) ?_
    refine XS.iloadN X12.here hx rfl (hb hby own_d4_13) rfl ?_
    refine XS.aloadN X12.here hx rfl (hb hby own_d4_14) rfl rfl ?_
    show oS p e below T12 m 15 #[oa a0, oa a1, oa b1, oi (0 : Int32), oi (1 : Int32)] [(.ref a0), (.int (0 : Int32))] _
    refine oLen X12 hx hZ e12 F13 (hb hby own_d4_15) ?_
    show oS p e below T12 m 16 #[oa a0, oa a1, oa b1, oi (0 : Int32), oi (1 : Int32)] [(.int (2 : Int32)), (.int (0 : Int32))] _
    refine XS.icmpYes X12.here hx rfl (pc0 := 16) (pc' := 26) rfl (hb hby own_d4_16) rfl (tlt b17).1 (by decide) (by decide) ?_
    refine XS.iload X12.here hx rfl (hb hby own_d4_26) rfl ?_
    refine XS.aloadN X12.here hx rfl (hb hby own_d4_28) rfl rfl ?_
    show oS p e below T12 m 29 #[oa a0, oa a1, oa b1, oi (0 : Int32), oi (1 : Int32)] [(.ref a1), (.int (1 : Int32))] _
    refine oLen X12 hx hZ e12 F14 (hb hby own_d4_29) ?_
    show oS p e below T12 m 30 #[oa a0, oa a1, oa b1, oi (0 : Int32), oi (1 : Int32)] [(.int (2 : Int32)), (.int (1 : Int32))] _
    refine XS.icmpNo X12.here hx rfl (hb hby own_d4_30) rfl (feq b18).1 ?_
    refine XS.iloadN X12.here hx rfl (hb hby own_d4_33) rfl ?_
    refine XS.aloadN X12.here hx rfl (hb hby own_d4_34) rfl rfl ?_
    show oS p e below T12 m 35 #[oa a0, oa a1, oa b1, oi (0 : Int32), oi (1 : Int32)] [(.ref a0), (.int (0 : Int32))] _
    refine oLen X12 hx hZ e12 F13 (hb hby own_d4_35) ?_
    show oS p e below T12 m 36 #[oa a0, oa a1, oa b1, oi (0 : Int32), oi (1 : Int32)] [(.int (2 : Int32)), (.int (0 : Int32))] _
    refine XS.icmpNo X12.here hx rfl (hb hby own_d4_36) rfl (tlt b19).2.1 ?_
    refine XS.aloadN X12.here hx rfl (hb hby own_d4_39) rfl rfl ?_
    refine XS.iloadN X12.here hx rfl (hb hby own_d4_40) rfl ?_
    show oS p e below T12 m 41 #[oa a0, oa a1, oa b1, oi (0 : Int32), oi (1 : Int32)] [(.int (0 : Int32)), (.ref a0)] _
    refine oLdI X12 hx hZ e12 F13 (v := (.int x0)) ⟨by decide, by decide⟩ rfl (hb hby own_d4_41) ?_
    refine XS.aloadN X12.here hx rfl (hb hby own_d4_42) rfl rfl ?_
    refine XS.iload X12.here hx rfl (hb hby own_d4_43) rfl ?_
    show oS p e below T12 m 45 #[oa a0, oa a1, oa b1, oi (0 : Int32), oi (1 : Int32)] [(.int (1 : Int32)), (.ref a1), (.int x0)] _
    refine oLdI X12 hx hZ e12 F14 (v := (.int y1)) ⟨by decide, by decide⟩ rfl (hb hby own_d4_45) ?_
    show oS p e below T12 m 46 #[oa a0, oa a1, oa b1, oi (0 : Int32), oi (1 : Int32)] [(.int y1), (.int x0)] _
    refine XS.icmpYes X12.here hx rfl (pc0 := 46) (pc' := 64) rfl (hb hby own_d4_46) rfl (flt b20).2.1 (by decide) (by decide) ?_
    refine XS.aloadN X12.here hx rfl (hb hby own_d4_64) rfl rfl ?_
    refine XS.iloadN X12.here hx rfl (hb hby own_d4_65) rfl ?_
    refine XS.iload X12.here hx rfl (hb hby own_d4_66) rfl ?_
    show oS p e below T12 m 68 #[oa a0, oa a1, oa b1, oi (0 : Int32), oi (1 : Int32)] [(.int (1 : Int32)), (.int (0 : Int32)), (.ref b1)] _
    refine XS.iadd X12.here hx rfl (hb hby own_d4_68) rfl ?_
    refine XS.aloadN X12.here hx rfl (hb hby own_d4_69) rfl rfl ?_
    refine XS.iload X12.here hx rfl (hb hby own_d4_70) rfl ?_
    show oS p e below T12 m 72 #[oa a0, oa a1, oa b1, oi (0 : Int32), oi (1 : Int32)] [(.int (1 : Int32)), (.ref a1), (.int (1 : Int32)), (.ref b1)] _
    refine oLdI X12 hx hZ e12 F14 (v := (.int y1)) ⟨by decide, by decide⟩ rfl (hb hby own_d4_72) ?_
    show oS p e below T12 m 73 #[oa a0, oa a1, oa b1, oi (0 : Int32), oi (1 : Int32)] [(.int y1), (.int (1 : Int32)), (.ref b1)] _
    refine st21 _ ?_
    show oS p e below T21 m 74 #[oa a0, oa a1, oa b1, oi (0 : Int32), oi (1 : Int32)] [] _
    refine XS.iinc X21.here hx rfl (hb hby own_d4_74) rfl (l' := #[oa a0, oa a1, oa b1, oi (0 : Int32), oi (2 : Int32)]) rfl ?_
    refine XS.goto X21.here hx rfl (pc0 := 77) (pc' := 13) rfl (hb hby own_d4_77) (by decide) (by decide) ?_
    refine XS.iloadN X21.here hx rfl (hb hby own_d4_13) rfl ?_
    refine XS.aloadN X21.here hx rfl (hb hby own_d4_14) rfl rfl ?_
    show oS p e below T21 m 15 #[oa a0, oa a1, oa b1, oi (0 : Int32), oi (2 : Int32)] [(.ref a0), (.int (0 : Int32))] _
    refine oLen X21 hx hZ e21 F22 (hb hby own_d4_15) ?_
    show oS p e below T21 m 16 #[oa a0, oa a1, oa b1, oi (0 : Int32), oi (2 : Int32)] [(.int (2 : Int32)), (.int (0 : Int32))] _
    refine XS.icmpYes X21.here hx rfl (pc0 := 16) (pc' := 26) rfl (hb hby own_d4_16) rfl (tlt b26).1 (by decide) (by decide) ?_
    refine XS.iload X21.here hx rfl (hb hby own_d4_26) rfl ?_
    refine XS.aloadN X21.here hx rfl (hb hby own_d4_28) rfl rfl ?_
    show oS p e below T21 m 29 #[oa a0, oa a1, oa b1, oi (0 : Int32), oi (2 : Int32)] [(.ref a1), (.int (2 : Int32))] _
    refine oLen X21 hx hZ e21 F23 (hb hby own_d4_29) ?_
    show oS p e below T21 m 30 #[oa a0, oa a1, oa b1, oi (0 : Int32), oi (2 : Int32)] [(.int (2 : Int32)), (.int (2 : Int32))] _
    refine XS.icmpYes X21.here hx rfl (pc0 := 30) (pc' := 49) rfl (hb hby own_d4_30) rfl (teq b27).1 (by decide) (by decide) ?_
    refine XS.aloadN X21.here hx rfl (hb hby own_d4_49) rfl rfl ?_
    refine XS.iloadN X21.here hx rfl (hb hby own_d4_50) rfl ?_
    refine XS.iload X21.here hx rfl (hb hby own_d4_51) rfl ?_
    show oS p e below T21 m 53 #[oa a0, oa a1, oa b1, oi (0 : Int32), oi (2 : Int32)] [(.int (2 : Int32)), (.int (0 : Int32)), (.ref b1)] _
    refine XS.iadd X21.here hx rfl (hb hby own_d4_53) rfl ?_
    refine XS.aloadN X21.here hx rfl (hb hby own_d4_54) rfl rfl ?_
    refine XS.iloadN X21.here hx rfl (hb hby own_d4_55) rfl ?_
    show oS p e below T21 m 56 #[oa a0, oa a1, oa b1, oi (0 : Int32), oi (2 : Int32)] [(.int (0 : Int32)), (.ref a0), (.int (2 : Int32)), (.ref b1)] _
    refine oLdI X21 hx hZ e21 F22 (v := (.int x0)) ⟨by decide, by decide⟩ rfl (hb hby own_d4_56) ?_
    show oS p e below T21 m 57 #[oa a0, oa a1, oa b1, oi (0 : Int32), oi (2 : Int32)] [(.int x0), (.int (2 : Int32)), (.ref b1)] _
    refine st28 _ ?_
    show oS p e below T28 m 58 #[oa a0, oa a1, oa b1, oi (0 : Int32), oi (2 : Int32)] [] _
    refine XS.iinc X28.here hx rfl (hb hby own_d4_58) rfl (l' := #[oa a0, oa a1, oa b1, oi (1 : Int32), oi (2 : Int32)]) rfl ?_
    refine XS.goto X28.here hx rfl (pc0 := 61) (pc' := 13) rfl (hb hby own_d4_61) (by decide) (by decide) ?_
    refine XS.iloadN X28.here hx rfl (hb hby own_d4_13) rfl ?_
    refine XS.aloadN X28.here hx rfl (hb hby own_d4_14) rfl rfl ?_
    show oS p e below T28 m 15 #[oa a0, oa a1, oa b1, oi (1 : Int32), oi (2 : Int32)] [(.ref a0), (.int (1 : Int32))] _
    refine oLen X28 hx hZ e28 F29 (hb hby own_d4_15) ?_
    show oS p e below T28 m 16 #[oa a0, oa a1, oa b1, oi (1 : Int32), oi (2 : Int32)] [(.int (2 : Int32)), (.int (1 : Int32))] _
    refine XS.icmpYes X28.here hx rfl (pc0 := 16) (pc' := 26) rfl (hb hby own_d4_16) rfl (tlt b33).1 (by decide) (by decide) ?_
    refine XS.iload X28.here hx rfl (hb hby own_d4_26) rfl ?_
    refine XS.aloadN X28.here hx rfl (hb hby own_d4_28) rfl rfl ?_
    show oS p e below T28 m 29 #[oa a0, oa a1, oa b1, oi (1 : Int32), oi (2 : Int32)] [(.ref a1), (.int (2 : Int32))] _
    refine oLen X28 hx hZ e28 F30 (hb hby own_d4_29) ?_
    show oS p e below T28 m 30 #[oa a0, oa a1, oa b1, oi (1 : Int32), oi (2 : Int32)] [(.int (2 : Int32)), (.int (2 : Int32))] _
    refine XS.icmpYes X28.here hx rfl (pc0 := 30) (pc' := 49) rfl (hb hby own_d4_30) rfl (teq b34).1 (by decide) (by decide) ?_
    refine XS.aloadN X28.here hx rfl (hb hby own_d4_49) rfl rfl ?_
    refine XS.iloadN X28.here hx rfl (hb hby own_d4_50) rfl ?_
    refine XS.iload X28.here hx rfl (hb hby own_d4_51) rfl ?_
    show oS p e below T28 m 53 #[oa a0, oa a1, oa b1, oi (1 : Int32), oi (2 : Int32)] [(.int (2 : Int32)), (.int (1 : Int32)), (.ref b1)] _
    refine XS.iadd X28.here hx rfl (hb hby own_d4_53) rfl ?_
    refine XS.aloadN X28.here hx rfl (hb hby own_d4_54) rfl rfl ?_
    refine XS.iloadN X28.here hx rfl (hb hby own_d4_55) rfl ?_
    show oS p e below T28 m 56 #[oa a0, oa a1, oa b1, oi (1 : Int32), oi (2 : Int32)] [(.int (1 : Int32)), (.ref a0), (.int (3 : Int32)), (.ref b1)] _
    refine oLdI X28 hx hZ e28 F29 (v := (.int x1)) ⟨by decide, by decide⟩ rfl (hb hby own_d4_56) ?_
    show oS p e below T28 m 57 #[oa a0, oa a1, oa b1, oi (1 : Int32), oi (2 : Int32)] [(.int x1), (.int (3 : Int32)), (.ref b1)] _
    refine st35 _ ?_
    show oS p e below T35 m 58 #[oa a0, oa a1, oa b1, oi (1 : Int32), oi (2 : Int32)] [] _
    refine XS.iinc X35.here hx rfl (hb hby own_d4_58) rfl (l' := #[oa a0, oa a1, oa b1, oi (2 : Int32), oi (2 : Int32)]) rfl ?_
    refine XS.goto X35.here hx rfl (pc0 := 61) (pc' := 13) rfl (hb hby own_d4_61) (by decide) (by decide) ?_
    refine XS.iloadN X35.here hx rfl (hb hby own_d4_13) rfl ?_
    refine XS.aloadN X35.here hx rfl (hb hby own_d4_14) rfl rfl ?_
    show oS p e below T35 m 15 #[oa a0, oa a1, oa b1, oi (2 : Int32), oi (2 : Int32)] [(.ref a0), (.int (2 : Int32))] _
    refine oLen X35 hx hZ e35 F36 (hb hby own_d4_15) ?_
    show oS p e below T35 m 16 #[oa a0, oa a1, oa b1, oi (2 : Int32), oi (2 : Int32)] [(.int (2 : Int32)), (.int (2 : Int32))] _
    refine XS.icmpNo X35.here hx rfl (hb hby own_d4_16) rfl (flt b40).1 ?_
    refine XS.iload X35.here hx rfl (hb hby own_d4_19) rfl ?_
    refine XS.aloadN X35.here hx rfl (hb hby own_d4_21) rfl rfl ?_
    show oS p e below T35 m 22 #[oa a0, oa a1, oa b1, oi (2 : Int32), oi (2 : Int32)] [(.ref a1), (.int (2 : Int32))] _
    refine oLen X35 hx hZ e35 F37 (hb hby own_d4_22) ?_
    show oS p e below T35 m 23 #[oa a0, oa a1, oa b1, oi (2 : Int32), oi (2 : Int32)] [(.int (2 : Int32)), (.int (2 : Int32))] _
    refine XS.icmpYes X35.here hx rfl (pc0 := 23) (pc' := 80) rfl (hb hby own_d4_23) rfl (flt b41).2.1 (by decide) (by decide) ?_
    refine XS.aloadN X35.here hx rfl (hb hby own_d4_80) rfl rfl ?_
    show oS p e below T35 m 81 #[oa a0, oa a1, oa b1, oi (2 : Int32), oi (2 : Int32)] [(.ref b1)] _
    exact retOut X35 hx Bd.returns rfl (Or.inr (Or.inr (Or.inr (Or.inr ⟨rfl, rfl, rfl⟩)))) (hb hby own_d4_81) hr
  · show own_Q4_22yyxx Z a0 a1 k_a0 x0 x1 k_a1 y0 y1 h0 n0 _ T35.heap _
    rw [e35]
    exact ⟨b1, k1, rfl, N35, K_39, sz_b1, V_38⟩
theorem own_mm {a b : Int32} (h : ¬ own_f1 a b = own_f2 a b) : (own_f1 a b).toInt < (own_f2 a b).toInt := by
  unfold own_f1 own_f2 at *
  rw [own_eqp] at h
  simp only [own_ltp] at h ⊢
  by_cases c1 : b.toInt < a.toInt
  · have c2 : ¬ a.toInt < b.toInt := by omega
    simp only [if_pos c1, if_neg c2] at h ⊢
    exact c1
  · simp only [if_neg c1] at h ⊢
    by_cases c2 : a.toInt < b.toInt
    · simp only [if_pos c2] at h ⊢
      exact c2
    · simp only [if_neg c2] at h ⊢
      first | exact absurd rfl h | exact absurd trivial h
theorem own_m3 (x : Int32) : ((x &&& (2147483647 : Int32)) % (3 : Int32)) = (0 : Int32) ∨ ((x &&& (2147483647 : Int32)) % (3 : Int32)) = (1 : Int32) ∨ ((x &&& (2147483647 : Int32)) % (3 : Int32)) = (2 : Int32) := by
  have h : (x &&& (2147483647 : Int32)).toInt = x.toInt % 2147483648 := c_mask x 2147483647 31 (by decide) (by decide)
  have h2 := (c_irem (x &&& 2147483647) 3 3 (by decide)).1 (by omega)
  simp only [own_eqp, Int32.reduceToInt, h2]
  omega
theorem own_pd1 : parseMethodDescriptor "(II)I" = some ⟨[.int, .int], some .int⟩ := by decide +kernel
theorem own_pd2 : parseMethodDescriptor "([I[I)Z" = some ⟨[(.array .int), (.array .int)], some .boolean⟩ := by decide +kernel
theorem own_pd3 : parseMethodDescriptor "([I[I)[I" = some ⟨[(.array .int), (.array .int)], some (.array .int)⟩ := by decide +kernel
theorem own_pd4 : parseMethodDescriptor "([I)Z" = some ⟨[(.array .int)], some .boolean⟩ := by decide +kernel
theorem own_ef0 (m : MethodId) (p0 : Int32) (p1 : Int32) (p2 : Int32) (p3 : Int32) (p4 : Int32) : entryFrame m #[(.int p0), (.int p1), (.int p2), (.int p3), (.int p4)] maxLocals = mkF m 0 #[oi p0, oi p1, oi p2, oi p3, oi p4, .unset, .unset, .unset, .unset, .unset, .unset, .unset, .unset, .unset] [] := by first | (simp [entryFrame, mkF, argsToLocals, Value.category, maxLocals]; done) | rfl
def own_Q0 (Z : State) (p0 : Int32) (p1 : Int32) (p2 : Int32) (p3 : Int32) (p4 : Int32) (h0 : Heap) (n0 : Nat) (v : Option Value) (h : Heap) (L : List Loc) : Prop := v = some (Value.int (1 : Int32)) ∧ Fr n0 L
set_option maxRecDepth 65536 in
set_option maxHeartbeats 40000000 in
theorem own_rm0 (l : Launch) (Z : State) (av : Array Value) (hw : ∀ d ∈ tables_1, d.before av Z = true) (ws : List Jvm.Cond) (p0 : Int32) (p1 : Int32) (p2 : Int32) (p3 : Int32) (p4 : Int32) (h0 : Heap) (n0 : Nat) (Z0 : n0 ≤ h0.size) :
    MetFree l x (head1 (Jvm.Cond.code x code maxLocals ret :: ws) room_1) (fun a U => a = #[(.int p0), (.int p1), (.int p2), (.int p3), (.int p4)] ∧ Z.Warmed39 U.vm ∧ U.heap = h0) (fun _ _ _ _ _ => True) (fun _ U o U' => ∃ v L, o = .returned v ∧ own_Q0 Z p0 p1 p2 p3 p4 h0 n0 v U'.heap L ∧ FrameEnd U o U' L room_1.cells room_1.slots) := by
  refine MetFree.of_bodySF (plainFor_of_name own_pn0) hisR ?_
  intro p e s m args below meth c s₁ Bd hml0 hP hK
  obtain ⟨rfl, hZ, hh⟩ := hP
  have hx := Bd.exec
  have hby := Bd.bytes
  have hml : c.maxLocals = 14 := hml0
  have hown : s.vm.findClass "com/example/strict_anon/strictanon/service/RecordSetsUnionPinLaw" = some m.cls := findClass_of_methodNamed Bd.named
  have hnm := (name_of_methodNamed Bd.named Bd.method).1
  have X0 : Stand p l e room_1 s m #[(.int p0), (.int p1), (.int p2), (.int p3), (.int p4)] below meth c s₁ [] 0 0 := Stand.of_body Bd
  have e0 : s₁.heap = h0 := by rw [← hh, Bd.state]; rfl
  have N0 := Fr.nil n0
  have pre0 : ∀ t, Steps p.tables e below (s₁.setTop (mkF m 0 #[oi p0, oi p1, oi p2, oi p3, oi p4, .unset, .unset, .unset, .unset, .unset, .unset, .unset, .unset, .unset] [])) t → Steps p.tables e below (s₁.setTop (entryFrame m #[(.int p0), (.int p1), (.int p2), (.int p3), (.int p4)] maxLocals)) t := fun t k => castTop (own_ef0 m p0 p1 p2 p3 p4) k
  have pre1 : ∀ t, Steps p.tables e below (s₁.setTop (mkF m 7 #[oi p0, oi p1, oi p2, oi p3, oi p4, .unset, .unset, .unset, .unset, .unset, .unset, .unset, .unset, .unset] [(.int ((p4 &&& (2147483647 : Int32)) % (3 : Int32)))])) t → Steps p.tables e below (s₁.setTop (entryFrame m #[(.int p0), (.int p1), (.int p2), (.int p3), (.int p4)] maxLocals)) t := by
    intro t k
    refine pre0 t ?_
    show oS p e below s₁ m 0 #[oi p0, oi p1, oi p2, oi p3, oi p4, .unset, .unset, .unset, .unset, .unset, .unset, .unset, .unset, .unset] [] _
    refine XS.iload X0.here hx rfl (hb hby at_0) rfl ?_
    show oS p e below s₁ m 2 #[oi p0, oi p1, oi p2, oi p3, oi p4, .unset, .unset, .unset, .unset, .unset, .unset, .unset, .unset, .unset] [(.int p4)] _
    refine X0.ldcInt hx hown (mvT hZ (hw _ (List.mem_of_getElem? (i := 0) rfl))) (g := (mkF m 2 #[oi p0, oi p1, oi p2, oi p3, oi p4, .unset, .unset, .unset, .unset, .unset, .unset, .unset, .unset, .unset] [(.int p4)])) rfl (hb hby at_2) _ ?_
    refine XS.iand X0.here hx rfl (hb hby at_4) rfl ?_
    refine XS.iconst X0.here hx rfl (hb hby at_5) ?_
    show oS p e below s₁ m 6 #[oi p0, oi p1, oi p2, oi p3, oi p4, .unset, .unset, .unset, .unset, .unset, .unset, .unset, .unset, .unset] [(.int (3 : Int32)), (.int (p4 &&& (2147483647 : Int32)))] _
    refine Jvm.RoadKit.iremM X0 hx rfl (hb hby at_6) rfl (by decide) ?_
    exact k
  obtain ⟨vn, hvn⟩ : ∃ z : Int32, z = ((p4 &&& (2147483647 : Int32)) % (3 : Int32)) := ⟨_, rfl⟩
  rw [← hvn] at pre1
  have pre2 : ∀ t, Steps p.tables e below (s₁.setTop (mkF m 18 #[oi p0, oi p1, oi p2, oi p3, oi p4, oi vn, .unset, .unset, .unset, .unset, .unset, .unset, .unset, .unset] [(.int ((((p4.toUInt32 >>> ((4 : Int32) &&& 31).toUInt32).toInt32) &&& (2147483647 : Int32)) % (3 : Int32)))])) t → Steps p.tables e below (s₁.setTop (entryFrame m #[(.int p0), (.int p1), (.int p2), (.int p3), (.int p4)] maxLocals)) t := by
    intro t k
    refine pre1 t ?_
    show oS p e below s₁ m 7 #[oi p0, oi p1, oi p2, oi p3, oi p4, .unset, .unset, .unset, .unset, .unset, .unset, .unset, .unset, .unset] [(.int vn)] _
    refine XS.istore X0.here hx rfl (hb hby at_7) rfl (l' := #[oi p0, oi p1, oi p2, oi p3, oi p4, oi vn, .unset, .unset, .unset, .unset, .unset, .unset, .unset, .unset]) rfl ?_
    refine XS.iload X0.here hx rfl (hb hby at_9) rfl ?_
    refine XS.iconst X0.here hx rfl (hb hby at_11) ?_
    show oS p e below s₁ m 12 #[oi p0, oi p1, oi p2, oi p3, oi p4, oi vn, .unset, .unset, .unset, .unset, .unset, .unset, .unset, .unset] [(.int (4 : Int32)), (.int p4)] _
    refine XS.iushr X0.here hx rfl (hb hby at_12) rfl ?_
    show oS p e below s₁ m 13 #[oi p0, oi p1, oi p2, oi p3, oi p4, oi vn, .unset, .unset, .unset, .unset, .unset, .unset, .unset, .unset] [(.int ((p4.toUInt32 >>> ((4 : Int32) &&& 31).toUInt32).toInt32))] _
    refine X0.ldcInt hx hown (mvT hZ (hw _ (List.mem_of_getElem? (i := 0) rfl))) (g := (mkF m 13 #[oi p0, oi p1, oi p2, oi p3, oi p4, oi vn, .unset, .unset, .unset, .unset, .unset, .unset, .unset, .unset] [(.int ((p4.toUInt32 >>> ((4 : Int32) &&& 31).toUInt32).toInt32))])) rfl (hb hby at_13) _ ?_
    refine XS.iand X0.here hx rfl (hb hby at_15) rfl ?_
    refine XS.iconst X0.here hx rfl (hb hby at_16) ?_
    show oS p e below s₁ m 17 #[oi p0, oi p1, oi p2, oi p3, oi p4, oi vn, .unset, .unset, .unset, .unset, .unset, .unset, .unset, .unset] [(.int (3 : Int32)), (.int (((p4.toUInt32 >>> ((4 : Int32) &&& 31).toUInt32).toInt32) &&& (2147483647 : Int32)))] _
    refine Jvm.RoadKit.iremM X0 hx rfl (hb hby at_17) rfl (by decide) ?_
    exact k
  obtain ⟨vm, hvm⟩ : ∃ z : Int32, z = ((((p4.toUInt32 >>> ((4 : Int32) &&& 31).toUInt32).toInt32) &&& (2147483647 : Int32)) % (3 : Int32)) := ⟨_, rfl⟩
  rw [← hvm] at pre2
  obtain ⟨_, _, ⟨T3, L3, k3, n3⟩, -, X3, ⟨Lc3, hQ3, l3, y3, z3⟩, st3⟩ := Jvm.LawKit.callS X0 hx (y := (⟨"java/lang/Math", "min", "(II)I"⟩ : MethodName)) hown (mvT hZ (hw _ (List.mem_of_getElem? (i := 1) rfl))) (mvT hZ (hw _ (List.mem_of_getElem? (i := 2) rfl))) (mvT hZ (hw _ (List.mem_of_getElem? (i := 3) rfl))) (mvT hZ (hw _ (List.mem_of_getElem? (i := 4) rfl))) (by decide) (backOf (W := 0) (own_rm1 l Z av hw [] p0 p1 h0 n0 Z0 ) hZ (hw _ (List.mem_of_getElem? (i := 4) rfl)) (hw _ (List.mem_of_getElem? (i := 3) rfl)) (by decide) (by decide)) (g := (mkF m 22 #[oi p0, oi p1, oi p2, oi p3, oi p4, oi vn, oi vm, .unset, .unset, .unset, .unset, .unset, .unset, .unset] [(.int p1), (.int p0)])) rfl (by rw [hml]; rfl) (argsL := [(.int p0), (.int p1)]) (rest := []) (lenOf own_pd1 rfl) rfl (by show 2 * 0 + _ ≤ _; exact Nat.le_of_eq rfl) (hb hby at_22) (fun _ _ => ⟨rfl, e0, (by decide : 0 + 0 ≤ _), (by decide : 0 + 0 ≤ _)⟩)
  dsimp only [Pt.U, Pt.locs, Pt.cells, Pt.slots] at X3 l3 y3 z3 st3 hQ3
  have yq3 : k3 = 0 := y3
  have zq3 : n3 = 0 := z3
  subst yq3 zq3
  obtain ⟨rfl, Nq3, eq3⟩ := hQ3
  have N3 : Fr n0 L3 := by rw [l3]; exact Fr.app N0 Nq3
  have pre4 : ∀ t, Steps p.tables e below (T3.setTop (mkF m 25 #[oi p0, oi p1, oi p2, oi p3, oi p4, oi vn, oi vm, .unset, .unset, .unset, .unset, .unset, .unset, .unset] [(.int (own_f1 p0 p1))])) t → Steps p.tables e below (s₁.setTop (entryFrame m #[(.int p0), (.int p1), (.int p2), (.int p3), (.int p4)] maxLocals)) t := by
    intro t k
    refine pre2 t ?_
    show oS p e below s₁ m 18 #[oi p0, oi p1, oi p2, oi p3, oi p4, oi vn, .unset, .unset, .unset, .unset, .unset, .unset, .unset, .unset] [(.int vm)] _
    refine XS.istore X0.here hx rfl (hb hby at_18) rfl (l' := #[oi p0, oi p1, oi p2, oi p3, oi p4, oi vn, oi vm, .unset, .unset, .unset, .unset, .unset, .unset, .unset]) rfl ?_
    refine XS.iloadN X0.here hx rfl (hb hby at_20) rfl ?_
    refine XS.iloadN X0.here hx rfl (hb hby at_21) rfl ?_
    show oS p e below s₁ m 22 #[oi p0, oi p1, oi p2, oi p3, oi p4, oi vn, oi vm, .unset, .unset, .unset, .unset, .unset, .unset, .unset] [(.int p1), (.int p0)] _
    refine st3 _ ?_
    exact k
  obtain ⟨m7, hm7⟩ : ∃ z : Int32, z = (own_f1 p0 p1) := ⟨_, rfl⟩
  rw [← hm7] at pre4
  obtain ⟨_, _, ⟨T5, L5, k5, n5⟩, -, X5, ⟨Lc5, hQ5, l5, y5, z5⟩, st5⟩ := Jvm.LawKit.callS X3 hx (y := (⟨"java/lang/Math", "max", "(II)I"⟩ : MethodName)) hown (mvT hZ (hw _ (List.mem_of_getElem? (i := 5) rfl))) (mvT hZ (hw _ (List.mem_of_getElem? (i := 6) rfl))) (mvT hZ (hw _ (List.mem_of_getElem? (i := 3) rfl))) (mvT hZ (hw _ (List.mem_of_getElem? (i := 7) rfl))) (by decide) (backOf (W := 0) (own_rm2 l Z av hw [] p0 p1 h0 n0 Z0 ) hZ (hw _ (List.mem_of_getElem? (i := 7) rfl)) (hw _ (List.mem_of_getElem? (i := 3) rfl)) (by decide) (by decide)) (g := (mkF m 29 #[oi p0, oi p1, oi p2, oi p3, oi p4, oi vn, oi vm, oi m7, .unset, .unset, .unset, .unset, .unset, .unset] [(.int p1), (.int p0)])) rfl (by rw [hml]; rfl) (argsL := [(.int p0), (.int p1)]) (rest := []) (lenOf own_pd1 rfl) rfl (by show 2 * 0 + _ ≤ _; exact Nat.le_of_eq rfl) (hb hby at_29) (fun _ _ => ⟨rfl, eq3, (by decide : 0 + 0 ≤ _), (by decide : 0 + 0 ≤ _)⟩)
  dsimp only [Pt.U, Pt.locs, Pt.cells, Pt.slots] at X5 l5 y5 z5 st5 hQ5
  have yq5 : k5 = 0 := y5
  have zq5 : n5 = 0 := z5
  subst yq5 zq5
  obtain ⟨rfl, Nq5, eq5⟩ := hQ5
  have N5 : Fr n0 L5 := by rw [l5]; exact Fr.app N3 Nq5
  have pre6 : ∀ t, Steps p.tables e below (T5.setTop (mkF m 32 #[oi p0, oi p1, oi p2, oi p3, oi p4, oi vn, oi vm, oi m7, .unset, .unset, .unset, .unset, .unset, .unset] [(.int (own_f2 p0 p1))])) t → Steps p.tables e below (s₁.setTop (entryFrame m #[(.int p0), (.int p1), (.int p2), (.int p3), (.int p4)] maxLocals)) t := by
    intro t k
    refine pre4 t ?_
    show oS p e below T3 m 25 #[oi p0, oi p1, oi p2, oi p3, oi p4, oi vn, oi vm, .unset, .unset, .unset, .unset, .unset, .unset, .unset] [(.int m7)] _
    refine XS.istore X3.here hx rfl (hb hby at_25) rfl (l' := #[oi p0, oi p1, oi p2, oi p3, oi p4, oi vn, oi vm, oi m7, .unset, .unset, .unset, .unset, .unset, .unset]) rfl ?_
    refine XS.iloadN X3.here hx rfl (hb hby at_27) rfl ?_
    refine XS.iloadN X3.here hx rfl (hb hby at_28) rfl ?_
    show oS p e below T3 m 29 #[oi p0, oi p1, oi p2, oi p3, oi p4, oi vn, oi vm, oi m7, .unset, .unset, .unset, .unset, .unset, .unset] [(.int p1), (.int p0)] _
    refine st5 _ ?_
    exact k
  obtain ⟨m8, hm8⟩ : ∃ z : Int32, z = (own_f2 p0 p1) := ⟨_, rfl⟩
  rw [← hm8] at pre6
  obtain ⟨_, _, ⟨T7, L7, k7, n7⟩, -, X7, ⟨Lc7, hQ7, l7, y7, z7⟩, st7⟩ := Jvm.LawKit.callS X5 hx (y := (⟨"java/lang/Math", "min", "(II)I"⟩ : MethodName)) hown (mvT hZ (hw _ (List.mem_of_getElem? (i := 1) rfl))) (mvT hZ (hw _ (List.mem_of_getElem? (i := 2) rfl))) (mvT hZ (hw _ (List.mem_of_getElem? (i := 3) rfl))) (mvT hZ (hw _ (List.mem_of_getElem? (i := 4) rfl))) (by decide) (backOf (W := 0) (own_rm1 l Z av hw [] p2 p3 h0 n0 Z0 ) hZ (hw _ (List.mem_of_getElem? (i := 4) rfl)) (hw _ (List.mem_of_getElem? (i := 3) rfl)) (by decide) (by decide)) (g := (mkF m 36 #[oi p0, oi p1, oi p2, oi p3, oi p4, oi vn, oi vm, oi m7, oi m8, .unset, .unset, .unset, .unset, .unset] [(.int p3), (.int p2)])) rfl (by rw [hml]; rfl) (argsL := [(.int p2), (.int p3)]) (rest := []) (lenOf own_pd1 rfl) rfl (by show 2 * 0 + _ ≤ _; exact Nat.le_of_eq rfl) (hb hby at_36) (fun _ _ => ⟨rfl, eq5, (by decide : 0 + 0 ≤ _), (by decide : 0 + 0 ≤ _)⟩)
  dsimp only [Pt.U, Pt.locs, Pt.cells, Pt.slots] at X7 l7 y7 z7 st7 hQ7
  have yq7 : k7 = 0 := y7
  have zq7 : n7 = 0 := z7
  subst yq7 zq7
  obtain ⟨rfl, Nq7, eq7⟩ := hQ7
  have N7 : Fr n0 L7 := by rw [l7]; exact Fr.app N5 Nq7
  have pre8 : ∀ t, Steps p.tables e below (T7.setTop (mkF m 39 #[oi p0, oi p1, oi p2, oi p3, oi p4, oi vn, oi vm, oi m7, oi m8, .unset, .unset, .unset, .unset, .unset] [(.int (own_f1 p2 p3))])) t → Steps p.tables e below (s₁.setTop (entryFrame m #[(.int p0), (.int p1), (.int p2), (.int p3), (.int p4)] maxLocals)) t := by
    intro t k
    refine pre6 t ?_
    show oS p e below T5 m 32 #[oi p0, oi p1, oi p2, oi p3, oi p4, oi vn, oi vm, oi m7, .unset, .unset, .unset, .unset, .unset, .unset] [(.int m8)] _
    refine XS.istore X5.here hx rfl (hb hby at_32) rfl (l' := #[oi p0, oi p1, oi p2, oi p3, oi p4, oi vn, oi vm, oi m7, oi m8, .unset, .unset, .unset, .unset, .unset]) rfl ?_
    refine XS.iloadN X5.here hx rfl (hb hby at_34) rfl ?_
    refine XS.iloadN X5.here hx rfl (hb hby at_35) rfl ?_
    show oS p e below T5 m 36 #[oi p0, oi p1, oi p2, oi p3, oi p4, oi vn, oi vm, oi m7, oi m8, .unset, .unset, .unset, .unset, .unset] [(.int p3), (.int p2)] _
    refine st7 _ ?_
    exact k
  obtain ⟨m9, hm9⟩ : ∃ z : Int32, z = (own_f1 p2 p3) := ⟨_, rfl⟩
  rw [← hm9] at pre8
  obtain ⟨_, _, ⟨T9, L9, k9, n9⟩, -, X9, ⟨Lc9, hQ9, l9, y9, z9⟩, st9⟩ := Jvm.LawKit.callS X7 hx (y := (⟨"java/lang/Math", "max", "(II)I"⟩ : MethodName)) hown (mvT hZ (hw _ (List.mem_of_getElem? (i := 5) rfl))) (mvT hZ (hw _ (List.mem_of_getElem? (i := 6) rfl))) (mvT hZ (hw _ (List.mem_of_getElem? (i := 3) rfl))) (mvT hZ (hw _ (List.mem_of_getElem? (i := 7) rfl))) (by decide) (backOf (W := 0) (own_rm2 l Z av hw [] p2 p3 h0 n0 Z0 ) hZ (hw _ (List.mem_of_getElem? (i := 7) rfl)) (hw _ (List.mem_of_getElem? (i := 3) rfl)) (by decide) (by decide)) (g := (mkF m 43 #[oi p0, oi p1, oi p2, oi p3, oi p4, oi vn, oi vm, oi m7, oi m8, oi m9, .unset, .unset, .unset, .unset] [(.int p3), (.int p2)])) rfl (by rw [hml]; rfl) (argsL := [(.int p2), (.int p3)]) (rest := []) (lenOf own_pd1 rfl) rfl (by show 2 * 0 + _ ≤ _; exact Nat.le_of_eq rfl) (hb hby at_43) (fun _ _ => ⟨rfl, eq7, (by decide : 0 + 0 ≤ _), (by decide : 0 + 0 ≤ _)⟩)
  dsimp only [Pt.U, Pt.locs, Pt.cells, Pt.slots] at X9 l9 y9 z9 st9 hQ9
  have yq9 : k9 = 0 := y9
  have zq9 : n9 = 0 := z9
  subst yq9 zq9
  obtain ⟨rfl, Nq9, eq9⟩ := hQ9
  have N9 : Fr n0 L9 := by rw [l9]; exact Fr.app N7 Nq9
  have pre10 : ∀ t, Steps p.tables e below (T9.setTop (mkF m 46 #[oi p0, oi p1, oi p2, oi p3, oi p4, oi vn, oi vm, oi m7, oi m8, oi m9, .unset, .unset, .unset, .unset] [(.int (own_f2 p2 p3))])) t → Steps p.tables e below (s₁.setTop (entryFrame m #[(.int p0), (.int p1), (.int p2), (.int p3), (.int p4)] maxLocals)) t := by
    intro t k
    refine pre8 t ?_
    show oS p e below T7 m 39 #[oi p0, oi p1, oi p2, oi p3, oi p4, oi vn, oi vm, oi m7, oi m8, .unset, .unset, .unset, .unset, .unset] [(.int m9)] _
    refine XS.istore X7.here hx rfl (hb hby at_39) rfl (l' := #[oi p0, oi p1, oi p2, oi p3, oi p4, oi vn, oi vm, oi m7, oi m8, oi m9, .unset, .unset, .unset, .unset]) rfl ?_
    refine XS.iloadN X7.here hx rfl (hb hby at_41) rfl ?_
    refine XS.iloadN X7.here hx rfl (hb hby at_42) rfl ?_
    show oS p e below T7 m 43 #[oi p0, oi p1, oi p2, oi p3, oi p4, oi vn, oi vm, oi m7, oi m8, oi m9, .unset, .unset, .unset, .unset] [(.int p3), (.int p2)] _
    refine st9 _ ?_
    exact k
  obtain ⟨m10, hm10⟩ : ∃ z : Int32, z = (own_f2 p2 p3) := ⟨_, rfl⟩
  rw [← hm10] at pre10
  have pre11 : ∀ t, Steps p.tables e below (T9.setTop (mkF m 48 #[oi p0, oi p1, oi p2, oi p3, oi p4, oi vn, oi vm, oi m7, oi m8, oi m9, oi m10, .unset, .unset, .unset] [])) t → Steps p.tables e below (s₁.setTop (entryFrame m #[(.int p0), (.int p1), (.int p2), (.int p3), (.int p4)] maxLocals)) t := by
    intro t k
    refine pre10 t ?_
    show oS p e below T9 m 46 #[oi p0, oi p1, oi p2, oi p3, oi p4, oi vn, oi vm, oi m7, oi m8, oi m9, .unset, .unset, .unset, .unset] [(.int m10)] _
    refine XS.istore X9.here hx rfl (hb hby at_46) rfl (l' := #[oi p0, oi p1, oi p2, oi p3, oi p4, oi vn, oi vm, oi m7, oi m8, oi m9, oi m10, .unset, .unset, .unset]) rfl ?_
    exact k
  have kn : vn = (0 : Int32) ∨ vn = (1 : Int32) ∨ vn = (2 : Int32) := by rw [hvn]; exact own_m3 _
  have km : vm = (0 : Int32) ∨ vm = (1 : Int32) ∨ vm = (2 : Int32) := by rw [hvm]; exact own_m3 _
  rcases kn with kn | kn | kn
  · skip
    rcases km with km | km | km
    · skip
      rw [kn, km] at pre11
      have b12 : ¬ ((0 : Int32) = (2 : Int32)) := (by decide)
      have b13 : ¬ ((0 : Int32) = (2 : Int32)) := (by decide)
      obtain ⟨T14, h14, k14, X14, e14, E14, A14, st14⟩ := newP X9 hx hZ (hw _ (List.mem_of_getElem? (i := 8) rfl)) eq9 (g := (mkF m 80 #[oi p0, oi p1, oi p2, oi p3, oi p4, oi (0 : Int32), oi (0 : Int32), oi m7, oi m8, oi m9, oi m10, .unset, .unset, .unset] [(.int (0 : Int32))])) rfl (hb hby at_80) rfl (by decide) (cap := 0) (by decide) (by decide) (by decide) (by decide)
      obtain ⟨b14, g14⟩ : ∃ z, z = h0.size := ⟨_, rfl⟩
      rw [← g14] at A14 st14
      have g_b14 : n0 ≤ b14 := Nat.le_trans Z0 (Nat.le_of_eq g14.symm)
      have Z14 : n0 ≤ h14.size := Nat.le_trans Z0 E14.1
      have V_15 : Arv Z h14 b14 k14 .int (0 : Int32) [] (.int (0 : Int32)) := (Arv.new A14 (by decide))
      obtain ⟨T16, h16, k16, X16, e16, E16, A16, st16⟩ := newP X14 hx hZ (hw _ (List.mem_of_getElem? (i := 8) rfl)) e14 (g := (mkF m 86 #[oi p0, oi p1, oi p2, oi p3, oi p4, oi (0 : Int32), oi (0 : Int32), oi m7, oi m8, oi m9, oi m10, oa b14, .unset, .unset] [(.int (0 : Int32))])) rfl (hb hby at_86) rfl (by decide) (cap := 0) (by decide) (by decide) (by decide) (by decide)
      obtain ⟨b16, g16⟩ : ∃ z, z = h14.size := ⟨_, rfl⟩
      rw [← g16] at A16 st16
      have g_b16 : n0 ≤ b16 := Nat.le_trans Z14 (Nat.le_of_eq g16.symm)
      have ne17 : b14 ≠ b16 := Nat.ne_of_lt (Nat.lt_of_lt_of_le V_15.lt (Nat.le_of_eq g16.symm))
      have Z16 : n0 ≤ h16.size := Nat.le_trans Z14 E16.1
      have F18 := V_15.ext E16
      have V_19 : Arv Z h16 b16 k16 .int (0 : Int32) [] (.int (0 : Int32)) := (Arv.new A16 (by decide))
      have b20 : ¬ ((0 : Int32) = (1 : Int32)) := (by decide)
      have b21 : ¬ ((0 : Int32) = (2 : Int32)) := (by decide)
      have b22 : ¬ ((0 : Int32) = (1 : Int32)) := (by decide)
      have b23 : ¬ ((0 : Int32) = (2 : Int32)) := (by decide)
      obtain ⟨_, _, ⟨T24, L24, k24, n24⟩, -, X24, ⟨Lc24, hQ24, l24, y24, z24⟩, st24⟩ := Jvm.LawKit.callS X16 hx (y := (⟨"com/example/strict_anon/strictanon/service/RecordSetsUnionPinLaw", "shares", "([I[I)Z"⟩ : MethodName)) hown (mvT hZ (hw _ (List.mem_of_getElem? (i := 9) rfl))) (mvT hZ (hw _ (List.mem_of_getElem? (i := 10) rfl))) (mvT hZ (hw _ (List.mem_of_getElem? (i := 11) rfl))) (mvT hZ (hw _ (List.mem_of_getElem? (i := 12) rfl))) (by decide) (backOf (W := 0) (own_rm3_00 l Z av hw [] b14 b16 k14 k16 h16 n0 Z16 F18 V_19) hZ (hw _ (List.mem_of_getElem? (i := 12) rfl)) (hw _ (List.mem_of_getElem? (i := 11) rfl)) (by decide) (by decide)) (g := (mkF m 152 #[oi p0, oi p1, oi p2, oi p3, oi p4, oi (0 : Int32), oi (0 : Int32), oi m7, oi m8, oi m9, oi m10, oa b14, oa b16, .unset] [(.ref b16), (.ref b14)])) rfl (by rw [hml]; rfl) (argsL := [(.ref b14), (.ref b16)]) (rest := []) (lenOf own_pd2 rfl) rfl (by show 2 * 0 + _ ≤ _; exact Nat.le_of_eq rfl) (hb hby at_152) (fun _ _ => ⟨rfl, e16, (by decide : 2 + 0 ≤ _), (by decide : 0 + 0 ≤ _)⟩)
      dsimp only [Pt.U, Pt.locs, Pt.cells, Pt.slots] at X24 l24 y24 z24 st24 hQ24
      have yq24 : k24 = 2 := y24
      have zq24 : n24 = 0 := z24
      subst yq24 zq24
      obtain ⟨rfl, Nq24, eq24⟩ := hQ24
      have N24 : Fr n0 L24 := by rw [l24]; exact Fr.app N9 Nq24
      have pre25 : ∀ t, Steps p.tables e below (T24.setTop (mkF m 155 #[oi p0, oi p1, oi p2, oi p3, oi p4, oi (0 : Int32), oi (0 : Int32), oi m7, oi m8, oi m9, oi m10, oa b14, oa b16, .unset] [(.int (own_f3_00 ))])) t → Steps p.tables e below (s₁.setTop (entryFrame m #[(.int p0), (.int p1), (.int p2), (.int p3), (.int p4)] maxLocals)) t := by
        intro t k
        refine pre11 t ?_
        show oS p e below T9 m 48 #[oi p0, oi p1, oi p2, oi p3, oi p4, oi (0 : Int32), oi (0 : Int32), oi m7, oi m8, oi m9, oi m10, .unset, .unset, .unset] [] _
        refine XS.iload X9.here hx rfl (hb hby at_48) rfl ?_
        refine XS.iconst X9.here hx rfl (hb hby at_50) ?_
        show oS p e below T9 m 51 #[oi p0, oi p1, oi p2, oi p3, oi p4, oi (0 : Int32), oi (0 : Int32), oi m7, oi m8, oi m9, oi m10, .unset, .unset, .unset] [(.int (2 : Int32)), (.int (0 : Int32))] _
        refine XS.icmpYes X9.here hx rfl (pc0 := 51) (pc' := 63) rfl (hb hby at_51) rfl (feq b12).2 (by decide) (by decide) ?_
        refine XS.iload X9.here hx rfl (hb hby at_63) rfl ?_
        refine XS.iconst X9.here hx rfl (hb hby at_65) ?_
        show oS p e below T9 m 66 #[oi p0, oi p1, oi p2, oi p3, oi p4, oi (0 : Int32), oi (0 : Int32), oi m7, oi m8, oi m9, oi m10, .unset, .unset, .unset] [(.int (2 : Int32)), (.int (0 : Int32))] _
        refine XS.icmpYes X9.here hx rfl (pc0 := 66) (pc' := 78) rfl (hb hby at_66) rfl (feq b13).2 (by decide) (by decide) ?_
        refine XS.iload X9.here hx rfl (hb hby at_78) rfl ?_
        show oS p e below T9 m 80 #[oi p0, oi p1, oi p2, oi p3, oi p4, oi (0 : Int32), oi (0 : Int32), oi m7, oi m8, oi m9, oi m10, .unset, .unset, .unset] [(.int (0 : Int32))] _
        refine st14 _ ?_
        show oS p e below T14 m 82 #[oi p0, oi p1, oi p2, oi p3, oi p4, oi (0 : Int32), oi (0 : Int32), oi m7, oi m8, oi m9, oi m10, .unset, .unset, .unset] [(.ref b14)] _
        refine XS.astore X14.here hx rfl (hb hby at_82) rfl rfl (l' := #[oi p0, oi p1, oi p2, oi p3, oi p4, oi (0 : Int32), oi (0 : Int32), oi m7, oi m8, oi m9, oi m10, oa b14, .unset, .unset]) rfl ?_
        refine XS.iload X14.here hx rfl (hb hby at_84) rfl ?_
        show oS p e below T14 m 86 #[oi p0, oi p1, oi p2, oi p3, oi p4, oi (0 : Int32), oi (0 : Int32), oi m7, oi m8, oi m9, oi m10, oa b14, .unset, .unset] [(.int (0 : Int32))] _
        refine st16 _ ?_
        show oS p e below T16 m 88 #[oi p0, oi p1, oi p2, oi p3, oi p4, oi (0 : Int32), oi (0 : Int32), oi m7, oi m8, oi m9, oi m10, oa b14, .unset, .unset] [(.ref b16)] _
        refine XS.astore X16.here hx rfl (hb hby at_88) rfl rfl (l' := #[oi p0, oi p1, oi p2, oi p3, oi p4, oi (0 : Int32), oi (0 : Int32), oi m7, oi m8, oi m9, oi m10, oa b14, oa b16, .unset]) rfl ?_
        refine XS.iload X16.here hx rfl (hb hby at_90) rfl ?_
        refine XS.iconst X16.here hx rfl (hb hby at_92) ?_
        show oS p e below T16 m 93 #[oi p0, oi p1, oi p2, oi p3, oi p4, oi (0 : Int32), oi (0 : Int32), oi m7, oi m8, oi m9, oi m10, oa b14, oa b16, .unset] [(.int (1 : Int32)), (.int (0 : Int32))] _
        refine XS.icmpYes X16.here hx rfl (pc0 := 93) (pc' := 101) rfl (hb hby at_93) rfl (feq b20).2 (by decide) (by decide) ?_
        refine XS.iload X16.here hx rfl (hb hby at_101) rfl ?_
        refine XS.iconst X16.here hx rfl (hb hby at_103) ?_
        show oS p e below T16 m 104 #[oi p0, oi p1, oi p2, oi p3, oi p4, oi (0 : Int32), oi (0 : Int32), oi m7, oi m8, oi m9, oi m10, oa b14, oa b16, .unset] [(.int (2 : Int32)), (.int (0 : Int32))] _
        refine XS.icmpYes X16.here hx rfl (pc0 := 104) (pc' := 119) rfl (hb hby at_104) rfl (feq b21).2 (by decide) (by decide) ?_
        refine XS.iload X16.here hx rfl (hb hby at_119) rfl ?_
        refine XS.iconst X16.here hx rfl (hb hby at_121) ?_
        show oS p e below T16 m 122 #[oi p0, oi p1, oi p2, oi p3, oi p4, oi (0 : Int32), oi (0 : Int32), oi m7, oi m8, oi m9, oi m10, oa b14, oa b16, .unset] [(.int (1 : Int32)), (.int (0 : Int32))] _
        refine XS.icmpYes X16.here hx rfl (pc0 := 122) (pc' := 130) rfl (hb hby at_122) rfl (feq b22).2 (by decide) (by decide) ?_
        refine XS.iload X16.here hx rfl (hb hby at_130) rfl ?_
        refine XS.iconst X16.here hx rfl (hb hby at_132) ?_
        show oS p e below T16 m 133 #[oi p0, oi p1, oi p2, oi p3, oi p4, oi (0 : Int32), oi (0 : Int32), oi m7, oi m8, oi m9, oi m10, oa b14, oa b16, .unset] [(.int (2 : Int32)), (.int (0 : Int32))] _
        refine XS.icmpYes X16.here hx rfl (pc0 := 133) (pc' := 148) rfl (hb hby at_133) rfl (feq b23).2 (by decide) (by decide) ?_
        refine XS.aload X16.here hx rfl (hb hby at_148) rfl rfl ?_
        refine XS.aload X16.here hx rfl (hb hby at_150) rfl rfl ?_
        show oS p e below T16 m 152 #[oi p0, oi p1, oi p2, oi p3, oi p4, oi (0 : Int32), oi (0 : Int32), oi m7, oi m8, oi m9, oi m10, oa b14, oa b16, .unset] [(.ref b16), (.ref b14)] _
        refine st24 _ ?_
        exact k
      by_cases c26 : (own_f3_00 ) = (0 : Int32)
      · skip
        have pre27 : ∀ t, Steps p.tables e below (T24.setTop (mkF m 164 #[oi p0, oi p1, oi p2, oi p3, oi p4, oi (0 : Int32), oi (0 : Int32), oi m7, oi m8, oi m9, oi m10, oa b14, oa b16, .unset] [(.ref b16), (.ref b14)])) t → Steps p.tables e below (s₁.setTop (entryFrame m #[(.int p0), (.int p1), (.int p2), (.int p3), (.int p4)] maxLocals)) t := by
          intro t k
          refine pre25 t ?_
          show oS p e below T24 m 155 #[oi p0, oi p1, oi p2, oi p3, oi p4, oi (0 : Int32), oi (0 : Int32), oi m7, oi m8, oi m9, oi m10, oa b14, oa b16, .unset] [(.int (own_f3_00 ))] _
          refine XS.ifYes X24.here hx rfl (pc0 := 155) (pc' := 160) rfl (hb hby at_155) rfl ((if0 _ _).trans (teq c26).1) (by decide) (by decide) ?_
          refine XS.aload X24.here hx rfl (hb hby at_160) rfl rfl ?_
          refine XS.aload X24.here hx rfl (hb hby at_162) rfl rfl ?_
          exact k
        obtain ⟨_, _, ⟨T28, L28, k28, n28⟩, -, X28, ⟨Lc28, hQ28, l28, y28, z28⟩, st28⟩ := Jvm.LawKit.callS X24 hx (y := (⟨"com/example/strict_anon/strictanon/service/RecordSets", "union", "([I[I)[I"⟩ : MethodName)) hown (mvT hZ (hw _ (List.mem_of_getElem? (i := 13) rfl))) (mvT hZ (hw _ (List.mem_of_getElem? (i := 14) rfl))) (mvT hZ (hw _ (List.mem_of_getElem? (i := 15) rfl))) (mvT hZ (hw _ (List.mem_of_getElem? (i := 16) rfl))) (by decide) (backOf (W := 0) (own_rm4_00 l Z av hw [] b14 b16 k14 k16 h16 n0 Z16 F18 V_19) hZ (hw _ (List.mem_of_getElem? (i := 16) rfl)) (hw _ (List.mem_of_getElem? (i := 15) rfl)) (by decide) (by decide)) (g := (mkF m 164 #[oi p0, oi p1, oi p2, oi p3, oi p4, oi (0 : Int32), oi (0 : Int32), oi m7, oi m8, oi m9, oi m10, oa b14, oa b16, .unset] [(.ref b16), (.ref b14)])) rfl (by rw [hml]; rfl) (argsL := [(.ref b14), (.ref b16)]) (rest := []) (lenOf own_pd3 rfl) rfl (by show 2 * 0 + _ ≤ _; exact Nat.le_of_eq rfl) (hb hby at_164) (fun _ _ => ⟨rfl, eq24, (by decide : 2 + 1 ≤ _), (by decide : 0 + 0 ≤ _)⟩)
        dsimp only [Pt.U, Pt.locs, Pt.cells, Pt.slots] at X28 l28 y28 z28 st28 hQ28
        have yq28 : k28 = 3 := y28
        have zq28 : n28 = 0 := z28
        subst yq28 zq28
        obtain ⟨u_28, k_u_28, rfl, Nq28, Kq28, gq28_u, Oq28_0⟩ := hQ28
        have N28 : Fr n0 L28 := by rw [l28]; exact Fr.app N24 Nq28
        have Z28 : n0 ≤ T28.heap.size := Nat.le_trans Z16 Kq28.1
        have g_u_28 : n0 ≤ u_28 := Nat.le_trans Z16 gq28_u
        have ne29 : b14 ≠ u_28 := Nat.ne_of_lt (Nat.lt_of_lt_of_le F18.lt gq28_u)
        have ne30 : b16 ≠ u_28 := Nat.ne_of_lt (Nat.lt_of_lt_of_le V_19.lt gq28_u)
        have F31 := F18.keep Kq28 nin0
        have F32 := V_19.keep Kq28 nin0
        have b33 : (0 : Int32) = (0 : Int32) := (by decide)
        obtain ⟨_, _, ⟨T34, L34, k34, n34⟩, -, X34, ⟨Lc34, hQ34, l34, y34, z34⟩, st34⟩ := Jvm.LawKit.callS X28 hx (y := (⟨"com/example/strict_anon/strictanon/service/RecordSetsUnionPinLaw", "increasing", "([I)Z"⟩ : MethodName)) hown (mvT hZ (hw _ (List.mem_of_getElem? (i := 17) rfl))) (mvT hZ (hw _ (List.mem_of_getElem? (i := 18) rfl))) (mvT hZ (hw _ (List.mem_of_getElem? (i := 11) rfl))) (mvT hZ (hw _ (List.mem_of_getElem? (i := 19) rfl))) (by decide) (backOf (W := 0) (own_rm5_0 l Z av hw [] u_28 k_u_28 T28.heap n0 Z28 Oq28_0) hZ (hw _ (List.mem_of_getElem? (i := 19) rfl)) (hw _ (List.mem_of_getElem? (i := 11) rfl)) (by decide) (by decide)) (g := (mkF m 184 #[oi p0, oi p1, oi p2, oi p3, oi p4, oi (0 : Int32), oi (0 : Int32), oi m7, oi m8, oi m9, oi m10, oa b14, oa b16, oa u_28] [(.ref u_28)])) rfl (by rw [hml]; rfl) (argsL := [(.ref u_28)]) (rest := []) (lenOf own_pd4 rfl) rfl (by show 2 * 0 + _ ≤ _; exact Nat.le_of_eq rfl) (hb hby at_184) (fun _ _ => ⟨rfl, rfl, (by decide : 3 + 0 ≤ _), (by decide : 0 + 0 ≤ _)⟩)
        dsimp only [Pt.U, Pt.locs, Pt.cells, Pt.slots] at X34 l34 y34 z34 st34 hQ34
        have yq34 : k34 = 3 := y34
        have zq34 : n34 = 0 := z34
        subst yq34 zq34
        obtain ⟨rfl, Nq34, eq34⟩ := hQ34
        have N34 : Fr n0 L34 := by rw [l34]; exact Fr.app N28 Nq34
        have b35 : ¬ ((own_f5_0 ) = (0 : Int32)) := by unfold own_f5_0; (try simp only [own_ltp]); (repeat' split) <;> first | decide | (exfalso; omega)
        obtain ⟨_, _, ⟨T36, L36, k36, n36⟩, -, X36, ⟨Lc36, hQ36, l36, y36, z36⟩, st36⟩ := Jvm.LawKit.callS X34 hx (y := (⟨"com/example/strict_anon/strictanon/service/RecordSetsUnionPinLaw", "containsAll", "([I[I)Z"⟩ : MethodName)) hown (mvT hZ (hw _ (List.mem_of_getElem? (i := 20) rfl))) (mvT hZ (hw _ (List.mem_of_getElem? (i := 21) rfl))) (mvT hZ (hw _ (List.mem_of_getElem? (i := 11) rfl))) (mvT hZ (hw _ (List.mem_of_getElem? (i := 22) rfl))) (by decide) (backOf (W := 0) (own_rm6_00 l Z av hw [] u_28 b14 k_u_28 k14 T28.heap n0 Z28 Oq28_0 F31) hZ (hw _ (List.mem_of_getElem? (i := 22) rfl)) (hw _ (List.mem_of_getElem? (i := 11) rfl)) (by decide) (by decide)) (g := (mkF m 196 #[oi p0, oi p1, oi p2, oi p3, oi p4, oi (0 : Int32), oi (0 : Int32), oi m7, oi m8, oi m9, oi m10, oa b14, oa b16, oa u_28] [(.ref b14), (.ref u_28)])) rfl (by rw [hml]; rfl) (argsL := [(.ref u_28), (.ref b14)]) (rest := []) (lenOf own_pd2 rfl) rfl (by show 2 * 0 + _ ≤ _; exact Nat.le_of_eq rfl) (hb hby at_196) (fun _ _ => ⟨rfl, eq34, (by decide : 3 + 0 ≤ _), (by decide : 0 + 0 ≤ _)⟩)
        dsimp only [Pt.U, Pt.locs, Pt.cells, Pt.slots] at X36 l36 y36 z36 st36 hQ36
        have yq36 : k36 = 3 := y36
        have zq36 : n36 = 0 := z36
        subst yq36 zq36
        obtain ⟨rfl, Nq36, eq36⟩ := hQ36
        have N36 : Fr n0 L36 := by rw [l36]; exact Fr.app N34 Nq36
        have b37 : ¬ ((own_f6_00 ) = (0 : Int32)) := by simp [own_f6_00, own_f7_0]
        obtain ⟨_, _, ⟨T38, L38, k38, n38⟩, -, X38, ⟨Lc38, hQ38, l38, y38, z38⟩, st38⟩ := Jvm.LawKit.callS X36 hx (y := (⟨"com/example/strict_anon/strictanon/service/RecordSetsUnionPinLaw", "containsAll", "([I[I)Z"⟩ : MethodName)) hown (mvT hZ (hw _ (List.mem_of_getElem? (i := 20) rfl))) (mvT hZ (hw _ (List.mem_of_getElem? (i := 21) rfl))) (mvT hZ (hw _ (List.mem_of_getElem? (i := 11) rfl))) (mvT hZ (hw _ (List.mem_of_getElem? (i := 22) rfl))) (by decide) (backOf (W := 0) (own_rm6_00 l Z av hw [] u_28 b16 k_u_28 k16 T28.heap n0 Z28 Oq28_0 F32) hZ (hw _ (List.mem_of_getElem? (i := 22) rfl)) (hw _ (List.mem_of_getElem? (i := 11) rfl)) (by decide) (by decide)) (g := (mkF m 206 #[oi p0, oi p1, oi p2, oi p3, oi p4, oi (0 : Int32), oi (0 : Int32), oi m7, oi m8, oi m9, oi m10, oa b14, oa b16, oa u_28] [(.ref b16), (.ref u_28)])) rfl (by rw [hml]; rfl) (argsL := [(.ref u_28), (.ref b16)]) (rest := []) (lenOf own_pd2 rfl) rfl (by show 2 * 0 + _ ≤ _; exact Nat.le_of_eq rfl) (hb hby at_206) (fun _ _ => ⟨rfl, eq36, (by decide : 3 + 0 ≤ _), (by decide : 0 + 0 ≤ _)⟩)
        dsimp only [Pt.U, Pt.locs, Pt.cells, Pt.slots] at X38 l38 y38 z38 st38 hQ38
        have yq38 : k38 = 3 := y38
        have zq38 : n38 = 0 := z38
        subst yq38 zq38
        obtain ⟨rfl, Nq38, eq38⟩ := hQ38
        have N38 : Fr n0 L38 := by rw [l38]; exact Fr.app N36 Nq38
        have b39 : ¬ ((own_f6_00 ) = (0 : Int32)) := by simp [own_f6_00, own_f7_0]
        obtain ⟨fs, hr, hrun, hended, hW, hsame⟩ := X38.leave (v := (some (.int (1 : Int32)))) (fun h => by rw [Bd.returns] at h; cases h)
        refine ⟨_, _, pre27 _ ?_, hrun, hended, _, _, rfl, ?_, ⟨_, rfl⟩, hW, hsame.mono (by decide) (by decide)⟩
        · show oS p e below T24 m 164 #[oi p0, oi p1, oi p2, oi p3, oi p4, oi (0 : Int32), oi (0 : Int32), oi m7, oi m8, oi m9, oi m10, oa b14, oa b16, .unset] [(.ref b16), (.ref b14)] _
          refine st28 _ ?_
          show oS p e below T28 m 167 #[oi p0, oi p1, oi p2, oi p3, oi p4, oi (0 : Int32), oi (0 : Int32), oi m7, oi m8, oi m9, oi m10, oa b14, oa b16, .unset] [(.ref u_28)] _
          refine XS.astore X28.here hx rfl (hb hby at_167) rfl rfl (l' := #[oi p0, oi p1, oi p2, oi p3, oi p4, oi (0 : Int32), oi (0 : Int32), oi m7, oi m8, oi m9, oi m10, oa b14, oa b16, oa u_28]) rfl ?_
          refine XS.aload X28.here hx rfl (hb hby at_169) rfl rfl ?_
          show oS p e below T28 m 171 #[oi p0, oi p1, oi p2, oi p3, oi p4, oi (0 : Int32), oi (0 : Int32), oi m7, oi m8, oi m9, oi m10, oa b14, oa b16, oa u_28] [(.ref u_28)] _
          refine oLen X28 hx hZ rfl Oq28_0 (hb hby at_171) ?_
          refine XS.iload X28.here hx rfl (hb hby at_172) rfl ?_
          refine XS.iload X28.here hx rfl (hb hby at_174) rfl ?_
          refine XS.iadd X28.here hx rfl (hb hby at_176) rfl ?_
          show oS p e below T28 m 177 #[oi p0, oi p1, oi p2, oi p3, oi p4, oi (0 : Int32), oi (0 : Int32), oi m7, oi m8, oi m9, oi m10, oa b14, oa b16, oa u_28] [(.int (0 : Int32)), (.int (0 : Int32))] _
          refine XS.icmpYes X28.here hx rfl (pc0 := 177) (pc' := 182) rfl (hb hby at_177) rfl (teq b33).1 (by decide) (by decide) ?_
          refine XS.aload X28.here hx rfl (hb hby at_182) rfl rfl ?_
          show oS p e below T28 m 184 #[oi p0, oi p1, oi p2, oi p3, oi p4, oi (0 : Int32), oi (0 : Int32), oi m7, oi m8, oi m9, oi m10, oa b14, oa b16, oa u_28] [(.ref u_28)] _
          refine st34 _ ?_
          show oS p e below T34 m 187 #[oi p0, oi p1, oi p2, oi p3, oi p4, oi (0 : Int32), oi (0 : Int32), oi m7, oi m8, oi m9, oi m10, oa b14, oa b16, oa u_28] [(.int (own_f5_0 ))] _
          refine XS.ifYes X34.here hx rfl (pc0 := 187) (pc' := 192) rfl (hb hby at_187) rfl ((if0 _ _).trans (feq b35).2) (by decide) (by decide) ?_
          refine XS.aload X34.here hx rfl (hb hby at_192) rfl rfl ?_
          refine XS.aload X34.here hx rfl (hb hby at_194) rfl rfl ?_
          show oS p e below T34 m 196 #[oi p0, oi p1, oi p2, oi p3, oi p4, oi (0 : Int32), oi (0 : Int32), oi m7, oi m8, oi m9, oi m10, oa b14, oa b16, oa u_28] [(.ref b14), (.ref u_28)] _
          refine st36 _ ?_
          show oS p e below T36 m 199 #[oi p0, oi p1, oi p2, oi p3, oi p4, oi (0 : Int32), oi (0 : Int32), oi m7, oi m8, oi m9, oi m10, oa b14, oa b16, oa u_28] [(.int (own_f6_00 ))] _
          refine XS.ifNo X36.here hx rfl (hb hby at_199) rfl ((if0 _ _).trans (feq b37).1) ?_
          refine XS.aload X36.here hx rfl (hb hby at_202) rfl rfl ?_
          refine XS.aload X36.here hx rfl (hb hby at_204) rfl rfl ?_
          show oS p e below T36 m 206 #[oi p0, oi p1, oi p2, oi p3, oi p4, oi (0 : Int32), oi (0 : Int32), oi m7, oi m8, oi m9, oi m10, oa b14, oa b16, oa u_28] [(.ref b16), (.ref u_28)] _
          refine st38 _ ?_
          show oS p e below T38 m 209 #[oi p0, oi p1, oi p2, oi p3, oi p4, oi (0 : Int32), oi (0 : Int32), oi m7, oi m8, oi m9, oi m10, oa b14, oa b16, oa u_28] [(.int (own_f6_00 ))] _
          refine XS.ifNo X38.here hx rfl (hb hby at_209) rfl ((if0 _ _).trans (feq b39).1) ?_
          refine XS.iconst X38.here hx rfl (hb hby at_212) ?_
          refine XS.goto X38.here hx rfl (pc0 := 213) (pc' := 217) rfl (hb hby at_213) (by decide) (by decide) ?_
          show oS p e below T38 m 217 #[oi p0, oi p1, oi p2, oi p3, oi p4, oi (0 : Int32), oi (0 : Int32), oi m7, oi m8, oi m9, oi m10, oa b14, oa b16, oa u_28] [(.int (1 : Int32))] _
          exact retN X38 hx (t := .boolean) Bd.returns (by simp) (hb hby at_217) hr
        · show own_Q0 Z p0 p1 p2 p3 p4 h0 n0 _ T38.heap _
          rw [eq38]
          exact ⟨rfl, N38⟩
      · skip
        obtain ⟨fs, hr, hrun, hended, hW, hsame⟩ := X24.leave (v := (some (.int (1 : Int32)))) (fun h => by rw [Bd.returns] at h; cases h)
        refine ⟨_, _, pre25 _ ?_, hrun, hended, _, _, rfl, ?_, ⟨_, rfl⟩, hW, hsame.mono (by decide) (by decide)⟩
        · show oS p e below T24 m 155 #[oi p0, oi p1, oi p2, oi p3, oi p4, oi (0 : Int32), oi (0 : Int32), oi m7, oi m8, oi m9, oi m10, oa b14, oa b16, .unset] [(.int (own_f3_00 ))] _
          refine XS.ifNo X24.here hx rfl (hb hby at_155) rfl ((if0 _ _).trans (feq c26).1) ?_
          refine XS.iconst X24.here hx rfl (hb hby at_158) ?_
          show oS p e below T24 m 159 #[oi p0, oi p1, oi p2, oi p3, oi p4, oi (0 : Int32), oi (0 : Int32), oi m7, oi m8, oi m9, oi m10, oa b14, oa b16, .unset] [(.int (1 : Int32))] _
          exact retN X24 hx (t := .boolean) Bd.returns (by simp) (hb hby at_159) hr
        · show own_Q0 Z p0 p1 p2 p3 p4 h0 n0 _ T24.heap _
          rw [eq24]
          exact ⟨rfl, N24⟩
    · skip
      rw [kn, km] at pre11
      have b40 : ¬ ((0 : Int32) = (2 : Int32)) := (by decide)
      have b41 : ¬ ((1 : Int32) = (2 : Int32)) := (by decide)
      obtain ⟨T42, h42, k42, X42, e42, E42, A42, st42⟩ := newP X9 hx hZ (hw _ (List.mem_of_getElem? (i := 8) rfl)) eq9 (g := (mkF m 80 #[oi p0, oi p1, oi p2, oi p3, oi p4, oi (0 : Int32), oi (1 : Int32), oi m7, oi m8, oi m9, oi m10, .unset, .unset, .unset] [(.int (0 : Int32))])) rfl (hb hby at_80) rfl (by decide) (cap := 0) (by decide) (by decide) (by decide) (by decide)
      obtain ⟨b42, g42⟩ : ∃ z, z = h0.size := ⟨_, rfl⟩
      rw [← g42] at A42 st42
      have g_b42 : n0 ≤ b42 := Nat.le_trans Z0 (Nat.le_of_eq g42.symm)
      have Z42 : n0 ≤ h42.size := Nat.le_trans Z0 E42.1
      have V_43 : Arv Z h42 b42 k42 .int (0 : Int32) [] (.int (0 : Int32)) := (Arv.new A42 (by decide))
      obtain ⟨T44, h44, k44, X44, e44, E44, A44, st44⟩ := newP X42 hx hZ (hw _ (List.mem_of_getElem? (i := 8) rfl)) e42 (g := (mkF m 86 #[oi p0, oi p1, oi p2, oi p3, oi p4, oi (0 : Int32), oi (1 : Int32), oi m7, oi m8, oi m9, oi m10, oa b42, .unset, .unset] [(.int (1 : Int32))])) rfl (hb hby at_86) rfl (by decide) (cap := 1) (by decide) (by decide) (by decide) (by decide)
      obtain ⟨b44, g44⟩ : ∃ z, z = h42.size := ⟨_, rfl⟩
      rw [← g44] at A44 st44
      have g_b44 : n0 ≤ b44 := Nat.le_trans Z42 (Nat.le_of_eq g44.symm)
      have ne45 : b42 ≠ b44 := Nat.ne_of_lt (Nat.lt_of_lt_of_le V_43.lt (Nat.le_of_eq g44.symm))
      have Z44 : n0 ≤ h44.size := Nat.le_trans Z42 E44.1
      have F46 := V_43.ext E44
      have V_47 : Arv Z h44 b44 k44 .int (1 : Int32) [(.int (0 : Int32))] (.int (0 : Int32)) := (Arv.new A44 (by decide)).pad (pad_rep [] (.int (0 : Int32)) 1)
      have b48 : ¬ ((0 : Int32) = (1 : Int32)) := (by decide)
      have b49 : ¬ ((0 : Int32) = (2 : Int32)) := (by decide)
      have b50 : (1 : Int32) = (1 : Int32) := (by decide)
      obtain ⟨T51, h51, X51, e51, W51, V51, st51⟩ := oStI X44 hx hZ e44 V_47 (j := (0 : Int32)) ⟨by decide, by decide⟩ 0 rfl (Nat.le_of_ble_eq_true rfl) (g := (mkF m 129 #[oi p0, oi p1, oi p2, oi p3, oi p4, oi (0 : Int32), oi (1 : Int32), oi m7, oi m8, oi m9, oi m10, oa b42, oa b44, .unset] [(.int p2), (.int (0 : Int32)), (.ref b44)])) rfl rfl (hb hby at_129)
      obtain ⟨Lo51, X51, N51⟩ := oOpq X51 (Fr.snoc X51 N9 g_b44)
      have Z51 := Nat.le_trans Z44 (Keep.of_wr W51).1
      have F52 := F46.other W51 ne45
      have V_53 : Arv Z h51 b44 k44 .int (1 : Int32) [(.int p2)] (.int (0 : Int32)) := V51
      have b54 : ¬ ((1 : Int32) = (2 : Int32)) := (by decide)
      obtain ⟨_, _, ⟨T55, L55, k55, n55⟩, -, X55, ⟨Lc55, hQ55, l55, y55, z55⟩, st55⟩ := Jvm.LawKit.callS X51 hx (y := (⟨"com/example/strict_anon/strictanon/service/RecordSetsUnionPinLaw", "shares", "([I[I)Z"⟩ : MethodName)) hown (mvT hZ (hw _ (List.mem_of_getElem? (i := 9) rfl))) (mvT hZ (hw _ (List.mem_of_getElem? (i := 10) rfl))) (mvT hZ (hw _ (List.mem_of_getElem? (i := 11) rfl))) (mvT hZ (hw _ (List.mem_of_getElem? (i := 12) rfl))) (by decide) (backOf (W := 0) (own_rm3_01 l Z av hw [] b42 b44 k42 k44 p2 h51 n0 Z51 F52 V_53) hZ (hw _ (List.mem_of_getElem? (i := 12) rfl)) (hw _ (List.mem_of_getElem? (i := 11) rfl)) (by decide) (by decide)) (g := (mkF m 152 #[oi p0, oi p1, oi p2, oi p3, oi p4, oi (0 : Int32), oi (1 : Int32), oi m7, oi m8, oi m9, oi m10, oa b42, oa b44, .unset] [(.ref b44), (.ref b42)])) rfl (by rw [hml]; rfl) (argsL := [(.ref b42), (.ref b44)]) (rest := []) (lenOf own_pd2 rfl) rfl (by show 2 * 0 + _ ≤ _; exact Nat.le_of_eq rfl) (hb hby at_152) (fun _ _ => ⟨rfl, e51, (by decide : 2 + 0 ≤ _), (by decide : 1 + 0 ≤ _)⟩)
      dsimp only [Pt.U, Pt.locs, Pt.cells, Pt.slots] at X55 l55 y55 z55 st55 hQ55
      have yq55 : k55 = 2 := y55
      have zq55 : n55 = 1 := z55
      subst yq55 zq55
      obtain ⟨rfl, Nq55, eq55⟩ := hQ55
      have N55 : Fr n0 L55 := by rw [l55]; exact Fr.app N51 Nq55
      have pre56 : ∀ t, Steps p.tables e below (T55.setTop (mkF m 155 #[oi p0, oi p1, oi p2, oi p3, oi p4, oi (0 : Int32), oi (1 : Int32), oi m7, oi m8, oi m9, oi m10, oa b42, oa b44, .unset] [(.int (own_f3_01 p2))])) t → Steps p.tables e below (s₁.setTop (entryFrame m #[(.int p0), (.int p1), (.int p2), (.int p3), (.int p4)] maxLocals)) t := by
        intro t k
        refine pre11 t ?_
        show oS p e below T9 m 48 #[oi p0, oi p1, oi p2, oi p3, oi p4, oi (0 : Int32), oi (1 : Int32), oi m7, oi m8, oi m9, oi m10, .unset, .unset, .unset] [] _
        refine XS.iload X9.here hx rfl (hb hby at_48) rfl ?_
        refine XS.iconst X9.here hx rfl (hb hby at_50) ?_
        show oS p e below T9 m 51 #[oi p0, oi p1, oi p2, oi p3, oi p4, oi (0 : Int32), oi (1 : Int32), oi m7, oi m8, oi m9, oi m10, .unset, .unset, .unset] [(.int (2 : Int32)), (.int (0 : Int32))] _
        refine XS.icmpYes X9.here hx rfl (pc0 := 51) (pc' := 63) rfl (hb hby at_51) rfl (feq b40).2 (by decide) (by decide) ?_
        refine XS.iload X9.here hx rfl (hb hby at_63) rfl ?_
        refine XS.iconst X9.here hx rfl (hb hby at_65) ?_
        show oS p e below T9 m 66 #[oi p0, oi p1, oi p2, oi p3, oi p4, oi (0 : Int32), oi (1 : Int32), oi m7, oi m8, oi m9, oi m10, .unset, .unset, .unset] [(.int (2 : Int32)), (.int (1 : Int32))] _
        refine XS.icmpYes X9.here hx rfl (pc0 := 66) (pc' := 78) rfl (hb hby at_66) rfl (feq b41).2 (by decide) (by decide) ?_
        refine XS.iload X9.here hx rfl (hb hby at_78) rfl ?_
        show oS p e below T9 m 80 #[oi p0, oi p1, oi p2, oi p3, oi p4, oi (0 : Int32), oi (1 : Int32), oi m7, oi m8, oi m9, oi m10, .unset, .unset, .unset] [(.int (0 : Int32))] _
        refine st42 _ ?_
        show oS p e below T42 m 82 #[oi p0, oi p1, oi p2, oi p3, oi p4, oi (0 : Int32), oi (1 : Int32), oi m7, oi m8, oi m9, oi m10, .unset, .unset, .unset] [(.ref b42)] _
        refine XS.astore X42.here hx rfl (hb hby at_82) rfl rfl (l' := #[oi p0, oi p1, oi p2, oi p3, oi p4, oi (0 : Int32), oi (1 : Int32), oi m7, oi m8, oi m9, oi m10, oa b42, .unset, .unset]) rfl ?_
        refine XS.iload X42.here hx rfl (hb hby at_84) rfl ?_
        show oS p e below T42 m 86 #[oi p0, oi p1, oi p2, oi p3, oi p4, oi (0 : Int32), oi (1 : Int32), oi m7, oi m8, oi m9, oi m10, oa b42, .unset, .unset] [(.int (1 : Int32))] _
        refine st44 _ ?_
        show oS p e below T44 m 88 #[oi p0, oi p1, oi p2, oi p3, oi p4, oi (0 : Int32), oi (1 : Int32), oi m7, oi m8, oi m9, oi m10, oa b42, .unset, .unset] [(.ref b44)] _
        refine XS.astore X44.here hx rfl (hb hby at_88) rfl rfl (l' := #[oi p0, oi p1, oi p2, oi p3, oi p4, oi (0 : Int32), oi (1 : Int32), oi m7, oi m8, oi m9, oi m10, oa b42, oa b44, .unset]) rfl ?_
        refine XS.iload X44.here hx rfl (hb hby at_90) rfl ?_
        refine XS.iconst X44.here hx rfl (hb hby at_92) ?_
        show oS p e below T44 m 93 #[oi p0, oi p1, oi p2, oi p3, oi p4, oi (0 : Int32), oi (1 : Int32), oi m7, oi m8, oi m9, oi m10, oa b42, oa b44, .unset] [(.int (1 : Int32)), (.int (0 : Int32))] _
        refine XS.icmpYes X44.here hx rfl (pc0 := 93) (pc' := 101) rfl (hb hby at_93) rfl (feq b48).2 (by decide) (by decide) ?_
        refine XS.iload X44.here hx rfl (hb hby at_101) rfl ?_
        refine XS.iconst X44.here hx rfl (hb hby at_103) ?_
        show oS p e below T44 m 104 #[oi p0, oi p1, oi p2, oi p3, oi p4, oi (0 : Int32), oi (1 : Int32), oi m7, oi m8, oi m9, oi m10, oa b42, oa b44, .unset] [(.int (2 : Int32)), (.int (0 : Int32))] _
        refine XS.icmpYes X44.here hx rfl (pc0 := 104) (pc' := 119) rfl (hb hby at_104) rfl (feq b49).2 (by decide) (by decide) ?_
        refine XS.iload X44.here hx rfl (hb hby at_119) rfl ?_
        refine XS.iconst X44.here hx rfl (hb hby at_121) ?_
        show oS p e below T44 m 122 #[oi p0, oi p1, oi p2, oi p3, oi p4, oi (0 : Int32), oi (1 : Int32), oi m7, oi m8, oi m9, oi m10, oa b42, oa b44, .unset] [(.int (1 : Int32)), (.int (1 : Int32))] _
        refine XS.icmpNo X44.here hx rfl (hb hby at_122) rfl (teq b50).2 ?_
        refine XS.aload X44.here hx rfl (hb hby at_125) rfl rfl ?_
        refine XS.iconst X44.here hx rfl (hb hby at_127) ?_
        refine XS.iloadN X44.here hx rfl (hb hby at_128) rfl ?_
        show oS p e below T44 m 129 #[oi p0, oi p1, oi p2, oi p3, oi p4, oi (0 : Int32), oi (1 : Int32), oi m7, oi m8, oi m9, oi m10, oa b42, oa b44, .unset] [(.int p2), (.int (0 : Int32)), (.ref b44)] _
        refine st51 _ ?_
        show oS p e below T51 m 130 #[oi p0, oi p1, oi p2, oi p3, oi p4, oi (0 : Int32), oi (1 : Int32), oi m7, oi m8, oi m9, oi m10, oa b42, oa b44, .unset] [] _
        refine XS.iload X51.here hx rfl (hb hby at_130) rfl ?_
        refine XS.iconst X51.here hx rfl (hb hby at_132) ?_
        show oS p e below T51 m 133 #[oi p0, oi p1, oi p2, oi p3, oi p4, oi (0 : Int32), oi (1 : Int32), oi m7, oi m8, oi m9, oi m10, oa b42, oa b44, .unset] [(.int (2 : Int32)), (.int (1 : Int32))] _
        refine XS.icmpYes X51.here hx rfl (pc0 := 133) (pc' := 148) rfl (hb hby at_133) rfl (feq b54).2 (by decide) (by decide) ?_
        refine XS.aload X51.here hx rfl (hb hby at_148) rfl rfl ?_
        refine XS.aload X51.here hx rfl (hb hby at_150) rfl rfl ?_
        show oS p e below T51 m 152 #[oi p0, oi p1, oi p2, oi p3, oi p4, oi (0 : Int32), oi (1 : Int32), oi m7, oi m8, oi m9, oi m10, oa b42, oa b44, .unset] [(.ref b44), (.ref b42)] _
        refine st55 _ ?_
        exact k
      by_cases c57 : (own_f3_01 p2) = (0 : Int32)
      · skip
        have pre58 : ∀ t, Steps p.tables e below (T55.setTop (mkF m 164 #[oi p0, oi p1, oi p2, oi p3, oi p4, oi (0 : Int32), oi (1 : Int32), oi m7, oi m8, oi m9, oi m10, oa b42, oa b44, .unset] [(.ref b44), (.ref b42)])) t → Steps p.tables e below (s₁.setTop (entryFrame m #[(.int p0), (.int p1), (.int p2), (.int p3), (.int p4)] maxLocals)) t := by
          intro t k
          refine pre56 t ?_
          show oS p e below T55 m 155 #[oi p0, oi p1, oi p2, oi p3, oi p4, oi (0 : Int32), oi (1 : Int32), oi m7, oi m8, oi m9, oi m10, oa b42, oa b44, .unset] [(.int (own_f3_01 p2))] _
          refine XS.ifYes X55.here hx rfl (pc0 := 155) (pc' := 160) rfl (hb hby at_155) rfl ((if0 _ _).trans (teq c57).1) (by decide) (by decide) ?_
          refine XS.aload X55.here hx rfl (hb hby at_160) rfl rfl ?_
          refine XS.aload X55.here hx rfl (hb hby at_162) rfl rfl ?_
          exact k
        obtain ⟨_, _, ⟨T59, L59, k59, n59⟩, -, X59, ⟨Lc59, hQ59, l59, y59, z59⟩, st59⟩ := Jvm.LawKit.callS X55 hx (y := (⟨"com/example/strict_anon/strictanon/service/RecordSets", "union", "([I[I)[I"⟩ : MethodName)) hown (mvT hZ (hw _ (List.mem_of_getElem? (i := 13) rfl))) (mvT hZ (hw _ (List.mem_of_getElem? (i := 14) rfl))) (mvT hZ (hw _ (List.mem_of_getElem? (i := 15) rfl))) (mvT hZ (hw _ (List.mem_of_getElem? (i := 16) rfl))) (by decide) (backOf (W := 0) (own_rm4_01y l Z av hw [] b42 b44 k42 k44 p2 h51 n0 Z51 F52 V_53) hZ (hw _ (List.mem_of_getElem? (i := 16) rfl)) (hw _ (List.mem_of_getElem? (i := 15) rfl)) (by decide) (by decide)) (g := (mkF m 164 #[oi p0, oi p1, oi p2, oi p3, oi p4, oi (0 : Int32), oi (1 : Int32), oi m7, oi m8, oi m9, oi m10, oa b42, oa b44, .unset] [(.ref b44), (.ref b42)])) rfl (by rw [hml]; rfl) (argsL := [(.ref b42), (.ref b44)]) (rest := []) (lenOf own_pd3 rfl) rfl (by show 2 * 0 + _ ≤ _; exact Nat.le_of_eq rfl) (hb hby at_164) (fun _ _ => ⟨rfl, eq55, (by decide : 2 + 1 ≤ _), (by decide : 1 + 1 ≤ _)⟩)
        dsimp only [Pt.U, Pt.locs, Pt.cells, Pt.slots] at X59 l59 y59 z59 st59 hQ59
        have yq59 : k59 = 3 := y59
        have zq59 : n59 = 2 := z59
        subst yq59 zq59
        obtain ⟨u_59, k_u_59, rfl, Nq59, Kq59, gq59_u, Oq59_0⟩ := hQ59
        have N59 : Fr n0 L59 := by rw [l59]; exact Fr.app N55 Nq59
        have Z59 : n0 ≤ T59.heap.size := Nat.le_trans Z51 Kq59.1
        have g_u_59 : n0 ≤ u_59 := Nat.le_trans Z51 gq59_u
        have ne60 : b42 ≠ u_59 := Nat.ne_of_lt (Nat.lt_of_lt_of_le F52.lt gq59_u)
        have ne61 : b44 ≠ u_59 := Nat.ne_of_lt (Nat.lt_of_lt_of_le V_53.lt gq59_u)
        have F62 := F52.keep Kq59 nin0
        have F63 := V_53.keep Kq59 nin0
        have b64 : (1 : Int32) = (1 : Int32) := (by decide)
        obtain ⟨_, _, ⟨T65, L65, k65, n65⟩, -, X65, ⟨Lc65, hQ65, l65, y65, z65⟩, st65⟩ := Jvm.LawKit.callS X59 hx (y := (⟨"com/example/strict_anon/strictanon/service/RecordSetsUnionPinLaw", "increasing", "([I)Z"⟩ : MethodName)) hown (mvT hZ (hw _ (List.mem_of_getElem? (i := 17) rfl))) (mvT hZ (hw _ (List.mem_of_getElem? (i := 18) rfl))) (mvT hZ (hw _ (List.mem_of_getElem? (i := 11) rfl))) (mvT hZ (hw _ (List.mem_of_getElem? (i := 19) rfl))) (by decide) (backOf (W := 0) (own_rm5_1 l Z av hw [] u_59 k_u_59 p2 T59.heap n0 Z59 Oq59_0) hZ (hw _ (List.mem_of_getElem? (i := 19) rfl)) (hw _ (List.mem_of_getElem? (i := 11) rfl)) (by decide) (by decide)) (g := (mkF m 184 #[oi p0, oi p1, oi p2, oi p3, oi p4, oi (0 : Int32), oi (1 : Int32), oi m7, oi m8, oi m9, oi m10, oa b42, oa b44, oa u_59] [(.ref u_59)])) rfl (by rw [hml]; rfl) (argsL := [(.ref u_59)]) (rest := []) (lenOf own_pd4 rfl) rfl (by show 2 * 0 + _ ≤ _; exact Nat.le_of_eq rfl) (hb hby at_184) (fun _ _ => ⟨rfl, rfl, (by decide : 3 + 0 ≤ _), (by decide : 2 + 0 ≤ _)⟩)
        dsimp only [Pt.U, Pt.locs, Pt.cells, Pt.slots] at X65 l65 y65 z65 st65 hQ65
        have yq65 : k65 = 3 := y65
        have zq65 : n65 = 2 := z65
        subst yq65 zq65
        obtain ⟨rfl, Nq65, eq65⟩ := hQ65
        have N65 : Fr n0 L65 := by rw [l65]; exact Fr.app N59 Nq65
        have b66 : ¬ ((own_f5_1 p2) = (0 : Int32)) := by unfold own_f5_1; (try simp only [own_ltp]); (repeat' split) <;> first | decide | (exfalso; omega)
        obtain ⟨_, _, ⟨T67, L67, k67, n67⟩, -, X67, ⟨Lc67, hQ67, l67, y67, z67⟩, st67⟩ := Jvm.LawKit.callS X65 hx (y := (⟨"com/example/strict_anon/strictanon/service/RecordSetsUnionPinLaw", "containsAll", "([I[I)Z"⟩ : MethodName)) hown (mvT hZ (hw _ (List.mem_of_getElem? (i := 20) rfl))) (mvT hZ (hw _ (List.mem_of_getElem? (i := 21) rfl))) (mvT hZ (hw _ (List.mem_of_getElem? (i := 11) rfl))) (mvT hZ (hw _ (List.mem_of_getElem? (i := 22) rfl))) (by decide) (backOf (W := 0) (own_rm6_10 l Z av hw [] u_59 b42 k_u_59 p2 k42 T59.heap n0 Z59 Oq59_0 F62) hZ (hw _ (List.mem_of_getElem? (i := 22) rfl)) (hw _ (List.mem_of_getElem? (i := 11) rfl)) (by decide) (by decide)) (g := (mkF m 196 #[oi p0, oi p1, oi p2, oi p3, oi p4, oi (0 : Int32), oi (1 : Int32), oi m7, oi m8, oi m9, oi m10, oa b42, oa b44, oa u_59] [(.ref b42), (.ref u_59)])) rfl (by rw [hml]; rfl) (argsL := [(.ref u_59), (.ref b42)]) (rest := []) (lenOf own_pd2 rfl) rfl (by show 2 * 0 + _ ≤ _; exact Nat.le_of_eq rfl) (hb hby at_196) (fun _ _ => ⟨rfl, eq65, (by decide : 3 + 0 ≤ _), (by decide : 2 + 0 ≤ _)⟩)
        dsimp only [Pt.U, Pt.locs, Pt.cells, Pt.slots] at X67 l67 y67 z67 st67 hQ67
        have yq67 : k67 = 3 := y67
        have zq67 : n67 = 2 := z67
        subst yq67 zq67
        obtain ⟨rfl, Nq67, eq67⟩ := hQ67
        have N67 : Fr n0 L67 := by rw [l67]; exact Fr.app N65 Nq67
        have b68 : ¬ ((own_f6_10 p2) = (0 : Int32)) := by simp [own_f6_10, own_f7_1]
        obtain ⟨_, _, ⟨T69, L69, k69, n69⟩, -, X69, ⟨Lc69, hQ69, l69, y69, z69⟩, st69⟩ := Jvm.LawKit.callS X67 hx (y := (⟨"com/example/strict_anon/strictanon/service/RecordSetsUnionPinLaw", "containsAll", "([I[I)Z"⟩ : MethodName)) hown (mvT hZ (hw _ (List.mem_of_getElem? (i := 20) rfl))) (mvT hZ (hw _ (List.mem_of_getElem? (i := 21) rfl))) (mvT hZ (hw _ (List.mem_of_getElem? (i := 11) rfl))) (mvT hZ (hw _ (List.mem_of_getElem? (i := 22) rfl))) (by decide) (backOf (W := 0) (own_rm6_11 l Z av hw [] u_59 b44 k_u_59 p2 k44 p2 T59.heap n0 Z59 Oq59_0 F63) hZ (hw _ (List.mem_of_getElem? (i := 22) rfl)) (hw _ (List.mem_of_getElem? (i := 11) rfl)) (by decide) (by decide)) (g := (mkF m 206 #[oi p0, oi p1, oi p2, oi p3, oi p4, oi (0 : Int32), oi (1 : Int32), oi m7, oi m8, oi m9, oi m10, oa b42, oa b44, oa u_59] [(.ref b44), (.ref u_59)])) rfl (by rw [hml]; rfl) (argsL := [(.ref u_59), (.ref b44)]) (rest := []) (lenOf own_pd2 rfl) rfl (by show 2 * 0 + _ ≤ _; exact Nat.le_of_eq rfl) (hb hby at_206) (fun _ _ => ⟨rfl, eq67, (by decide : 3 + 0 ≤ _), (by decide : 2 + 0 ≤ _)⟩)
        dsimp only [Pt.U, Pt.locs, Pt.cells, Pt.slots] at X69 l69 y69 z69 st69 hQ69
        have yq69 : k69 = 3 := y69
        have zq69 : n69 = 2 := z69
        subst yq69 zq69
        obtain ⟨rfl, Nq69, eq69⟩ := hQ69
        have N69 : Fr n0 L69 := by rw [l69]; exact Fr.app N67 Nq69
        have b70 : ¬ ((own_f6_11 p2 p2) = (0 : Int32)) := by simp [own_f6_11, own_f7_1]
        obtain ⟨fs, hr, hrun, hended, hW, hsame⟩ := X69.leave (v := (some (.int (1 : Int32)))) (fun h => by rw [Bd.returns] at h; cases h)
        refine ⟨_, _, pre58 _ ?_, hrun, hended, _, _, rfl, ?_, ⟨_, rfl⟩, hW, hsame.mono (by decide) (by decide)⟩
        · show oS p e below T55 m 164 #[oi p0, oi p1, oi p2, oi p3, oi p4, oi (0 : Int32), oi (1 : Int32), oi m7, oi m8, oi m9, oi m10, oa b42, oa b44, .unset] [(.ref b44), (.ref b42)] _
          refine st59 _ ?_
          show oS p e below T59 m 167 #[oi p0, oi p1, oi p2, oi p3, oi p4, oi (0 : Int32), oi (1 : Int32), oi m7, oi m8, oi m9, oi m10, oa b42, oa b44, .unset] [(.ref u_59)] _
          refine XS.astore X59.here hx rfl (hb hby at_167) rfl rfl (l' := #[oi p0, oi p1, oi p2, oi p3, oi p4, oi (0 : Int32), oi (1 : Int32), oi m7, oi m8, oi m9, oi m10, oa b42, oa b44, oa u_59]) rfl ?_
          refine XS.aload X59.here hx rfl (hb hby at_169) rfl rfl ?_
          show oS p e below T59 m 171 #[oi p0, oi p1, oi p2, oi p3, oi p4, oi (0 : Int32), oi (1 : Int32), oi m7, oi m8, oi m9, oi m10, oa b42, oa b44, oa u_59] [(.ref u_59)] _
          refine oLen X59 hx hZ rfl Oq59_0 (hb hby at_171) ?_
          refine XS.iload X59.here hx rfl (hb hby at_172) rfl ?_
          refine XS.iload X59.here hx rfl (hb hby at_174) rfl ?_
          refine XS.iadd X59.here hx rfl (hb hby at_176) rfl ?_
          show oS p e below T59 m 177 #[oi p0, oi p1, oi p2, oi p3, oi p4, oi (0 : Int32), oi (1 : Int32), oi m7, oi m8, oi m9, oi m10, oa b42, oa b44, oa u_59] [(.int (1 : Int32)), (.int (1 : Int32))] _
          refine XS.icmpYes X59.here hx rfl (pc0 := 177) (pc' := 182) rfl (hb hby at_177) rfl (teq b64).1 (by decide) (by decide) ?_
          refine XS.aload X59.here hx rfl (hb hby at_182) rfl rfl ?_
          show oS p e below T59 m 184 #[oi p0, oi p1, oi p2, oi p3, oi p4, oi (0 : Int32), oi (1 : Int32), oi m7, oi m8, oi m9, oi m10, oa b42, oa b44, oa u_59] [(.ref u_59)] _
          refine st65 _ ?_
          show oS p e below T65 m 187 #[oi p0, oi p1, oi p2, oi p3, oi p4, oi (0 : Int32), oi (1 : Int32), oi m7, oi m8, oi m9, oi m10, oa b42, oa b44, oa u_59] [(.int (own_f5_1 p2))] _
          refine XS.ifYes X65.here hx rfl (pc0 := 187) (pc' := 192) rfl (hb hby at_187) rfl ((if0 _ _).trans (feq b66).2) (by decide) (by decide) ?_
          refine XS.aload X65.here hx rfl (hb hby at_192) rfl rfl ?_
          refine XS.aload X65.here hx rfl (hb hby at_194) rfl rfl ?_
          show oS p e below T65 m 196 #[oi p0, oi p1, oi p2, oi p3, oi p4, oi (0 : Int32), oi (1 : Int32), oi m7, oi m8, oi m9, oi m10, oa b42, oa b44, oa u_59] [(.ref b42), (.ref u_59)] _
          refine st67 _ ?_
          show oS p e below T67 m 199 #[oi p0, oi p1, oi p2, oi p3, oi p4, oi (0 : Int32), oi (1 : Int32), oi m7, oi m8, oi m9, oi m10, oa b42, oa b44, oa u_59] [(.int (own_f6_10 p2))] _
          refine XS.ifNo X67.here hx rfl (hb hby at_199) rfl ((if0 _ _).trans (feq b68).1) ?_
          refine XS.aload X67.here hx rfl (hb hby at_202) rfl rfl ?_
          refine XS.aload X67.here hx rfl (hb hby at_204) rfl rfl ?_
          show oS p e below T67 m 206 #[oi p0, oi p1, oi p2, oi p3, oi p4, oi (0 : Int32), oi (1 : Int32), oi m7, oi m8, oi m9, oi m10, oa b42, oa b44, oa u_59] [(.ref b44), (.ref u_59)] _
          refine st69 _ ?_
          show oS p e below T69 m 209 #[oi p0, oi p1, oi p2, oi p3, oi p4, oi (0 : Int32), oi (1 : Int32), oi m7, oi m8, oi m9, oi m10, oa b42, oa b44, oa u_59] [(.int (own_f6_11 p2 p2))] _
          refine XS.ifNo X69.here hx rfl (hb hby at_209) rfl ((if0 _ _).trans (feq b70).1) ?_
          refine XS.iconst X69.here hx rfl (hb hby at_212) ?_
          refine XS.goto X69.here hx rfl (pc0 := 213) (pc' := 217) rfl (hb hby at_213) (by decide) (by decide) ?_
          show oS p e below T69 m 217 #[oi p0, oi p1, oi p2, oi p3, oi p4, oi (0 : Int32), oi (1 : Int32), oi m7, oi m8, oi m9, oi m10, oa b42, oa b44, oa u_59] [(.int (1 : Int32))] _
          exact retN X69 hx (t := .boolean) Bd.returns (by simp) (hb hby at_217) hr
        · show own_Q0 Z p0 p1 p2 p3 p4 h0 n0 _ T69.heap _
          rw [eq69]
          exact ⟨rfl, N69⟩
      · skip
        obtain ⟨fs, hr, hrun, hended, hW, hsame⟩ := X55.leave (v := (some (.int (1 : Int32)))) (fun h => by rw [Bd.returns] at h; cases h)
        refine ⟨_, _, pre56 _ ?_, hrun, hended, _, _, rfl, ?_, ⟨_, rfl⟩, hW, hsame.mono (by decide) (by decide)⟩
        · show oS p e below T55 m 155 #[oi p0, oi p1, oi p2, oi p3, oi p4, oi (0 : Int32), oi (1 : Int32), oi m7, oi m8, oi m9, oi m10, oa b42, oa b44, .unset] [(.int (own_f3_01 p2))] _
          refine XS.ifNo X55.here hx rfl (hb hby at_155) rfl ((if0 _ _).trans (feq c57).1) ?_
          refine XS.iconst X55.here hx rfl (hb hby at_158) ?_
          show oS p e below T55 m 159 #[oi p0, oi p1, oi p2, oi p3, oi p4, oi (0 : Int32), oi (1 : Int32), oi m7, oi m8, oi m9, oi m10, oa b42, oa b44, .unset] [(.int (1 : Int32))] _
          exact retN X55 hx (t := .boolean) Bd.returns (by simp) (hb hby at_159) hr
        · show own_Q0 Z p0 p1 p2 p3 p4 h0 n0 _ T55.heap _
          rw [eq55]
          exact ⟨rfl, N55⟩
    · skip
      rw [kn, km] at pre11
      have b71 : ¬ ((0 : Int32) = (2 : Int32)) := (by decide)
      have b72 : (2 : Int32) = (2 : Int32) := (by decide)
      have pre73 : ∀ t, Steps p.tables e below (T9.setTop (mkF m 73 #[oi p0, oi p1, oi p2, oi p3, oi p4, oi (0 : Int32), oi (2 : Int32), oi m7, oi m8, oi m9, oi m10, .unset, .unset, .unset] [(.int m10), (.int m9)])) t → Steps p.tables e below (s₁.setTop (entryFrame m #[(.int p0), (.int p1), (.int p2), (.int p3), (.int p4)] maxLocals)) t := by
        intro t k
        refine pre11 t ?_
        show oS p e below T9 m 48 #[oi p0, oi p1, oi p2, oi p3, oi p4, oi (0 : Int32), oi (2 : Int32), oi m7, oi m8, oi m9, oi m10, .unset, .unset, .unset] [] _
        refine XS.iload X9.here hx rfl (hb hby at_48) rfl ?_
        refine XS.iconst X9.here hx rfl (hb hby at_50) ?_
        show oS p e below T9 m 51 #[oi p0, oi p1, oi p2, oi p3, oi p4, oi (0 : Int32), oi (2 : Int32), oi m7, oi m8, oi m9, oi m10, .unset, .unset, .unset] [(.int (2 : Int32)), (.int (0 : Int32))] _
        refine XS.icmpYes X9.here hx rfl (pc0 := 51) (pc' := 63) rfl (hb hby at_51) rfl (feq b71).2 (by decide) (by decide) ?_
        refine XS.iload X9.here hx rfl (hb hby at_63) rfl ?_
        refine XS.iconst X9.here hx rfl (hb hby at_65) ?_
        show oS p e below T9 m 66 #[oi p0, oi p1, oi p2, oi p3, oi p4, oi (0 : Int32), oi (2 : Int32), oi m7, oi m8, oi m9, oi m10, .unset, .unset, .unset] [(.int (2 : Int32)), (.int (2 : Int32))] _
        refine XS.icmpNo X9.here hx rfl (hb hby at_66) rfl (teq b72).2 ?_
        refine XS.iload X9.here hx rfl (hb hby at_69) rfl ?_
        refine XS.iload X9.here hx rfl (hb hby at_71) rfl ?_
        exact k
      by_cases c74 : m9 = m10
      · skip
        obtain ⟨fs, hr, hrun, hended, hW, hsame⟩ := X9.leave (v := (some (.int (1 : Int32)))) (fun h => by rw [Bd.returns] at h; cases h)
        refine ⟨_, _, pre73 _ ?_, hrun, hended, _, _, rfl, ?_, ⟨_, rfl⟩, hW, hsame.mono (by decide) (by decide)⟩
        · show oS p e below T9 m 73 #[oi p0, oi p1, oi p2, oi p3, oi p4, oi (0 : Int32), oi (2 : Int32), oi m7, oi m8, oi m9, oi m10, .unset, .unset, .unset] [(.int m10), (.int m9)] _
          refine XS.icmpNo X9.here hx rfl (hb hby at_73) rfl (teq c74).2 ?_
          refine XS.iconst X9.here hx rfl (hb hby at_76) ?_
          show oS p e below T9 m 77 #[oi p0, oi p1, oi p2, oi p3, oi p4, oi (0 : Int32), oi (2 : Int32), oi m7, oi m8, oi m9, oi m10, .unset, .unset, .unset] [(.int (1 : Int32))] _
          exact retN X9 hx (t := .boolean) Bd.returns (by simp) (hb hby at_77) hr
        · show own_Q0 Z p0 p1 p2 p3 p4 h0 n0 _ T9.heap _
          rw [eq9]
          exact ⟨rfl, N9⟩
      · skip
        have hmy : m9.toInt < m10.toInt := by rw [hm9, hm10] at c74 ⊢; exact own_mm c74
        obtain ⟨T75, h75, k75, X75, e75, E75, A75, st75⟩ := newP X9 hx hZ (hw _ (List.mem_of_getElem? (i := 8) rfl)) eq9 (g := (mkF m 80 #[oi p0, oi p1, oi p2, oi p3, oi p4, oi (0 : Int32), oi (2 : Int32), oi m7, oi m8, oi m9, oi m10, .unset, .unset, .unset] [(.int (0 : Int32))])) rfl (hb hby at_80) rfl (by decide) (cap := 0) (by decide) (by decide) (by decide) (by decide)
        obtain ⟨b75, g75⟩ : ∃ z, z = h0.size := ⟨_, rfl⟩
        rw [← g75] at A75 st75
        have g_b75 : n0 ≤ b75 := Nat.le_trans Z0 (Nat.le_of_eq g75.symm)
        have Z75 : n0 ≤ h75.size := Nat.le_trans Z0 E75.1
        have V_76 : Arv Z h75 b75 k75 .int (0 : Int32) [] (.int (0 : Int32)) := (Arv.new A75 (by decide))
        obtain ⟨T77, h77, k77, X77, e77, E77, A77, st77⟩ := newP X75 hx hZ (hw _ (List.mem_of_getElem? (i := 8) rfl)) e75 (g := (mkF m 86 #[oi p0, oi p1, oi p2, oi p3, oi p4, oi (0 : Int32), oi (2 : Int32), oi m7, oi m8, oi m9, oi m10, oa b75, .unset, .unset] [(.int (2 : Int32))])) rfl (hb hby at_86) rfl (by decide) (cap := 2) (by decide) (by decide) (by decide) (by decide)
        obtain ⟨b77, g77⟩ : ∃ z, z = h75.size := ⟨_, rfl⟩
        rw [← g77] at A77 st77
        have g_b77 : n0 ≤ b77 := Nat.le_trans Z75 (Nat.le_of_eq g77.symm)
        have ne78 : b75 ≠ b77 := Nat.ne_of_lt (Nat.lt_of_lt_of_le V_76.lt (Nat.le_of_eq g77.symm))
        have Z77 : n0 ≤ h77.size := Nat.le_trans Z75 E77.1
        have F79 := V_76.ext E77
        have V_80 : Arv Z h77 b77 k77 .int (2 : Int32) [(.int (0 : Int32)), (.int (0 : Int32))] (.int (0 : Int32)) := (Arv.new A77 (by decide)).pad (pad_rep [] (.int (0 : Int32)) 2)
        have b81 : ¬ ((0 : Int32) = (1 : Int32)) := (by decide)
        have b82 : ¬ ((0 : Int32) = (2 : Int32)) := (by decide)
        have b83 : ¬ ((2 : Int32) = (1 : Int32)) := (by decide)
        have b84 : (2 : Int32) = (2 : Int32) := (by decide)
        obtain ⟨T85, h85, X85, e85, W85, V85, st85⟩ := oStI X77 hx hZ e77 V_80 (j := (0 : Int32)) ⟨by decide, by decide⟩ 0 rfl (Nat.le_of_ble_eq_true rfl) (g := (mkF m 141 #[oi p0, oi p1, oi p2, oi p3, oi p4, oi (0 : Int32), oi (2 : Int32), oi m7, oi m8, oi m9, oi m10, oa b75, oa b77, .unset] [(.int m9), (.int (0 : Int32)), (.ref b77)])) rfl rfl (hb hby at_141)
        obtain ⟨Lo85, X85, N85⟩ := oOpq X85 (Fr.snoc X85 N9 g_b77)
        have Z85 := Nat.le_trans Z77 (Keep.of_wr W85).1
        have F86 := F79.other W85 ne78
        have V_87 : Arv Z h85 b77 k77 .int (2 : Int32) [(.int m9), (.int (0 : Int32))] (.int (0 : Int32)) := V85
        obtain ⟨T88, h88, X88, e88, W88, V88, st88⟩ := oStI X85 hx hZ e85 V_87 (j := (1 : Int32)) ⟨by decide, by decide⟩ 1 rfl (Nat.le_of_ble_eq_true rfl) (g := (mkF m 147 #[oi p0, oi p1, oi p2, oi p3, oi p4, oi (0 : Int32), oi (2 : Int32), oi m7, oi m8, oi m9, oi m10, oa b75, oa b77, .unset] [(.int m10), (.int (1 : Int32)), (.ref b77)])) rfl rfl (hb hby at_147)
        obtain ⟨Lo88, X88, N88⟩ := oOpq X88 (Fr.snoc X88 N85 g_b77)
        have Z88 := Nat.le_trans Z85 (Keep.of_wr W88).1
        have F89 := F86.other W88 ne78
        have V_90 : Arv Z h88 b77 k77 .int (2 : Int32) [(.int m9), (.int m10)] (.int (0 : Int32)) := V88
        obtain ⟨_, _, ⟨T91, L91, k91, n91⟩, -, X91, ⟨Lc91, hQ91, l91, y91, z91⟩, st91⟩ := Jvm.LawKit.callS X88 hx (y := (⟨"com/example/strict_anon/strictanon/service/RecordSetsUnionPinLaw", "shares", "([I[I)Z"⟩ : MethodName)) hown (mvT hZ (hw _ (List.mem_of_getElem? (i := 9) rfl))) (mvT hZ (hw _ (List.mem_of_getElem? (i := 10) rfl))) (mvT hZ (hw _ (List.mem_of_getElem? (i := 11) rfl))) (mvT hZ (hw _ (List.mem_of_getElem? (i := 12) rfl))) (by decide) (backOf (W := 0) (own_rm3_02 l Z av hw [] b75 b77 k75 k77 m9 m10 h88 n0 Z88 F89 V_90) hZ (hw _ (List.mem_of_getElem? (i := 12) rfl)) (hw _ (List.mem_of_getElem? (i := 11) rfl)) (by decide) (by decide)) (g := (mkF m 152 #[oi p0, oi p1, oi p2, oi p3, oi p4, oi (0 : Int32), oi (2 : Int32), oi m7, oi m8, oi m9, oi m10, oa b75, oa b77, .unset] [(.ref b77), (.ref b75)])) rfl (by rw [hml]; rfl) (argsL := [(.ref b75), (.ref b77)]) (rest := []) (lenOf own_pd2 rfl) rfl (by show 2 * 0 + _ ≤ _; exact Nat.le_of_eq rfl) (hb hby at_152) (fun _ _ => ⟨rfl, e88, (by decide : 2 + 0 ≤ _), (by decide : 2 + 0 ≤ _)⟩)
        dsimp only [Pt.U, Pt.locs, Pt.cells, Pt.slots] at X91 l91 y91 z91 st91 hQ91
        have yq91 : k91 = 2 := y91
        have zq91 : n91 = 2 := z91
        subst yq91 zq91
        obtain ⟨rfl, Nq91, eq91⟩ := hQ91
        have N91 : Fr n0 L91 := by rw [l91]; exact Fr.app N88 Nq91
        have pre92 : ∀ t, Steps p.tables e below (T91.setTop (mkF m 155 #[oi p0, oi p1, oi p2, oi p3, oi p4, oi (0 : Int32), oi (2 : Int32), oi m7, oi m8, oi m9, oi m10, oa b75, oa b77, .unset] [(.int (own_f3_02 m9 m10))])) t → Steps p.tables e below (s₁.setTop (entryFrame m #[(.int p0), (.int p1), (.int p2), (.int p3), (.int p4)] maxLocals)) t := by
          intro t k
          refine pre73 t ?_
          show oS p e below T9 m 73 #[oi p0, oi p1, oi p2, oi p3, oi p4, oi (0 : Int32), oi (2 : Int32), oi m7, oi m8, oi m9, oi m10, .unset, .unset, .unset] [(.int m10), (.int m9)] _
          refine XS.icmpYes X9.here hx rfl (pc0 := 73) (pc' := 78) rfl (hb hby at_73) rfl (feq c74).2 (by decide) (by decide) ?_
          refine XS.iload X9.here hx rfl (hb hby at_78) rfl ?_
          show oS p e below T9 m 80 #[oi p0, oi p1, oi p2, oi p3, oi p4, oi (0 : Int32), oi (2 : Int32), oi m7, oi m8, oi m9, oi m10, .unset, .unset, .unset] [(.int (0 : Int32))] _
          refine st75 _ ?_
          show oS p e below T75 m 82 #[oi p0, oi p1, oi p2, oi p3, oi p4, oi (0 : Int32), oi (2 : Int32), oi m7, oi m8, oi m9, oi m10, .unset, .unset, .unset] [(.ref b75)] _
          refine XS.astore X75.here hx rfl (hb hby at_82) rfl rfl (l' := #[oi p0, oi p1, oi p2, oi p3, oi p4, oi (0 : Int32), oi (2 : Int32), oi m7, oi m8, oi m9, oi m10, oa b75, .unset, .unset]) rfl ?_
          refine XS.iload X75.here hx rfl (hb hby at_84) rfl ?_
          show oS p e below T75 m 86 #[oi p0, oi p1, oi p2, oi p3, oi p4, oi (0 : Int32), oi (2 : Int32), oi m7, oi m8, oi m9, oi m10, oa b75, .unset, .unset] [(.int (2 : Int32))] _
          refine st77 _ ?_
          show oS p e below T77 m 88 #[oi p0, oi p1, oi p2, oi p3, oi p4, oi (0 : Int32), oi (2 : Int32), oi m7, oi m8, oi m9, oi m10, oa b75, .unset, .unset] [(.ref b77)] _
          refine XS.astore X77.here hx rfl (hb hby at_88) rfl rfl (l' := #[oi p0, oi p1, oi p2, oi p3, oi p4, oi (0 : Int32), oi (2 : Int32), oi m7, oi m8, oi m9, oi m10, oa b75, oa b77, .unset]) rfl ?_
          refine XS.iload X77.here hx rfl (hb hby at_90) rfl ?_
          refine XS.iconst X77.here hx rfl (hb hby at_92) ?_
          show oS p e below T77 m 93 #[oi p0, oi p1, oi p2, oi p3, oi p4, oi (0 : Int32), oi (2 : Int32), oi m7, oi m8, oi m9, oi m10, oa b75, oa b77, .unset] [(.int (1 : Int32)), (.int (0 : Int32))] _
          refine XS.icmpYes X77.here hx rfl (pc0 := 93) (pc' := 101) rfl (hb hby at_93) rfl (feq b81).2 (by decide) (by decide) ?_
          refine XS.iload X77.here hx rfl (hb hby at_101) rfl ?_
          refine XS.iconst X77.here hx rfl (hb hby at_103) ?_
          show oS p e below T77 m 104 #[oi p0, oi p1, oi p2, oi p3, oi p4, oi (0 : Int32), oi (2 : Int32), oi m7, oi m8, oi m9, oi m10, oa b75, oa b77, .unset] [(.int (2 : Int32)), (.int (0 : Int32))] _
          refine XS.icmpYes X77.here hx rfl (pc0 := 104) (pc' := 119) rfl (hb hby at_104) rfl (feq b82).2 (by decide) (by decide) ?_
          refine XS.iload X77.here hx rfl (hb hby at_119) rfl ?_
          refine XS.iconst X77.here hx rfl (hb hby at_121) ?_
          show oS p e below T77 m 122 #[oi p0, oi p1, oi p2, oi p3, oi p4, oi (0 : Int32), oi (2 : Int32), oi m7, oi m8, oi m9, oi m10, oa b75, oa b77, .unset] [(.int (1 : Int32)), (.int (2 : Int32))] _
          refine XS.icmpYes X77.here hx rfl (pc0 := 122) (pc' := 130) rfl (hb hby at_122) rfl (feq b83).2 (by decide) (by decide) ?_
          refine XS.iload X77.here hx rfl (hb hby at_130) rfl ?_
          refine XS.iconst X77.here hx rfl (hb hby at_132) ?_
          show oS p e below T77 m 133 #[oi p0, oi p1, oi p2, oi p3, oi p4, oi (0 : Int32), oi (2 : Int32), oi m7, oi m8, oi m9, oi m10, oa b75, oa b77, .unset] [(.int (2 : Int32)), (.int (2 : Int32))] _
          refine XS.icmpNo X77.here hx rfl (hb hby at_133) rfl (teq b84).2 ?_
          refine XS.aload X77.here hx rfl (hb hby at_136) rfl rfl ?_
          refine XS.iconst X77.here hx rfl (hb hby at_138) ?_
          refine XS.iload X77.here hx rfl (hb hby at_139) rfl ?_
          show oS p e below T77 m 141 #[oi p0, oi p1, oi p2, oi p3, oi p4, oi (0 : Int32), oi (2 : Int32), oi m7, oi m8, oi m9, oi m10, oa b75, oa b77, .unset] [(.int m9), (.int (0 : Int32)), (.ref b77)] _
          refine st85 _ ?_
          show oS p e below T85 m 142 #[oi p0, oi p1, oi p2, oi p3, oi p4, oi (0 : Int32), oi (2 : Int32), oi m7, oi m8, oi m9, oi m10, oa b75, oa b77, .unset] [] _
          refine XS.aload X85.here hx rfl (hb hby at_142) rfl rfl ?_
          refine XS.iconst X85.here hx rfl (hb hby at_144) ?_
          refine XS.iload X85.here hx rfl (hb hby at_145) rfl ?_
          show oS p e below T85 m 147 #[oi p0, oi p1, oi p2, oi p3, oi p4, oi (0 : Int32), oi (2 : Int32), oi m7, oi m8, oi m9, oi m10, oa b75, oa b77, .unset] [(.int m10), (.int (1 : Int32)), (.ref b77)] _
          refine st88 _ ?_
          show oS p e below T88 m 148 #[oi p0, oi p1, oi p2, oi p3, oi p4, oi (0 : Int32), oi (2 : Int32), oi m7, oi m8, oi m9, oi m10, oa b75, oa b77, .unset] [] _
          refine XS.aload X88.here hx rfl (hb hby at_148) rfl rfl ?_
          refine XS.aload X88.here hx rfl (hb hby at_150) rfl rfl ?_
          show oS p e below T88 m 152 #[oi p0, oi p1, oi p2, oi p3, oi p4, oi (0 : Int32), oi (2 : Int32), oi m7, oi m8, oi m9, oi m10, oa b75, oa b77, .unset] [(.ref b77), (.ref b75)] _
          refine st91 _ ?_
          exact k
        by_cases c93 : (own_f3_02 m9 m10) = (0 : Int32)
        · skip
          have pre94 : ∀ t, Steps p.tables e below (T91.setTop (mkF m 164 #[oi p0, oi p1, oi p2, oi p3, oi p4, oi (0 : Int32), oi (2 : Int32), oi m7, oi m8, oi m9, oi m10, oa b75, oa b77, .unset] [(.ref b77), (.ref b75)])) t → Steps p.tables e below (s₁.setTop (entryFrame m #[(.int p0), (.int p1), (.int p2), (.int p3), (.int p4)] maxLocals)) t := by
            intro t k
            refine pre92 t ?_
            show oS p e below T91 m 155 #[oi p0, oi p1, oi p2, oi p3, oi p4, oi (0 : Int32), oi (2 : Int32), oi m7, oi m8, oi m9, oi m10, oa b75, oa b77, .unset] [(.int (own_f3_02 m9 m10))] _
            refine XS.ifYes X91.here hx rfl (pc0 := 155) (pc' := 160) rfl (hb hby at_155) rfl ((if0 _ _).trans (teq c93).1) (by decide) (by decide) ?_
            refine XS.aload X91.here hx rfl (hb hby at_160) rfl rfl ?_
            refine XS.aload X91.here hx rfl (hb hby at_162) rfl rfl ?_
            exact k
          obtain ⟨_, _, ⟨T95, L95, k95, n95⟩, -, X95, ⟨Lc95, hQ95, l95, y95, z95⟩, st95⟩ := Jvm.LawKit.callS X91 hx (y := (⟨"com/example/strict_anon/strictanon/service/RecordSets", "union", "([I[I)[I"⟩ : MethodName)) hown (mvT hZ (hw _ (List.mem_of_getElem? (i := 13) rfl))) (mvT hZ (hw _ (List.mem_of_getElem? (i := 14) rfl))) (mvT hZ (hw _ (List.mem_of_getElem? (i := 15) rfl))) (mvT hZ (hw _ (List.mem_of_getElem? (i := 16) rfl))) (by decide) (backOf (W := 0) (own_rm4_02yy l Z av hw [] b75 b77 k75 k77 m9 m10 h88 n0 Z88 F89 V_90) hZ (hw _ (List.mem_of_getElem? (i := 16) rfl)) (hw _ (List.mem_of_getElem? (i := 15) rfl)) (by decide) (by decide)) (g := (mkF m 164 #[oi p0, oi p1, oi p2, oi p3, oi p4, oi (0 : Int32), oi (2 : Int32), oi m7, oi m8, oi m9, oi m10, oa b75, oa b77, .unset] [(.ref b77), (.ref b75)])) rfl (by rw [hml]; rfl) (argsL := [(.ref b75), (.ref b77)]) (rest := []) (lenOf own_pd3 rfl) rfl (by show 2 * 0 + _ ≤ _; exact Nat.le_of_eq rfl) (hb hby at_164) (fun _ _ => ⟨rfl, eq91, (by decide : 2 + 1 ≤ _), (by decide : 2 + 2 ≤ _)⟩)
          dsimp only [Pt.U, Pt.locs, Pt.cells, Pt.slots] at X95 l95 y95 z95 st95 hQ95
          have yq95 : k95 = 3 := y95
          have zq95 : n95 = 4 := z95
          subst yq95 zq95
          obtain ⟨u_95, k_u_95, rfl, Nq95, Kq95, gq95_u, Oq95_0⟩ := hQ95
          have N95 : Fr n0 L95 := by rw [l95]; exact Fr.app N91 Nq95
          have Z95 : n0 ≤ T95.heap.size := Nat.le_trans Z88 Kq95.1
          have g_u_95 : n0 ≤ u_95 := Nat.le_trans Z88 gq95_u
          have ne96 : b75 ≠ u_95 := Nat.ne_of_lt (Nat.lt_of_lt_of_le F89.lt gq95_u)
          have ne97 : b77 ≠ u_95 := Nat.ne_of_lt (Nat.lt_of_lt_of_le V_90.lt gq95_u)
          have F98 := F89.keep Kq95 nin0
          have F99 := V_90.keep Kq95 nin0
          have b100 : (2 : Int32) = (2 : Int32) := (by decide)
          obtain ⟨_, _, ⟨T101, L101, k101, n101⟩, -, X101, ⟨Lc101, hQ101, l101, y101, z101⟩, st101⟩ := Jvm.LawKit.callS X95 hx (y := (⟨"com/example/strict_anon/strictanon/service/RecordSetsUnionPinLaw", "increasing", "([I)Z"⟩ : MethodName)) hown (mvT hZ (hw _ (List.mem_of_getElem? (i := 17) rfl))) (mvT hZ (hw _ (List.mem_of_getElem? (i := 18) rfl))) (mvT hZ (hw _ (List.mem_of_getElem? (i := 11) rfl))) (mvT hZ (hw _ (List.mem_of_getElem? (i := 19) rfl))) (by decide) (backOf (W := 0) (own_rm5_2 l Z av hw [] u_95 k_u_95 m9 m10 T95.heap n0 Z95 Oq95_0) hZ (hw _ (List.mem_of_getElem? (i := 19) rfl)) (hw _ (List.mem_of_getElem? (i := 11) rfl)) (by decide) (by decide)) (g := (mkF m 184 #[oi p0, oi p1, oi p2, oi p3, oi p4, oi (0 : Int32), oi (2 : Int32), oi m7, oi m8, oi m9, oi m10, oa b75, oa b77, oa u_95] [(.ref u_95)])) rfl (by rw [hml]; rfl) (argsL := [(.ref u_95)]) (rest := []) (lenOf own_pd4 rfl) rfl (by show 2 * 0 + _ ≤ _; exact Nat.le_of_eq rfl) (hb hby at_184) (fun _ _ => ⟨rfl, rfl, (by decide : 3 + 0 ≤ _), (by decide : 4 + 0 ≤ _)⟩)
          dsimp only [Pt.U, Pt.locs, Pt.cells, Pt.slots] at X101 l101 y101 z101 st101 hQ101
          have yq101 : k101 = 3 := y101
          have zq101 : n101 = 4 := z101
          subst yq101 zq101
          obtain ⟨rfl, Nq101, eq101⟩ := hQ101
          have N101 : Fr n0 L101 := by rw [l101]; exact Fr.app N95 Nq101
          have b102 : ¬ ((own_f5_2 m9 m10) = (0 : Int32)) := by unfold own_f5_2; (try simp only [own_ltp]); (repeat' split) <;> first | decide | (exfalso; omega)
          obtain ⟨_, _, ⟨T103, L103, k103, n103⟩, -, X103, ⟨Lc103, hQ103, l103, y103, z103⟩, st103⟩ := Jvm.LawKit.callS X101 hx (y := (⟨"com/example/strict_anon/strictanon/service/RecordSetsUnionPinLaw", "containsAll", "([I[I)Z"⟩ : MethodName)) hown (mvT hZ (hw _ (List.mem_of_getElem? (i := 20) rfl))) (mvT hZ (hw _ (List.mem_of_getElem? (i := 21) rfl))) (mvT hZ (hw _ (List.mem_of_getElem? (i := 11) rfl))) (mvT hZ (hw _ (List.mem_of_getElem? (i := 22) rfl))) (by decide) (backOf (W := 0) (own_rm6_20 l Z av hw [] u_95 b75 k_u_95 m9 m10 k75 T95.heap n0 Z95 Oq95_0 F98) hZ (hw _ (List.mem_of_getElem? (i := 22) rfl)) (hw _ (List.mem_of_getElem? (i := 11) rfl)) (by decide) (by decide)) (g := (mkF m 196 #[oi p0, oi p1, oi p2, oi p3, oi p4, oi (0 : Int32), oi (2 : Int32), oi m7, oi m8, oi m9, oi m10, oa b75, oa b77, oa u_95] [(.ref b75), (.ref u_95)])) rfl (by rw [hml]; rfl) (argsL := [(.ref u_95), (.ref b75)]) (rest := []) (lenOf own_pd2 rfl) rfl (by show 2 * 0 + _ ≤ _; exact Nat.le_of_eq rfl) (hb hby at_196) (fun _ _ => ⟨rfl, eq101, (by decide : 3 + 0 ≤ _), (by decide : 4 + 0 ≤ _)⟩)
          dsimp only [Pt.U, Pt.locs, Pt.cells, Pt.slots] at X103 l103 y103 z103 st103 hQ103
          have yq103 : k103 = 3 := y103
          have zq103 : n103 = 4 := z103
          subst yq103 zq103
          obtain ⟨rfl, Nq103, eq103⟩ := hQ103
          have N103 : Fr n0 L103 := by rw [l103]; exact Fr.app N101 Nq103
          have b104 : ¬ ((own_f6_20 m9 m10) = (0 : Int32)) := by simp [own_f6_20, own_f7_2]
          obtain ⟨_, _, ⟨T105, L105, k105, n105⟩, -, X105, ⟨Lc105, hQ105, l105, y105, z105⟩, st105⟩ := Jvm.LawKit.callS X103 hx (y := (⟨"com/example/strict_anon/strictanon/service/RecordSetsUnionPinLaw", "containsAll", "([I[I)Z"⟩ : MethodName)) hown (mvT hZ (hw _ (List.mem_of_getElem? (i := 20) rfl))) (mvT hZ (hw _ (List.mem_of_getElem? (i := 21) rfl))) (mvT hZ (hw _ (List.mem_of_getElem? (i := 11) rfl))) (mvT hZ (hw _ (List.mem_of_getElem? (i := 22) rfl))) (by decide) (backOf (W := 0) (own_rm6_22 l Z av hw [] u_95 b77 k_u_95 m9 m10 k77 m9 m10 T95.heap n0 Z95 Oq95_0 F99) hZ (hw _ (List.mem_of_getElem? (i := 22) rfl)) (hw _ (List.mem_of_getElem? (i := 11) rfl)) (by decide) (by decide)) (g := (mkF m 206 #[oi p0, oi p1, oi p2, oi p3, oi p4, oi (0 : Int32), oi (2 : Int32), oi m7, oi m8, oi m9, oi m10, oa b75, oa b77, oa u_95] [(.ref b77), (.ref u_95)])) rfl (by rw [hml]; rfl) (argsL := [(.ref u_95), (.ref b77)]) (rest := []) (lenOf own_pd2 rfl) rfl (by show 2 * 0 + _ ≤ _; exact Nat.le_of_eq rfl) (hb hby at_206) (fun _ _ => ⟨rfl, eq103, (by decide : 3 + 0 ≤ _), (by decide : 4 + 0 ≤ _)⟩)
          dsimp only [Pt.U, Pt.locs, Pt.cells, Pt.slots] at X105 l105 y105 z105 st105 hQ105
          have yq105 : k105 = 3 := y105
          have zq105 : n105 = 4 := z105
          subst yq105 zq105
          obtain ⟨rfl, Nq105, eq105⟩ := hQ105
          have N105 : Fr n0 L105 := by rw [l105]; exact Fr.app N103 Nq105
          have b106 : ¬ ((own_f6_22 m9 m10 m9 m10) = (0 : Int32)) := by simp [own_f6_22, own_f7_2]
          obtain ⟨fs, hr, hrun, hended, hW, hsame⟩ := X105.leave (v := (some (.int (1 : Int32)))) (fun h => by rw [Bd.returns] at h; cases h)
          refine ⟨_, _, pre94 _ ?_, hrun, hended, _, _, rfl, ?_, ⟨_, rfl⟩, hW, hsame.mono (by decide) (by decide)⟩
          · show oS p e below T91 m 164 #[oi p0, oi p1, oi p2, oi p3, oi p4, oi (0 : Int32), oi (2 : Int32), oi m7, oi m8, oi m9, oi m10, oa b75, oa b77, .unset] [(.ref b77), (.ref b75)] _
            refine st95 _ ?_
            show oS p e below T95 m 167 #[oi p0, oi p1, oi p2, oi p3, oi p4, oi (0 : Int32), oi (2 : Int32), oi m7, oi m8, oi m9, oi m10, oa b75, oa b77, .unset] [(.ref u_95)] _
            refine XS.astore X95.here hx rfl (hb hby at_167) rfl rfl (l' := #[oi p0, oi p1, oi p2, oi p3, oi p4, oi (0 : Int32), oi (2 : Int32), oi m7, oi m8, oi m9, oi m10, oa b75, oa b77, oa u_95]) rfl ?_
            refine XS.aload X95.here hx rfl (hb hby at_169) rfl rfl ?_
            show oS p e below T95 m 171 #[oi p0, oi p1, oi p2, oi p3, oi p4, oi (0 : Int32), oi (2 : Int32), oi m7, oi m8, oi m9, oi m10, oa b75, oa b77, oa u_95] [(.ref u_95)] _
            refine oLen X95 hx hZ rfl Oq95_0 (hb hby at_171) ?_
            refine XS.iload X95.here hx rfl (hb hby at_172) rfl ?_
            refine XS.iload X95.here hx rfl (hb hby at_174) rfl ?_
            refine XS.iadd X95.here hx rfl (hb hby at_176) rfl ?_
            show oS p e below T95 m 177 #[oi p0, oi p1, oi p2, oi p3, oi p4, oi (0 : Int32), oi (2 : Int32), oi m7, oi m8, oi m9, oi m10, oa b75, oa b77, oa u_95] [(.int (2 : Int32)), (.int (2 : Int32))] _
            refine XS.icmpYes X95.here hx rfl (pc0 := 177) (pc' := 182) rfl (hb hby at_177) rfl (teq b100).1 (by decide) (by decide) ?_
            refine XS.aload X95.here hx rfl (hb hby at_182) rfl rfl ?_
            show oS p e below T95 m 184 #[oi p0, oi p1, oi p2, oi p3, oi p4, oi (0 : Int32), oi (2 : Int32), oi m7, oi m8, oi m9, oi m10, oa b75, oa b77, oa u_95] [(.ref u_95)] _
            refine st101 _ ?_
            show oS p e below T101 m 187 #[oi p0, oi p1, oi p2, oi p3, oi p4, oi (0 : Int32), oi (2 : Int32), oi m7, oi m8, oi m9, oi m10, oa b75, oa b77, oa u_95] [(.int (own_f5_2 m9 m10))] _
            refine XS.ifYes X101.here hx rfl (pc0 := 187) (pc' := 192) rfl (hb hby at_187) rfl ((if0 _ _).trans (feq b102).2) (by decide) (by decide) ?_
            refine XS.aload X101.here hx rfl (hb hby at_192) rfl rfl ?_
            refine XS.aload X101.here hx rfl (hb hby at_194) rfl rfl ?_
            show oS p e below T101 m 196 #[oi p0, oi p1, oi p2, oi p3, oi p4, oi (0 : Int32), oi (2 : Int32), oi m7, oi m8, oi m9, oi m10, oa b75, oa b77, oa u_95] [(.ref b75), (.ref u_95)] _
            refine st103 _ ?_
            show oS p e below T103 m 199 #[oi p0, oi p1, oi p2, oi p3, oi p4, oi (0 : Int32), oi (2 : Int32), oi m7, oi m8, oi m9, oi m10, oa b75, oa b77, oa u_95] [(.int (own_f6_20 m9 m10))] _
            refine XS.ifNo X103.here hx rfl (hb hby at_199) rfl ((if0 _ _).trans (feq b104).1) ?_
            refine XS.aload X103.here hx rfl (hb hby at_202) rfl rfl ?_
            refine XS.aload X103.here hx rfl (hb hby at_204) rfl rfl ?_
            show oS p e below T103 m 206 #[oi p0, oi p1, oi p2, oi p3, oi p4, oi (0 : Int32), oi (2 : Int32), oi m7, oi m8, oi m9, oi m10, oa b75, oa b77, oa u_95] [(.ref b77), (.ref u_95)] _
            refine st105 _ ?_
            show oS p e below T105 m 209 #[oi p0, oi p1, oi p2, oi p3, oi p4, oi (0 : Int32), oi (2 : Int32), oi m7, oi m8, oi m9, oi m10, oa b75, oa b77, oa u_95] [(.int (own_f6_22 m9 m10 m9 m10))] _
            refine XS.ifNo X105.here hx rfl (hb hby at_209) rfl ((if0 _ _).trans (feq b106).1) ?_
            refine XS.iconst X105.here hx rfl (hb hby at_212) ?_
            refine XS.goto X105.here hx rfl (pc0 := 213) (pc' := 217) rfl (hb hby at_213) (by decide) (by decide) ?_
            show oS p e below T105 m 217 #[oi p0, oi p1, oi p2, oi p3, oi p4, oi (0 : Int32), oi (2 : Int32), oi m7, oi m8, oi m9, oi m10, oa b75, oa b77, oa u_95] [(.int (1 : Int32))] _
            exact retN X105 hx (t := .boolean) Bd.returns (by simp) (hb hby at_217) hr
          · show own_Q0 Z p0 p1 p2 p3 p4 h0 n0 _ T105.heap _
            rw [eq105]
            exact ⟨rfl, N105⟩
        · skip
          obtain ⟨fs, hr, hrun, hended, hW, hsame⟩ := X91.leave (v := (some (.int (1 : Int32)))) (fun h => by rw [Bd.returns] at h; cases h)
          refine ⟨_, _, pre92 _ ?_, hrun, hended, _, _, rfl, ?_, ⟨_, rfl⟩, hW, hsame.mono (by decide) (by decide)⟩
          · show oS p e below T91 m 155 #[oi p0, oi p1, oi p2, oi p3, oi p4, oi (0 : Int32), oi (2 : Int32), oi m7, oi m8, oi m9, oi m10, oa b75, oa b77, .unset] [(.int (own_f3_02 m9 m10))] _
            refine XS.ifNo X91.here hx rfl (hb hby at_155) rfl ((if0 _ _).trans (feq c93).1) ?_
            refine XS.iconst X91.here hx rfl (hb hby at_158) ?_
            show oS p e below T91 m 159 #[oi p0, oi p1, oi p2, oi p3, oi p4, oi (0 : Int32), oi (2 : Int32), oi m7, oi m8, oi m9, oi m10, oa b75, oa b77, .unset] [(.int (1 : Int32))] _
            exact retN X91 hx (t := .boolean) Bd.returns (by simp) (hb hby at_159) hr
          · show own_Q0 Z p0 p1 p2 p3 p4 h0 n0 _ T91.heap _
            rw [eq91]
            exact ⟨rfl, N91⟩
  · skip
    rcases km with km | km | km
    · skip
      rw [kn, km] at pre11
      have b107 : ¬ ((1 : Int32) = (2 : Int32)) := (by decide)
      have b108 : ¬ ((0 : Int32) = (2 : Int32)) := (by decide)
      obtain ⟨T109, h109, k109, X109, e109, E109, A109, st109⟩ := newP X9 hx hZ (hw _ (List.mem_of_getElem? (i := 8) rfl)) eq9 (g := (mkF m 80 #[oi p0, oi p1, oi p2, oi p3, oi p4, oi (1 : Int32), oi (0 : Int32), oi m7, oi m8, oi m9, oi m10, .unset, .unset, .unset] [(.int (1 : Int32))])) rfl (hb hby at_80) rfl (by decide) (cap := 1) (by decide) (by decide) (by decide) (by decide)
      obtain ⟨b109, g109⟩ : ∃ z, z = h0.size := ⟨_, rfl⟩
      rw [← g109] at A109 st109
      have g_b109 : n0 ≤ b109 := Nat.le_trans Z0 (Nat.le_of_eq g109.symm)
      have Z109 : n0 ≤ h109.size := Nat.le_trans Z0 E109.1
      have V_110 : Arv Z h109 b109 k109 .int (1 : Int32) [(.int (0 : Int32))] (.int (0 : Int32)) := (Arv.new A109 (by decide)).pad (pad_rep [] (.int (0 : Int32)) 1)
      obtain ⟨T111, h111, k111, X111, e111, E111, A111, st111⟩ := newP X109 hx hZ (hw _ (List.mem_of_getElem? (i := 8) rfl)) e109 (g := (mkF m 86 #[oi p0, oi p1, oi p2, oi p3, oi p4, oi (1 : Int32), oi (0 : Int32), oi m7, oi m8, oi m9, oi m10, oa b109, .unset, .unset] [(.int (0 : Int32))])) rfl (hb hby at_86) rfl (by decide) (cap := 0) (by decide) (by decide) (by decide) (by decide)
      obtain ⟨b111, g111⟩ : ∃ z, z = h109.size := ⟨_, rfl⟩
      rw [← g111] at A111 st111
      have g_b111 : n0 ≤ b111 := Nat.le_trans Z109 (Nat.le_of_eq g111.symm)
      have ne112 : b109 ≠ b111 := Nat.ne_of_lt (Nat.lt_of_lt_of_le V_110.lt (Nat.le_of_eq g111.symm))
      have Z111 : n0 ≤ h111.size := Nat.le_trans Z109 E111.1
      have F113 := V_110.ext E111
      have V_114 : Arv Z h111 b111 k111 .int (0 : Int32) [] (.int (0 : Int32)) := (Arv.new A111 (by decide))
      have b115 : (1 : Int32) = (1 : Int32) := (by decide)
      obtain ⟨T116, h116, X116, e116, W116, V116, st116⟩ := oStI X111 hx hZ e111 F113 (j := (0 : Int32)) ⟨by decide, by decide⟩ 0 rfl (Nat.le_of_ble_eq_true rfl) (g := (mkF m 100 #[oi p0, oi p1, oi p2, oi p3, oi p4, oi (1 : Int32), oi (0 : Int32), oi m7, oi m8, oi m9, oi m10, oa b109, oa b111, .unset] [(.int p0), (.int (0 : Int32)), (.ref b109)])) rfl rfl (hb hby at_100)
      obtain ⟨Lo116, X116, N116⟩ := oOpq X116 (Fr.snoc X116 N9 g_b109)
      have Z116 := Nat.le_trans Z111 (Keep.of_wr W116).1
      have F117 := V_114.other W116 (Ne.symm ne112)
      have V_118 : Arv Z h116 b109 k109 .int (1 : Int32) [(.int p0)] (.int (0 : Int32)) := V116
      have b119 : ¬ ((1 : Int32) = (2 : Int32)) := (by decide)
      have b120 : ¬ ((0 : Int32) = (1 : Int32)) := (by decide)
      have b121 : ¬ ((0 : Int32) = (2 : Int32)) := (by decide)
      obtain ⟨_, _, ⟨T122, L122, k122, n122⟩, -, X122, ⟨Lc122, hQ122, l122, y122, z122⟩, st122⟩ := Jvm.LawKit.callS X116 hx (y := (⟨"com/example/strict_anon/strictanon/service/RecordSetsUnionPinLaw", "shares", "([I[I)Z"⟩ : MethodName)) hown (mvT hZ (hw _ (List.mem_of_getElem? (i := 9) rfl))) (mvT hZ (hw _ (List.mem_of_getElem? (i := 10) rfl))) (mvT hZ (hw _ (List.mem_of_getElem? (i := 11) rfl))) (mvT hZ (hw _ (List.mem_of_getElem? (i := 12) rfl))) (by decide) (backOf (W := 0) (own_rm3_10 l Z av hw [] b109 b111 k109 p0 k111 h116 n0 Z116 V_118 F117) hZ (hw _ (List.mem_of_getElem? (i := 12) rfl)) (hw _ (List.mem_of_getElem? (i := 11) rfl)) (by decide) (by decide)) (g := (mkF m 152 #[oi p0, oi p1, oi p2, oi p3, oi p4, oi (1 : Int32), oi (0 : Int32), oi m7, oi m8, oi m9, oi m10, oa b109, oa b111, .unset] [(.ref b111), (.ref b109)])) rfl (by rw [hml]; rfl) (argsL := [(.ref b109), (.ref b111)]) (rest := []) (lenOf own_pd2 rfl) rfl (by show 2 * 0 + _ ≤ _; exact Nat.le_of_eq rfl) (hb hby at_152) (fun _ _ => ⟨rfl, e116, (by decide : 2 + 0 ≤ _), (by decide : 1 + 0 ≤ _)⟩)
      dsimp only [Pt.U, Pt.locs, Pt.cells, Pt.slots] at X122 l122 y122 z122 st122 hQ122
      have yq122 : k122 = 2 := y122
      have zq122 : n122 = 1 := z122
      subst yq122 zq122
      obtain ⟨rfl, Nq122, eq122⟩ := hQ122
      have N122 : Fr n0 L122 := by rw [l122]; exact Fr.app N116 Nq122
      have pre123 : ∀ t, Steps p.tables e below (T122.setTop (mkF m 155 #[oi p0, oi p1, oi p2, oi p3, oi p4, oi (1 : Int32), oi (0 : Int32), oi m7, oi m8, oi m9, oi m10, oa b109, oa b111, .unset] [(.int (own_f3_10 p0))])) t → Steps p.tables e below (s₁.setTop (entryFrame m #[(.int p0), (.int p1), (.int p2), (.int p3), (.int p4)] maxLocals)) t := by
        intro t k
        refine pre11 t ?_
        show oS p e below T9 m 48 #[oi p0, oi p1, oi p2, oi p3, oi p4, oi (1 : Int32), oi (0 : Int32), oi m7, oi m8, oi m9, oi m10, .unset, .unset, .unset] [] _
        refine XS.iload X9.here hx rfl (hb hby at_48) rfl ?_
        refine XS.iconst X9.here hx rfl (hb hby at_50) ?_
        show oS p e below T9 m 51 #[oi p0, oi p1, oi p2, oi p3, oi p4, oi (1 : Int32), oi (0 : Int32), oi m7, oi m8, oi m9, oi m10, .unset, .unset, .unset] [(.int (2 : Int32)), (.int (1 : Int32))] _
        refine XS.icmpYes X9.here hx rfl (pc0 := 51) (pc' := 63) rfl (hb hby at_51) rfl (feq b107).2 (by decide) (by decide) ?_
        refine XS.iload X9.here hx rfl (hb hby at_63) rfl ?_
        refine XS.iconst X9.here hx rfl (hb hby at_65) ?_
        show oS p e below T9 m 66 #[oi p0, oi p1, oi p2, oi p3, oi p4, oi (1 : Int32), oi (0 : Int32), oi m7, oi m8, oi m9, oi m10, .unset, .unset, .unset] [(.int (2 : Int32)), (.int (0 : Int32))] _
        refine XS.icmpYes X9.here hx rfl (pc0 := 66) (pc' := 78) rfl (hb hby at_66) rfl (feq b108).2 (by decide) (by decide) ?_
        refine XS.iload X9.here hx rfl (hb hby at_78) rfl ?_
        show oS p e below T9 m 80 #[oi p0, oi p1, oi p2, oi p3, oi p4, oi (1 : Int32), oi (0 : Int32), oi m7, oi m8, oi m9, oi m10, .unset, .unset, .unset] [(.int (1 : Int32))] _
        refine st109 _ ?_
        show oS p e below T109 m 82 #[oi p0, oi p1, oi p2, oi p3, oi p4, oi (1 : Int32), oi (0 : Int32), oi m7, oi m8, oi m9, oi m10, .unset, .unset, .unset] [(.ref b109)] _
        refine XS.astore X109.here hx rfl (hb hby at_82) rfl rfl (l' := #[oi p0, oi p1, oi p2, oi p3, oi p4, oi (1 : Int32), oi (0 : Int32), oi m7, oi m8, oi m9, oi m10, oa b109, .unset, .unset]) rfl ?_
        refine XS.iload X109.here hx rfl (hb hby at_84) rfl ?_
        show oS p e below T109 m 86 #[oi p0, oi p1, oi p2, oi p3, oi p4, oi (1 : Int32), oi (0 : Int32), oi m7, oi m8, oi m9, oi m10, oa b109, .unset, .unset] [(.int (0 : Int32))] _
        refine st111 _ ?_
        show oS p e below T111 m 88 #[oi p0, oi p1, oi p2, oi p3, oi p4, oi (1 : Int32), oi (0 : Int32), oi m7, oi m8, oi m9, oi m10, oa b109, .unset, .unset] [(.ref b111)] _
        refine XS.astore X111.here hx rfl (hb hby at_88) rfl rfl (l' := #[oi p0, oi p1, oi p2, oi p3, oi p4, oi (1 : Int32), oi (0 : Int32), oi m7, oi m8, oi m9, oi m10, oa b109, oa b111, .unset]) rfl ?_
        refine XS.iload X111.here hx rfl (hb hby at_90) rfl ?_
        refine XS.iconst X111.here hx rfl (hb hby at_92) ?_
        show oS p e below T111 m 93 #[oi p0, oi p1, oi p2, oi p3, oi p4, oi (1 : Int32), oi (0 : Int32), oi m7, oi m8, oi m9, oi m10, oa b109, oa b111, .unset] [(.int (1 : Int32)), (.int (1 : Int32))] _
        refine XS.icmpNo X111.here hx rfl (hb hby at_93) rfl (teq b115).2 ?_
        refine XS.aload X111.here hx rfl (hb hby at_96) rfl rfl ?_
        refine XS.iconst X111.here hx rfl (hb hby at_98) ?_
        refine XS.iloadN X111.here hx rfl (hb hby at_99) rfl ?_
        show oS p e below T111 m 100 #[oi p0, oi p1, oi p2, oi p3, oi p4, oi (1 : Int32), oi (0 : Int32), oi m7, oi m8, oi m9, oi m10, oa b109, oa b111, .unset] [(.int p0), (.int (0 : Int32)), (.ref b109)] _
        refine st116 _ ?_
        show oS p e below T116 m 101 #[oi p0, oi p1, oi p2, oi p3, oi p4, oi (1 : Int32), oi (0 : Int32), oi m7, oi m8, oi m9, oi m10, oa b109, oa b111, .unset] [] _
        refine XS.iload X116.here hx rfl (hb hby at_101) rfl ?_
        refine XS.iconst X116.here hx rfl (hb hby at_103) ?_
        show oS p e below T116 m 104 #[oi p0, oi p1, oi p2, oi p3, oi p4, oi (1 : Int32), oi (0 : Int32), oi m7, oi m8, oi m9, oi m10, oa b109, oa b111, .unset] [(.int (2 : Int32)), (.int (1 : Int32))] _
        refine XS.icmpYes X116.here hx rfl (pc0 := 104) (pc' := 119) rfl (hb hby at_104) rfl (feq b119).2 (by decide) (by decide) ?_
        refine XS.iload X116.here hx rfl (hb hby at_119) rfl ?_
        refine XS.iconst X116.here hx rfl (hb hby at_121) ?_
        show oS p e below T116 m 122 #[oi p0, oi p1, oi p2, oi p3, oi p4, oi (1 : Int32), oi (0 : Int32), oi m7, oi m8, oi m9, oi m10, oa b109, oa b111, .unset] [(.int (1 : Int32)), (.int (0 : Int32))] _
        refine XS.icmpYes X116.here hx rfl (pc0 := 122) (pc' := 130) rfl (hb hby at_122) rfl (feq b120).2 (by decide) (by decide) ?_
        refine XS.iload X116.here hx rfl (hb hby at_130) rfl ?_
        refine XS.iconst X116.here hx rfl (hb hby at_132) ?_
        show oS p e below T116 m 133 #[oi p0, oi p1, oi p2, oi p3, oi p4, oi (1 : Int32), oi (0 : Int32), oi m7, oi m8, oi m9, oi m10, oa b109, oa b111, .unset] [(.int (2 : Int32)), (.int (0 : Int32))] _
        refine XS.icmpYes X116.here hx rfl (pc0 := 133) (pc' := 148) rfl (hb hby at_133) rfl (feq b121).2 (by decide) (by decide) ?_
        refine XS.aload X116.here hx rfl (hb hby at_148) rfl rfl ?_
        refine XS.aload X116.here hx rfl (hb hby at_150) rfl rfl ?_
        show oS p e below T116 m 152 #[oi p0, oi p1, oi p2, oi p3, oi p4, oi (1 : Int32), oi (0 : Int32), oi m7, oi m8, oi m9, oi m10, oa b109, oa b111, .unset] [(.ref b111), (.ref b109)] _
        refine st122 _ ?_
        exact k
      by_cases c124 : (own_f3_10 p0) = (0 : Int32)
      · skip
        have pre125 : ∀ t, Steps p.tables e below (T122.setTop (mkF m 164 #[oi p0, oi p1, oi p2, oi p3, oi p4, oi (1 : Int32), oi (0 : Int32), oi m7, oi m8, oi m9, oi m10, oa b109, oa b111, .unset] [(.ref b111), (.ref b109)])) t → Steps p.tables e below (s₁.setTop (entryFrame m #[(.int p0), (.int p1), (.int p2), (.int p3), (.int p4)] maxLocals)) t := by
          intro t k
          refine pre123 t ?_
          show oS p e below T122 m 155 #[oi p0, oi p1, oi p2, oi p3, oi p4, oi (1 : Int32), oi (0 : Int32), oi m7, oi m8, oi m9, oi m10, oa b109, oa b111, .unset] [(.int (own_f3_10 p0))] _
          refine XS.ifYes X122.here hx rfl (pc0 := 155) (pc' := 160) rfl (hb hby at_155) rfl ((if0 _ _).trans (teq c124).1) (by decide) (by decide) ?_
          refine XS.aload X122.here hx rfl (hb hby at_160) rfl rfl ?_
          refine XS.aload X122.here hx rfl (hb hby at_162) rfl rfl ?_
          exact k
        obtain ⟨_, _, ⟨T126, L126, k126, n126⟩, -, X126, ⟨Lc126, hQ126, l126, y126, z126⟩, st126⟩ := Jvm.LawKit.callS X122 hx (y := (⟨"com/example/strict_anon/strictanon/service/RecordSets", "union", "([I[I)[I"⟩ : MethodName)) hown (mvT hZ (hw _ (List.mem_of_getElem? (i := 13) rfl))) (mvT hZ (hw _ (List.mem_of_getElem? (i := 14) rfl))) (mvT hZ (hw _ (List.mem_of_getElem? (i := 15) rfl))) (mvT hZ (hw _ (List.mem_of_getElem? (i := 16) rfl))) (by decide) (backOf (W := 0) (own_rm4_10x l Z av hw [] b109 b111 k109 p0 k111 h116 n0 Z116 V_118 F117) hZ (hw _ (List.mem_of_getElem? (i := 16) rfl)) (hw _ (List.mem_of_getElem? (i := 15) rfl)) (by decide) (by decide)) (g := (mkF m 164 #[oi p0, oi p1, oi p2, oi p3, oi p4, oi (1 : Int32), oi (0 : Int32), oi m7, oi m8, oi m9, oi m10, oa b109, oa b111, .unset] [(.ref b111), (.ref b109)])) rfl (by rw [hml]; rfl) (argsL := [(.ref b109), (.ref b111)]) (rest := []) (lenOf own_pd3 rfl) rfl (by show 2 * 0 + _ ≤ _; exact Nat.le_of_eq rfl) (hb hby at_164) (fun _ _ => ⟨rfl, eq122, (by decide : 2 + 1 ≤ _), (by decide : 1 + 1 ≤ _)⟩)
        dsimp only [Pt.U, Pt.locs, Pt.cells, Pt.slots] at X126 l126 y126 z126 st126 hQ126
        have yq126 : k126 = 3 := y126
        have zq126 : n126 = 2 := z126
        subst yq126 zq126
        obtain ⟨u_126, k_u_126, rfl, Nq126, Kq126, gq126_u, Oq126_0⟩ := hQ126
        have N126 : Fr n0 L126 := by rw [l126]; exact Fr.app N122 Nq126
        have Z126 : n0 ≤ T126.heap.size := Nat.le_trans Z116 Kq126.1
        have g_u_126 : n0 ≤ u_126 := Nat.le_trans Z116 gq126_u
        have ne127 : b109 ≠ u_126 := Nat.ne_of_lt (Nat.lt_of_lt_of_le V_118.lt gq126_u)
        have ne128 : b111 ≠ u_126 := Nat.ne_of_lt (Nat.lt_of_lt_of_le F117.lt gq126_u)
        have F129 := V_118.keep Kq126 nin0
        have F130 := F117.keep Kq126 nin0
        have b131 : (1 : Int32) = (1 : Int32) := (by decide)
        obtain ⟨_, _, ⟨T132, L132, k132, n132⟩, -, X132, ⟨Lc132, hQ132, l132, y132, z132⟩, st132⟩ := Jvm.LawKit.callS X126 hx (y := (⟨"com/example/strict_anon/strictanon/service/RecordSetsUnionPinLaw", "increasing", "([I)Z"⟩ : MethodName)) hown (mvT hZ (hw _ (List.mem_of_getElem? (i := 17) rfl))) (mvT hZ (hw _ (List.mem_of_getElem? (i := 18) rfl))) (mvT hZ (hw _ (List.mem_of_getElem? (i := 11) rfl))) (mvT hZ (hw _ (List.mem_of_getElem? (i := 19) rfl))) (by decide) (backOf (W := 0) (own_rm5_1 l Z av hw [] u_126 k_u_126 p0 T126.heap n0 Z126 Oq126_0) hZ (hw _ (List.mem_of_getElem? (i := 19) rfl)) (hw _ (List.mem_of_getElem? (i := 11) rfl)) (by decide) (by decide)) (g := (mkF m 184 #[oi p0, oi p1, oi p2, oi p3, oi p4, oi (1 : Int32), oi (0 : Int32), oi m7, oi m8, oi m9, oi m10, oa b109, oa b111, oa u_126] [(.ref u_126)])) rfl (by rw [hml]; rfl) (argsL := [(.ref u_126)]) (rest := []) (lenOf own_pd4 rfl) rfl (by show 2 * 0 + _ ≤ _; exact Nat.le_of_eq rfl) (hb hby at_184) (fun _ _ => ⟨rfl, rfl, (by decide : 3 + 0 ≤ _), (by decide : 2 + 0 ≤ _)⟩)
        dsimp only [Pt.U, Pt.locs, Pt.cells, Pt.slots] at X132 l132 y132 z132 st132 hQ132
        have yq132 : k132 = 3 := y132
        have zq132 : n132 = 2 := z132
        subst yq132 zq132
        obtain ⟨rfl, Nq132, eq132⟩ := hQ132
        have N132 : Fr n0 L132 := by rw [l132]; exact Fr.app N126 Nq132
        have b133 : ¬ ((own_f5_1 p0) = (0 : Int32)) := by unfold own_f5_1; (try simp only [own_ltp]); (repeat' split) <;> first | decide | (exfalso; omega)
        obtain ⟨_, _, ⟨T134, L134, k134, n134⟩, -, X134, ⟨Lc134, hQ134, l134, y134, z134⟩, st134⟩ := Jvm.LawKit.callS X132 hx (y := (⟨"com/example/strict_anon/strictanon/service/RecordSetsUnionPinLaw", "containsAll", "([I[I)Z"⟩ : MethodName)) hown (mvT hZ (hw _ (List.mem_of_getElem? (i := 20) rfl))) (mvT hZ (hw _ (List.mem_of_getElem? (i := 21) rfl))) (mvT hZ (hw _ (List.mem_of_getElem? (i := 11) rfl))) (mvT hZ (hw _ (List.mem_of_getElem? (i := 22) rfl))) (by decide) (backOf (W := 0) (own_rm6_11 l Z av hw [] u_126 b109 k_u_126 p0 k109 p0 T126.heap n0 Z126 Oq126_0 F129) hZ (hw _ (List.mem_of_getElem? (i := 22) rfl)) (hw _ (List.mem_of_getElem? (i := 11) rfl)) (by decide) (by decide)) (g := (mkF m 196 #[oi p0, oi p1, oi p2, oi p3, oi p4, oi (1 : Int32), oi (0 : Int32), oi m7, oi m8, oi m9, oi m10, oa b109, oa b111, oa u_126] [(.ref b109), (.ref u_126)])) rfl (by rw [hml]; rfl) (argsL := [(.ref u_126), (.ref b109)]) (rest := []) (lenOf own_pd2 rfl) rfl (by show 2 * 0 + _ ≤ _; exact Nat.le_of_eq rfl) (hb hby at_196) (fun _ _ => ⟨rfl, eq132, (by decide : 3 + 0 ≤ _), (by decide : 2 + 0 ≤ _)⟩)
        dsimp only [Pt.U, Pt.locs, Pt.cells, Pt.slots] at X134 l134 y134 z134 st134 hQ134
        have yq134 : k134 = 3 := y134
        have zq134 : n134 = 2 := z134
        subst yq134 zq134
        obtain ⟨rfl, Nq134, eq134⟩ := hQ134
        have N134 : Fr n0 L134 := by rw [l134]; exact Fr.app N132 Nq134
        have b135 : ¬ ((own_f6_11 p0 p0) = (0 : Int32)) := by simp [own_f6_11, own_f7_1]
        obtain ⟨_, _, ⟨T136, L136, k136, n136⟩, -, X136, ⟨Lc136, hQ136, l136, y136, z136⟩, st136⟩ := Jvm.LawKit.callS X134 hx (y := (⟨"com/example/strict_anon/strictanon/service/RecordSetsUnionPinLaw", "containsAll", "([I[I)Z"⟩ : MethodName)) hown (mvT hZ (hw _ (List.mem_of_getElem? (i := 20) rfl))) (mvT hZ (hw _ (List.mem_of_getElem? (i := 21) rfl))) (mvT hZ (hw _ (List.mem_of_getElem? (i := 11) rfl))) (mvT hZ (hw _ (List.mem_of_getElem? (i := 22) rfl))) (by decide) (backOf (W := 0) (own_rm6_10 l Z av hw [] u_126 b111 k_u_126 p0 k111 T126.heap n0 Z126 Oq126_0 F130) hZ (hw _ (List.mem_of_getElem? (i := 22) rfl)) (hw _ (List.mem_of_getElem? (i := 11) rfl)) (by decide) (by decide)) (g := (mkF m 206 #[oi p0, oi p1, oi p2, oi p3, oi p4, oi (1 : Int32), oi (0 : Int32), oi m7, oi m8, oi m9, oi m10, oa b109, oa b111, oa u_126] [(.ref b111), (.ref u_126)])) rfl (by rw [hml]; rfl) (argsL := [(.ref u_126), (.ref b111)]) (rest := []) (lenOf own_pd2 rfl) rfl (by show 2 * 0 + _ ≤ _; exact Nat.le_of_eq rfl) (hb hby at_206) (fun _ _ => ⟨rfl, eq134, (by decide : 3 + 0 ≤ _), (by decide : 2 + 0 ≤ _)⟩)
        dsimp only [Pt.U, Pt.locs, Pt.cells, Pt.slots] at X136 l136 y136 z136 st136 hQ136
        have yq136 : k136 = 3 := y136
        have zq136 : n136 = 2 := z136
        subst yq136 zq136
        obtain ⟨rfl, Nq136, eq136⟩ := hQ136
        have N136 : Fr n0 L136 := by rw [l136]; exact Fr.app N134 Nq136
        have b137 : ¬ ((own_f6_10 p0) = (0 : Int32)) := by simp [own_f6_10, own_f7_1]
        obtain ⟨fs, hr, hrun, hended, hW, hsame⟩ := X136.leave (v := (some (.int (1 : Int32)))) (fun h => by rw [Bd.returns] at h; cases h)
        refine ⟨_, _, pre125 _ ?_, hrun, hended, _, _, rfl, ?_, ⟨_, rfl⟩, hW, hsame.mono (by decide) (by decide)⟩
        · show oS p e below T122 m 164 #[oi p0, oi p1, oi p2, oi p3, oi p4, oi (1 : Int32), oi (0 : Int32), oi m7, oi m8, oi m9, oi m10, oa b109, oa b111, .unset] [(.ref b111), (.ref b109)] _
          refine st126 _ ?_
          show oS p e below T126 m 167 #[oi p0, oi p1, oi p2, oi p3, oi p4, oi (1 : Int32), oi (0 : Int32), oi m7, oi m8, oi m9, oi m10, oa b109, oa b111, .unset] [(.ref u_126)] _
          refine XS.astore X126.here hx rfl (hb hby at_167) rfl rfl (l' := #[oi p0, oi p1, oi p2, oi p3, oi p4, oi (1 : Int32), oi (0 : Int32), oi m7, oi m8, oi m9, oi m10, oa b109, oa b111, oa u_126]) rfl ?_
          refine XS.aload X126.here hx rfl (hb hby at_169) rfl rfl ?_
          show oS p e below T126 m 171 #[oi p0, oi p1, oi p2, oi p3, oi p4, oi (1 : Int32), oi (0 : Int32), oi m7, oi m8, oi m9, oi m10, oa b109, oa b111, oa u_126] [(.ref u_126)] _
          refine oLen X126 hx hZ rfl Oq126_0 (hb hby at_171) ?_
          refine XS.iload X126.here hx rfl (hb hby at_172) rfl ?_
          refine XS.iload X126.here hx rfl (hb hby at_174) rfl ?_
          refine XS.iadd X126.here hx rfl (hb hby at_176) rfl ?_
          show oS p e below T126 m 177 #[oi p0, oi p1, oi p2, oi p3, oi p4, oi (1 : Int32), oi (0 : Int32), oi m7, oi m8, oi m9, oi m10, oa b109, oa b111, oa u_126] [(.int (1 : Int32)), (.int (1 : Int32))] _
          refine XS.icmpYes X126.here hx rfl (pc0 := 177) (pc' := 182) rfl (hb hby at_177) rfl (teq b131).1 (by decide) (by decide) ?_
          refine XS.aload X126.here hx rfl (hb hby at_182) rfl rfl ?_
          show oS p e below T126 m 184 #[oi p0, oi p1, oi p2, oi p3, oi p4, oi (1 : Int32), oi (0 : Int32), oi m7, oi m8, oi m9, oi m10, oa b109, oa b111, oa u_126] [(.ref u_126)] _
          refine st132 _ ?_
          show oS p e below T132 m 187 #[oi p0, oi p1, oi p2, oi p3, oi p4, oi (1 : Int32), oi (0 : Int32), oi m7, oi m8, oi m9, oi m10, oa b109, oa b111, oa u_126] [(.int (own_f5_1 p0))] _
          refine XS.ifYes X132.here hx rfl (pc0 := 187) (pc' := 192) rfl (hb hby at_187) rfl ((if0 _ _).trans (feq b133).2) (by decide) (by decide) ?_
          refine XS.aload X132.here hx rfl (hb hby at_192) rfl rfl ?_
          refine XS.aload X132.here hx rfl (hb hby at_194) rfl rfl ?_
          show oS p e below T132 m 196 #[oi p0, oi p1, oi p2, oi p3, oi p4, oi (1 : Int32), oi (0 : Int32), oi m7, oi m8, oi m9, oi m10, oa b109, oa b111, oa u_126] [(.ref b109), (.ref u_126)] _
          refine st134 _ ?_
          show oS p e below T134 m 199 #[oi p0, oi p1, oi p2, oi p3, oi p4, oi (1 : Int32), oi (0 : Int32), oi m7, oi m8, oi m9, oi m10, oa b109, oa b111, oa u_126] [(.int (own_f6_11 p0 p0))] _
          refine XS.ifNo X134.here hx rfl (hb hby at_199) rfl ((if0 _ _).trans (feq b135).1) ?_
          refine XS.aload X134.here hx rfl (hb hby at_202) rfl rfl ?_
          refine XS.aload X134.here hx rfl (hb hby at_204) rfl rfl ?_
          show oS p e below T134 m 206 #[oi p0, oi p1, oi p2, oi p3, oi p4, oi (1 : Int32), oi (0 : Int32), oi m7, oi m8, oi m9, oi m10, oa b109, oa b111, oa u_126] [(.ref b111), (.ref u_126)] _
          refine st136 _ ?_
          show oS p e below T136 m 209 #[oi p0, oi p1, oi p2, oi p3, oi p4, oi (1 : Int32), oi (0 : Int32), oi m7, oi m8, oi m9, oi m10, oa b109, oa b111, oa u_126] [(.int (own_f6_10 p0))] _
          refine XS.ifNo X136.here hx rfl (hb hby at_209) rfl ((if0 _ _).trans (feq b137).1) ?_
          refine XS.iconst X136.here hx rfl (hb hby at_212) ?_
          refine XS.goto X136.here hx rfl (pc0 := 213) (pc' := 217) rfl (hb hby at_213) (by decide) (by decide) ?_
          show oS p e below T136 m 217 #[oi p0, oi p1, oi p2, oi p3, oi p4, oi (1 : Int32), oi (0 : Int32), oi m7, oi m8, oi m9, oi m10, oa b109, oa b111, oa u_126] [(.int (1 : Int32))] _
          exact retN X136 hx (t := .boolean) Bd.returns (by simp) (hb hby at_217) hr
        · show own_Q0 Z p0 p1 p2 p3 p4 h0 n0 _ T136.heap _
          rw [eq136]
          exact ⟨rfl, N136⟩
      · skip
        obtain ⟨fs, hr, hrun, hended, hW, hsame⟩ := X122.leave (v := (some (.int (1 : Int32)))) (fun h => by rw [Bd.returns] at h; cases h)
        refine ⟨_, _, pre123 _ ?_, hrun, hended, _, _, rfl, ?_, ⟨_, rfl⟩, hW, hsame.mono (by decide) (by decide)⟩
        · show oS p e below T122 m 155 #[oi p0, oi p1, oi p2, oi p3, oi p4, oi (1 : Int32), oi (0 : Int32), oi m7, oi m8, oi m9, oi m10, oa b109, oa b111, .unset] [(.int (own_f3_10 p0))] _
          refine XS.ifNo X122.here hx rfl (hb hby at_155) rfl ((if0 _ _).trans (feq c124).1) ?_
          refine XS.iconst X122.here hx rfl (hb hby at_158) ?_
          show oS p e below T122 m 159 #[oi p0, oi p1, oi p2, oi p3, oi p4, oi (1 : Int32), oi (0 : Int32), oi m7, oi m8, oi m9, oi m10, oa b109, oa b111, .unset] [(.int (1 : Int32))] _
          exact retN X122 hx (t := .boolean) Bd.returns (by simp) (hb hby at_159) hr
        · show own_Q0 Z p0 p1 p2 p3 p4 h0 n0 _ T122.heap _
          rw [eq122]
          exact ⟨rfl, N122⟩
    · skip
      rw [kn, km] at pre11
      have b138 : ¬ ((1 : Int32) = (2 : Int32)) := (by decide)
      have b139 : ¬ ((1 : Int32) = (2 : Int32)) := (by decide)
      obtain ⟨T140, h140, k140, X140, e140, E140, A140, st140⟩ := newP X9 hx hZ (hw _ (List.mem_of_getElem? (i := 8) rfl)) eq9 (g := (mkF m 80 #[oi p0, oi p1, oi p2, oi p3, oi p4, oi (1 : Int32), oi (1 : Int32), oi m7, oi m8, oi m9, oi m10, .unset, .unset, .unset] [(.int (1 : Int32))])) rfl (hb hby at_80) rfl (by decide) (cap := 1) (by decide) (by decide) (by decide) (by decide)
      obtain ⟨b140, g140⟩ : ∃ z, z = h0.size := ⟨_, rfl⟩
      rw [← g140] at A140 st140
      have g_b140 : n0 ≤ b140 := Nat.le_trans Z0 (Nat.le_of_eq g140.symm)
      have Z140 : n0 ≤ h140.size := Nat.le_trans Z0 E140.1
      have V_141 : Arv Z h140 b140 k140 .int (1 : Int32) [(.int (0 : Int32))] (.int (0 : Int32)) := (Arv.new A140 (by decide)).pad (pad_rep [] (.int (0 : Int32)) 1)
      obtain ⟨T142, h142, k142, X142, e142, E142, A142, st142⟩ := newP X140 hx hZ (hw _ (List.mem_of_getElem? (i := 8) rfl)) e140 (g := (mkF m 86 #[oi p0, oi p1, oi p2, oi p3, oi p4, oi (1 : Int32), oi (1 : Int32), oi m7, oi m8, oi m9, oi m10, oa b140, .unset, .unset] [(.int (1 : Int32))])) rfl (hb hby at_86) rfl (by decide) (cap := 1) (by decide) (by decide) (by decide) (by decide)
      obtain ⟨b142, g142⟩ : ∃ z, z = h140.size := ⟨_, rfl⟩
      rw [← g142] at A142 st142
      have g_b142 : n0 ≤ b142 := Nat.le_trans Z140 (Nat.le_of_eq g142.symm)
      have ne143 : b140 ≠ b142 := Nat.ne_of_lt (Nat.lt_of_lt_of_le V_141.lt (Nat.le_of_eq g142.symm))
      have Z142 : n0 ≤ h142.size := Nat.le_trans Z140 E142.1
      have F144 := V_141.ext E142
      have V_145 : Arv Z h142 b142 k142 .int (1 : Int32) [(.int (0 : Int32))] (.int (0 : Int32)) := (Arv.new A142 (by decide)).pad (pad_rep [] (.int (0 : Int32)) 1)
      have b146 : (1 : Int32) = (1 : Int32) := (by decide)
      obtain ⟨T147, h147, X147, e147, W147, V147, st147⟩ := oStI X142 hx hZ e142 F144 (j := (0 : Int32)) ⟨by decide, by decide⟩ 0 rfl (Nat.le_of_ble_eq_true rfl) (g := (mkF m 100 #[oi p0, oi p1, oi p2, oi p3, oi p4, oi (1 : Int32), oi (1 : Int32), oi m7, oi m8, oi m9, oi m10, oa b140, oa b142, .unset] [(.int p0), (.int (0 : Int32)), (.ref b140)])) rfl rfl (hb hby at_100)
      obtain ⟨Lo147, X147, N147⟩ := oOpq X147 (Fr.snoc X147 N9 g_b140)
      have Z147 := Nat.le_trans Z142 (Keep.of_wr W147).1
      have F148 := V_145.other W147 (Ne.symm ne143)
      have V_149 : Arv Z h147 b140 k140 .int (1 : Int32) [(.int p0)] (.int (0 : Int32)) := V147
      have b150 : ¬ ((1 : Int32) = (2 : Int32)) := (by decide)
      have b151 : (1 : Int32) = (1 : Int32) := (by decide)
      obtain ⟨T152, h152, X152, e152, W152, V152, st152⟩ := oStI X147 hx hZ e147 F148 (j := (0 : Int32)) ⟨by decide, by decide⟩ 0 rfl (Nat.le_of_ble_eq_true rfl) (g := (mkF m 129 #[oi p0, oi p1, oi p2, oi p3, oi p4, oi (1 : Int32), oi (1 : Int32), oi m7, oi m8, oi m9, oi m10, oa b140, oa b142, .unset] [(.int p2), (.int (0 : Int32)), (.ref b142)])) rfl rfl (hb hby at_129)
      obtain ⟨Lo152, X152, N152⟩ := oOpq X152 (Fr.snoc X152 N147 g_b142)
      have Z152 := Nat.le_trans Z147 (Keep.of_wr W152).1
      have F153 := V_149.other W152 ne143
      have V_154 : Arv Z h152 b142 k142 .int (1 : Int32) [(.int p2)] (.int (0 : Int32)) := V152
      have b155 : ¬ ((1 : Int32) = (2 : Int32)) := (by decide)
      obtain ⟨_, _, ⟨T156, L156, k156, n156⟩, -, X156, ⟨Lc156, hQ156, l156, y156, z156⟩, st156⟩ := Jvm.LawKit.callS X152 hx (y := (⟨"com/example/strict_anon/strictanon/service/RecordSetsUnionPinLaw", "shares", "([I[I)Z"⟩ : MethodName)) hown (mvT hZ (hw _ (List.mem_of_getElem? (i := 9) rfl))) (mvT hZ (hw _ (List.mem_of_getElem? (i := 10) rfl))) (mvT hZ (hw _ (List.mem_of_getElem? (i := 11) rfl))) (mvT hZ (hw _ (List.mem_of_getElem? (i := 12) rfl))) (by decide) (backOf (W := 0) (own_rm3_11 l Z av hw [] b140 b142 k140 p0 k142 p2 h152 n0 Z152 F153 V_154) hZ (hw _ (List.mem_of_getElem? (i := 12) rfl)) (hw _ (List.mem_of_getElem? (i := 11) rfl)) (by decide) (by decide)) (g := (mkF m 152 #[oi p0, oi p1, oi p2, oi p3, oi p4, oi (1 : Int32), oi (1 : Int32), oi m7, oi m8, oi m9, oi m10, oa b140, oa b142, .unset] [(.ref b142), (.ref b140)])) rfl (by rw [hml]; rfl) (argsL := [(.ref b140), (.ref b142)]) (rest := []) (lenOf own_pd2 rfl) rfl (by show 2 * 0 + _ ≤ _; exact Nat.le_of_eq rfl) (hb hby at_152) (fun _ _ => ⟨rfl, e152, (by decide : 2 + 0 ≤ _), (by decide : 2 + 0 ≤ _)⟩)
      dsimp only [Pt.U, Pt.locs, Pt.cells, Pt.slots] at X156 l156 y156 z156 st156 hQ156
      have yq156 : k156 = 2 := y156
      have zq156 : n156 = 2 := z156
      subst yq156 zq156
      obtain ⟨rfl, Nq156, eq156⟩ := hQ156
      have N156 : Fr n0 L156 := by rw [l156]; exact Fr.app N152 Nq156
      have pre157 : ∀ t, Steps p.tables e below (T156.setTop (mkF m 155 #[oi p0, oi p1, oi p2, oi p3, oi p4, oi (1 : Int32), oi (1 : Int32), oi m7, oi m8, oi m9, oi m10, oa b140, oa b142, .unset] [(.int (own_f3_11 p0 p2))])) t → Steps p.tables e below (s₁.setTop (entryFrame m #[(.int p0), (.int p1), (.int p2), (.int p3), (.int p4)] maxLocals)) t := by
        intro t k
        refine pre11 t ?_
        show oS p e below T9 m 48 #[oi p0, oi p1, oi p2, oi p3, oi p4, oi (1 : Int32), oi (1 : Int32), oi m7, oi m8, oi m9, oi m10, .unset, .unset, .unset] [] _
        refine XS.iload X9.here hx rfl (hb hby at_48) rfl ?_
        refine XS.iconst X9.here hx rfl (hb hby at_50) ?_
        show oS p e below T9 m 51 #[oi p0, oi p1, oi p2, oi p3, oi p4, oi (1 : Int32), oi (1 : Int32), oi m7, oi m8, oi m9, oi m10, .unset, .unset, .unset] [(.int (2 : Int32)), (.int (1 : Int32))] _
        refine XS.icmpYes X9.here hx rfl (pc0 := 51) (pc' := 63) rfl (hb hby at_51) rfl (feq b138).2 (by decide) (by decide) ?_
        refine XS.iload X9.here hx rfl (hb hby at_63) rfl ?_
        refine XS.iconst X9.here hx rfl (hb hby at_65) ?_
        show oS p e below T9 m 66 #[oi p0, oi p1, oi p2, oi p3, oi p4, oi (1 : Int32), oi (1 : Int32), oi m7, oi m8, oi m9, oi m10, .unset, .unset, .unset] [(.int (2 : Int32)), (.int (1 : Int32))] _
        refine XS.icmpYes X9.here hx rfl (pc0 := 66) (pc' := 78) rfl (hb hby at_66) rfl (feq b139).2 (by decide) (by decide) ?_
        refine XS.iload X9.here hx rfl (hb hby at_78) rfl ?_
        show oS p e below T9 m 80 #[oi p0, oi p1, oi p2, oi p3, oi p4, oi (1 : Int32), oi (1 : Int32), oi m7, oi m8, oi m9, oi m10, .unset, .unset, .unset] [(.int (1 : Int32))] _
        refine st140 _ ?_
        show oS p e below T140 m 82 #[oi p0, oi p1, oi p2, oi p3, oi p4, oi (1 : Int32), oi (1 : Int32), oi m7, oi m8, oi m9, oi m10, .unset, .unset, .unset] [(.ref b140)] _
        refine XS.astore X140.here hx rfl (hb hby at_82) rfl rfl (l' := #[oi p0, oi p1, oi p2, oi p3, oi p4, oi (1 : Int32), oi (1 : Int32), oi m7, oi m8, oi m9, oi m10, oa b140, .unset, .unset]) rfl ?_
        refine XS.iload X140.here hx rfl (hb hby at_84) rfl ?_
        show oS p e below T140 m 86 #[oi p0, oi p1, oi p2, oi p3, oi p4, oi (1 : Int32), oi (1 : Int32), oi m7, oi m8, oi m9, oi m10, oa b140, .unset, .unset] [(.int (1 : Int32))] _
        refine st142 _ ?_
        show oS p e below T142 m 88 #[oi p0, oi p1, oi p2, oi p3, oi p4, oi (1 : Int32), oi (1 : Int32), oi m7, oi m8, oi m9, oi m10, oa b140, .unset, .unset] [(.ref b142)] _
        refine XS.astore X142.here hx rfl (hb hby at_88) rfl rfl (l' := #[oi p0, oi p1, oi p2, oi p3, oi p4, oi (1 : Int32), oi (1 : Int32), oi m7, oi m8, oi m9, oi m10, oa b140, oa b142, .unset]) rfl ?_
        refine XS.iload X142.here hx rfl (hb hby at_90) rfl ?_
        refine XS.iconst X142.here hx rfl (hb hby at_92) ?_
        show oS p e below T142 m 93 #[oi p0, oi p1, oi p2, oi p3, oi p4, oi (1 : Int32), oi (1 : Int32), oi m7, oi m8, oi m9, oi m10, oa b140, oa b142, .unset] [(.int (1 : Int32)), (.int (1 : Int32))] _
        refine XS.icmpNo X142.here hx rfl (hb hby at_93) rfl (teq b146).2 ?_
        refine XS.aload X142.here hx rfl (hb hby at_96) rfl rfl ?_
        refine XS.iconst X142.here hx rfl (hb hby at_98) ?_
        refine XS.iloadN X142.here hx rfl (hb hby at_99) rfl ?_
        show oS p e below T142 m 100 #[oi p0, oi p1, oi p2, oi p3, oi p4, oi (1 : Int32), oi (1 : Int32), oi m7, oi m8, oi m9, oi m10, oa b140, oa b142, .unset] [(.int p0), (.int (0 : Int32)), (.ref b140)] _
        refine st147 _ ?_
        show oS p e below T147 m 101 #[oi p0, oi p1, oi p2, oi p3, oi p4, oi (1 : Int32), oi (1 : Int32), oi m7, oi m8, oi m9, oi m10, oa b140, oa b142, .unset] [] _
        refine XS.iload X147.here hx rfl (hb hby at_101) rfl ?_
        refine XS.iconst X147.here hx rfl (hb hby at_103) ?_
        show oS p e below T147 m 104 #[oi p0, oi p1, oi p2, oi p3, oi p4, oi (1 : Int32), oi (1 : Int32), oi m7, oi m8, oi m9, oi m10, oa b140, oa b142, .unset] [(.int (2 : Int32)), (.int (1 : Int32))] _
        refine XS.icmpYes X147.here hx rfl (pc0 := 104) (pc' := 119) rfl (hb hby at_104) rfl (feq b150).2 (by decide) (by decide) ?_
        refine XS.iload X147.here hx rfl (hb hby at_119) rfl ?_
        refine XS.iconst X147.here hx rfl (hb hby at_121) ?_
        show oS p e below T147 m 122 #[oi p0, oi p1, oi p2, oi p3, oi p4, oi (1 : Int32), oi (1 : Int32), oi m7, oi m8, oi m9, oi m10, oa b140, oa b142, .unset] [(.int (1 : Int32)), (.int (1 : Int32))] _
        refine XS.icmpNo X147.here hx rfl (hb hby at_122) rfl (teq b151).2 ?_
        refine XS.aload X147.here hx rfl (hb hby at_125) rfl rfl ?_
        refine XS.iconst X147.here hx rfl (hb hby at_127) ?_
        refine XS.iloadN X147.here hx rfl (hb hby at_128) rfl ?_
        show oS p e below T147 m 129 #[oi p0, oi p1, oi p2, oi p3, oi p4, oi (1 : Int32), oi (1 : Int32), oi m7, oi m8, oi m9, oi m10, oa b140, oa b142, .unset] [(.int p2), (.int (0 : Int32)), (.ref b142)] _
        refine st152 _ ?_
        show oS p e below T152 m 130 #[oi p0, oi p1, oi p2, oi p3, oi p4, oi (1 : Int32), oi (1 : Int32), oi m7, oi m8, oi m9, oi m10, oa b140, oa b142, .unset] [] _
        refine XS.iload X152.here hx rfl (hb hby at_130) rfl ?_
        refine XS.iconst X152.here hx rfl (hb hby at_132) ?_
        show oS p e below T152 m 133 #[oi p0, oi p1, oi p2, oi p3, oi p4, oi (1 : Int32), oi (1 : Int32), oi m7, oi m8, oi m9, oi m10, oa b140, oa b142, .unset] [(.int (2 : Int32)), (.int (1 : Int32))] _
        refine XS.icmpYes X152.here hx rfl (pc0 := 133) (pc' := 148) rfl (hb hby at_133) rfl (feq b155).2 (by decide) (by decide) ?_
        refine XS.aload X152.here hx rfl (hb hby at_148) rfl rfl ?_
        refine XS.aload X152.here hx rfl (hb hby at_150) rfl rfl ?_
        show oS p e below T152 m 152 #[oi p0, oi p1, oi p2, oi p3, oi p4, oi (1 : Int32), oi (1 : Int32), oi m7, oi m8, oi m9, oi m10, oa b140, oa b142, .unset] [(.ref b142), (.ref b140)] _
        refine st156 _ ?_
        exact k
      by_cases c158 : (own_f3_11 p0 p2) = (0 : Int32)
      · skip
        have ne_p0_p2 : p0.toInt ≠ p2.toInt := by
          intro q
          have q' := Int32.toInt_inj.mp q
          rw [q'] at c158
          simp [own_f3_11, own_f7_1] at c158
        have pre159 : ∀ t, Steps p.tables e below (T156.setTop (mkF m 164 #[oi p0, oi p1, oi p2, oi p3, oi p4, oi (1 : Int32), oi (1 : Int32), oi m7, oi m8, oi m9, oi m10, oa b140, oa b142, .unset] [(.ref b142), (.ref b140)])) t → Steps p.tables e below (s₁.setTop (entryFrame m #[(.int p0), (.int p1), (.int p2), (.int p3), (.int p4)] maxLocals)) t := by
          intro t k
          refine pre157 t ?_
          show oS p e below T156 m 155 #[oi p0, oi p1, oi p2, oi p3, oi p4, oi (1 : Int32), oi (1 : Int32), oi m7, oi m8, oi m9, oi m10, oa b140, oa b142, .unset] [(.int (own_f3_11 p0 p2))] _
          refine XS.ifYes X156.here hx rfl (pc0 := 155) (pc' := 160) rfl (hb hby at_155) rfl ((if0 _ _).trans (teq c158).1) (by decide) (by decide) ?_
          refine XS.aload X156.here hx rfl (hb hby at_160) rfl rfl ?_
          refine XS.aload X156.here hx rfl (hb hby at_162) rfl rfl ?_
          exact k
        by_cases c160 : p0 < p2
        · skip
          have mc160 := c160
          simp only [own_ltp] at mc160
          obtain ⟨_, _, ⟨T161, L161, k161, n161⟩, -, X161, ⟨Lc161, hQ161, l161, y161, z161⟩, st161⟩ := Jvm.LawKit.callS X156 hx (y := (⟨"com/example/strict_anon/strictanon/service/RecordSets", "union", "([I[I)[I"⟩ : MethodName)) hown (mvT hZ (hw _ (List.mem_of_getElem? (i := 13) rfl))) (mvT hZ (hw _ (List.mem_of_getElem? (i := 14) rfl))) (mvT hZ (hw _ (List.mem_of_getElem? (i := 15) rfl))) (mvT hZ (hw _ (List.mem_of_getElem? (i := 16) rfl))) (by decide) (backOf (W := 0) (own_rm4_11xy l Z av hw [] b140 b142 k140 p0 k142 p2 h152 n0 Z152 F153 V_154 (c160)) hZ (hw _ (List.mem_of_getElem? (i := 16) rfl)) (hw _ (List.mem_of_getElem? (i := 15) rfl)) (by decide) (by decide)) (g := (mkF m 164 #[oi p0, oi p1, oi p2, oi p3, oi p4, oi (1 : Int32), oi (1 : Int32), oi m7, oi m8, oi m9, oi m10, oa b140, oa b142, .unset] [(.ref b142), (.ref b140)])) rfl (by rw [hml]; rfl) (argsL := [(.ref b140), (.ref b142)]) (rest := []) (lenOf own_pd3 rfl) rfl (by show 2 * 0 + _ ≤ _; exact Nat.le_of_eq rfl) (hb hby at_164) (fun _ _ => ⟨rfl, eq156, (by decide : 2 + 1 ≤ _), (by decide : 2 + 2 ≤ _)⟩)
          dsimp only [Pt.U, Pt.locs, Pt.cells, Pt.slots] at X161 l161 y161 z161 st161 hQ161
          have yq161 : k161 = 3 := y161
          have zq161 : n161 = 4 := z161
          subst yq161 zq161
          obtain ⟨u_161, k_u_161, rfl, Nq161, Kq161, gq161_u, Oq161_0⟩ := hQ161
          have N161 : Fr n0 L161 := by rw [l161]; exact Fr.app N156 Nq161
          have Z161 : n0 ≤ T161.heap.size := Nat.le_trans Z152 Kq161.1
          have g_u_161 : n0 ≤ u_161 := Nat.le_trans Z152 gq161_u
          have ne162 : b140 ≠ u_161 := Nat.ne_of_lt (Nat.lt_of_lt_of_le F153.lt gq161_u)
          have ne163 : b142 ≠ u_161 := Nat.ne_of_lt (Nat.lt_of_lt_of_le V_154.lt gq161_u)
          have F164 := F153.keep Kq161 nin0
          have F165 := V_154.keep Kq161 nin0
          have b166 : (2 : Int32) = (2 : Int32) := (by decide)
          obtain ⟨_, _, ⟨T167, L167, k167, n167⟩, -, X167, ⟨Lc167, hQ167, l167, y167, z167⟩, st167⟩ := Jvm.LawKit.callS X161 hx (y := (⟨"com/example/strict_anon/strictanon/service/RecordSetsUnionPinLaw", "increasing", "([I)Z"⟩ : MethodName)) hown (mvT hZ (hw _ (List.mem_of_getElem? (i := 17) rfl))) (mvT hZ (hw _ (List.mem_of_getElem? (i := 18) rfl))) (mvT hZ (hw _ (List.mem_of_getElem? (i := 11) rfl))) (mvT hZ (hw _ (List.mem_of_getElem? (i := 19) rfl))) (by decide) (backOf (W := 0) (own_rm5_2 l Z av hw [] u_161 k_u_161 p0 p2 T161.heap n0 Z161 Oq161_0) hZ (hw _ (List.mem_of_getElem? (i := 19) rfl)) (hw _ (List.mem_of_getElem? (i := 11) rfl)) (by decide) (by decide)) (g := (mkF m 184 #[oi p0, oi p1, oi p2, oi p3, oi p4, oi (1 : Int32), oi (1 : Int32), oi m7, oi m8, oi m9, oi m10, oa b140, oa b142, oa u_161] [(.ref u_161)])) rfl (by rw [hml]; rfl) (argsL := [(.ref u_161)]) (rest := []) (lenOf own_pd4 rfl) rfl (by show 2 * 0 + _ ≤ _; exact Nat.le_of_eq rfl) (hb hby at_184) (fun _ _ => ⟨rfl, rfl, (by decide : 3 + 0 ≤ _), (by decide : 4 + 0 ≤ _)⟩)
          dsimp only [Pt.U, Pt.locs, Pt.cells, Pt.slots] at X167 l167 y167 z167 st167 hQ167
          have yq167 : k167 = 3 := y167
          have zq167 : n167 = 4 := z167
          subst yq167 zq167
          obtain ⟨rfl, Nq167, eq167⟩ := hQ167
          have N167 : Fr n0 L167 := by rw [l167]; exact Fr.app N161 Nq167
          have b168 : ¬ ((own_f5_2 p0 p2) = (0 : Int32)) := by unfold own_f5_2; (try simp only [own_ltp]); (repeat' split) <;> first | decide | (exfalso; omega)
          obtain ⟨_, _, ⟨T169, L169, k169, n169⟩, -, X169, ⟨Lc169, hQ169, l169, y169, z169⟩, st169⟩ := Jvm.LawKit.callS X167 hx (y := (⟨"com/example/strict_anon/strictanon/service/RecordSetsUnionPinLaw", "containsAll", "([I[I)Z"⟩ : MethodName)) hown (mvT hZ (hw _ (List.mem_of_getElem? (i := 20) rfl))) (mvT hZ (hw _ (List.mem_of_getElem? (i := 21) rfl))) (mvT hZ (hw _ (List.mem_of_getElem? (i := 11) rfl))) (mvT hZ (hw _ (List.mem_of_getElem? (i := 22) rfl))) (by decide) (backOf (W := 0) (own_rm6_21 l Z av hw [] u_161 b140 k_u_161 p0 p2 k140 p0 T161.heap n0 Z161 Oq161_0 F164) hZ (hw _ (List.mem_of_getElem? (i := 22) rfl)) (hw _ (List.mem_of_getElem? (i := 11) rfl)) (by decide) (by decide)) (g := (mkF m 196 #[oi p0, oi p1, oi p2, oi p3, oi p4, oi (1 : Int32), oi (1 : Int32), oi m7, oi m8, oi m9, oi m10, oa b140, oa b142, oa u_161] [(.ref b140), (.ref u_161)])) rfl (by rw [hml]; rfl) (argsL := [(.ref u_161), (.ref b140)]) (rest := []) (lenOf own_pd2 rfl) rfl (by show 2 * 0 + _ ≤ _; exact Nat.le_of_eq rfl) (hb hby at_196) (fun _ _ => ⟨rfl, eq167, (by decide : 3 + 0 ≤ _), (by decide : 4 + 0 ≤ _)⟩)
          dsimp only [Pt.U, Pt.locs, Pt.cells, Pt.slots] at X169 l169 y169 z169 st169 hQ169
          have yq169 : k169 = 3 := y169
          have zq169 : n169 = 4 := z169
          subst yq169 zq169
          obtain ⟨rfl, Nq169, eq169⟩ := hQ169
          have N169 : Fr n0 L169 := by rw [l169]; exact Fr.app N167 Nq169
          have b170 : ¬ ((own_f6_21 p0 p2 p0) = (0 : Int32)) := by simp [own_f6_21, own_f7_2]
          obtain ⟨_, _, ⟨T171, L171, k171, n171⟩, -, X171, ⟨Lc171, hQ171, l171, y171, z171⟩, st171⟩ := Jvm.LawKit.callS X169 hx (y := (⟨"com/example/strict_anon/strictanon/service/RecordSetsUnionPinLaw", "containsAll", "([I[I)Z"⟩ : MethodName)) hown (mvT hZ (hw _ (List.mem_of_getElem? (i := 20) rfl))) (mvT hZ (hw _ (List.mem_of_getElem? (i := 21) rfl))) (mvT hZ (hw _ (List.mem_of_getElem? (i := 11) rfl))) (mvT hZ (hw _ (List.mem_of_getElem? (i := 22) rfl))) (by decide) (backOf (W := 0) (own_rm6_21 l Z av hw [] u_161 b142 k_u_161 p0 p2 k142 p2 T161.heap n0 Z161 Oq161_0 F165) hZ (hw _ (List.mem_of_getElem? (i := 22) rfl)) (hw _ (List.mem_of_getElem? (i := 11) rfl)) (by decide) (by decide)) (g := (mkF m 206 #[oi p0, oi p1, oi p2, oi p3, oi p4, oi (1 : Int32), oi (1 : Int32), oi m7, oi m8, oi m9, oi m10, oa b140, oa b142, oa u_161] [(.ref b142), (.ref u_161)])) rfl (by rw [hml]; rfl) (argsL := [(.ref u_161), (.ref b142)]) (rest := []) (lenOf own_pd2 rfl) rfl (by show 2 * 0 + _ ≤ _; exact Nat.le_of_eq rfl) (hb hby at_206) (fun _ _ => ⟨rfl, eq169, (by decide : 3 + 0 ≤ _), (by decide : 4 + 0 ≤ _)⟩)
          dsimp only [Pt.U, Pt.locs, Pt.cells, Pt.slots] at X171 l171 y171 z171 st171 hQ171
          have yq171 : k171 = 3 := y171
          have zq171 : n171 = 4 := z171
          subst yq171 zq171
          obtain ⟨rfl, Nq171, eq171⟩ := hQ171
          have N171 : Fr n0 L171 := by rw [l171]; exact Fr.app N169 Nq171
          have b172 : ¬ ((own_f6_21 p0 p2 p2) = (0 : Int32)) := by simp [own_f6_21, own_f7_2]
          obtain ⟨fs, hr, hrun, hended, hW, hsame⟩ := X171.leave (v := (some (.int (1 : Int32)))) (fun h => by rw [Bd.returns] at h; cases h)
          refine ⟨_, _, pre159 _ ?_, hrun, hended, _, _, rfl, ?_, ⟨_, rfl⟩, hW, hsame.mono (by decide) (by decide)⟩
          · show oS p e below T156 m 164 #[oi p0, oi p1, oi p2, oi p3, oi p4, oi (1 : Int32), oi (1 : Int32), oi m7, oi m8, oi m9, oi m10, oa b140, oa b142, .unset] [(.ref b142), (.ref b140)] _
            refine st161 _ ?_
            show oS p e below T161 m 167 #[oi p0, oi p1, oi p2, oi p3, oi p4, oi (1 : Int32), oi (1 : Int32), oi m7, oi m8, oi m9, oi m10, oa b140, oa b142, .unset] [(.ref u_161)] _
            refine XS.astore X161.here hx rfl (hb hby at_167) rfl rfl (l' := #[oi p0, oi p1, oi p2, oi p3, oi p4, oi (1 : Int32), oi (1 : Int32), oi m7, oi m8, oi m9, oi m10, oa b140, oa b142, oa u_161]) rfl ?_
            refine XS.aload X161.here hx rfl (hb hby at_169) rfl rfl ?_
            show oS p e below T161 m 171 #[oi p0, oi p1, oi p2, oi p3, oi p4, oi (1 : Int32), oi (1 : Int32), oi m7, oi m8, oi m9, oi m10, oa b140, oa b142, oa u_161] [(.ref u_161)] _
            refine oLen X161 hx hZ rfl Oq161_0 (hb hby at_171) ?_
            refine XS.iload X161.here hx rfl (hb hby at_172) rfl ?_
            refine XS.iload X161.here hx rfl (hb hby at_174) rfl ?_
            refine XS.iadd X161.here hx rfl (hb hby at_176) rfl ?_
            show oS p e below T161 m 177 #[oi p0, oi p1, oi p2, oi p3, oi p4, oi (1 : Int32), oi (1 : Int32), oi m7, oi m8, oi m9, oi m10, oa b140, oa b142, oa u_161] [(.int (2 : Int32)), (.int (2 : Int32))] _
            refine XS.icmpYes X161.here hx rfl (pc0 := 177) (pc' := 182) rfl (hb hby at_177) rfl (teq b166).1 (by decide) (by decide) ?_
            refine XS.aload X161.here hx rfl (hb hby at_182) rfl rfl ?_
            show oS p e below T161 m 184 #[oi p0, oi p1, oi p2, oi p3, oi p4, oi (1 : Int32), oi (1 : Int32), oi m7, oi m8, oi m9, oi m10, oa b140, oa b142, oa u_161] [(.ref u_161)] _
            refine st167 _ ?_
            show oS p e below T167 m 187 #[oi p0, oi p1, oi p2, oi p3, oi p4, oi (1 : Int32), oi (1 : Int32), oi m7, oi m8, oi m9, oi m10, oa b140, oa b142, oa u_161] [(.int (own_f5_2 p0 p2))] _
            refine XS.ifYes X167.here hx rfl (pc0 := 187) (pc' := 192) rfl (hb hby at_187) rfl ((if0 _ _).trans (feq b168).2) (by decide) (by decide) ?_
            refine XS.aload X167.here hx rfl (hb hby at_192) rfl rfl ?_
            refine XS.aload X167.here hx rfl (hb hby at_194) rfl rfl ?_
            show oS p e below T167 m 196 #[oi p0, oi p1, oi p2, oi p3, oi p4, oi (1 : Int32), oi (1 : Int32), oi m7, oi m8, oi m9, oi m10, oa b140, oa b142, oa u_161] [(.ref b140), (.ref u_161)] _
            refine st169 _ ?_
            show oS p e below T169 m 199 #[oi p0, oi p1, oi p2, oi p3, oi p4, oi (1 : Int32), oi (1 : Int32), oi m7, oi m8, oi m9, oi m10, oa b140, oa b142, oa u_161] [(.int (own_f6_21 p0 p2 p0))] _
            refine XS.ifNo X169.here hx rfl (hb hby at_199) rfl ((if0 _ _).trans (feq b170).1) ?_
            refine XS.aload X169.here hx rfl (hb hby at_202) rfl rfl ?_
            refine XS.aload X169.here hx rfl (hb hby at_204) rfl rfl ?_
            show oS p e below T169 m 206 #[oi p0, oi p1, oi p2, oi p3, oi p4, oi (1 : Int32), oi (1 : Int32), oi m7, oi m8, oi m9, oi m10, oa b140, oa b142, oa u_161] [(.ref b142), (.ref u_161)] _
            refine st171 _ ?_
            show oS p e below T171 m 209 #[oi p0, oi p1, oi p2, oi p3, oi p4, oi (1 : Int32), oi (1 : Int32), oi m7, oi m8, oi m9, oi m10, oa b140, oa b142, oa u_161] [(.int (own_f6_21 p0 p2 p2))] _
            refine XS.ifNo X171.here hx rfl (hb hby at_209) rfl ((if0 _ _).trans (feq b172).1) ?_
            refine XS.iconst X171.here hx rfl (hb hby at_212) ?_
            refine XS.goto X171.here hx rfl (pc0 := 213) (pc' := 217) rfl (hb hby at_213) (by decide) (by decide) ?_
            show oS p e below T171 m 217 #[oi p0, oi p1, oi p2, oi p3, oi p4, oi (1 : Int32), oi (1 : Int32), oi m7, oi m8, oi m9, oi m10, oa b140, oa b142, oa u_161] [(.int (1 : Int32))] _
            exact retN X171 hx (t := .boolean) Bd.returns (by simp) (hb hby at_217) hr
          · show own_Q0 Z p0 p1 p2 p3 p4 h0 n0 _ T171.heap _
            rw [eq171]
            exact ⟨rfl, N171⟩
        · skip
          have mc160 := c160
          simp only [own_ltp] at mc160
          obtain ⟨_, _, ⟨T173, L173, k173, n173⟩, -, X173, ⟨Lc173, hQ173, l173, y173, z173⟩, st173⟩ := Jvm.LawKit.callS X156 hx (y := (⟨"com/example/strict_anon/strictanon/service/RecordSets", "union", "([I[I)[I"⟩ : MethodName)) hown (mvT hZ (hw _ (List.mem_of_getElem? (i := 13) rfl))) (mvT hZ (hw _ (List.mem_of_getElem? (i := 14) rfl))) (mvT hZ (hw _ (List.mem_of_getElem? (i := 15) rfl))) (mvT hZ (hw _ (List.mem_of_getElem? (i := 16) rfl))) (by decide) (backOf (W := 0) (own_rm4_11yx l Z av hw [] b140 b142 k140 p0 k142 p2 h152 n0 Z152 F153 V_154 (c160)) hZ (hw _ (List.mem_of_getElem? (i := 16) rfl)) (hw _ (List.mem_of_getElem? (i := 15) rfl)) (by decide) (by decide)) (g := (mkF m 164 #[oi p0, oi p1, oi p2, oi p3, oi p4, oi (1 : Int32), oi (1 : Int32), oi m7, oi m8, oi m9, oi m10, oa b140, oa b142, .unset] [(.ref b142), (.ref b140)])) rfl (by rw [hml]; rfl) (argsL := [(.ref b140), (.ref b142)]) (rest := []) (lenOf own_pd3 rfl) rfl (by show 2 * 0 + _ ≤ _; exact Nat.le_of_eq rfl) (hb hby at_164) (fun _ _ => ⟨rfl, eq156, (by decide : 2 + 1 ≤ _), (by decide : 2 + 2 ≤ _)⟩)
          dsimp only [Pt.U, Pt.locs, Pt.cells, Pt.slots] at X173 l173 y173 z173 st173 hQ173
          have yq173 : k173 = 3 := y173
          have zq173 : n173 = 4 := z173
          subst yq173 zq173
          obtain ⟨u_173, k_u_173, rfl, Nq173, Kq173, gq173_u, Oq173_0⟩ := hQ173
          have N173 : Fr n0 L173 := by rw [l173]; exact Fr.app N156 Nq173
          have Z173 : n0 ≤ T173.heap.size := Nat.le_trans Z152 Kq173.1
          have g_u_173 : n0 ≤ u_173 := Nat.le_trans Z152 gq173_u
          have ne174 : b140 ≠ u_173 := Nat.ne_of_lt (Nat.lt_of_lt_of_le F153.lt gq173_u)
          have ne175 : b142 ≠ u_173 := Nat.ne_of_lt (Nat.lt_of_lt_of_le V_154.lt gq173_u)
          have F176 := F153.keep Kq173 nin0
          have F177 := V_154.keep Kq173 nin0
          have b178 : (2 : Int32) = (2 : Int32) := (by decide)
          obtain ⟨_, _, ⟨T179, L179, k179, n179⟩, -, X179, ⟨Lc179, hQ179, l179, y179, z179⟩, st179⟩ := Jvm.LawKit.callS X173 hx (y := (⟨"com/example/strict_anon/strictanon/service/RecordSetsUnionPinLaw", "increasing", "([I)Z"⟩ : MethodName)) hown (mvT hZ (hw _ (List.mem_of_getElem? (i := 17) rfl))) (mvT hZ (hw _ (List.mem_of_getElem? (i := 18) rfl))) (mvT hZ (hw _ (List.mem_of_getElem? (i := 11) rfl))) (mvT hZ (hw _ (List.mem_of_getElem? (i := 19) rfl))) (by decide) (backOf (W := 0) (own_rm5_2 l Z av hw [] u_173 k_u_173 p2 p0 T173.heap n0 Z173 Oq173_0) hZ (hw _ (List.mem_of_getElem? (i := 19) rfl)) (hw _ (List.mem_of_getElem? (i := 11) rfl)) (by decide) (by decide)) (g := (mkF m 184 #[oi p0, oi p1, oi p2, oi p3, oi p4, oi (1 : Int32), oi (1 : Int32), oi m7, oi m8, oi m9, oi m10, oa b140, oa b142, oa u_173] [(.ref u_173)])) rfl (by rw [hml]; rfl) (argsL := [(.ref u_173)]) (rest := []) (lenOf own_pd4 rfl) rfl (by show 2 * 0 + _ ≤ _; exact Nat.le_of_eq rfl) (hb hby at_184) (fun _ _ => ⟨rfl, rfl, (by decide : 3 + 0 ≤ _), (by decide : 4 + 0 ≤ _)⟩)
          dsimp only [Pt.U, Pt.locs, Pt.cells, Pt.slots] at X179 l179 y179 z179 st179 hQ179
          have yq179 : k179 = 3 := y179
          have zq179 : n179 = 4 := z179
          subst yq179 zq179
          obtain ⟨rfl, Nq179, eq179⟩ := hQ179
          have N179 : Fr n0 L179 := by rw [l179]; exact Fr.app N173 Nq179
          have b180 : ¬ ((own_f5_2 p2 p0) = (0 : Int32)) := by unfold own_f5_2; (try simp only [own_ltp]); (repeat' split) <;> first | decide | (exfalso; omega)
          obtain ⟨_, _, ⟨T181, L181, k181, n181⟩, -, X181, ⟨Lc181, hQ181, l181, y181, z181⟩, st181⟩ := Jvm.LawKit.callS X179 hx (y := (⟨"com/example/strict_anon/strictanon/service/RecordSetsUnionPinLaw", "containsAll", "([I[I)Z"⟩ : MethodName)) hown (mvT hZ (hw _ (List.mem_of_getElem? (i := 20) rfl))) (mvT hZ (hw _ (List.mem_of_getElem? (i := 21) rfl))) (mvT hZ (hw _ (List.mem_of_getElem? (i := 11) rfl))) (mvT hZ (hw _ (List.mem_of_getElem? (i := 22) rfl))) (by decide) (backOf (W := 0) (own_rm6_21 l Z av hw [] u_173 b140 k_u_173 p2 p0 k140 p0 T173.heap n0 Z173 Oq173_0 F176) hZ (hw _ (List.mem_of_getElem? (i := 22) rfl)) (hw _ (List.mem_of_getElem? (i := 11) rfl)) (by decide) (by decide)) (g := (mkF m 196 #[oi p0, oi p1, oi p2, oi p3, oi p4, oi (1 : Int32), oi (1 : Int32), oi m7, oi m8, oi m9, oi m10, oa b140, oa b142, oa u_173] [(.ref b140), (.ref u_173)])) rfl (by rw [hml]; rfl) (argsL := [(.ref u_173), (.ref b140)]) (rest := []) (lenOf own_pd2 rfl) rfl (by show 2 * 0 + _ ≤ _; exact Nat.le_of_eq rfl) (hb hby at_196) (fun _ _ => ⟨rfl, eq179, (by decide : 3 + 0 ≤ _), (by decide : 4 + 0 ≤ _)⟩)
          dsimp only [Pt.U, Pt.locs, Pt.cells, Pt.slots] at X181 l181 y181 z181 st181 hQ181
          have yq181 : k181 = 3 := y181
          have zq181 : n181 = 4 := z181
          subst yq181 zq181
          obtain ⟨rfl, Nq181, eq181⟩ := hQ181
          have N181 : Fr n0 L181 := by rw [l181]; exact Fr.app N179 Nq181
          have b182 : ¬ ((own_f6_21 p2 p0 p0) = (0 : Int32)) := by simp [own_f6_21, own_f7_2]
          obtain ⟨_, _, ⟨T183, L183, k183, n183⟩, -, X183, ⟨Lc183, hQ183, l183, y183, z183⟩, st183⟩ := Jvm.LawKit.callS X181 hx (y := (⟨"com/example/strict_anon/strictanon/service/RecordSetsUnionPinLaw", "containsAll", "([I[I)Z"⟩ : MethodName)) hown (mvT hZ (hw _ (List.mem_of_getElem? (i := 20) rfl))) (mvT hZ (hw _ (List.mem_of_getElem? (i := 21) rfl))) (mvT hZ (hw _ (List.mem_of_getElem? (i := 11) rfl))) (mvT hZ (hw _ (List.mem_of_getElem? (i := 22) rfl))) (by decide) (backOf (W := 0) (own_rm6_21 l Z av hw [] u_173 b142 k_u_173 p2 p0 k142 p2 T173.heap n0 Z173 Oq173_0 F177) hZ (hw _ (List.mem_of_getElem? (i := 22) rfl)) (hw _ (List.mem_of_getElem? (i := 11) rfl)) (by decide) (by decide)) (g := (mkF m 206 #[oi p0, oi p1, oi p2, oi p3, oi p4, oi (1 : Int32), oi (1 : Int32), oi m7, oi m8, oi m9, oi m10, oa b140, oa b142, oa u_173] [(.ref b142), (.ref u_173)])) rfl (by rw [hml]; rfl) (argsL := [(.ref u_173), (.ref b142)]) (rest := []) (lenOf own_pd2 rfl) rfl (by show 2 * 0 + _ ≤ _; exact Nat.le_of_eq rfl) (hb hby at_206) (fun _ _ => ⟨rfl, eq181, (by decide : 3 + 0 ≤ _), (by decide : 4 + 0 ≤ _)⟩)
          dsimp only [Pt.U, Pt.locs, Pt.cells, Pt.slots] at X183 l183 y183 z183 st183 hQ183
          have yq183 : k183 = 3 := y183
          have zq183 : n183 = 4 := z183
          subst yq183 zq183
          obtain ⟨rfl, Nq183, eq183⟩ := hQ183
          have N183 : Fr n0 L183 := by rw [l183]; exact Fr.app N181 Nq183
          have b184 : ¬ ((own_f6_21 p2 p0 p2) = (0 : Int32)) := by simp [own_f6_21, own_f7_2]
          obtain ⟨fs, hr, hrun, hended, hW, hsame⟩ := X183.leave (v := (some (.int (1 : Int32)))) (fun h => by rw [Bd.returns] at h; cases h)
          refine ⟨_, _, pre159 _ ?_, hrun, hended, _, _, rfl, ?_, ⟨_, rfl⟩, hW, hsame.mono (by decide) (by decide)⟩
          · show oS p e below T156 m 164 #[oi p0, oi p1, oi p2, oi p3, oi p4, oi (1 : Int32), oi (1 : Int32), oi m7, oi m8, oi m9, oi m10, oa b140, oa b142, .unset] [(.ref b142), (.ref b140)] _
            refine st173 _ ?_
            show oS p e below T173 m 167 #[oi p0, oi p1, oi p2, oi p3, oi p4, oi (1 : Int32), oi (1 : Int32), oi m7, oi m8, oi m9, oi m10, oa b140, oa b142, .unset] [(.ref u_173)] _
            refine XS.astore X173.here hx rfl (hb hby at_167) rfl rfl (l' := #[oi p0, oi p1, oi p2, oi p3, oi p4, oi (1 : Int32), oi (1 : Int32), oi m7, oi m8, oi m9, oi m10, oa b140, oa b142, oa u_173]) rfl ?_
            refine XS.aload X173.here hx rfl (hb hby at_169) rfl rfl ?_
            show oS p e below T173 m 171 #[oi p0, oi p1, oi p2, oi p3, oi p4, oi (1 : Int32), oi (1 : Int32), oi m7, oi m8, oi m9, oi m10, oa b140, oa b142, oa u_173] [(.ref u_173)] _
            refine oLen X173 hx hZ rfl Oq173_0 (hb hby at_171) ?_
            refine XS.iload X173.here hx rfl (hb hby at_172) rfl ?_
            refine XS.iload X173.here hx rfl (hb hby at_174) rfl ?_
            refine XS.iadd X173.here hx rfl (hb hby at_176) rfl ?_
            show oS p e below T173 m 177 #[oi p0, oi p1, oi p2, oi p3, oi p4, oi (1 : Int32), oi (1 : Int32), oi m7, oi m8, oi m9, oi m10, oa b140, oa b142, oa u_173] [(.int (2 : Int32)), (.int (2 : Int32))] _
            refine XS.icmpYes X173.here hx rfl (pc0 := 177) (pc' := 182) rfl (hb hby at_177) rfl (teq b178).1 (by decide) (by decide) ?_
            refine XS.aload X173.here hx rfl (hb hby at_182) rfl rfl ?_
            show oS p e below T173 m 184 #[oi p0, oi p1, oi p2, oi p3, oi p4, oi (1 : Int32), oi (1 : Int32), oi m7, oi m8, oi m9, oi m10, oa b140, oa b142, oa u_173] [(.ref u_173)] _
            refine st179 _ ?_
            show oS p e below T179 m 187 #[oi p0, oi p1, oi p2, oi p3, oi p4, oi (1 : Int32), oi (1 : Int32), oi m7, oi m8, oi m9, oi m10, oa b140, oa b142, oa u_173] [(.int (own_f5_2 p2 p0))] _
            refine XS.ifYes X179.here hx rfl (pc0 := 187) (pc' := 192) rfl (hb hby at_187) rfl ((if0 _ _).trans (feq b180).2) (by decide) (by decide) ?_
            refine XS.aload X179.here hx rfl (hb hby at_192) rfl rfl ?_
            refine XS.aload X179.here hx rfl (hb hby at_194) rfl rfl ?_
            show oS p e below T179 m 196 #[oi p0, oi p1, oi p2, oi p3, oi p4, oi (1 : Int32), oi (1 : Int32), oi m7, oi m8, oi m9, oi m10, oa b140, oa b142, oa u_173] [(.ref b140), (.ref u_173)] _
            refine st181 _ ?_
            show oS p e below T181 m 199 #[oi p0, oi p1, oi p2, oi p3, oi p4, oi (1 : Int32), oi (1 : Int32), oi m7, oi m8, oi m9, oi m10, oa b140, oa b142, oa u_173] [(.int (own_f6_21 p2 p0 p0))] _
            refine XS.ifNo X181.here hx rfl (hb hby at_199) rfl ((if0 _ _).trans (feq b182).1) ?_
            refine XS.aload X181.here hx rfl (hb hby at_202) rfl rfl ?_
            refine XS.aload X181.here hx rfl (hb hby at_204) rfl rfl ?_
            show oS p e below T181 m 206 #[oi p0, oi p1, oi p2, oi p3, oi p4, oi (1 : Int32), oi (1 : Int32), oi m7, oi m8, oi m9, oi m10, oa b140, oa b142, oa u_173] [(.ref b142), (.ref u_173)] _
            refine st183 _ ?_
            show oS p e below T183 m 209 #[oi p0, oi p1, oi p2, oi p3, oi p4, oi (1 : Int32), oi (1 : Int32), oi m7, oi m8, oi m9, oi m10, oa b140, oa b142, oa u_173] [(.int (own_f6_21 p2 p0 p2))] _
            refine XS.ifNo X183.here hx rfl (hb hby at_209) rfl ((if0 _ _).trans (feq b184).1) ?_
            refine XS.iconst X183.here hx rfl (hb hby at_212) ?_
            refine XS.goto X183.here hx rfl (pc0 := 213) (pc' := 217) rfl (hb hby at_213) (by decide) (by decide) ?_
            show oS p e below T183 m 217 #[oi p0, oi p1, oi p2, oi p3, oi p4, oi (1 : Int32), oi (1 : Int32), oi m7, oi m8, oi m9, oi m10, oa b140, oa b142, oa u_173] [(.int (1 : Int32))] _
            exact retN X183 hx (t := .boolean) Bd.returns (by simp) (hb hby at_217) hr
          · show own_Q0 Z p0 p1 p2 p3 p4 h0 n0 _ T183.heap _
            rw [eq183]
            exact ⟨rfl, N183⟩
      · skip
        obtain ⟨fs, hr, hrun, hended, hW, hsame⟩ := X156.leave (v := (some (.int (1 : Int32)))) (fun h => by rw [Bd.returns] at h; cases h)
        refine ⟨_, _, pre157 _ ?_, hrun, hended, _, _, rfl, ?_, ⟨_, rfl⟩, hW, hsame.mono (by decide) (by decide)⟩
        · show oS p e below T156 m 155 #[oi p0, oi p1, oi p2, oi p3, oi p4, oi (1 : Int32), oi (1 : Int32), oi m7, oi m8, oi m9, oi m10, oa b140, oa b142, .unset] [(.int (own_f3_11 p0 p2))] _
          refine XS.ifNo X156.here hx rfl (hb hby at_155) rfl ((if0 _ _).trans (feq c158).1) ?_
          refine XS.iconst X156.here hx rfl (hb hby at_158) ?_
          show oS p e below T156 m 159 #[oi p0, oi p1, oi p2, oi p3, oi p4, oi (1 : Int32), oi (1 : Int32), oi m7, oi m8, oi m9, oi m10, oa b140, oa b142, .unset] [(.int (1 : Int32))] _
          exact retN X156 hx (t := .boolean) Bd.returns (by simp) (hb hby at_159) hr
        · show own_Q0 Z p0 p1 p2 p3 p4 h0 n0 _ T156.heap _
          rw [eq156]
          exact ⟨rfl, N156⟩
    · skip
      rw [kn, km] at pre11
      have b185 : ¬ ((1 : Int32) = (2 : Int32)) := (by decide)
      have b186 : (2 : Int32) = (2 : Int32) := (by decide)
      have pre187 : ∀ t, Steps p.tables e below (T9.setTop (mkF m 73 #[oi p0, oi p1, oi p2, oi p3, oi p4, oi (1 : Int32), oi (2 : Int32), oi m7, oi m8, oi m9, oi m10, .unset, .unset, .unset] [(.int m10), (.int m9)])) t → Steps p.tables e below (s₁.setTop (entryFrame m #[(.int p0), (.int p1), (.int p2), (.int p3), (.int p4)] maxLocals)) t := by
        intro t k
        refine pre11 t ?_
        show oS p e below T9 m 48 #[oi p0, oi p1, oi p2, oi p3, oi p4, oi (1 : Int32), oi (2 : Int32), oi m7, oi m8, oi m9, oi m10, .unset, .unset, .unset] [] _
        refine XS.iload X9.here hx rfl (hb hby at_48) rfl ?_
        refine XS.iconst X9.here hx rfl (hb hby at_50) ?_
        show oS p e below T9 m 51 #[oi p0, oi p1, oi p2, oi p3, oi p4, oi (1 : Int32), oi (2 : Int32), oi m7, oi m8, oi m9, oi m10, .unset, .unset, .unset] [(.int (2 : Int32)), (.int (1 : Int32))] _
        refine XS.icmpYes X9.here hx rfl (pc0 := 51) (pc' := 63) rfl (hb hby at_51) rfl (feq b185).2 (by decide) (by decide) ?_
        refine XS.iload X9.here hx rfl (hb hby at_63) rfl ?_
        refine XS.iconst X9.here hx rfl (hb hby at_65) ?_
        show oS p e below T9 m 66 #[oi p0, oi p1, oi p2, oi p3, oi p4, oi (1 : Int32), oi (2 : Int32), oi m7, oi m8, oi m9, oi m10, .unset, .unset, .unset] [(.int (2 : Int32)), (.int (2 : Int32))] _
        refine XS.icmpNo X9.here hx rfl (hb hby at_66) rfl (teq b186).2 ?_
        refine XS.iload X9.here hx rfl (hb hby at_69) rfl ?_
        refine XS.iload X9.here hx rfl (hb hby at_71) rfl ?_
        exact k
      by_cases c188 : m9 = m10
      · skip
        obtain ⟨fs, hr, hrun, hended, hW, hsame⟩ := X9.leave (v := (some (.int (1 : Int32)))) (fun h => by rw [Bd.returns] at h; cases h)
        refine ⟨_, _, pre187 _ ?_, hrun, hended, _, _, rfl, ?_, ⟨_, rfl⟩, hW, hsame.mono (by decide) (by decide)⟩
        · show oS p e below T9 m 73 #[oi p0, oi p1, oi p2, oi p3, oi p4, oi (1 : Int32), oi (2 : Int32), oi m7, oi m8, oi m9, oi m10, .unset, .unset, .unset] [(.int m10), (.int m9)] _
          refine XS.icmpNo X9.here hx rfl (hb hby at_73) rfl (teq c188).2 ?_
          refine XS.iconst X9.here hx rfl (hb hby at_76) ?_
          show oS p e below T9 m 77 #[oi p0, oi p1, oi p2, oi p3, oi p4, oi (1 : Int32), oi (2 : Int32), oi m7, oi m8, oi m9, oi m10, .unset, .unset, .unset] [(.int (1 : Int32))] _
          exact retN X9 hx (t := .boolean) Bd.returns (by simp) (hb hby at_77) hr
        · show own_Q0 Z p0 p1 p2 p3 p4 h0 n0 _ T9.heap _
          rw [eq9]
          exact ⟨rfl, N9⟩
      · skip
        have hmy : m9.toInt < m10.toInt := by rw [hm9, hm10] at c188 ⊢; exact own_mm c188
        obtain ⟨T189, h189, k189, X189, e189, E189, A189, st189⟩ := newP X9 hx hZ (hw _ (List.mem_of_getElem? (i := 8) rfl)) eq9 (g := (mkF m 80 #[oi p0, oi p1, oi p2, oi p3, oi p4, oi (1 : Int32), oi (2 : Int32), oi m7, oi m8, oi m9, oi m10, .unset, .unset, .unset] [(.int (1 : Int32))])) rfl (hb hby at_80) rfl (by decide) (cap := 1) (by decide) (by decide) (by decide) (by decide)
        obtain ⟨b189, g189⟩ : ∃ z, z = h0.size := ⟨_, rfl⟩
        rw [← g189] at A189 st189
        have g_b189 : n0 ≤ b189 := Nat.le_trans Z0 (Nat.le_of_eq g189.symm)
        have Z189 : n0 ≤ h189.size := Nat.le_trans Z0 E189.1
        have V_190 : Arv Z h189 b189 k189 .int (1 : Int32) [(.int (0 : Int32))] (.int (0 : Int32)) := (Arv.new A189 (by decide)).pad (pad_rep [] (.int (0 : Int32)) 1)
        obtain ⟨T191, h191, k191, X191, e191, E191, A191, st191⟩ := newP X189 hx hZ (hw _ (List.mem_of_getElem? (i := 8) rfl)) e189 (g := (mkF m 86 #[oi p0, oi p1, oi p2, oi p3, oi p4, oi (1 : Int32), oi (2 : Int32), oi m7, oi m8, oi m9, oi m10, oa b189, .unset, .unset] [(.int (2 : Int32))])) rfl (hb hby at_86) rfl (by decide) (cap := 2) (by decide) (by decide) (by decide) (by decide)
        obtain ⟨b191, g191⟩ : ∃ z, z = h189.size := ⟨_, rfl⟩
        rw [← g191] at A191 st191
        have g_b191 : n0 ≤ b191 := Nat.le_trans Z189 (Nat.le_of_eq g191.symm)
        have ne192 : b189 ≠ b191 := Nat.ne_of_lt (Nat.lt_of_lt_of_le V_190.lt (Nat.le_of_eq g191.symm))
        have Z191 : n0 ≤ h191.size := Nat.le_trans Z189 E191.1
        have F193 := V_190.ext E191
        have V_194 : Arv Z h191 b191 k191 .int (2 : Int32) [(.int (0 : Int32)), (.int (0 : Int32))] (.int (0 : Int32)) := (Arv.new A191 (by decide)).pad (pad_rep [] (.int (0 : Int32)) 2)
        have b195 : (1 : Int32) = (1 : Int32) := (by decide)
        obtain ⟨T196, h196, X196, e196, W196, V196, st196⟩ := oStI X191 hx hZ e191 F193 (j := (0 : Int32)) ⟨by decide, by decide⟩ 0 rfl (Nat.le_of_ble_eq_true rfl) (g := (mkF m 100 #[oi p0, oi p1, oi p2, oi p3, oi p4, oi (1 : Int32), oi (2 : Int32), oi m7, oi m8, oi m9, oi m10, oa b189, oa b191, .unset] [(.int p0), (.int (0 : Int32)), (.ref b189)])) rfl rfl (hb hby at_100)
        obtain ⟨Lo196, X196, N196⟩ := oOpq X196 (Fr.snoc X196 N9 g_b189)
        have Z196 := Nat.le_trans Z191 (Keep.of_wr W196).1
        have F197 := V_194.other W196 (Ne.symm ne192)
        have V_198 : Arv Z h196 b189 k189 .int (1 : Int32) [(.int p0)] (.int (0 : Int32)) := V196
        have b199 : ¬ ((1 : Int32) = (2 : Int32)) := (by decide)
        have b200 : ¬ ((2 : Int32) = (1 : Int32)) := (by decide)
        have b201 : (2 : Int32) = (2 : Int32) := (by decide)
        obtain ⟨T202, h202, X202, e202, W202, V202, st202⟩ := oStI X196 hx hZ e196 F197 (j := (0 : Int32)) ⟨by decide, by decide⟩ 0 rfl (Nat.le_of_ble_eq_true rfl) (g := (mkF m 141 #[oi p0, oi p1, oi p2, oi p3, oi p4, oi (1 : Int32), oi (2 : Int32), oi m7, oi m8, oi m9, oi m10, oa b189, oa b191, .unset] [(.int m9), (.int (0 : Int32)), (.ref b191)])) rfl rfl (hb hby at_141)
        obtain ⟨Lo202, X202, N202⟩ := oOpq X202 (Fr.snoc X202 N196 g_b191)
        have Z202 := Nat.le_trans Z196 (Keep.of_wr W202).1
        have F203 := V_198.other W202 ne192
        have V_204 : Arv Z h202 b191 k191 .int (2 : Int32) [(.int m9), (.int (0 : Int32))] (.int (0 : Int32)) := V202
        obtain ⟨T205, h205, X205, e205, W205, V205, st205⟩ := oStI X202 hx hZ e202 V_204 (j := (1 : Int32)) ⟨by decide, by decide⟩ 1 rfl (Nat.le_of_ble_eq_true rfl) (g := (mkF m 147 #[oi p0, oi p1, oi p2, oi p3, oi p4, oi (1 : Int32), oi (2 : Int32), oi m7, oi m8, oi m9, oi m10, oa b189, oa b191, .unset] [(.int m10), (.int (1 : Int32)), (.ref b191)])) rfl rfl (hb hby at_147)
        obtain ⟨Lo205, X205, N205⟩ := oOpq X205 (Fr.snoc X205 N202 g_b191)
        have Z205 := Nat.le_trans Z202 (Keep.of_wr W205).1
        have F206 := F203.other W205 ne192
        have V_207 : Arv Z h205 b191 k191 .int (2 : Int32) [(.int m9), (.int m10)] (.int (0 : Int32)) := V205
        obtain ⟨_, _, ⟨T208, L208, k208, n208⟩, -, X208, ⟨Lc208, hQ208, l208, y208, z208⟩, st208⟩ := Jvm.LawKit.callS X205 hx (y := (⟨"com/example/strict_anon/strictanon/service/RecordSetsUnionPinLaw", "shares", "([I[I)Z"⟩ : MethodName)) hown (mvT hZ (hw _ (List.mem_of_getElem? (i := 9) rfl))) (mvT hZ (hw _ (List.mem_of_getElem? (i := 10) rfl))) (mvT hZ (hw _ (List.mem_of_getElem? (i := 11) rfl))) (mvT hZ (hw _ (List.mem_of_getElem? (i := 12) rfl))) (by decide) (backOf (W := 0) (own_rm3_12 l Z av hw [] b189 b191 k189 p0 k191 m9 m10 h205 n0 Z205 F206 V_207) hZ (hw _ (List.mem_of_getElem? (i := 12) rfl)) (hw _ (List.mem_of_getElem? (i := 11) rfl)) (by decide) (by decide)) (g := (mkF m 152 #[oi p0, oi p1, oi p2, oi p3, oi p4, oi (1 : Int32), oi (2 : Int32), oi m7, oi m8, oi m9, oi m10, oa b189, oa b191, .unset] [(.ref b191), (.ref b189)])) rfl (by rw [hml]; rfl) (argsL := [(.ref b189), (.ref b191)]) (rest := []) (lenOf own_pd2 rfl) rfl (by show 2 * 0 + _ ≤ _; exact Nat.le_of_eq rfl) (hb hby at_152) (fun _ _ => ⟨rfl, e205, (by decide : 2 + 0 ≤ _), (by decide : 3 + 0 ≤ _)⟩)
        dsimp only [Pt.U, Pt.locs, Pt.cells, Pt.slots] at X208 l208 y208 z208 st208 hQ208
        have yq208 : k208 = 2 := y208
        have zq208 : n208 = 3 := z208
        subst yq208 zq208
        obtain ⟨rfl, Nq208, eq208⟩ := hQ208
        have N208 : Fr n0 L208 := by rw [l208]; exact Fr.app N205 Nq208
        have pre209 : ∀ t, Steps p.tables e below (T208.setTop (mkF m 155 #[oi p0, oi p1, oi p2, oi p3, oi p4, oi (1 : Int32), oi (2 : Int32), oi m7, oi m8, oi m9, oi m10, oa b189, oa b191, .unset] [(.int (own_f3_12 p0 m9 m10))])) t → Steps p.tables e below (s₁.setTop (entryFrame m #[(.int p0), (.int p1), (.int p2), (.int p3), (.int p4)] maxLocals)) t := by
          intro t k
          refine pre187 t ?_
          show oS p e below T9 m 73 #[oi p0, oi p1, oi p2, oi p3, oi p4, oi (1 : Int32), oi (2 : Int32), oi m7, oi m8, oi m9, oi m10, .unset, .unset, .unset] [(.int m10), (.int m9)] _
          refine XS.icmpYes X9.here hx rfl (pc0 := 73) (pc' := 78) rfl (hb hby at_73) rfl (feq c188).2 (by decide) (by decide) ?_
          refine XS.iload X9.here hx rfl (hb hby at_78) rfl ?_
          show oS p e below T9 m 80 #[oi p0, oi p1, oi p2, oi p3, oi p4, oi (1 : Int32), oi (2 : Int32), oi m7, oi m8, oi m9, oi m10, .unset, .unset, .unset] [(.int (1 : Int32))] _
          refine st189 _ ?_
          show oS p e below T189 m 82 #[oi p0, oi p1, oi p2, oi p3, oi p4, oi (1 : Int32), oi (2 : Int32), oi m7, oi m8, oi m9, oi m10, .unset, .unset, .unset] [(.ref b189)] _
          refine XS.astore X189.here hx rfl (hb hby at_82) rfl rfl (l' := #[oi p0, oi p1, oi p2, oi p3, oi p4, oi (1 : Int32), oi (2 : Int32), oi m7, oi m8, oi m9, oi m10, oa b189, .unset, .unset]) rfl ?_
          refine XS.iload X189.here hx rfl (hb hby at_84) rfl ?_
          show oS p e below T189 m 86 #[oi p0, oi p1, oi p2, oi p3, oi p4, oi (1 : Int32), oi (2 : Int32), oi m7, oi m8, oi m9, oi m10, oa b189, .unset, .unset] [(.int (2 : Int32))] _
          refine st191 _ ?_
          show oS p e below T191 m 88 #[oi p0, oi p1, oi p2, oi p3, oi p4, oi (1 : Int32), oi (2 : Int32), oi m7, oi m8, oi m9, oi m10, oa b189, .unset, .unset] [(.ref b191)] _
          refine XS.astore X191.here hx rfl (hb hby at_88) rfl rfl (l' := #[oi p0, oi p1, oi p2, oi p3, oi p4, oi (1 : Int32), oi (2 : Int32), oi m7, oi m8, oi m9, oi m10, oa b189, oa b191, .unset]) rfl ?_
          refine XS.iload X191.here hx rfl (hb hby at_90) rfl ?_
          refine XS.iconst X191.here hx rfl (hb hby at_92) ?_
          show oS p e below T191 m 93 #[oi p0, oi p1, oi p2, oi p3, oi p4, oi (1 : Int32), oi (2 : Int32), oi m7, oi m8, oi m9, oi m10, oa b189, oa b191, .unset] [(.int (1 : Int32)), (.int (1 : Int32))] _
          refine XS.icmpNo X191.here hx rfl (hb hby at_93) rfl (teq b195).2 ?_
          refine XS.aload X191.here hx rfl (hb hby at_96) rfl rfl ?_
          refine XS.iconst X191.here hx rfl (hb hby at_98) ?_
          refine XS.iloadN X191.here hx rfl (hb hby at_99) rfl ?_
          show oS p e below T191 m 100 #[oi p0, oi p1, oi p2, oi p3, oi p4, oi (1 : Int32), oi (2 : Int32), oi m7, oi m8, oi m9, oi m10, oa b189, oa b191, .unset] [(.int p0), (.int (0 : Int32)), (.ref b189)] _
          refine st196 _ ?_
          show oS p e below T196 m 101 #[oi p0, oi p1, oi p2, oi p3, oi p4, oi (1 : Int32), oi (2 : Int32), oi m7, oi m8, oi m9, oi m10, oa b189, oa b191, .unset] [] _
          refine XS.iload X196.here hx rfl (hb hby at_101) rfl ?_
          refine XS.iconst X196.here hx rfl (hb hby at_103) ?_
          show oS p e below T196 m 104 #[oi p0, oi p1, oi p2, oi p3, oi p4, oi (1 : Int32), oi (2 : Int32), oi m7, oi m8, oi m9, oi m10, oa b189, oa b191, .unset] [(.int (2 : Int32)), (.int (1 : Int32))] _
          refine XS.icmpYes X196.here hx rfl (pc0 := 104) (pc' := 119) rfl (hb hby at_104) rfl (feq b199).2 (by decide) (by decide) ?_
          refine XS.iload X196.here hx rfl (hb hby at_119) rfl ?_
          refine XS.iconst X196.here hx rfl (hb hby at_121) ?_
          show oS p e below T196 m 122 #[oi p0, oi p1, oi p2, oi p3, oi p4, oi (1 : Int32), oi (2 : Int32), oi m7, oi m8, oi m9, oi m10, oa b189, oa b191, .unset] [(.int (1 : Int32)), (.int (2 : Int32))] _
          refine XS.icmpYes X196.here hx rfl (pc0 := 122) (pc' := 130) rfl (hb hby at_122) rfl (feq b200).2 (by decide) (by decide) ?_
          refine XS.iload X196.here hx rfl (hb hby at_130) rfl ?_
          refine XS.iconst X196.here hx rfl (hb hby at_132) ?_
          show oS p e below T196 m 133 #[oi p0, oi p1, oi p2, oi p3, oi p4, oi (1 : Int32), oi (2 : Int32), oi m7, oi m8, oi m9, oi m10, oa b189, oa b191, .unset] [(.int (2 : Int32)), (.int (2 : Int32))] _
          refine XS.icmpNo X196.here hx rfl (hb hby at_133) rfl (teq b201).2 ?_
          refine XS.aload X196.here hx rfl (hb hby at_136) rfl rfl ?_
          refine XS.iconst X196.here hx rfl (hb hby at_138) ?_
          refine XS.iload X196.here hx rfl (hb hby at_139) rfl ?_
          show oS p e below T196 m 141 #[oi p0, oi p1, oi p2, oi p3, oi p4, oi (1 : Int32), oi (2 : Int32), oi m7, oi m8, oi m9, oi m10, oa b189, oa b191, .unset] [(.int m9), (.int (0 : Int32)), (.ref b191)] _
          refine st202 _ ?_
          show oS p e below T202 m 142 #[oi p0, oi p1, oi p2, oi p3, oi p4, oi (1 : Int32), oi (2 : Int32), oi m7, oi m8, oi m9, oi m10, oa b189, oa b191, .unset] [] _
          refine XS.aload X202.here hx rfl (hb hby at_142) rfl rfl ?_
          refine XS.iconst X202.here hx rfl (hb hby at_144) ?_
          refine XS.iload X202.here hx rfl (hb hby at_145) rfl ?_
          show oS p e below T202 m 147 #[oi p0, oi p1, oi p2, oi p3, oi p4, oi (1 : Int32), oi (2 : Int32), oi m7, oi m8, oi m9, oi m10, oa b189, oa b191, .unset] [(.int m10), (.int (1 : Int32)), (.ref b191)] _
          refine st205 _ ?_
          show oS p e below T205 m 148 #[oi p0, oi p1, oi p2, oi p3, oi p4, oi (1 : Int32), oi (2 : Int32), oi m7, oi m8, oi m9, oi m10, oa b189, oa b191, .unset] [] _
          refine XS.aload X205.here hx rfl (hb hby at_148) rfl rfl ?_
          refine XS.aload X205.here hx rfl (hb hby at_150) rfl rfl ?_
          show oS p e below T205 m 152 #[oi p0, oi p1, oi p2, oi p3, oi p4, oi (1 : Int32), oi (2 : Int32), oi m7, oi m8, oi m9, oi m10, oa b189, oa b191, .unset] [(.ref b191), (.ref b189)] _
          refine st208 _ ?_
          exact k
        by_cases c210 : (own_f3_12 p0 m9 m10) = (0 : Int32)
        · skip
          have ne_p0_m9 : p0.toInt ≠ m9.toInt := by
            intro q
            have q' := Int32.toInt_inj.mp q
            rw [q'] at c210
            simp [own_f3_12, own_f7_2] at c210
          have ne_p0_m10 : p0.toInt ≠ m10.toInt := by
            intro q
            have q' := Int32.toInt_inj.mp q
            rw [q'] at c210
            simp [own_f3_12, own_f7_2] at c210
          have pre211 : ∀ t, Steps p.tables e below (T208.setTop (mkF m 164 #[oi p0, oi p1, oi p2, oi p3, oi p4, oi (1 : Int32), oi (2 : Int32), oi m7, oi m8, oi m9, oi m10, oa b189, oa b191, .unset] [(.ref b191), (.ref b189)])) t → Steps p.tables e below (s₁.setTop (entryFrame m #[(.int p0), (.int p1), (.int p2), (.int p3), (.int p4)] maxLocals)) t := by
            intro t k
            refine pre209 t ?_
            show oS p e below T208 m 155 #[oi p0, oi p1, oi p2, oi p3, oi p4, oi (1 : Int32), oi (2 : Int32), oi m7, oi m8, oi m9, oi m10, oa b189, oa b191, .unset] [(.int (own_f3_12 p0 m9 m10))] _
            refine XS.ifYes X208.here hx rfl (pc0 := 155) (pc' := 160) rfl (hb hby at_155) rfl ((if0 _ _).trans (teq c210).1) (by decide) (by decide) ?_
            refine XS.aload X208.here hx rfl (hb hby at_160) rfl rfl ?_
            refine XS.aload X208.here hx rfl (hb hby at_162) rfl rfl ?_
            exact k
          by_cases c212 : p0 < m9
          · skip
            have mc212 := c212
            simp only [own_ltp] at mc212
            obtain ⟨_, _, ⟨T213, L213, k213, n213⟩, -, X213, ⟨Lc213, hQ213, l213, y213, z213⟩, st213⟩ := Jvm.LawKit.callS X208 hx (y := (⟨"com/example/strict_anon/strictanon/service/RecordSets", "union", "([I[I)[I"⟩ : MethodName)) hown (mvT hZ (hw _ (List.mem_of_getElem? (i := 13) rfl))) (mvT hZ (hw _ (List.mem_of_getElem? (i := 14) rfl))) (mvT hZ (hw _ (List.mem_of_getElem? (i := 15) rfl))) (mvT hZ (hw _ (List.mem_of_getElem? (i := 16) rfl))) (by decide) (backOf (W := 0) (own_rm4_12xyy l Z av hw [] b189 b191 k189 p0 k191 m9 m10 h205 n0 Z205 F206 V_207 (c212)) hZ (hw _ (List.mem_of_getElem? (i := 16) rfl)) (hw _ (List.mem_of_getElem? (i := 15) rfl)) (by decide) (by decide)) (g := (mkF m 164 #[oi p0, oi p1, oi p2, oi p3, oi p4, oi (1 : Int32), oi (2 : Int32), oi m7, oi m8, oi m9, oi m10, oa b189, oa b191, .unset] [(.ref b191), (.ref b189)])) rfl (by rw [hml]; rfl) (argsL := [(.ref b189), (.ref b191)]) (rest := []) (lenOf own_pd3 rfl) rfl (by show 2 * 0 + _ ≤ _; exact Nat.le_of_eq rfl) (hb hby at_164) (fun _ _ => ⟨rfl, eq208, (by decide : 2 + 1 ≤ _), (by decide : 3 + 3 ≤ _)⟩)
            dsimp only [Pt.U, Pt.locs, Pt.cells, Pt.slots] at X213 l213 y213 z213 st213 hQ213
            have yq213 : k213 = 3 := y213
            have zq213 : n213 = 6 := z213
            subst yq213 zq213
            obtain ⟨u_213, k_u_213, rfl, Nq213, Kq213, gq213_u, Oq213_0⟩ := hQ213
            have N213 : Fr n0 L213 := by rw [l213]; exact Fr.app N208 Nq213
            have Z213 : n0 ≤ T213.heap.size := Nat.le_trans Z205 Kq213.1
            have g_u_213 : n0 ≤ u_213 := Nat.le_trans Z205 gq213_u
            have ne214 : b189 ≠ u_213 := Nat.ne_of_lt (Nat.lt_of_lt_of_le F206.lt gq213_u)
            have ne215 : b191 ≠ u_213 := Nat.ne_of_lt (Nat.lt_of_lt_of_le V_207.lt gq213_u)
            have F216 := F206.keep Kq213 nin0
            have F217 := V_207.keep Kq213 nin0
            have b218 : (3 : Int32) = (3 : Int32) := (by decide)
            obtain ⟨_, _, ⟨T219, L219, k219, n219⟩, -, X219, ⟨Lc219, hQ219, l219, y219, z219⟩, st219⟩ := Jvm.LawKit.callS X213 hx (y := (⟨"com/example/strict_anon/strictanon/service/RecordSetsUnionPinLaw", "increasing", "([I)Z"⟩ : MethodName)) hown (mvT hZ (hw _ (List.mem_of_getElem? (i := 17) rfl))) (mvT hZ (hw _ (List.mem_of_getElem? (i := 18) rfl))) (mvT hZ (hw _ (List.mem_of_getElem? (i := 11) rfl))) (mvT hZ (hw _ (List.mem_of_getElem? (i := 19) rfl))) (by decide) (backOf (W := 0) (own_rm5_3 l Z av hw [] u_213 k_u_213 p0 m9 m10 T213.heap n0 Z213 Oq213_0) hZ (hw _ (List.mem_of_getElem? (i := 19) rfl)) (hw _ (List.mem_of_getElem? (i := 11) rfl)) (by decide) (by decide)) (g := (mkF m 184 #[oi p0, oi p1, oi p2, oi p3, oi p4, oi (1 : Int32), oi (2 : Int32), oi m7, oi m8, oi m9, oi m10, oa b189, oa b191, oa u_213] [(.ref u_213)])) rfl (by rw [hml]; rfl) (argsL := [(.ref u_213)]) (rest := []) (lenOf own_pd4 rfl) rfl (by show 2 * 0 + _ ≤ _; exact Nat.le_of_eq rfl) (hb hby at_184) (fun _ _ => ⟨rfl, rfl, (by decide : 3 + 0 ≤ _), (by decide : 6 + 0 ≤ _)⟩)
            dsimp only [Pt.U, Pt.locs, Pt.cells, Pt.slots] at X219 l219 y219 z219 st219 hQ219
            have yq219 : k219 = 3 := y219
            have zq219 : n219 = 6 := z219
            subst yq219 zq219
            obtain ⟨rfl, Nq219, eq219⟩ := hQ219
            have N219 : Fr n0 L219 := by rw [l219]; exact Fr.app N213 Nq219
            have b220 : ¬ ((own_f5_3 p0 m9 m10) = (0 : Int32)) := by unfold own_f5_3; (try simp only [own_ltp]); (repeat' split) <;> first | decide | (exfalso; omega)
            obtain ⟨_, _, ⟨T221, L221, k221, n221⟩, -, X221, ⟨Lc221, hQ221, l221, y221, z221⟩, st221⟩ := Jvm.LawKit.callS X219 hx (y := (⟨"com/example/strict_anon/strictanon/service/RecordSetsUnionPinLaw", "containsAll", "([I[I)Z"⟩ : MethodName)) hown (mvT hZ (hw _ (List.mem_of_getElem? (i := 20) rfl))) (mvT hZ (hw _ (List.mem_of_getElem? (i := 21) rfl))) (mvT hZ (hw _ (List.mem_of_getElem? (i := 11) rfl))) (mvT hZ (hw _ (List.mem_of_getElem? (i := 22) rfl))) (by decide) (backOf (W := 0) (own_rm6_31 l Z av hw [] u_213 b189 k_u_213 p0 m9 m10 k189 p0 T213.heap n0 Z213 Oq213_0 F216) hZ (hw _ (List.mem_of_getElem? (i := 22) rfl)) (hw _ (List.mem_of_getElem? (i := 11) rfl)) (by decide) (by decide)) (g := (mkF m 196 #[oi p0, oi p1, oi p2, oi p3, oi p4, oi (1 : Int32), oi (2 : Int32), oi m7, oi m8, oi m9, oi m10, oa b189, oa b191, oa u_213] [(.ref b189), (.ref u_213)])) rfl (by rw [hml]; rfl) (argsL := [(.ref u_213), (.ref b189)]) (rest := []) (lenOf own_pd2 rfl) rfl (by show 2 * 0 + _ ≤ _; exact Nat.le_of_eq rfl) (hb hby at_196) (fun _ _ => ⟨rfl, eq219, (by decide : 3 + 0 ≤ _), (by decide : 6 + 0 ≤ _)⟩)
            dsimp only [Pt.U, Pt.locs, Pt.cells, Pt.slots] at X221 l221 y221 z221 st221 hQ221
            have yq221 : k221 = 3 := y221
            have zq221 : n221 = 6 := z221
            subst yq221 zq221
            obtain ⟨rfl, Nq221, eq221⟩ := hQ221
            have N221 : Fr n0 L221 := by rw [l221]; exact Fr.app N219 Nq221
            have b222 : ¬ ((own_f6_31 p0 m9 m10 p0) = (0 : Int32)) := by simp [own_f6_31, own_f7_3]
            obtain ⟨_, _, ⟨T223, L223, k223, n223⟩, -, X223, ⟨Lc223, hQ223, l223, y223, z223⟩, st223⟩ := Jvm.LawKit.callS X221 hx (y := (⟨"com/example/strict_anon/strictanon/service/RecordSetsUnionPinLaw", "containsAll", "([I[I)Z"⟩ : MethodName)) hown (mvT hZ (hw _ (List.mem_of_getElem? (i := 20) rfl))) (mvT hZ (hw _ (List.mem_of_getElem? (i := 21) rfl))) (mvT hZ (hw _ (List.mem_of_getElem? (i := 11) rfl))) (mvT hZ (hw _ (List.mem_of_getElem? (i := 22) rfl))) (by decide) (backOf (W := 0) (own_rm6_32 l Z av hw [] u_213 b191 k_u_213 p0 m9 m10 k191 m9 m10 T213.heap n0 Z213 Oq213_0 F217) hZ (hw _ (List.mem_of_getElem? (i := 22) rfl)) (hw _ (List.mem_of_getElem? (i := 11) rfl)) (by decide) (by decide)) (g := (mkF m 206 #[oi p0, oi p1, oi p2, oi p3, oi p4, oi (1 : Int32), oi (2 : Int32), oi m7, oi m8, oi m9, oi m10, oa b189, oa b191, oa u_213] [(.ref b191), (.ref u_213)])) rfl (by rw [hml]; rfl) (argsL := [(.ref u_213), (.ref b191)]) (rest := []) (lenOf own_pd2 rfl) rfl (by show 2 * 0 + _ ≤ _; exact Nat.le_of_eq rfl) (hb hby at_206) (fun _ _ => ⟨rfl, eq221, (by decide : 3 + 0 ≤ _), (by decide : 6 + 0 ≤ _)⟩)
            dsimp only [Pt.U, Pt.locs, Pt.cells, Pt.slots] at X223 l223 y223 z223 st223 hQ223
            have yq223 : k223 = 3 := y223
            have zq223 : n223 = 6 := z223
            subst yq223 zq223
            obtain ⟨rfl, Nq223, eq223⟩ := hQ223
            have N223 : Fr n0 L223 := by rw [l223]; exact Fr.app N221 Nq223
            have b224 : ¬ ((own_f6_32 p0 m9 m10 m9 m10) = (0 : Int32)) := by simp [own_f6_32, own_f7_3]
            obtain ⟨fs, hr, hrun, hended, hW, hsame⟩ := X223.leave (v := (some (.int (1 : Int32)))) (fun h => by rw [Bd.returns] at h; cases h)
            refine ⟨_, _, pre211 _ ?_, hrun, hended, _, _, rfl, ?_, ⟨_, rfl⟩, hW, hsame.mono (by decide) (by decide)⟩
            · show oS p e below T208 m 164 #[oi p0, oi p1, oi p2, oi p3, oi p4, oi (1 : Int32), oi (2 : Int32), oi m7, oi m8, oi m9, oi m10, oa b189, oa b191, .unset] [(.ref b191), (.ref b189)] _
              refine st213 _ ?_
              show oS p e below T213 m 167 #[oi p0, oi p1, oi p2, oi p3, oi p4, oi (1 : Int32), oi (2 : Int32), oi m7, oi m8, oi m9, oi m10, oa b189, oa b191, .unset] [(.ref u_213)] _
              refine XS.astore X213.here hx rfl (hb hby at_167) rfl rfl (l' := #[oi p0, oi p1, oi p2, oi p3, oi p4, oi (1 : Int32), oi (2 : Int32), oi m7, oi m8, oi m9, oi m10, oa b189, oa b191, oa u_213]) rfl ?_
              refine XS.aload X213.here hx rfl (hb hby at_169) rfl rfl ?_
              show oS p e below T213 m 171 #[oi p0, oi p1, oi p2, oi p3, oi p4, oi (1 : Int32), oi (2 : Int32), oi m7, oi m8, oi m9, oi m10, oa b189, oa b191, oa u_213] [(.ref u_213)] _
              refine oLen X213 hx hZ rfl Oq213_0 (hb hby at_171) ?_
              refine XS.iload X213.here hx rfl (hb hby at_172) rfl ?_
              refine XS.iload X213.here hx rfl (hb hby at_174) rfl ?_
              refine XS.iadd X213.here hx rfl (hb hby at_176) rfl ?_
              show oS p e below T213 m 177 #[oi p0, oi p1, oi p2, oi p3, oi p4, oi (1 : Int32), oi (2 : Int32), oi m7, oi m8, oi m9, oi m10, oa b189, oa b191, oa u_213] [(.int (3 : Int32)), (.int (3 : Int32))] _
              refine XS.icmpYes X213.here hx rfl (pc0 := 177) (pc' := 182) rfl (hb hby at_177) rfl (teq b218).1 (by decide) (by decide) ?_
              refine XS.aload X213.here hx rfl (hb hby at_182) rfl rfl ?_
              show oS p e below T213 m 184 #[oi p0, oi p1, oi p2, oi p3, oi p4, oi (1 : Int32), oi (2 : Int32), oi m7, oi m8, oi m9, oi m10, oa b189, oa b191, oa u_213] [(.ref u_213)] _
              refine st219 _ ?_
              show oS p e below T219 m 187 #[oi p0, oi p1, oi p2, oi p3, oi p4, oi (1 : Int32), oi (2 : Int32), oi m7, oi m8, oi m9, oi m10, oa b189, oa b191, oa u_213] [(.int (own_f5_3 p0 m9 m10))] _
              refine XS.ifYes X219.here hx rfl (pc0 := 187) (pc' := 192) rfl (hb hby at_187) rfl ((if0 _ _).trans (feq b220).2) (by decide) (by decide) ?_
              refine XS.aload X219.here hx rfl (hb hby at_192) rfl rfl ?_
              refine XS.aload X219.here hx rfl (hb hby at_194) rfl rfl ?_
              show oS p e below T219 m 196 #[oi p0, oi p1, oi p2, oi p3, oi p4, oi (1 : Int32), oi (2 : Int32), oi m7, oi m8, oi m9, oi m10, oa b189, oa b191, oa u_213] [(.ref b189), (.ref u_213)] _
              refine st221 _ ?_
              show oS p e below T221 m 199 #[oi p0, oi p1, oi p2, oi p3, oi p4, oi (1 : Int32), oi (2 : Int32), oi m7, oi m8, oi m9, oi m10, oa b189, oa b191, oa u_213] [(.int (own_f6_31 p0 m9 m10 p0))] _
              refine XS.ifNo X221.here hx rfl (hb hby at_199) rfl ((if0 _ _).trans (feq b222).1) ?_
              refine XS.aload X221.here hx rfl (hb hby at_202) rfl rfl ?_
              refine XS.aload X221.here hx rfl (hb hby at_204) rfl rfl ?_
              show oS p e below T221 m 206 #[oi p0, oi p1, oi p2, oi p3, oi p4, oi (1 : Int32), oi (2 : Int32), oi m7, oi m8, oi m9, oi m10, oa b189, oa b191, oa u_213] [(.ref b191), (.ref u_213)] _
              refine st223 _ ?_
              show oS p e below T223 m 209 #[oi p0, oi p1, oi p2, oi p3, oi p4, oi (1 : Int32), oi (2 : Int32), oi m7, oi m8, oi m9, oi m10, oa b189, oa b191, oa u_213] [(.int (own_f6_32 p0 m9 m10 m9 m10))] _
              refine XS.ifNo X223.here hx rfl (hb hby at_209) rfl ((if0 _ _).trans (feq b224).1) ?_
              refine XS.iconst X223.here hx rfl (hb hby at_212) ?_
              refine XS.goto X223.here hx rfl (pc0 := 213) (pc' := 217) rfl (hb hby at_213) (by decide) (by decide) ?_
              show oS p e below T223 m 217 #[oi p0, oi p1, oi p2, oi p3, oi p4, oi (1 : Int32), oi (2 : Int32), oi m7, oi m8, oi m9, oi m10, oa b189, oa b191, oa u_213] [(.int (1 : Int32))] _
              exact retN X223 hx (t := .boolean) Bd.returns (by simp) (hb hby at_217) hr
            · show own_Q0 Z p0 p1 p2 p3 p4 h0 n0 _ T223.heap _
              rw [eq223]
              exact ⟨rfl, N223⟩
          · skip
            have mc212 := c212
            simp only [own_ltp] at mc212
            by_cases c225 : p0 < m10
            · skip
              have mc225 := c225
              simp only [own_ltp] at mc225
              obtain ⟨_, _, ⟨T226, L226, k226, n226⟩, -, X226, ⟨Lc226, hQ226, l226, y226, z226⟩, st226⟩ := Jvm.LawKit.callS X208 hx (y := (⟨"com/example/strict_anon/strictanon/service/RecordSets", "union", "([I[I)[I"⟩ : MethodName)) hown (mvT hZ (hw _ (List.mem_of_getElem? (i := 13) rfl))) (mvT hZ (hw _ (List.mem_of_getElem? (i := 14) rfl))) (mvT hZ (hw _ (List.mem_of_getElem? (i := 15) rfl))) (mvT hZ (hw _ (List.mem_of_getElem? (i := 16) rfl))) (by decide) (backOf (W := 0) (own_rm4_12yxy l Z av hw [] b189 b191 k189 p0 k191 m9 m10 h205 n0 Z205 F206 V_207 (c212) (c225)) hZ (hw _ (List.mem_of_getElem? (i := 16) rfl)) (hw _ (List.mem_of_getElem? (i := 15) rfl)) (by decide) (by decide)) (g := (mkF m 164 #[oi p0, oi p1, oi p2, oi p3, oi p4, oi (1 : Int32), oi (2 : Int32), oi m7, oi m8, oi m9, oi m10, oa b189, oa b191, .unset] [(.ref b191), (.ref b189)])) rfl (by rw [hml]; rfl) (argsL := [(.ref b189), (.ref b191)]) (rest := []) (lenOf own_pd3 rfl) rfl (by show 2 * 0 + _ ≤ _; exact Nat.le_of_eq rfl) (hb hby at_164) (fun _ _ => ⟨rfl, eq208, (by decide : 2 + 1 ≤ _), (by decide : 3 + 3 ≤ _)⟩)
              dsimp only [Pt.U, Pt.locs, Pt.cells, Pt.slots] at X226 l226 y226 z226 st226 hQ226
              have yq226 : k226 = 3 := y226
              have zq226 : n226 = 6 := z226
              subst yq226 zq226
              obtain ⟨u_226, k_u_226, rfl, Nq226, Kq226, gq226_u, Oq226_0⟩ := hQ226
              have N226 : Fr n0 L226 := by rw [l226]; exact Fr.app N208 Nq226
              have Z226 : n0 ≤ T226.heap.size := Nat.le_trans Z205 Kq226.1
              have g_u_226 : n0 ≤ u_226 := Nat.le_trans Z205 gq226_u
              have ne227 : b189 ≠ u_226 := Nat.ne_of_lt (Nat.lt_of_lt_of_le F206.lt gq226_u)
              have ne228 : b191 ≠ u_226 := Nat.ne_of_lt (Nat.lt_of_lt_of_le V_207.lt gq226_u)
              have F229 := F206.keep Kq226 nin0
              have F230 := V_207.keep Kq226 nin0
              have b231 : (3 : Int32) = (3 : Int32) := (by decide)
              obtain ⟨_, _, ⟨T232, L232, k232, n232⟩, -, X232, ⟨Lc232, hQ232, l232, y232, z232⟩, st232⟩ := Jvm.LawKit.callS X226 hx (y := (⟨"com/example/strict_anon/strictanon/service/RecordSetsUnionPinLaw", "increasing", "([I)Z"⟩ : MethodName)) hown (mvT hZ (hw _ (List.mem_of_getElem? (i := 17) rfl))) (mvT hZ (hw _ (List.mem_of_getElem? (i := 18) rfl))) (mvT hZ (hw _ (List.mem_of_getElem? (i := 11) rfl))) (mvT hZ (hw _ (List.mem_of_getElem? (i := 19) rfl))) (by decide) (backOf (W := 0) (own_rm5_3 l Z av hw [] u_226 k_u_226 m9 p0 m10 T226.heap n0 Z226 Oq226_0) hZ (hw _ (List.mem_of_getElem? (i := 19) rfl)) (hw _ (List.mem_of_getElem? (i := 11) rfl)) (by decide) (by decide)) (g := (mkF m 184 #[oi p0, oi p1, oi p2, oi p3, oi p4, oi (1 : Int32), oi (2 : Int32), oi m7, oi m8, oi m9, oi m10, oa b189, oa b191, oa u_226] [(.ref u_226)])) rfl (by rw [hml]; rfl) (argsL := [(.ref u_226)]) (rest := []) (lenOf own_pd4 rfl) rfl (by show 2 * 0 + _ ≤ _; exact Nat.le_of_eq rfl) (hb hby at_184) (fun _ _ => ⟨rfl, rfl, (by decide : 3 + 0 ≤ _), (by decide : 6 + 0 ≤ _)⟩)
              dsimp only [Pt.U, Pt.locs, Pt.cells, Pt.slots] at X232 l232 y232 z232 st232 hQ232
              have yq232 : k232 = 3 := y232
              have zq232 : n232 = 6 := z232
              subst yq232 zq232
              obtain ⟨rfl, Nq232, eq232⟩ := hQ232
              have N232 : Fr n0 L232 := by rw [l232]; exact Fr.app N226 Nq232
              have b233 : ¬ ((own_f5_3 m9 p0 m10) = (0 : Int32)) := by unfold own_f5_3; (try simp only [own_ltp]); (repeat' split) <;> first | decide | (exfalso; omega)
              obtain ⟨_, _, ⟨T234, L234, k234, n234⟩, -, X234, ⟨Lc234, hQ234, l234, y234, z234⟩, st234⟩ := Jvm.LawKit.callS X232 hx (y := (⟨"com/example/strict_anon/strictanon/service/RecordSetsUnionPinLaw", "containsAll", "([I[I)Z"⟩ : MethodName)) hown (mvT hZ (hw _ (List.mem_of_getElem? (i := 20) rfl))) (mvT hZ (hw _ (List.mem_of_getElem? (i := 21) rfl))) (mvT hZ (hw _ (List.mem_of_getElem? (i := 11) rfl))) (mvT hZ (hw _ (List.mem_of_getElem? (i := 22) rfl))) (by decide) (backOf (W := 0) (own_rm6_31 l Z av hw [] u_226 b189 k_u_226 m9 p0 m10 k189 p0 T226.heap n0 Z226 Oq226_0 F229) hZ (hw _ (List.mem_of_getElem? (i := 22) rfl)) (hw _ (List.mem_of_getElem? (i := 11) rfl)) (by decide) (by decide)) (g := (mkF m 196 #[oi p0, oi p1, oi p2, oi p3, oi p4, oi (1 : Int32), oi (2 : Int32), oi m7, oi m8, oi m9, oi m10, oa b189, oa b191, oa u_226] [(.ref b189), (.ref u_226)])) rfl (by rw [hml]; rfl) (argsL := [(.ref u_226), (.ref b189)]) (rest := []) (lenOf own_pd2 rfl) rfl (by show 2 * 0 + _ ≤ _; exact Nat.le_of_eq rfl) (hb hby at_196) (fun _ _ => ⟨rfl, eq232, (by decide : 3 + 0 ≤ _), (by decide : 6 + 0 ≤ _)⟩)
              dsimp only [Pt.U, Pt.locs, Pt.cells, Pt.slots] at X234 l234 y234 z234 st234 hQ234
              have yq234 : k234 = 3 := y234
              have zq234 : n234 = 6 := z234
              subst yq234 zq234
              obtain ⟨rfl, Nq234, eq234⟩ := hQ234
              have N234 : Fr n0 L234 := by rw [l234]; exact Fr.app N232 Nq234
              have b235 : ¬ ((own_f6_31 m9 p0 m10 p0) = (0 : Int32)) := by simp [own_f6_31, own_f7_3]
              obtain ⟨_, _, ⟨T236, L236, k236, n236⟩, -, X236, ⟨Lc236, hQ236, l236, y236, z236⟩, st236⟩ := Jvm.LawKit.callS X234 hx (y := (⟨"com/example/strict_anon/strictanon/service/RecordSetsUnionPinLaw", "containsAll", "([I[I)Z"⟩ : MethodName)) hown (mvT hZ (hw _ (List.mem_of_getElem? (i := 20) rfl))) (mvT hZ (hw _ (List.mem_of_getElem? (i := 21) rfl))) (mvT hZ (hw _ (List.mem_of_getElem? (i := 11) rfl))) (mvT hZ (hw _ (List.mem_of_getElem? (i := 22) rfl))) (by decide) (backOf (W := 0) (own_rm6_32 l Z av hw [] u_226 b191 k_u_226 m9 p0 m10 k191 m9 m10 T226.heap n0 Z226 Oq226_0 F230) hZ (hw _ (List.mem_of_getElem? (i := 22) rfl)) (hw _ (List.mem_of_getElem? (i := 11) rfl)) (by decide) (by decide)) (g := (mkF m 206 #[oi p0, oi p1, oi p2, oi p3, oi p4, oi (1 : Int32), oi (2 : Int32), oi m7, oi m8, oi m9, oi m10, oa b189, oa b191, oa u_226] [(.ref b191), (.ref u_226)])) rfl (by rw [hml]; rfl) (argsL := [(.ref u_226), (.ref b191)]) (rest := []) (lenOf own_pd2 rfl) rfl (by show 2 * 0 + _ ≤ _; exact Nat.le_of_eq rfl) (hb hby at_206) (fun _ _ => ⟨rfl, eq234, (by decide : 3 + 0 ≤ _), (by decide : 6 + 0 ≤ _)⟩)
              dsimp only [Pt.U, Pt.locs, Pt.cells, Pt.slots] at X236 l236 y236 z236 st236 hQ236
              have yq236 : k236 = 3 := y236
              have zq236 : n236 = 6 := z236
              subst yq236 zq236
              obtain ⟨rfl, Nq236, eq236⟩ := hQ236
              have N236 : Fr n0 L236 := by rw [l236]; exact Fr.app N234 Nq236
              have b237 : ¬ ((own_f6_32 m9 p0 m10 m9 m10) = (0 : Int32)) := by simp [own_f6_32, own_f7_3]
              obtain ⟨fs, hr, hrun, hended, hW, hsame⟩ := X236.leave (v := (some (.int (1 : Int32)))) (fun h => by rw [Bd.returns] at h; cases h)
              refine ⟨_, _, pre211 _ ?_, hrun, hended, _, _, rfl, ?_, ⟨_, rfl⟩, hW, hsame.mono (by decide) (by decide)⟩
              · show oS p e below T208 m 164 #[oi p0, oi p1, oi p2, oi p3, oi p4, oi (1 : Int32), oi (2 : Int32), oi m7, oi m8, oi m9, oi m10, oa b189, oa b191, .unset] [(.ref b191), (.ref b189)] _
                refine st226 _ ?_
                show oS p e below T226 m 167 #[oi p0, oi p1, oi p2, oi p3, oi p4, oi (1 : Int32), oi (2 : Int32), oi m7, oi m8, oi m9, oi m10, oa b189, oa b191, .unset] [(.ref u_226)] _
                refine XS.astore X226.here hx rfl (hb hby at_167) rfl rfl (l' := #[oi p0, oi p1, oi p2, oi p3, oi p4, oi (1 : Int32), oi (2 : Int32), oi m7, oi m8, oi m9, oi m10, oa b189, oa b191, oa u_226]) rfl ?_
                refine XS.aload X226.here hx rfl (hb hby at_169) rfl rfl ?_
                show oS p e below T226 m 171 #[oi p0, oi p1, oi p2, oi p3, oi p4, oi (1 : Int32), oi (2 : Int32), oi m7, oi m8, oi m9, oi m10, oa b189, oa b191, oa u_226] [(.ref u_226)] _
                refine oLen X226 hx hZ rfl Oq226_0 (hb hby at_171) ?_
                refine XS.iload X226.here hx rfl (hb hby at_172) rfl ?_
                refine XS.iload X226.here hx rfl (hb hby at_174) rfl ?_
                refine XS.iadd X226.here hx rfl (hb hby at_176) rfl ?_
                show oS p e below T226 m 177 #[oi p0, oi p1, oi p2, oi p3, oi p4, oi (1 : Int32), oi (2 : Int32), oi m7, oi m8, oi m9, oi m10, oa b189, oa b191, oa u_226] [(.int (3 : Int32)), (.int (3 : Int32))] _
                refine XS.icmpYes X226.here hx rfl (pc0 := 177) (pc' := 182) rfl (hb hby at_177) rfl (teq b231).1 (by decide) (by decide) ?_
                refine XS.aload X226.here hx rfl (hb hby at_182) rfl rfl ?_
                show oS p e below T226 m 184 #[oi p0, oi p1, oi p2, oi p3, oi p4, oi (1 : Int32), oi (2 : Int32), oi m7, oi m8, oi m9, oi m10, oa b189, oa b191, oa u_226] [(.ref u_226)] _
                refine st232 _ ?_
                show oS p e below T232 m 187 #[oi p0, oi p1, oi p2, oi p3, oi p4, oi (1 : Int32), oi (2 : Int32), oi m7, oi m8, oi m9, oi m10, oa b189, oa b191, oa u_226] [(.int (own_f5_3 m9 p0 m10))] _
                refine XS.ifYes X232.here hx rfl (pc0 := 187) (pc' := 192) rfl (hb hby at_187) rfl ((if0 _ _).trans (feq b233).2) (by decide) (by decide) ?_
                refine XS.aload X232.here hx rfl (hb hby at_192) rfl rfl ?_
                refine XS.aload X232.here hx rfl (hb hby at_194) rfl rfl ?_
                show oS p e below T232 m 196 #[oi p0, oi p1, oi p2, oi p3, oi p4, oi (1 : Int32), oi (2 : Int32), oi m7, oi m8, oi m9, oi m10, oa b189, oa b191, oa u_226] [(.ref b189), (.ref u_226)] _
                refine st234 _ ?_
                show oS p e below T234 m 199 #[oi p0, oi p1, oi p2, oi p3, oi p4, oi (1 : Int32), oi (2 : Int32), oi m7, oi m8, oi m9, oi m10, oa b189, oa b191, oa u_226] [(.int (own_f6_31 m9 p0 m10 p0))] _
                refine XS.ifNo X234.here hx rfl (hb hby at_199) rfl ((if0 _ _).trans (feq b235).1) ?_
                refine XS.aload X234.here hx rfl (hb hby at_202) rfl rfl ?_
                refine XS.aload X234.here hx rfl (hb hby at_204) rfl rfl ?_
                show oS p e below T234 m 206 #[oi p0, oi p1, oi p2, oi p3, oi p4, oi (1 : Int32), oi (2 : Int32), oi m7, oi m8, oi m9, oi m10, oa b189, oa b191, oa u_226] [(.ref b191), (.ref u_226)] _
                refine st236 _ ?_
                show oS p e below T236 m 209 #[oi p0, oi p1, oi p2, oi p3, oi p4, oi (1 : Int32), oi (2 : Int32), oi m7, oi m8, oi m9, oi m10, oa b189, oa b191, oa u_226] [(.int (own_f6_32 m9 p0 m10 m9 m10))] _
                refine XS.ifNo X236.here hx rfl (hb hby at_209) rfl ((if0 _ _).trans (feq b237).1) ?_
                refine XS.iconst X236.here hx rfl (hb hby at_212) ?_
                refine XS.goto X236.here hx rfl (pc0 := 213) (pc' := 217) rfl (hb hby at_213) (by decide) (by decide) ?_
                show oS p e below T236 m 217 #[oi p0, oi p1, oi p2, oi p3, oi p4, oi (1 : Int32), oi (2 : Int32), oi m7, oi m8, oi m9, oi m10, oa b189, oa b191, oa u_226] [(.int (1 : Int32))] _
                exact retN X236 hx (t := .boolean) Bd.returns (by simp) (hb hby at_217) hr
              · show own_Q0 Z p0 p1 p2 p3 p4 h0 n0 _ T236.heap _
                rw [eq236]
                exact ⟨rfl, N236⟩
            · skip
              have mc225 := c225
              simp only [own_ltp] at mc225
              obtain ⟨_, _, ⟨T238, L238, k238, n238⟩, -, X238, ⟨Lc238, hQ238, l238, y238, z238⟩, st238⟩ := Jvm.LawKit.callS X208 hx (y := (⟨"com/example/strict_anon/strictanon/service/RecordSets", "union", "([I[I)[I"⟩ : MethodName)) hown (mvT hZ (hw _ (List.mem_of_getElem? (i := 13) rfl))) (mvT hZ (hw _ (List.mem_of_getElem? (i := 14) rfl))) (mvT hZ (hw _ (List.mem_of_getElem? (i := 15) rfl))) (mvT hZ (hw _ (List.mem_of_getElem? (i := 16) rfl))) (by decide) (backOf (W := 0) (own_rm4_12yyx l Z av hw [] b189 b191 k189 p0 k191 m9 m10 h205 n0 Z205 F206 V_207 (c212) (c225)) hZ (hw _ (List.mem_of_getElem? (i := 16) rfl)) (hw _ (List.mem_of_getElem? (i := 15) rfl)) (by decide) (by decide)) (g := (mkF m 164 #[oi p0, oi p1, oi p2, oi p3, oi p4, oi (1 : Int32), oi (2 : Int32), oi m7, oi m8, oi m9, oi m10, oa b189, oa b191, .unset] [(.ref b191), (.ref b189)])) rfl (by rw [hml]; rfl) (argsL := [(.ref b189), (.ref b191)]) (rest := []) (lenOf own_pd3 rfl) rfl (by show 2 * 0 + _ ≤ _; exact Nat.le_of_eq rfl) (hb hby at_164) (fun _ _ => ⟨rfl, eq208, (by decide : 2 + 1 ≤ _), (by decide : 3 + 3 ≤ _)⟩)
              dsimp only [Pt.U, Pt.locs, Pt.cells, Pt.slots] at X238 l238 y238 z238 st238 hQ238
              have yq238 : k238 = 3 := y238
              have zq238 : n238 = 6 := z238
              subst yq238 zq238
              obtain ⟨u_238, k_u_238, rfl, Nq238, Kq238, gq238_u, Oq238_0⟩ := hQ238
              have N238 : Fr n0 L238 := by rw [l238]; exact Fr.app N208 Nq238
              have Z238 : n0 ≤ T238.heap.size := Nat.le_trans Z205 Kq238.1
              have g_u_238 : n0 ≤ u_238 := Nat.le_trans Z205 gq238_u
              have ne239 : b189 ≠ u_238 := Nat.ne_of_lt (Nat.lt_of_lt_of_le F206.lt gq238_u)
              have ne240 : b191 ≠ u_238 := Nat.ne_of_lt (Nat.lt_of_lt_of_le V_207.lt gq238_u)
              have F241 := F206.keep Kq238 nin0
              have F242 := V_207.keep Kq238 nin0
              have b243 : (3 : Int32) = (3 : Int32) := (by decide)
              obtain ⟨_, _, ⟨T244, L244, k244, n244⟩, -, X244, ⟨Lc244, hQ244, l244, y244, z244⟩, st244⟩ := Jvm.LawKit.callS X238 hx (y := (⟨"com/example/strict_anon/strictanon/service/RecordSetsUnionPinLaw", "increasing", "([I)Z"⟩ : MethodName)) hown (mvT hZ (hw _ (List.mem_of_getElem? (i := 17) rfl))) (mvT hZ (hw _ (List.mem_of_getElem? (i := 18) rfl))) (mvT hZ (hw _ (List.mem_of_getElem? (i := 11) rfl))) (mvT hZ (hw _ (List.mem_of_getElem? (i := 19) rfl))) (by decide) (backOf (W := 0) (own_rm5_3 l Z av hw [] u_238 k_u_238 m9 m10 p0 T238.heap n0 Z238 Oq238_0) hZ (hw _ (List.mem_of_getElem? (i := 19) rfl)) (hw _ (List.mem_of_getElem? (i := 11) rfl)) (by decide) (by decide)) (g := (mkF m 184 #[oi p0, oi p1, oi p2, oi p3, oi p4, oi (1 : Int32), oi (2 : Int32), oi m7, oi m8, oi m9, oi m10, oa b189, oa b191, oa u_238] [(.ref u_238)])) rfl (by rw [hml]; rfl) (argsL := [(.ref u_238)]) (rest := []) (lenOf own_pd4 rfl) rfl (by show 2 * 0 + _ ≤ _; exact Nat.le_of_eq rfl) (hb hby at_184) (fun _ _ => ⟨rfl, rfl, (by decide : 3 + 0 ≤ _), (by decide : 6 + 0 ≤ _)⟩)
              dsimp only [Pt.U, Pt.locs, Pt.cells, Pt.slots] at X244 l244 y244 z244 st244 hQ244
              have yq244 : k244 = 3 := y244
              have zq244 : n244 = 6 := z244
              subst yq244 zq244
              obtain ⟨rfl, Nq244, eq244⟩ := hQ244
              have N244 : Fr n0 L244 := by rw [l244]; exact Fr.app N238 Nq244
              have b245 : ¬ ((own_f5_3 m9 m10 p0) = (0 : Int32)) := by unfold own_f5_3; (try simp only [own_ltp]); (repeat' split) <;> first | decide | (exfalso; omega)
              obtain ⟨_, _, ⟨T246, L246, k246, n246⟩, -, X246, ⟨Lc246, hQ246, l246, y246, z246⟩, st246⟩ := Jvm.LawKit.callS X244 hx (y := (⟨"com/example/strict_anon/strictanon/service/RecordSetsUnionPinLaw", "containsAll", "([I[I)Z"⟩ : MethodName)) hown (mvT hZ (hw _ (List.mem_of_getElem? (i := 20) rfl))) (mvT hZ (hw _ (List.mem_of_getElem? (i := 21) rfl))) (mvT hZ (hw _ (List.mem_of_getElem? (i := 11) rfl))) (mvT hZ (hw _ (List.mem_of_getElem? (i := 22) rfl))) (by decide) (backOf (W := 0) (own_rm6_31 l Z av hw [] u_238 b189 k_u_238 m9 m10 p0 k189 p0 T238.heap n0 Z238 Oq238_0 F241) hZ (hw _ (List.mem_of_getElem? (i := 22) rfl)) (hw _ (List.mem_of_getElem? (i := 11) rfl)) (by decide) (by decide)) (g := (mkF m 196 #[oi p0, oi p1, oi p2, oi p3, oi p4, oi (1 : Int32), oi (2 : Int32), oi m7, oi m8, oi m9, oi m10, oa b189, oa b191, oa u_238] [(.ref b189), (.ref u_238)])) rfl (by rw [hml]; rfl) (argsL := [(.ref u_238), (.ref b189)]) (rest := []) (lenOf own_pd2 rfl) rfl (by show 2 * 0 + _ ≤ _; exact Nat.le_of_eq rfl) (hb hby at_196) (fun _ _ => ⟨rfl, eq244, (by decide : 3 + 0 ≤ _), (by decide : 6 + 0 ≤ _)⟩)
              dsimp only [Pt.U, Pt.locs, Pt.cells, Pt.slots] at X246 l246 y246 z246 st246 hQ246
              have yq246 : k246 = 3 := y246
              have zq246 : n246 = 6 := z246
              subst yq246 zq246
              obtain ⟨rfl, Nq246, eq246⟩ := hQ246
              have N246 : Fr n0 L246 := by rw [l246]; exact Fr.app N244 Nq246
              have b247 : ¬ ((own_f6_31 m9 m10 p0 p0) = (0 : Int32)) := by simp [own_f6_31, own_f7_3]
              obtain ⟨_, _, ⟨T248, L248, k248, n248⟩, -, X248, ⟨Lc248, hQ248, l248, y248, z248⟩, st248⟩ := Jvm.LawKit.callS X246 hx (y := (⟨"com/example/strict_anon/strictanon/service/RecordSetsUnionPinLaw", "containsAll", "([I[I)Z"⟩ : MethodName)) hown (mvT hZ (hw _ (List.mem_of_getElem? (i := 20) rfl))) (mvT hZ (hw _ (List.mem_of_getElem? (i := 21) rfl))) (mvT hZ (hw _ (List.mem_of_getElem? (i := 11) rfl))) (mvT hZ (hw _ (List.mem_of_getElem? (i := 22) rfl))) (by decide) (backOf (W := 0) (own_rm6_32 l Z av hw [] u_238 b191 k_u_238 m9 m10 p0 k191 m9 m10 T238.heap n0 Z238 Oq238_0 F242) hZ (hw _ (List.mem_of_getElem? (i := 22) rfl)) (hw _ (List.mem_of_getElem? (i := 11) rfl)) (by decide) (by decide)) (g := (mkF m 206 #[oi p0, oi p1, oi p2, oi p3, oi p4, oi (1 : Int32), oi (2 : Int32), oi m7, oi m8, oi m9, oi m10, oa b189, oa b191, oa u_238] [(.ref b191), (.ref u_238)])) rfl (by rw [hml]; rfl) (argsL := [(.ref u_238), (.ref b191)]) (rest := []) (lenOf own_pd2 rfl) rfl (by show 2 * 0 + _ ≤ _; exact Nat.le_of_eq rfl) (hb hby at_206) (fun _ _ => ⟨rfl, eq246, (by decide : 3 + 0 ≤ _), (by decide : 6 + 0 ≤ _)⟩)
              dsimp only [Pt.U, Pt.locs, Pt.cells, Pt.slots] at X248 l248 y248 z248 st248 hQ248
              have yq248 : k248 = 3 := y248
              have zq248 : n248 = 6 := z248
              subst yq248 zq248
              obtain ⟨rfl, Nq248, eq248⟩ := hQ248
              have N248 : Fr n0 L248 := by rw [l248]; exact Fr.app N246 Nq248
              have b249 : ¬ ((own_f6_32 m9 m10 p0 m9 m10) = (0 : Int32)) := by simp [own_f6_32, own_f7_3]
              obtain ⟨fs, hr, hrun, hended, hW, hsame⟩ := X248.leave (v := (some (.int (1 : Int32)))) (fun h => by rw [Bd.returns] at h; cases h)
              refine ⟨_, _, pre211 _ ?_, hrun, hended, _, _, rfl, ?_, ⟨_, rfl⟩, hW, hsame.mono (by decide) (by decide)⟩
              · show oS p e below T208 m 164 #[oi p0, oi p1, oi p2, oi p3, oi p4, oi (1 : Int32), oi (2 : Int32), oi m7, oi m8, oi m9, oi m10, oa b189, oa b191, .unset] [(.ref b191), (.ref b189)] _
                refine st238 _ ?_
                show oS p e below T238 m 167 #[oi p0, oi p1, oi p2, oi p3, oi p4, oi (1 : Int32), oi (2 : Int32), oi m7, oi m8, oi m9, oi m10, oa b189, oa b191, .unset] [(.ref u_238)] _
                refine XS.astore X238.here hx rfl (hb hby at_167) rfl rfl (l' := #[oi p0, oi p1, oi p2, oi p3, oi p4, oi (1 : Int32), oi (2 : Int32), oi m7, oi m8, oi m9, oi m10, oa b189, oa b191, oa u_238]) rfl ?_
                refine XS.aload X238.here hx rfl (hb hby at_169) rfl rfl ?_
                show oS p e below T238 m 171 #[oi p0, oi p1, oi p2, oi p3, oi p4, oi (1 : Int32), oi (2 : Int32), oi m7, oi m8, oi m9, oi m10, oa b189, oa b191, oa u_238] [(.ref u_238)] _
                refine oLen X238 hx hZ rfl Oq238_0 (hb hby at_171) ?_
                refine XS.iload X238.here hx rfl (hb hby at_172) rfl ?_
                refine XS.iload X238.here hx rfl (hb hby at_174) rfl ?_
                refine XS.iadd X238.here hx rfl (hb hby at_176) rfl ?_
                show oS p e below T238 m 177 #[oi p0, oi p1, oi p2, oi p3, oi p4, oi (1 : Int32), oi (2 : Int32), oi m7, oi m8, oi m9, oi m10, oa b189, oa b191, oa u_238] [(.int (3 : Int32)), (.int (3 : Int32))] _
                refine XS.icmpYes X238.here hx rfl (pc0 := 177) (pc' := 182) rfl (hb hby at_177) rfl (teq b243).1 (by decide) (by decide) ?_
                refine XS.aload X238.here hx rfl (hb hby at_182) rfl rfl ?_
                show oS p e below T238 m 184 #[oi p0, oi p1, oi p2, oi p3, oi p4, oi (1 : Int32), oi (2 : Int32), oi m7, oi m8, oi m9, oi m10, oa b189, oa b191, oa u_238] [(.ref u_238)] _
                refine st244 _ ?_
                show oS p e below T244 m 187 #[oi p0, oi p1, oi p2, oi p3, oi p4, oi (1 : Int32), oi (2 : Int32), oi m7, oi m8, oi m9, oi m10, oa b189, oa b191, oa u_238] [(.int (own_f5_3 m9 m10 p0))] _
                refine XS.ifYes X244.here hx rfl (pc0 := 187) (pc' := 192) rfl (hb hby at_187) rfl ((if0 _ _).trans (feq b245).2) (by decide) (by decide) ?_
                refine XS.aload X244.here hx rfl (hb hby at_192) rfl rfl ?_
                refine XS.aload X244.here hx rfl (hb hby at_194) rfl rfl ?_
                show oS p e below T244 m 196 #[oi p0, oi p1, oi p2, oi p3, oi p4, oi (1 : Int32), oi (2 : Int32), oi m7, oi m8, oi m9, oi m10, oa b189, oa b191, oa u_238] [(.ref b189), (.ref u_238)] _
                refine st246 _ ?_
                show oS p e below T246 m 199 #[oi p0, oi p1, oi p2, oi p3, oi p4, oi (1 : Int32), oi (2 : Int32), oi m7, oi m8, oi m9, oi m10, oa b189, oa b191, oa u_238] [(.int (own_f6_31 m9 m10 p0 p0))] _
                refine XS.ifNo X246.here hx rfl (hb hby at_199) rfl ((if0 _ _).trans (feq b247).1) ?_
                refine XS.aload X246.here hx rfl (hb hby at_202) rfl rfl ?_
                refine XS.aload X246.here hx rfl (hb hby at_204) rfl rfl ?_
                show oS p e below T246 m 206 #[oi p0, oi p1, oi p2, oi p3, oi p4, oi (1 : Int32), oi (2 : Int32), oi m7, oi m8, oi m9, oi m10, oa b189, oa b191, oa u_238] [(.ref b191), (.ref u_238)] _
                refine st248 _ ?_
                show oS p e below T248 m 209 #[oi p0, oi p1, oi p2, oi p3, oi p4, oi (1 : Int32), oi (2 : Int32), oi m7, oi m8, oi m9, oi m10, oa b189, oa b191, oa u_238] [(.int (own_f6_32 m9 m10 p0 m9 m10))] _
                refine XS.ifNo X248.here hx rfl (hb hby at_209) rfl ((if0 _ _).trans (feq b249).1) ?_
                refine XS.iconst X248.here hx rfl (hb hby at_212) ?_
                refine XS.goto X248.here hx rfl (pc0 := 213) (pc' := 217) rfl (hb hby at_213) (by decide) (by decide) ?_
                show oS p e below T248 m 217 #[oi p0, oi p1, oi p2, oi p3, oi p4, oi (1 : Int32), oi (2 : Int32), oi m7, oi m8, oi m9, oi m10, oa b189, oa b191, oa u_238] [(.int (1 : Int32))] _
                exact retN X248 hx (t := .boolean) Bd.returns (by simp) (hb hby at_217) hr
              · show own_Q0 Z p0 p1 p2 p3 p4 h0 n0 _ T248.heap _
                rw [eq248]
                exact ⟨rfl, N248⟩
        · skip
          obtain ⟨fs, hr, hrun, hended, hW, hsame⟩ := X208.leave (v := (some (.int (1 : Int32)))) (fun h => by rw [Bd.returns] at h; cases h)
          refine ⟨_, _, pre209 _ ?_, hrun, hended, _, _, rfl, ?_, ⟨_, rfl⟩, hW, hsame.mono (by decide) (by decide)⟩
          · show oS p e below T208 m 155 #[oi p0, oi p1, oi p2, oi p3, oi p4, oi (1 : Int32), oi (2 : Int32), oi m7, oi m8, oi m9, oi m10, oa b189, oa b191, .unset] [(.int (own_f3_12 p0 m9 m10))] _
            refine XS.ifNo X208.here hx rfl (hb hby at_155) rfl ((if0 _ _).trans (feq c210).1) ?_
            refine XS.iconst X208.here hx rfl (hb hby at_158) ?_
            show oS p e below T208 m 159 #[oi p0, oi p1, oi p2, oi p3, oi p4, oi (1 : Int32), oi (2 : Int32), oi m7, oi m8, oi m9, oi m10, oa b189, oa b191, .unset] [(.int (1 : Int32))] _
            exact retN X208 hx (t := .boolean) Bd.returns (by simp) (hb hby at_159) hr
          · show own_Q0 Z p0 p1 p2 p3 p4 h0 n0 _ T208.heap _
            rw [eq208]
            exact ⟨rfl, N208⟩
  · skip
    rcases km with km | km | km
    · skip
      rw [kn, km] at pre11
      have b250 : (2 : Int32) = (2 : Int32) := (by decide)
      have pre251 : ∀ t, Steps p.tables e below (T9.setTop (mkF m 58 #[oi p0, oi p1, oi p2, oi p3, oi p4, oi (2 : Int32), oi (0 : Int32), oi m7, oi m8, oi m9, oi m10, .unset, .unset, .unset] [(.int m8), (.int m7)])) t → Steps p.tables e below (s₁.setTop (entryFrame m #[(.int p0), (.int p1), (.int p2), (.int p3), (.int p4)] maxLocals)) t := by
        intro t k
        refine pre11 t ?_
        show oS p e below T9 m 48 #[oi p0, oi p1, oi p2, oi p3, oi p4, oi (2 : Int32), oi (0 : Int32), oi m7, oi m8, oi m9, oi m10, .unset, .unset, .unset] [] _
        refine XS.iload X9.here hx rfl (hb hby at_48) rfl ?_
        refine XS.iconst X9.here hx rfl (hb hby at_50) ?_
        show oS p e below T9 m 51 #[oi p0, oi p1, oi p2, oi p3, oi p4, oi (2 : Int32), oi (0 : Int32), oi m7, oi m8, oi m9, oi m10, .unset, .unset, .unset] [(.int (2 : Int32)), (.int (2 : Int32))] _
        refine XS.icmpNo X9.here hx rfl (hb hby at_51) rfl (teq b250).2 ?_
        refine XS.iload X9.here hx rfl (hb hby at_54) rfl ?_
        refine XS.iload X9.here hx rfl (hb hby at_56) rfl ?_
        exact k
      by_cases c252 : m7 = m8
      · skip
        obtain ⟨fs, hr, hrun, hended, hW, hsame⟩ := X9.leave (v := (some (.int (1 : Int32)))) (fun h => by rw [Bd.returns] at h; cases h)
        refine ⟨_, _, pre251 _ ?_, hrun, hended, _, _, rfl, ?_, ⟨_, rfl⟩, hW, hsame.mono (by decide) (by decide)⟩
        · show oS p e below T9 m 58 #[oi p0, oi p1, oi p2, oi p3, oi p4, oi (2 : Int32), oi (0 : Int32), oi m7, oi m8, oi m9, oi m10, .unset, .unset, .unset] [(.int m8), (.int m7)] _
          refine XS.icmpNo X9.here hx rfl (hb hby at_58) rfl (teq c252).2 ?_
          refine XS.iconst X9.here hx rfl (hb hby at_61) ?_
          show oS p e below T9 m 62 #[oi p0, oi p1, oi p2, oi p3, oi p4, oi (2 : Int32), oi (0 : Int32), oi m7, oi m8, oi m9, oi m10, .unset, .unset, .unset] [(.int (1 : Int32))] _
          exact retN X9 hx (t := .boolean) Bd.returns (by simp) (hb hby at_62) hr
        · show own_Q0 Z p0 p1 p2 p3 p4 h0 n0 _ T9.heap _
          rw [eq9]
          exact ⟨rfl, N9⟩
      · skip
        have hmx : m7.toInt < m8.toInt := by rw [hm7, hm8] at c252 ⊢; exact own_mm c252
        have b253 : ¬ ((0 : Int32) = (2 : Int32)) := (by decide)
        obtain ⟨T254, h254, k254, X254, e254, E254, A254, st254⟩ := newP X9 hx hZ (hw _ (List.mem_of_getElem? (i := 8) rfl)) eq9 (g := (mkF m 80 #[oi p0, oi p1, oi p2, oi p3, oi p4, oi (2 : Int32), oi (0 : Int32), oi m7, oi m8, oi m9, oi m10, .unset, .unset, .unset] [(.int (2 : Int32))])) rfl (hb hby at_80) rfl (by decide) (cap := 2) (by decide) (by decide) (by decide) (by decide)
        obtain ⟨b254, g254⟩ : ∃ z, z = h0.size := ⟨_, rfl⟩
        rw [← g254] at A254 st254
        have g_b254 : n0 ≤ b254 := Nat.le_trans Z0 (Nat.le_of_eq g254.symm)
        have Z254 : n0 ≤ h254.size := Nat.le_trans Z0 E254.1
        have V_255 : Arv Z h254 b254 k254 .int (2 : Int32) [(.int (0 : Int32)), (.int (0 : Int32))] (.int (0 : Int32)) := (Arv.new A254 (by decide)).pad (pad_rep [] (.int (0 : Int32)) 2)
        obtain ⟨T256, h256, k256, X256, e256, E256, A256, st256⟩ := newP X254 hx hZ (hw _ (List.mem_of_getElem? (i := 8) rfl)) e254 (g := (mkF m 86 #[oi p0, oi p1, oi p2, oi p3, oi p4, oi (2 : Int32), oi (0 : Int32), oi m7, oi m8, oi m9, oi m10, oa b254, .unset, .unset] [(.int (0 : Int32))])) rfl (hb hby at_86) rfl (by decide) (cap := 0) (by decide) (by decide) (by decide) (by decide)
        obtain ⟨b256, g256⟩ : ∃ z, z = h254.size := ⟨_, rfl⟩
        rw [← g256] at A256 st256
        have g_b256 : n0 ≤ b256 := Nat.le_trans Z254 (Nat.le_of_eq g256.symm)
        have ne257 : b254 ≠ b256 := Nat.ne_of_lt (Nat.lt_of_lt_of_le V_255.lt (Nat.le_of_eq g256.symm))
        have Z256 : n0 ≤ h256.size := Nat.le_trans Z254 E256.1
        have F258 := V_255.ext E256
        have V_259 : Arv Z h256 b256 k256 .int (0 : Int32) [] (.int (0 : Int32)) := (Arv.new A256 (by decide))
        have b260 : ¬ ((2 : Int32) = (1 : Int32)) := (by decide)
        have b261 : (2 : Int32) = (2 : Int32) := (by decide)
        obtain ⟨T262, h262, X262, e262, W262, V262, st262⟩ := oStI X256 hx hZ e256 F258 (j := (0 : Int32)) ⟨by decide, by decide⟩ 0 rfl (Nat.le_of_ble_eq_true rfl) (g := (mkF m 112 #[oi p0, oi p1, oi p2, oi p3, oi p4, oi (2 : Int32), oi (0 : Int32), oi m7, oi m8, oi m9, oi m10, oa b254, oa b256, .unset] [(.int m7), (.int (0 : Int32)), (.ref b254)])) rfl rfl (hb hby at_112)
        obtain ⟨Lo262, X262, N262⟩ := oOpq X262 (Fr.snoc X262 N9 g_b254)
        have Z262 := Nat.le_trans Z256 (Keep.of_wr W262).1
        have F263 := V_259.other W262 (Ne.symm ne257)
        have V_264 : Arv Z h262 b254 k254 .int (2 : Int32) [(.int m7), (.int (0 : Int32))] (.int (0 : Int32)) := V262
        obtain ⟨T265, h265, X265, e265, W265, V265, st265⟩ := oStI X262 hx hZ e262 V_264 (j := (1 : Int32)) ⟨by decide, by decide⟩ 1 rfl (Nat.le_of_ble_eq_true rfl) (g := (mkF m 118 #[oi p0, oi p1, oi p2, oi p3, oi p4, oi (2 : Int32), oi (0 : Int32), oi m7, oi m8, oi m9, oi m10, oa b254, oa b256, .unset] [(.int m8), (.int (1 : Int32)), (.ref b254)])) rfl rfl (hb hby at_118)
        obtain ⟨Lo265, X265, N265⟩ := oOpq X265 (Fr.snoc X265 N262 g_b254)
        have Z265 := Nat.le_trans Z262 (Keep.of_wr W265).1
        have F266 := F263.other W265 (Ne.symm ne257)
        have V_267 : Arv Z h265 b254 k254 .int (2 : Int32) [(.int m7), (.int m8)] (.int (0 : Int32)) := V265
        have b268 : ¬ ((0 : Int32) = (1 : Int32)) := (by decide)
        have b269 : ¬ ((0 : Int32) = (2 : Int32)) := (by decide)
        obtain ⟨_, _, ⟨T270, L270, k270, n270⟩, -, X270, ⟨Lc270, hQ270, l270, y270, z270⟩, st270⟩ := Jvm.LawKit.callS X265 hx (y := (⟨"com/example/strict_anon/strictanon/service/RecordSetsUnionPinLaw", "shares", "([I[I)Z"⟩ : MethodName)) hown (mvT hZ (hw _ (List.mem_of_getElem? (i := 9) rfl))) (mvT hZ (hw _ (List.mem_of_getElem? (i := 10) rfl))) (mvT hZ (hw _ (List.mem_of_getElem? (i := 11) rfl))) (mvT hZ (hw _ (List.mem_of_getElem? (i := 12) rfl))) (by decide) (backOf (W := 0) (own_rm3_20 l Z av hw [] b254 b256 k254 m7 m8 k256 h265 n0 Z265 V_267 F266) hZ (hw _ (List.mem_of_getElem? (i := 12) rfl)) (hw _ (List.mem_of_getElem? (i := 11) rfl)) (by decide) (by decide)) (g := (mkF m 152 #[oi p0, oi p1, oi p2, oi p3, oi p4, oi (2 : Int32), oi (0 : Int32), oi m7, oi m8, oi m9, oi m10, oa b254, oa b256, .unset] [(.ref b256), (.ref b254)])) rfl (by rw [hml]; rfl) (argsL := [(.ref b254), (.ref b256)]) (rest := []) (lenOf own_pd2 rfl) rfl (by show 2 * 0 + _ ≤ _; exact Nat.le_of_eq rfl) (hb hby at_152) (fun _ _ => ⟨rfl, e265, (by decide : 2 + 0 ≤ _), (by decide : 2 + 0 ≤ _)⟩)
        dsimp only [Pt.U, Pt.locs, Pt.cells, Pt.slots] at X270 l270 y270 z270 st270 hQ270
        have yq270 : k270 = 2 := y270
        have zq270 : n270 = 2 := z270
        subst yq270 zq270
        obtain ⟨rfl, Nq270, eq270⟩ := hQ270
        have N270 : Fr n0 L270 := by rw [l270]; exact Fr.app N265 Nq270
        have pre271 : ∀ t, Steps p.tables e below (T270.setTop (mkF m 155 #[oi p0, oi p1, oi p2, oi p3, oi p4, oi (2 : Int32), oi (0 : Int32), oi m7, oi m8, oi m9, oi m10, oa b254, oa b256, .unset] [(.int (own_f3_20 m7 m8))])) t → Steps p.tables e below (s₁.setTop (entryFrame m #[(.int p0), (.int p1), (.int p2), (.int p3), (.int p4)] maxLocals)) t := by
          intro t k
          refine pre251 t ?_
          show oS p e below T9 m 58 #[oi p0, oi p1, oi p2, oi p3, oi p4, oi (2 : Int32), oi (0 : Int32), oi m7, oi m8, oi m9, oi m10, .unset, .unset, .unset] [(.int m8), (.int m7)] _
          refine XS.icmpYes X9.here hx rfl (pc0 := 58) (pc' := 63) rfl (hb hby at_58) rfl (feq c252).2 (by decide) (by decide) ?_
          refine XS.iload X9.here hx rfl (hb hby at_63) rfl ?_
          refine XS.iconst X9.here hx rfl (hb hby at_65) ?_
          show oS p e below T9 m 66 #[oi p0, oi p1, oi p2, oi p3, oi p4, oi (2 : Int32), oi (0 : Int32), oi m7, oi m8, oi m9, oi m10, .unset, .unset, .unset] [(.int (2 : Int32)), (.int (0 : Int32))] _
          refine XS.icmpYes X9.here hx rfl (pc0 := 66) (pc' := 78) rfl (hb hby at_66) rfl (feq b253).2 (by decide) (by decide) ?_
          refine XS.iload X9.here hx rfl (hb hby at_78) rfl ?_
          show oS p e below T9 m 80 #[oi p0, oi p1, oi p2, oi p3, oi p4, oi (2 : Int32), oi (0 : Int32), oi m7, oi m8, oi m9, oi m10, .unset, .unset, .unset] [(.int (2 : Int32))] _
          refine st254 _ ?_
          show oS p e below T254 m 82 #[oi p0, oi p1, oi p2, oi p3, oi p4, oi (2 : Int32), oi (0 : Int32), oi m7, oi m8, oi m9, oi m10, .unset, .unset, .unset] [(.ref b254)] _
          refine XS.astore X254.here hx rfl (hb hby at_82) rfl rfl (l' := #[oi p0, oi p1, oi p2, oi p3, oi p4, oi (2 : Int32), oi (0 : Int32), oi m7, oi m8, oi m9, oi m10, oa b254, .unset, .unset]) rfl ?_
          refine XS.iload X254.here hx rfl (hb hby at_84) rfl ?_
          show oS p e below T254 m 86 #[oi p0, oi p1, oi p2, oi p3, oi p4, oi (2 : Int32), oi (0 : Int32), oi m7, oi m8, oi m9, oi m10, oa b254, .unset, .unset] [(.int (0 : Int32))] _
          refine st256 _ ?_
          show oS p e below T256 m 88 #[oi p0, oi p1, oi p2, oi p3, oi p4, oi (2 : Int32), oi (0 : Int32), oi m7, oi m8, oi m9, oi m10, oa b254, .unset, .unset] [(.ref b256)] _
          refine XS.astore X256.here hx rfl (hb hby at_88) rfl rfl (l' := #[oi p0, oi p1, oi p2, oi p3, oi p4, oi (2 : Int32), oi (0 : Int32), oi m7, oi m8, oi m9, oi m10, oa b254, oa b256, .unset]) rfl ?_
          refine XS.iload X256.here hx rfl (hb hby at_90) rfl ?_
          refine XS.iconst X256.here hx rfl (hb hby at_92) ?_
          show oS p e below T256 m 93 #[oi p0, oi p1, oi p2, oi p3, oi p4, oi (2 : Int32), oi (0 : Int32), oi m7, oi m8, oi m9, oi m10, oa b254, oa b256, .unset] [(.int (1 : Int32)), (.int (2 : Int32))] _
          refine XS.icmpYes X256.here hx rfl (pc0 := 93) (pc' := 101) rfl (hb hby at_93) rfl (feq b260).2 (by decide) (by decide) ?_
          refine XS.iload X256.here hx rfl (hb hby at_101) rfl ?_
          refine XS.iconst X256.here hx rfl (hb hby at_103) ?_
          show oS p e below T256 m 104 #[oi p0, oi p1, oi p2, oi p3, oi p4, oi (2 : Int32), oi (0 : Int32), oi m7, oi m8, oi m9, oi m10, oa b254, oa b256, .unset] [(.int (2 : Int32)), (.int (2 : Int32))] _
          refine XS.icmpNo X256.here hx rfl (hb hby at_104) rfl (teq b261).2 ?_
          refine XS.aload X256.here hx rfl (hb hby at_107) rfl rfl ?_
          refine XS.iconst X256.here hx rfl (hb hby at_109) ?_
          refine XS.iload X256.here hx rfl (hb hby at_110) rfl ?_
          show oS p e below T256 m 112 #[oi p0, oi p1, oi p2, oi p3, oi p4, oi (2 : Int32), oi (0 : Int32), oi m7, oi m8, oi m9, oi m10, oa b254, oa b256, .unset] [(.int m7), (.int (0 : Int32)), (.ref b254)] _
          refine st262 _ ?_
          show oS p e below T262 m 113 #[oi p0, oi p1, oi p2, oi p3, oi p4, oi (2 : Int32), oi (0 : Int32), oi m7, oi m8, oi m9, oi m10, oa b254, oa b256, .unset] [] _
          refine XS.aload X262.here hx rfl (hb hby at_113) rfl rfl ?_
          refine XS.iconst X262.here hx rfl (hb hby at_115) ?_
          refine XS.iload X262.here hx rfl (hb hby at_116) rfl ?_
          show oS p e below T262 m 118 #[oi p0, oi p1, oi p2, oi p3, oi p4, oi (2 : Int32), oi (0 : Int32), oi m7, oi m8, oi m9, oi m10, oa b254, oa b256, .unset] [(.int m8), (.int (1 : Int32)), (.ref b254)] _
          refine st265 _ ?_
          show oS p e below T265 m 119 #[oi p0, oi p1, oi p2, oi p3, oi p4, oi (2 : Int32), oi (0 : Int32), oi m7, oi m8, oi m9, oi m10, oa b254, oa b256, .unset] [] _
          refine XS.iload X265.here hx rfl (hb hby at_119) rfl ?_
          refine XS.iconst X265.here hx rfl (hb hby at_121) ?_
          show oS p e below T265 m 122 #[oi p0, oi p1, oi p2, oi p3, oi p4, oi (2 : Int32), oi (0 : Int32), oi m7, oi m8, oi m9, oi m10, oa b254, oa b256, .unset] [(.int (1 : Int32)), (.int (0 : Int32))] _
          refine XS.icmpYes X265.here hx rfl (pc0 := 122) (pc' := 130) rfl (hb hby at_122) rfl (feq b268).2 (by decide) (by decide) ?_
          refine XS.iload X265.here hx rfl (hb hby at_130) rfl ?_
          refine XS.iconst X265.here hx rfl (hb hby at_132) ?_
          show oS p e below T265 m 133 #[oi p0, oi p1, oi p2, oi p3, oi p4, oi (2 : Int32), oi (0 : Int32), oi m7, oi m8, oi m9, oi m10, oa b254, oa b256, .unset] [(.int (2 : Int32)), (.int (0 : Int32))] _
          refine XS.icmpYes X265.here hx rfl (pc0 := 133) (pc' := 148) rfl (hb hby at_133) rfl (feq b269).2 (by decide) (by decide) ?_
          refine XS.aload X265.here hx rfl (hb hby at_148) rfl rfl ?_
          refine XS.aload X265.here hx rfl (hb hby at_150) rfl rfl ?_
          show oS p e below T265 m 152 #[oi p0, oi p1, oi p2, oi p3, oi p4, oi (2 : Int32), oi (0 : Int32), oi m7, oi m8, oi m9, oi m10, oa b254, oa b256, .unset] [(.ref b256), (.ref b254)] _
          refine st270 _ ?_
          exact k
        by_cases c272 : (own_f3_20 m7 m8) = (0 : Int32)
        · skip
          have pre273 : ∀ t, Steps p.tables e below (T270.setTop (mkF m 164 #[oi p0, oi p1, oi p2, oi p3, oi p4, oi (2 : Int32), oi (0 : Int32), oi m7, oi m8, oi m9, oi m10, oa b254, oa b256, .unset] [(.ref b256), (.ref b254)])) t → Steps p.tables e below (s₁.setTop (entryFrame m #[(.int p0), (.int p1), (.int p2), (.int p3), (.int p4)] maxLocals)) t := by
            intro t k
            refine pre271 t ?_
            show oS p e below T270 m 155 #[oi p0, oi p1, oi p2, oi p3, oi p4, oi (2 : Int32), oi (0 : Int32), oi m7, oi m8, oi m9, oi m10, oa b254, oa b256, .unset] [(.int (own_f3_20 m7 m8))] _
            refine XS.ifYes X270.here hx rfl (pc0 := 155) (pc' := 160) rfl (hb hby at_155) rfl ((if0 _ _).trans (teq c272).1) (by decide) (by decide) ?_
            refine XS.aload X270.here hx rfl (hb hby at_160) rfl rfl ?_
            refine XS.aload X270.here hx rfl (hb hby at_162) rfl rfl ?_
            exact k
          obtain ⟨_, _, ⟨T274, L274, k274, n274⟩, -, X274, ⟨Lc274, hQ274, l274, y274, z274⟩, st274⟩ := Jvm.LawKit.callS X270 hx (y := (⟨"com/example/strict_anon/strictanon/service/RecordSets", "union", "([I[I)[I"⟩ : MethodName)) hown (mvT hZ (hw _ (List.mem_of_getElem? (i := 13) rfl))) (mvT hZ (hw _ (List.mem_of_getElem? (i := 14) rfl))) (mvT hZ (hw _ (List.mem_of_getElem? (i := 15) rfl))) (mvT hZ (hw _ (List.mem_of_getElem? (i := 16) rfl))) (by decide) (backOf (W := 0) (own_rm4_20xx l Z av hw [] b254 b256 k254 m7 m8 k256 h265 n0 Z265 V_267 F266) hZ (hw _ (List.mem_of_getElem? (i := 16) rfl)) (hw _ (List.mem_of_getElem? (i := 15) rfl)) (by decide) (by decide)) (g := (mkF m 164 #[oi p0, oi p1, oi p2, oi p3, oi p4, oi (2 : Int32), oi (0 : Int32), oi m7, oi m8, oi m9, oi m10, oa b254, oa b256, .unset] [(.ref b256), (.ref b254)])) rfl (by rw [hml]; rfl) (argsL := [(.ref b254), (.ref b256)]) (rest := []) (lenOf own_pd3 rfl) rfl (by show 2 * 0 + _ ≤ _; exact Nat.le_of_eq rfl) (hb hby at_164) (fun _ _ => ⟨rfl, eq270, (by decide : 2 + 1 ≤ _), (by decide : 2 + 2 ≤ _)⟩)
          dsimp only [Pt.U, Pt.locs, Pt.cells, Pt.slots] at X274 l274 y274 z274 st274 hQ274
          have yq274 : k274 = 3 := y274
          have zq274 : n274 = 4 := z274
          subst yq274 zq274
          obtain ⟨u_274, k_u_274, rfl, Nq274, Kq274, gq274_u, Oq274_0⟩ := hQ274
          have N274 : Fr n0 L274 := by rw [l274]; exact Fr.app N270 Nq274
          have Z274 : n0 ≤ T274.heap.size := Nat.le_trans Z265 Kq274.1
          have g_u_274 : n0 ≤ u_274 := Nat.le_trans Z265 gq274_u
          have ne275 : b254 ≠ u_274 := Nat.ne_of_lt (Nat.lt_of_lt_of_le V_267.lt gq274_u)
          have ne276 : b256 ≠ u_274 := Nat.ne_of_lt (Nat.lt_of_lt_of_le F266.lt gq274_u)
          have F277 := V_267.keep Kq274 nin0
          have F278 := F266.keep Kq274 nin0
          have b279 : (2 : Int32) = (2 : Int32) := (by decide)
          obtain ⟨_, _, ⟨T280, L280, k280, n280⟩, -, X280, ⟨Lc280, hQ280, l280, y280, z280⟩, st280⟩ := Jvm.LawKit.callS X274 hx (y := (⟨"com/example/strict_anon/strictanon/service/RecordSetsUnionPinLaw", "increasing", "([I)Z"⟩ : MethodName)) hown (mvT hZ (hw _ (List.mem_of_getElem? (i := 17) rfl))) (mvT hZ (hw _ (List.mem_of_getElem? (i := 18) rfl))) (mvT hZ (hw _ (List.mem_of_getElem? (i := 11) rfl))) (mvT hZ (hw _ (List.mem_of_getElem? (i := 19) rfl))) (by decide) (backOf (W := 0) (own_rm5_2 l Z av hw [] u_274 k_u_274 m7 m8 T274.heap n0 Z274 Oq274_0) hZ (hw _ (List.mem_of_getElem? (i := 19) rfl)) (hw _ (List.mem_of_getElem? (i := 11) rfl)) (by decide) (by decide)) (g := (mkF m 184 #[oi p0, oi p1, oi p2, oi p3, oi p4, oi (2 : Int32), oi (0 : Int32), oi m7, oi m8, oi m9, oi m10, oa b254, oa b256, oa u_274] [(.ref u_274)])) rfl (by rw [hml]; rfl) (argsL := [(.ref u_274)]) (rest := []) (lenOf own_pd4 rfl) rfl (by show 2 * 0 + _ ≤ _; exact Nat.le_of_eq rfl) (hb hby at_184) (fun _ _ => ⟨rfl, rfl, (by decide : 3 + 0 ≤ _), (by decide : 4 + 0 ≤ _)⟩)
          dsimp only [Pt.U, Pt.locs, Pt.cells, Pt.slots] at X280 l280 y280 z280 st280 hQ280
          have yq280 : k280 = 3 := y280
          have zq280 : n280 = 4 := z280
          subst yq280 zq280
          obtain ⟨rfl, Nq280, eq280⟩ := hQ280
          have N280 : Fr n0 L280 := by rw [l280]; exact Fr.app N274 Nq280
          have b281 : ¬ ((own_f5_2 m7 m8) = (0 : Int32)) := by unfold own_f5_2; (try simp only [own_ltp]); (repeat' split) <;> first | decide | (exfalso; omega)
          obtain ⟨_, _, ⟨T282, L282, k282, n282⟩, -, X282, ⟨Lc282, hQ282, l282, y282, z282⟩, st282⟩ := Jvm.LawKit.callS X280 hx (y := (⟨"com/example/strict_anon/strictanon/service/RecordSetsUnionPinLaw", "containsAll", "([I[I)Z"⟩ : MethodName)) hown (mvT hZ (hw _ (List.mem_of_getElem? (i := 20) rfl))) (mvT hZ (hw _ (List.mem_of_getElem? (i := 21) rfl))) (mvT hZ (hw _ (List.mem_of_getElem? (i := 11) rfl))) (mvT hZ (hw _ (List.mem_of_getElem? (i := 22) rfl))) (by decide) (backOf (W := 0) (own_rm6_22 l Z av hw [] u_274 b254 k_u_274 m7 m8 k254 m7 m8 T274.heap n0 Z274 Oq274_0 F277) hZ (hw _ (List.mem_of_getElem? (i := 22) rfl)) (hw _ (List.mem_of_getElem? (i := 11) rfl)) (by decide) (by decide)) (g := (mkF m 196 #[oi p0, oi p1, oi p2, oi p3, oi p4, oi (2 : Int32), oi (0 : Int32), oi m7, oi m8, oi m9, oi m10, oa b254, oa b256, oa u_274] [(.ref b254), (.ref u_274)])) rfl (by rw [hml]; rfl) (argsL := [(.ref u_274), (.ref b254)]) (rest := []) (lenOf own_pd2 rfl) rfl (by show 2 * 0 + _ ≤ _; exact Nat.le_of_eq rfl) (hb hby at_196) (fun _ _ => ⟨rfl, eq280, (by decide : 3 + 0 ≤ _), (by decide : 4 + 0 ≤ _)⟩)
          dsimp only [Pt.U, Pt.locs, Pt.cells, Pt.slots] at X282 l282 y282 z282 st282 hQ282
          have yq282 : k282 = 3 := y282
          have zq282 : n282 = 4 := z282
          subst yq282 zq282
          obtain ⟨rfl, Nq282, eq282⟩ := hQ282
          have N282 : Fr n0 L282 := by rw [l282]; exact Fr.app N280 Nq282
          have b283 : ¬ ((own_f6_22 m7 m8 m7 m8) = (0 : Int32)) := by simp [own_f6_22, own_f7_2]
          obtain ⟨_, _, ⟨T284, L284, k284, n284⟩, -, X284, ⟨Lc284, hQ284, l284, y284, z284⟩, st284⟩ := Jvm.LawKit.callS X282 hx (y := (⟨"com/example/strict_anon/strictanon/service/RecordSetsUnionPinLaw", "containsAll", "([I[I)Z"⟩ : MethodName)) hown (mvT hZ (hw _ (List.mem_of_getElem? (i := 20) rfl))) (mvT hZ (hw _ (List.mem_of_getElem? (i := 21) rfl))) (mvT hZ (hw _ (List.mem_of_getElem? (i := 11) rfl))) (mvT hZ (hw _ (List.mem_of_getElem? (i := 22) rfl))) (by decide) (backOf (W := 0) (own_rm6_20 l Z av hw [] u_274 b256 k_u_274 m7 m8 k256 T274.heap n0 Z274 Oq274_0 F278) hZ (hw _ (List.mem_of_getElem? (i := 22) rfl)) (hw _ (List.mem_of_getElem? (i := 11) rfl)) (by decide) (by decide)) (g := (mkF m 206 #[oi p0, oi p1, oi p2, oi p3, oi p4, oi (2 : Int32), oi (0 : Int32), oi m7, oi m8, oi m9, oi m10, oa b254, oa b256, oa u_274] [(.ref b256), (.ref u_274)])) rfl (by rw [hml]; rfl) (argsL := [(.ref u_274), (.ref b256)]) (rest := []) (lenOf own_pd2 rfl) rfl (by show 2 * 0 + _ ≤ _; exact Nat.le_of_eq rfl) (hb hby at_206) (fun _ _ => ⟨rfl, eq282, (by decide : 3 + 0 ≤ _), (by decide : 4 + 0 ≤ _)⟩)
          dsimp only [Pt.U, Pt.locs, Pt.cells, Pt.slots] at X284 l284 y284 z284 st284 hQ284
          have yq284 : k284 = 3 := y284
          have zq284 : n284 = 4 := z284
          subst yq284 zq284
          obtain ⟨rfl, Nq284, eq284⟩ := hQ284
          have N284 : Fr n0 L284 := by rw [l284]; exact Fr.app N282 Nq284
          have b285 : ¬ ((own_f6_20 m7 m8) = (0 : Int32)) := by simp [own_f6_20, own_f7_2]
          obtain ⟨fs, hr, hrun, hended, hW, hsame⟩ := X284.leave (v := (some (.int (1 : Int32)))) (fun h => by rw [Bd.returns] at h; cases h)
          refine ⟨_, _, pre273 _ ?_, hrun, hended, _, _, rfl, ?_, ⟨_, rfl⟩, hW, hsame.mono (by decide) (by decide)⟩
          · show oS p e below T270 m 164 #[oi p0, oi p1, oi p2, oi p3, oi p4, oi (2 : Int32), oi (0 : Int32), oi m7, oi m8, oi m9, oi m10, oa b254, oa b256, .unset] [(.ref b256), (.ref b254)] _
            refine st274 _ ?_
            show oS p e below T274 m 167 #[oi p0, oi p1, oi p2, oi p3, oi p4, oi (2 : Int32), oi (0 : Int32), oi m7, oi m8, oi m9, oi m10, oa b254, oa b256, .unset] [(.ref u_274)] _
            refine XS.astore X274.here hx rfl (hb hby at_167) rfl rfl (l' := #[oi p0, oi p1, oi p2, oi p3, oi p4, oi (2 : Int32), oi (0 : Int32), oi m7, oi m8, oi m9, oi m10, oa b254, oa b256, oa u_274]) rfl ?_
            refine XS.aload X274.here hx rfl (hb hby at_169) rfl rfl ?_
            show oS p e below T274 m 171 #[oi p0, oi p1, oi p2, oi p3, oi p4, oi (2 : Int32), oi (0 : Int32), oi m7, oi m8, oi m9, oi m10, oa b254, oa b256, oa u_274] [(.ref u_274)] _
            refine oLen X274 hx hZ rfl Oq274_0 (hb hby at_171) ?_
            refine XS.iload X274.here hx rfl (hb hby at_172) rfl ?_
            refine XS.iload X274.here hx rfl (hb hby at_174) rfl ?_
            refine XS.iadd X274.here hx rfl (hb hby at_176) rfl ?_
            show oS p e below T274 m 177 #[oi p0, oi p1, oi p2, oi p3, oi p4, oi (2 : Int32), oi (0 : Int32), oi m7, oi m8, oi m9, oi m10, oa b254, oa b256, oa u_274] [(.int (2 : Int32)), (.int (2 : Int32))] _
            refine XS.icmpYes X274.here hx rfl (pc0 := 177) (pc' := 182) rfl (hb hby at_177) rfl (teq b279).1 (by decide) (by decide) ?_
            refine XS.aload X274.here hx rfl (hb hby at_182) rfl rfl ?_
            show oS p e below T274 m 184 #[oi p0, oi p1, oi p2, oi p3, oi p4, oi (2 : Int32), oi (0 : Int32), oi m7, oi m8, oi m9, oi m10, oa b254, oa b256, oa u_274] [(.ref u_274)] _
            refine st280 _ ?_
            show oS p e below T280 m 187 #[oi p0, oi p1, oi p2, oi p3, oi p4, oi (2 : Int32), oi (0 : Int32), oi m7, oi m8, oi m9, oi m10, oa b254, oa b256, oa u_274] [(.int (own_f5_2 m7 m8))] _
            refine XS.ifYes X280.here hx rfl (pc0 := 187) (pc' := 192) rfl (hb hby at_187) rfl ((if0 _ _).trans (feq b281).2) (by decide) (by decide) ?_
            refine XS.aload X280.here hx rfl (hb hby at_192) rfl rfl ?_
            refine XS.aload X280.here hx rfl (hb hby at_194) rfl rfl ?_
            show oS p e below T280 m 196 #[oi p0, oi p1, oi p2, oi p3, oi p4, oi (2 : Int32), oi (0 : Int32), oi m7, oi m8, oi m9, oi m10, oa b254, oa b256, oa u_274] [(.ref b254), (.ref u_274)] _
            refine st282 _ ?_
            show oS p e below T282 m 199 #[oi p0, oi p1, oi p2, oi p3, oi p4, oi (2 : Int32), oi (0 : Int32), oi m7, oi m8, oi m9, oi m10, oa b254, oa b256, oa u_274] [(.int (own_f6_22 m7 m8 m7 m8))] _
            refine XS.ifNo X282.here hx rfl (hb hby at_199) rfl ((if0 _ _).trans (feq b283).1) ?_
            refine XS.aload X282.here hx rfl (hb hby at_202) rfl rfl ?_
            refine XS.aload X282.here hx rfl (hb hby at_204) rfl rfl ?_
            show oS p e below T282 m 206 #[oi p0, oi p1, oi p2, oi p3, oi p4, oi (2 : Int32), oi (0 : Int32), oi m7, oi m8, oi m9, oi m10, oa b254, oa b256, oa u_274] [(.ref b256), (.ref u_274)] _
            refine st284 _ ?_
            show oS p e below T284 m 209 #[oi p0, oi p1, oi p2, oi p3, oi p4, oi (2 : Int32), oi (0 : Int32), oi m7, oi m8, oi m9, oi m10, oa b254, oa b256, oa u_274] [(.int (own_f6_20 m7 m8))] _
            refine XS.ifNo X284.here hx rfl (hb hby at_209) rfl ((if0 _ _).trans (feq b285).1) ?_
            refine XS.iconst X284.here hx rfl (hb hby at_212) ?_
            refine XS.goto X284.here hx rfl (pc0 := 213) (pc' := 217) rfl (hb hby at_213) (by decide) (by decide) ?_
            show oS p e below T284 m 217 #[oi p0, oi p1, oi p2, oi p3, oi p4, oi (2 : Int32), oi (0 : Int32), oi m7, oi m8, oi m9, oi m10, oa b254, oa b256, oa u_274] [(.int (1 : Int32))] _
            exact retN X284 hx (t := .boolean) Bd.returns (by simp) (hb hby at_217) hr
          · show own_Q0 Z p0 p1 p2 p3 p4 h0 n0 _ T284.heap _
            rw [eq284]
            exact ⟨rfl, N284⟩
        · skip
          obtain ⟨fs, hr, hrun, hended, hW, hsame⟩ := X270.leave (v := (some (.int (1 : Int32)))) (fun h => by rw [Bd.returns] at h; cases h)
          refine ⟨_, _, pre271 _ ?_, hrun, hended, _, _, rfl, ?_, ⟨_, rfl⟩, hW, hsame.mono (by decide) (by decide)⟩
          · show oS p e below T270 m 155 #[oi p0, oi p1, oi p2, oi p3, oi p4, oi (2 : Int32), oi (0 : Int32), oi m7, oi m8, oi m9, oi m10, oa b254, oa b256, .unset] [(.int (own_f3_20 m7 m8))] _
            refine XS.ifNo X270.here hx rfl (hb hby at_155) rfl ((if0 _ _).trans (feq c272).1) ?_
            refine XS.iconst X270.here hx rfl (hb hby at_158) ?_
            show oS p e below T270 m 159 #[oi p0, oi p1, oi p2, oi p3, oi p4, oi (2 : Int32), oi (0 : Int32), oi m7, oi m8, oi m9, oi m10, oa b254, oa b256, .unset] [(.int (1 : Int32))] _
            exact retN X270 hx (t := .boolean) Bd.returns (by simp) (hb hby at_159) hr
          · show own_Q0 Z p0 p1 p2 p3 p4 h0 n0 _ T270.heap _
            rw [eq270]
            exact ⟨rfl, N270⟩
    · skip
      rw [kn, km] at pre11
      have b286 : (2 : Int32) = (2 : Int32) := (by decide)
      have pre287 : ∀ t, Steps p.tables e below (T9.setTop (mkF m 58 #[oi p0, oi p1, oi p2, oi p3, oi p4, oi (2 : Int32), oi (1 : Int32), oi m7, oi m8, oi m9, oi m10, .unset, .unset, .unset] [(.int m8), (.int m7)])) t → Steps p.tables e below (s₁.setTop (entryFrame m #[(.int p0), (.int p1), (.int p2), (.int p3), (.int p4)] maxLocals)) t := by
        intro t k
        refine pre11 t ?_
        show oS p e below T9 m 48 #[oi p0, oi p1, oi p2, oi p3, oi p4, oi (2 : Int32), oi (1 : Int32), oi m7, oi m8, oi m9, oi m10, .unset, .unset, .unset] [] _
        refine XS.iload X9.here hx rfl (hb hby at_48) rfl ?_
        refine XS.iconst X9.here hx rfl (hb hby at_50) ?_
        show oS p e below T9 m 51 #[oi p0, oi p1, oi p2, oi p3, oi p4, oi (2 : Int32), oi (1 : Int32), oi m7, oi m8, oi m9, oi m10, .unset, .unset, .unset] [(.int (2 : Int32)), (.int (2 : Int32))] _
        refine XS.icmpNo X9.here hx rfl (hb hby at_51) rfl (teq b286).2 ?_
        refine XS.iload X9.here hx rfl (hb hby at_54) rfl ?_
        refine XS.iload X9.here hx rfl (hb hby at_56) rfl ?_
        exact k
      by_cases c288 : m7 = m8
      · skip
        obtain ⟨fs, hr, hrun, hended, hW, hsame⟩ := X9.leave (v := (some (.int (1 : Int32)))) (fun h => by rw [Bd.returns] at h; cases h)
        refine ⟨_, _, pre287 _ ?_, hrun, hended, _, _, rfl, ?_, ⟨_, rfl⟩, hW, hsame.mono (by decide) (by decide)⟩
        · show oS p e below T9 m 58 #[oi p0, oi p1, oi p2, oi p3, oi p4, oi (2 : Int32), oi (1 : Int32), oi m7, oi m8, oi m9, oi m10, .unset, .unset, .unset] [(.int m8), (.int m7)] _
          refine XS.icmpNo X9.here hx rfl (hb hby at_58) rfl (teq c288).2 ?_
          refine XS.iconst X9.here hx rfl (hb hby at_61) ?_
          show oS p e below T9 m 62 #[oi p0, oi p1, oi p2, oi p3, oi p4, oi (2 : Int32), oi (1 : Int32), oi m7, oi m8, oi m9, oi m10, .unset, .unset, .unset] [(.int (1 : Int32))] _
          exact retN X9 hx (t := .boolean) Bd.returns (by simp) (hb hby at_62) hr
        · show own_Q0 Z p0 p1 p2 p3 p4 h0 n0 _ T9.heap _
          rw [eq9]
          exact ⟨rfl, N9⟩
      · skip
        have hmx : m7.toInt < m8.toInt := by rw [hm7, hm8] at c288 ⊢; exact own_mm c288
        have b289 : ¬ ((1 : Int32) = (2 : Int32)) := (by decide)
        obtain ⟨T290, h290, k290, X290, e290, E290, A290, st290⟩ := newP X9 hx hZ (hw _ (List.mem_of_getElem? (i := 8) rfl)) eq9 (g := (mkF m 80 #[oi p0, oi p1, oi p2, oi p3, oi p4, oi (2 : Int32), oi (1 : Int32), oi m7, oi m8, oi m9, oi m10, .unset, .unset, .unset] [(.int (2 : Int32))])) rfl (hb hby at_80) rfl (by decide) (cap := 2) (by decide) (by decide) (by decide) (by decide)
        obtain ⟨b290, g290⟩ : ∃ z, z = h0.size := ⟨_, rfl⟩
        rw [← g290] at A290 st290
        have g_b290 : n0 ≤ b290 := Nat.le_trans Z0 (Nat.le_of_eq g290.symm)
        have Z290 : n0 ≤ h290.size := Nat.le_trans Z0 E290.1
        have V_291 : Arv Z h290 b290 k290 .int (2 : Int32) [(.int (0 : Int32)), (.int (0 : Int32))] (.int (0 : Int32)) := (Arv.new A290 (by decide)).pad (pad_rep [] (.int (0 : Int32)) 2)
        obtain ⟨T292, h292, k292, X292, e292, E292, A292, st292⟩ := newP X290 hx hZ (hw _ (List.mem_of_getElem? (i := 8) rfl)) e290 (g := (mkF m 86 #[oi p0, oi p1, oi p2, oi p3, oi p4, oi (2 : Int32), oi (1 : Int32), oi m7, oi m8, oi m9, oi m10, oa b290, .unset, .unset] [(.int (1 : Int32))])) rfl (hb hby at_86) rfl (by decide) (cap := 1) (by decide) (by decide) (by decide) (by decide)
        obtain ⟨b292, g292⟩ : ∃ z, z = h290.size := ⟨_, rfl⟩
        rw [← g292] at A292 st292
        have g_b292 : n0 ≤ b292 := Nat.le_trans Z290 (Nat.le_of_eq g292.symm)
        have ne293 : b290 ≠ b292 := Nat.ne_of_lt (Nat.lt_of_lt_of_le V_291.lt (Nat.le_of_eq g292.symm))
        have Z292 : n0 ≤ h292.size := Nat.le_trans Z290 E292.1
        have F294 := V_291.ext E292
        have V_295 : Arv Z h292 b292 k292 .int (1 : Int32) [(.int (0 : Int32))] (.int (0 : Int32)) := (Arv.new A292 (by decide)).pad (pad_rep [] (.int (0 : Int32)) 1)
        have b296 : ¬ ((2 : Int32) = (1 : Int32)) := (by decide)
        have b297 : (2 : Int32) = (2 : Int32) := (by decide)
        obtain ⟨T298, h298, X298, e298, W298, V298, st298⟩ := oStI X292 hx hZ e292 F294 (j := (0 : Int32)) ⟨by decide, by decide⟩ 0 rfl (Nat.le_of_ble_eq_true rfl) (g := (mkF m 112 #[oi p0, oi p1, oi p2, oi p3, oi p4, oi (2 : Int32), oi (1 : Int32), oi m7, oi m8, oi m9, oi m10, oa b290, oa b292, .unset] [(.int m7), (.int (0 : Int32)), (.ref b290)])) rfl rfl (hb hby at_112)
        obtain ⟨Lo298, X298, N298⟩ := oOpq X298 (Fr.snoc X298 N9 g_b290)
        have Z298 := Nat.le_trans Z292 (Keep.of_wr W298).1
        have F299 := V_295.other W298 (Ne.symm ne293)
        have V_300 : Arv Z h298 b290 k290 .int (2 : Int32) [(.int m7), (.int (0 : Int32))] (.int (0 : Int32)) := V298
        obtain ⟨T301, h301, X301, e301, W301, V301, st301⟩ := oStI X298 hx hZ e298 V_300 (j := (1 : Int32)) ⟨by decide, by decide⟩ 1 rfl (Nat.le_of_ble_eq_true rfl) (g := (mkF m 118 #[oi p0, oi p1, oi p2, oi p3, oi p4, oi (2 : Int32), oi (1 : Int32), oi m7, oi m8, oi m9, oi m10, oa b290, oa b292, .unset] [(.int m8), (.int (1 : Int32)), (.ref b290)])) rfl rfl (hb hby at_118)
        obtain ⟨Lo301, X301, N301⟩ := oOpq X301 (Fr.snoc X301 N298 g_b290)
        have Z301 := Nat.le_trans Z298 (Keep.of_wr W301).1
        have F302 := F299.other W301 (Ne.symm ne293)
        have V_303 : Arv Z h301 b290 k290 .int (2 : Int32) [(.int m7), (.int m8)] (.int (0 : Int32)) := V301
        have b304 : (1 : Int32) = (1 : Int32) := (by decide)
        obtain ⟨T305, h305, X305, e305, W305, V305, st305⟩ := oStI X301 hx hZ e301 F302 (j := (0 : Int32)) ⟨by decide, by decide⟩ 0 rfl (Nat.le_of_ble_eq_true rfl) (g := (mkF m 129 #[oi p0, oi p1, oi p2, oi p3, oi p4, oi (2 : Int32), oi (1 : Int32), oi m7, oi m8, oi m9, oi m10, oa b290, oa b292, .unset] [(.int p2), (.int (0 : Int32)), (.ref b292)])) rfl rfl (hb hby at_129)
        obtain ⟨Lo305, X305, N305⟩ := oOpq X305 (Fr.snoc X305 N301 g_b292)
        have Z305 := Nat.le_trans Z301 (Keep.of_wr W305).1
        have F306 := V_303.other W305 ne293
        have V_307 : Arv Z h305 b292 k292 .int (1 : Int32) [(.int p2)] (.int (0 : Int32)) := V305
        have b308 : ¬ ((1 : Int32) = (2 : Int32)) := (by decide)
        obtain ⟨_, _, ⟨T309, L309, k309, n309⟩, -, X309, ⟨Lc309, hQ309, l309, y309, z309⟩, st309⟩ := Jvm.LawKit.callS X305 hx (y := (⟨"com/example/strict_anon/strictanon/service/RecordSetsUnionPinLaw", "shares", "([I[I)Z"⟩ : MethodName)) hown (mvT hZ (hw _ (List.mem_of_getElem? (i := 9) rfl))) (mvT hZ (hw _ (List.mem_of_getElem? (i := 10) rfl))) (mvT hZ (hw _ (List.mem_of_getElem? (i := 11) rfl))) (mvT hZ (hw _ (List.mem_of_getElem? (i := 12) rfl))) (by decide) (backOf (W := 0) (own_rm3_21 l Z av hw [] b290 b292 k290 m7 m8 k292 p2 h305 n0 Z305 F306 V_307) hZ (hw _ (List.mem_of_getElem? (i := 12) rfl)) (hw _ (List.mem_of_getElem? (i := 11) rfl)) (by decide) (by decide)) (g := (mkF m 152 #[oi p0, oi p1, oi p2, oi p3, oi p4, oi (2 : Int32), oi (1 : Int32), oi m7, oi m8, oi m9, oi m10, oa b290, oa b292, .unset] [(.ref b292), (.ref b290)])) rfl (by rw [hml]; rfl) (argsL := [(.ref b290), (.ref b292)]) (rest := []) (lenOf own_pd2 rfl) rfl (by show 2 * 0 + _ ≤ _; exact Nat.le_of_eq rfl) (hb hby at_152) (fun _ _ => ⟨rfl, e305, (by decide : 2 + 0 ≤ _), (by decide : 3 + 0 ≤ _)⟩)
        dsimp only [Pt.U, Pt.locs, Pt.cells, Pt.slots] at X309 l309 y309 z309 st309 hQ309
        have yq309 : k309 = 2 := y309
        have zq309 : n309 = 3 := z309
        subst yq309 zq309
        obtain ⟨rfl, Nq309, eq309⟩ := hQ309
        have N309 : Fr n0 L309 := by rw [l309]; exact Fr.app N305 Nq309
        have pre310 : ∀ t, Steps p.tables e below (T309.setTop (mkF m 155 #[oi p0, oi p1, oi p2, oi p3, oi p4, oi (2 : Int32), oi (1 : Int32), oi m7, oi m8, oi m9, oi m10, oa b290, oa b292, .unset] [(.int (own_f3_21 m7 m8 p2))])) t → Steps p.tables e below (s₁.setTop (entryFrame m #[(.int p0), (.int p1), (.int p2), (.int p3), (.int p4)] maxLocals)) t := by
          intro t k
          refine pre287 t ?_
          show oS p e below T9 m 58 #[oi p0, oi p1, oi p2, oi p3, oi p4, oi (2 : Int32), oi (1 : Int32), oi m7, oi m8, oi m9, oi m10, .unset, .unset, .unset] [(.int m8), (.int m7)] _
          refine XS.icmpYes X9.here hx rfl (pc0 := 58) (pc' := 63) rfl (hb hby at_58) rfl (feq c288).2 (by decide) (by decide) ?_
          refine XS.iload X9.here hx rfl (hb hby at_63) rfl ?_
          refine XS.iconst X9.here hx rfl (hb hby at_65) ?_
          show oS p e below T9 m 66 #[oi p0, oi p1, oi p2, oi p3, oi p4, oi (2 : Int32), oi (1 : Int32), oi m7, oi m8, oi m9, oi m10, .unset, .unset, .unset] [(.int (2 : Int32)), (.int (1 : Int32))] _
          refine XS.icmpYes X9.here hx rfl (pc0 := 66) (pc' := 78) rfl (hb hby at_66) rfl (feq b289).2 (by decide) (by decide) ?_
          refine XS.iload X9.here hx rfl (hb hby at_78) rfl ?_
          show oS p e below T9 m 80 #[oi p0, oi p1, oi p2, oi p3, oi p4, oi (2 : Int32), oi (1 : Int32), oi m7, oi m8, oi m9, oi m10, .unset, .unset, .unset] [(.int (2 : Int32))] _
          refine st290 _ ?_
          show oS p e below T290 m 82 #[oi p0, oi p1, oi p2, oi p3, oi p4, oi (2 : Int32), oi (1 : Int32), oi m7, oi m8, oi m9, oi m10, .unset, .unset, .unset] [(.ref b290)] _
          refine XS.astore X290.here hx rfl (hb hby at_82) rfl rfl (l' := #[oi p0, oi p1, oi p2, oi p3, oi p4, oi (2 : Int32), oi (1 : Int32), oi m7, oi m8, oi m9, oi m10, oa b290, .unset, .unset]) rfl ?_
          refine XS.iload X290.here hx rfl (hb hby at_84) rfl ?_
          show oS p e below T290 m 86 #[oi p0, oi p1, oi p2, oi p3, oi p4, oi (2 : Int32), oi (1 : Int32), oi m7, oi m8, oi m9, oi m10, oa b290, .unset, .unset] [(.int (1 : Int32))] _
          refine st292 _ ?_
          show oS p e below T292 m 88 #[oi p0, oi p1, oi p2, oi p3, oi p4, oi (2 : Int32), oi (1 : Int32), oi m7, oi m8, oi m9, oi m10, oa b290, .unset, .unset] [(.ref b292)] _
          refine XS.astore X292.here hx rfl (hb hby at_88) rfl rfl (l' := #[oi p0, oi p1, oi p2, oi p3, oi p4, oi (2 : Int32), oi (1 : Int32), oi m7, oi m8, oi m9, oi m10, oa b290, oa b292, .unset]) rfl ?_
          refine XS.iload X292.here hx rfl (hb hby at_90) rfl ?_
          refine XS.iconst X292.here hx rfl (hb hby at_92) ?_
          show oS p e below T292 m 93 #[oi p0, oi p1, oi p2, oi p3, oi p4, oi (2 : Int32), oi (1 : Int32), oi m7, oi m8, oi m9, oi m10, oa b290, oa b292, .unset] [(.int (1 : Int32)), (.int (2 : Int32))] _
          refine XS.icmpYes X292.here hx rfl (pc0 := 93) (pc' := 101) rfl (hb hby at_93) rfl (feq b296).2 (by decide) (by decide) ?_
          refine XS.iload X292.here hx rfl (hb hby at_101) rfl ?_
          refine XS.iconst X292.here hx rfl (hb hby at_103) ?_
          show oS p e below T292 m 104 #[oi p0, oi p1, oi p2, oi p3, oi p4, oi (2 : Int32), oi (1 : Int32), oi m7, oi m8, oi m9, oi m10, oa b290, oa b292, .unset] [(.int (2 : Int32)), (.int (2 : Int32))] _
          refine XS.icmpNo X292.here hx rfl (hb hby at_104) rfl (teq b297).2 ?_
          refine XS.aload X292.here hx rfl (hb hby at_107) rfl rfl ?_
          refine XS.iconst X292.here hx rfl (hb hby at_109) ?_
          refine XS.iload X292.here hx rfl (hb hby at_110) rfl ?_
          show oS p e below T292 m 112 #[oi p0, oi p1, oi p2, oi p3, oi p4, oi (2 : Int32), oi (1 : Int32), oi m7, oi m8, oi m9, oi m10, oa b290, oa b292, .unset] [(.int m7), (.int (0 : Int32)), (.ref b290)] _
          refine st298 _ ?_
          show oS p e below T298 m 113 #[oi p0, oi p1, oi p2, oi p3, oi p4, oi (2 : Int32), oi (1 : Int32), oi m7, oi m8, oi m9, oi m10, oa b290, oa b292, .unset] [] _
          refine XS.aload X298.here hx rfl (hb hby at_113) rfl rfl ?_
          refine XS.iconst X298.here hx rfl (hb hby at_115) ?_
          refine XS.iload X298.here hx rfl (hb hby at_116) rfl ?_
          show oS p e below T298 m 118 #[oi p0, oi p1, oi p2, oi p3, oi p4, oi (2 : Int32), oi (1 : Int32), oi m7, oi m8, oi m9, oi m10, oa b290, oa b292, .unset] [(.int m8), (.int (1 : Int32)), (.ref b290)] _
          refine st301 _ ?_
          show oS p e below T301 m 119 #[oi p0, oi p1, oi p2, oi p3, oi p4, oi (2 : Int32), oi (1 : Int32), oi m7, oi m8, oi m9, oi m10, oa b290, oa b292, .unset] [] _
          refine XS.iload X301.here hx rfl (hb hby at_119) rfl ?_
          refine XS.iconst X301.here hx rfl (hb hby at_121) ?_
          show oS p e below T301 m 122 #[oi p0, oi p1, oi p2, oi p3, oi p4, oi (2 : Int32), oi (1 : Int32), oi m7, oi m8, oi m9, oi m10, oa b290, oa b292, .unset] [(.int (1 : Int32)), (.int (1 : Int32))] _
          refine XS.icmpNo X301.here hx rfl (hb hby at_122) rfl (teq b304).2 ?_
          refine XS.aload X301.here hx rfl (hb hby at_125) rfl rfl ?_
          refine XS.iconst X301.here hx rfl (hb hby at_127) ?_
          refine XS.iloadN X301.here hx rfl (hb hby at_128) rfl ?_
          show oS p e below T301 m 129 #[oi p0, oi p1, oi p2, oi p3, oi p4, oi (2 : Int32), oi (1 : Int32), oi m7, oi m8, oi m9, oi m10, oa b290, oa b292, .unset] [(.int p2), (.int (0 : Int32)), (.ref b292)] _
          refine st305 _ ?_
          show oS p e below T305 m 130 #[oi p0, oi p1, oi p2, oi p3, oi p4, oi (2 : Int32), oi (1 : Int32), oi m7, oi m8, oi m9, oi m10, oa b290, oa b292, .unset] [] _
          refine XS.iload X305.here hx rfl (hb hby at_130) rfl ?_
          refine XS.iconst X305.here hx rfl (hb hby at_132) ?_
          show oS p e below T305 m 133 #[oi p0, oi p1, oi p2, oi p3, oi p4, oi (2 : Int32), oi (1 : Int32), oi m7, oi m8, oi m9, oi m10, oa b290, oa b292, .unset] [(.int (2 : Int32)), (.int (1 : Int32))] _
          refine XS.icmpYes X305.here hx rfl (pc0 := 133) (pc' := 148) rfl (hb hby at_133) rfl (feq b308).2 (by decide) (by decide) ?_
          refine XS.aload X305.here hx rfl (hb hby at_148) rfl rfl ?_
          refine XS.aload X305.here hx rfl (hb hby at_150) rfl rfl ?_
          show oS p e below T305 m 152 #[oi p0, oi p1, oi p2, oi p3, oi p4, oi (2 : Int32), oi (1 : Int32), oi m7, oi m8, oi m9, oi m10, oa b290, oa b292, .unset] [(.ref b292), (.ref b290)] _
          refine st309 _ ?_
          exact k
        by_cases c311 : (own_f3_21 m7 m8 p2) = (0 : Int32)
        · skip
          have ne_m7_p2 : m7.toInt ≠ p2.toInt := by
            intro q
            have q' := Int32.toInt_inj.mp q
            rw [q'] at c311
            simp [own_f3_21, own_f7_1] at c311
          have ne_m8_p2 : m8.toInt ≠ p2.toInt := by
            intro q
            have q' := Int32.toInt_inj.mp q
            rw [q'] at c311
            simp [own_f3_21, own_f7_1] at c311
          have pre312 : ∀ t, Steps p.tables e below (T309.setTop (mkF m 164 #[oi p0, oi p1, oi p2, oi p3, oi p4, oi (2 : Int32), oi (1 : Int32), oi m7, oi m8, oi m9, oi m10, oa b290, oa b292, .unset] [(.ref b292), (.ref b290)])) t → Steps p.tables e below (s₁.setTop (entryFrame m #[(.int p0), (.int p1), (.int p2), (.int p3), (.int p4)] maxLocals)) t := by
            intro t k
            refine pre310 t ?_
            show oS p e below T309 m 155 #[oi p0, oi p1, oi p2, oi p3, oi p4, oi (2 : Int32), oi (1 : Int32), oi m7, oi m8, oi m9, oi m10, oa b290, oa b292, .unset] [(.int (own_f3_21 m7 m8 p2))] _
            refine XS.ifYes X309.here hx rfl (pc0 := 155) (pc' := 160) rfl (hb hby at_155) rfl ((if0 _ _).trans (teq c311).1) (by decide) (by decide) ?_
            refine XS.aload X309.here hx rfl (hb hby at_160) rfl rfl ?_
            refine XS.aload X309.here hx rfl (hb hby at_162) rfl rfl ?_
            exact k
          by_cases c313 : m7 < p2
          · skip
            have mc313 := c313
            simp only [own_ltp] at mc313
            by_cases c314 : m8 < p2
            · skip
              have mc314 := c314
              simp only [own_ltp] at mc314
              obtain ⟨_, _, ⟨T315, L315, k315, n315⟩, -, X315, ⟨Lc315, hQ315, l315, y315, z315⟩, st315⟩ := Jvm.LawKit.callS X309 hx (y := (⟨"com/example/strict_anon/strictanon/service/RecordSets", "union", "([I[I)[I"⟩ : MethodName)) hown (mvT hZ (hw _ (List.mem_of_getElem? (i := 13) rfl))) (mvT hZ (hw _ (List.mem_of_getElem? (i := 14) rfl))) (mvT hZ (hw _ (List.mem_of_getElem? (i := 15) rfl))) (mvT hZ (hw _ (List.mem_of_getElem? (i := 16) rfl))) (by decide) (backOf (W := 0) (own_rm4_21xxy l Z av hw [] b290 b292 k290 m7 m8 k292 p2 h305 n0 Z305 F306 V_307 (c313) (c314)) hZ (hw _ (List.mem_of_getElem? (i := 16) rfl)) (hw _ (List.mem_of_getElem? (i := 15) rfl)) (by decide) (by decide)) (g := (mkF m 164 #[oi p0, oi p1, oi p2, oi p3, oi p4, oi (2 : Int32), oi (1 : Int32), oi m7, oi m8, oi m9, oi m10, oa b290, oa b292, .unset] [(.ref b292), (.ref b290)])) rfl (by rw [hml]; rfl) (argsL := [(.ref b290), (.ref b292)]) (rest := []) (lenOf own_pd3 rfl) rfl (by show 2 * 0 + _ ≤ _; exact Nat.le_of_eq rfl) (hb hby at_164) (fun _ _ => ⟨rfl, eq309, (by decide : 2 + 1 ≤ _), (by decide : 3 + 3 ≤ _)⟩)
              dsimp only [Pt.U, Pt.locs, Pt.cells, Pt.slots] at X315 l315 y315 z315 st315 hQ315
              have yq315 : k315 = 3 := y315
              have zq315 : n315 = 6 := z315
              subst yq315 zq315
              obtain ⟨u_315, k_u_315, rfl, Nq315, Kq315, gq315_u, Oq315_0⟩ := hQ315
              have N315 : Fr n0 L315 := by rw [l315]; exact Fr.app N309 Nq315
              have Z315 : n0 ≤ T315.heap.size := Nat.le_trans Z305 Kq315.1
              have g_u_315 : n0 ≤ u_315 := Nat.le_trans Z305 gq315_u
              have ne316 : b290 ≠ u_315 := Nat.ne_of_lt (Nat.lt_of_lt_of_le F306.lt gq315_u)
              have ne317 : b292 ≠ u_315 := Nat.ne_of_lt (Nat.lt_of_lt_of_le V_307.lt gq315_u)
              have F318 := F306.keep Kq315 nin0
              have F319 := V_307.keep Kq315 nin0
              have b320 : (3 : Int32) = (3 : Int32) := (by decide)
              obtain ⟨_, _, ⟨T321, L321, k321, n321⟩, -, X321, ⟨Lc321, hQ321, l321, y321, z321⟩, st321⟩ := Jvm.LawKit.callS X315 hx (y := (⟨"com/example/strict_anon/strictanon/service/RecordSetsUnionPinLaw", "increasing", "([I)Z"⟩ : MethodName)) hown (mvT hZ (hw _ (List.mem_of_getElem? (i := 17) rfl))) (mvT hZ (hw _ (List.mem_of_getElem? (i := 18) rfl))) (mvT hZ (hw _ (List.mem_of_getElem? (i := 11) rfl))) (mvT hZ (hw _ (List.mem_of_getElem? (i := 19) rfl))) (by decide) (backOf (W := 0) (own_rm5_3 l Z av hw [] u_315 k_u_315 m7 m8 p2 T315.heap n0 Z315 Oq315_0) hZ (hw _ (List.mem_of_getElem? (i := 19) rfl)) (hw _ (List.mem_of_getElem? (i := 11) rfl)) (by decide) (by decide)) (g := (mkF m 184 #[oi p0, oi p1, oi p2, oi p3, oi p4, oi (2 : Int32), oi (1 : Int32), oi m7, oi m8, oi m9, oi m10, oa b290, oa b292, oa u_315] [(.ref u_315)])) rfl (by rw [hml]; rfl) (argsL := [(.ref u_315)]) (rest := []) (lenOf own_pd4 rfl) rfl (by show 2 * 0 + _ ≤ _; exact Nat.le_of_eq rfl) (hb hby at_184) (fun _ _ => ⟨rfl, rfl, (by decide : 3 + 0 ≤ _), (by decide : 6 + 0 ≤ _)⟩)
              dsimp only [Pt.U, Pt.locs, Pt.cells, Pt.slots] at X321 l321 y321 z321 st321 hQ321
              have yq321 : k321 = 3 := y321
              have zq321 : n321 = 6 := z321
              subst yq321 zq321
              obtain ⟨rfl, Nq321, eq321⟩ := hQ321
              have N321 : Fr n0 L321 := by rw [l321]; exact Fr.app N315 Nq321
              have b322 : ¬ ((own_f5_3 m7 m8 p2) = (0 : Int32)) := by unfold own_f5_3; (try simp only [own_ltp]); (repeat' split) <;> first | decide | (exfalso; omega)
              obtain ⟨_, _, ⟨T323, L323, k323, n323⟩, -, X323, ⟨Lc323, hQ323, l323, y323, z323⟩, st323⟩ := Jvm.LawKit.callS X321 hx (y := (⟨"com/example/strict_anon/strictanon/service/RecordSetsUnionPinLaw", "containsAll", "([I[I)Z"⟩ : MethodName)) hown (mvT hZ (hw _ (List.mem_of_getElem? (i := 20) rfl))) (mvT hZ (hw _ (List.mem_of_getElem? (i := 21) rfl))) (mvT hZ (hw _ (List.mem_of_getElem? (i := 11) rfl))) (mvT hZ (hw _ (List.mem_of_getElem? (i := 22) rfl))) (by decide) (backOf (W := 0) (own_rm6_32 l Z av hw [] u_315 b290 k_u_315 m7 m8 p2 k290 m7 m8 T315.heap n0 Z315 Oq315_0 F318) hZ (hw _ (List.mem_of_getElem? (i := 22) rfl)) (hw _ (List.mem_of_getElem? (i := 11) rfl)) (by decide) (by decide)) (g := (mkF m 196 #[oi p0, oi p1, oi p2, oi p3, oi p4, oi (2 : Int32), oi (1 : Int32), oi m7, oi m8, oi m9, oi m10, oa b290, oa b292, oa u_315] [(.ref b290), (.ref u_315)])) rfl (by rw [hml]; rfl) (argsL := [(.ref u_315), (.ref b290)]) (rest := []) (lenOf own_pd2 rfl) rfl (by show 2 * 0 + _ ≤ _; exact Nat.le_of_eq rfl) (hb hby at_196) (fun _ _ => ⟨rfl, eq321, (by decide : 3 + 0 ≤ _), (by decide : 6 + 0 ≤ _)⟩)
              dsimp only [Pt.U, Pt.locs, Pt.cells, Pt.slots] at X323 l323 y323 z323 st323 hQ323
              have yq323 : k323 = 3 := y323
              have zq323 : n323 = 6 := z323
              subst yq323 zq323
              obtain ⟨rfl, Nq323, eq323⟩ := hQ323
              have N323 : Fr n0 L323 := by rw [l323]; exact Fr.app N321 Nq323
              have b324 : ¬ ((own_f6_32 m7 m8 p2 m7 m8) = (0 : Int32)) := by simp [own_f6_32, own_f7_3]
              obtain ⟨_, _, ⟨T325, L325, k325, n325⟩, -, X325, ⟨Lc325, hQ325, l325, y325, z325⟩, st325⟩ := Jvm.LawKit.callS X323 hx (y := (⟨"com/example/strict_anon/strictanon/service/RecordSetsUnionPinLaw", "containsAll", "([I[I)Z"⟩ : MethodName)) hown (mvT hZ (hw _ (List.mem_of_getElem? (i := 20) rfl))) (mvT hZ (hw _ (List.mem_of_getElem? (i := 21) rfl))) (mvT hZ (hw _ (List.mem_of_getElem? (i := 11) rfl))) (mvT hZ (hw _ (List.mem_of_getElem? (i := 22) rfl))) (by decide) (backOf (W := 0) (own_rm6_31 l Z av hw [] u_315 b292 k_u_315 m7 m8 p2 k292 p2 T315.heap n0 Z315 Oq315_0 F319) hZ (hw _ (List.mem_of_getElem? (i := 22) rfl)) (hw _ (List.mem_of_getElem? (i := 11) rfl)) (by decide) (by decide)) (g := (mkF m 206 #[oi p0, oi p1, oi p2, oi p3, oi p4, oi (2 : Int32), oi (1 : Int32), oi m7, oi m8, oi m9, oi m10, oa b290, oa b292, oa u_315] [(.ref b292), (.ref u_315)])) rfl (by rw [hml]; rfl) (argsL := [(.ref u_315), (.ref b292)]) (rest := []) (lenOf own_pd2 rfl) rfl (by show 2 * 0 + _ ≤ _; exact Nat.le_of_eq rfl) (hb hby at_206) (fun _ _ => ⟨rfl, eq323, (by decide : 3 + 0 ≤ _), (by decide : 6 + 0 ≤ _)⟩)
              dsimp only [Pt.U, Pt.locs, Pt.cells, Pt.slots] at X325 l325 y325 z325 st325 hQ325
              have yq325 : k325 = 3 := y325
              have zq325 : n325 = 6 := z325
              subst yq325 zq325
              obtain ⟨rfl, Nq325, eq325⟩ := hQ325
              have N325 : Fr n0 L325 := by rw [l325]; exact Fr.app N323 Nq325
              have b326 : ¬ ((own_f6_31 m7 m8 p2 p2) = (0 : Int32)) := by simp [own_f6_31, own_f7_3]
              obtain ⟨fs, hr, hrun, hended, hW, hsame⟩ := X325.leave (v := (some (.int (1 : Int32)))) (fun h => by rw [Bd.returns] at h; cases h)
              refine ⟨_, _, pre312 _ ?_, hrun, hended, _, _, rfl, ?_, ⟨_, rfl⟩, hW, hsame.mono (by decide) (by decide)⟩
              · show oS p e below T309 m 164 #[oi p0, oi p1, oi p2, oi p3, oi p4, oi (2 : Int32), oi (1 : Int32), oi m7, oi m8, oi m9, oi m10, oa b290, oa b292, .unset] [(.ref b292), (.ref b290)] _
                refine st315 _ ?_
                show oS p e below T315 m 167 #[oi p0, oi p1, oi p2, oi p3, oi p4, oi (2 : Int32), oi (1 : Int32), oi m7, oi m8, oi m9, oi m10, oa b290, oa b292, .unset] [(.ref u_315)] _
                refine XS.astore X315.here hx rfl (hb hby at_167) rfl rfl (l' := #[oi p0, oi p1, oi p2, oi p3, oi p4, oi (2 : Int32), oi (1 : Int32), oi m7, oi m8, oi m9, oi m10, oa b290, oa b292, oa u_315]) rfl ?_
                refine XS.aload X315.here hx rfl (hb hby at_169) rfl rfl ?_
                show oS p e below T315 m 171 #[oi p0, oi p1, oi p2, oi p3, oi p4, oi (2 : Int32), oi (1 : Int32), oi m7, oi m8, oi m9, oi m10, oa b290, oa b292, oa u_315] [(.ref u_315)] _
                refine oLen X315 hx hZ rfl Oq315_0 (hb hby at_171) ?_
                refine XS.iload X315.here hx rfl (hb hby at_172) rfl ?_
                refine XS.iload X315.here hx rfl (hb hby at_174) rfl ?_
                refine XS.iadd X315.here hx rfl (hb hby at_176) rfl ?_
                show oS p e below T315 m 177 #[oi p0, oi p1, oi p2, oi p3, oi p4, oi (2 : Int32), oi (1 : Int32), oi m7, oi m8, oi m9, oi m10, oa b290, oa b292, oa u_315] [(.int (3 : Int32)), (.int (3 : Int32))] _
                refine XS.icmpYes X315.here hx rfl (pc0 := 177) (pc' := 182) rfl (hb hby at_177) rfl (teq b320).1 (by decide) (by decide) ?_
                refine XS.aload X315.here hx rfl (hb hby at_182) rfl rfl ?_
                show oS p e below T315 m 184 #[oi p0, oi p1, oi p2, oi p3, oi p4, oi (2 : Int32), oi (1 : Int32), oi m7, oi m8, oi m9, oi m10, oa b290, oa b292, oa u_315] [(.ref u_315)] _
                refine st321 _ ?_
                show oS p e below T321 m 187 #[oi p0, oi p1, oi p2, oi p3, oi p4, oi (2 : Int32), oi (1 : Int32), oi m7, oi m8, oi m9, oi m10, oa b290, oa b292, oa u_315] [(.int (own_f5_3 m7 m8 p2))] _
                refine XS.ifYes X321.here hx rfl (pc0 := 187) (pc' := 192) rfl (hb hby at_187) rfl ((if0 _ _).trans (feq b322).2) (by decide) (by decide) ?_
                refine XS.aload X321.here hx rfl (hb hby at_192) rfl rfl ?_
                refine XS.aload X321.here hx rfl (hb hby at_194) rfl rfl ?_
                show oS p e below T321 m 196 #[oi p0, oi p1, oi p2, oi p3, oi p4, oi (2 : Int32), oi (1 : Int32), oi m7, oi m8, oi m9, oi m10, oa b290, oa b292, oa u_315] [(.ref b290), (.ref u_315)] _
                refine st323 _ ?_
                show oS p e below T323 m 199 #[oi p0, oi p1, oi p2, oi p3, oi p4, oi (2 : Int32), oi (1 : Int32), oi m7, oi m8, oi m9, oi m10, oa b290, oa b292, oa u_315] [(.int (own_f6_32 m7 m8 p2 m7 m8))] _
                refine XS.ifNo X323.here hx rfl (hb hby at_199) rfl ((if0 _ _).trans (feq b324).1) ?_
                refine XS.aload X323.here hx rfl (hb hby at_202) rfl rfl ?_
                refine XS.aload X323.here hx rfl (hb hby at_204) rfl rfl ?_
                show oS p e below T323 m 206 #[oi p0, oi p1, oi p2, oi p3, oi p4, oi (2 : Int32), oi (1 : Int32), oi m7, oi m8, oi m9, oi m10, oa b290, oa b292, oa u_315] [(.ref b292), (.ref u_315)] _
                refine st325 _ ?_
                show oS p e below T325 m 209 #[oi p0, oi p1, oi p2, oi p3, oi p4, oi (2 : Int32), oi (1 : Int32), oi m7, oi m8, oi m9, oi m10, oa b290, oa b292, oa u_315] [(.int (own_f6_31 m7 m8 p2 p2))] _
                refine XS.ifNo X325.here hx rfl (hb hby at_209) rfl ((if0 _ _).trans (feq b326).1) ?_
                refine XS.iconst X325.here hx rfl (hb hby at_212) ?_
                refine XS.goto X325.here hx rfl (pc0 := 213) (pc' := 217) rfl (hb hby at_213) (by decide) (by decide) ?_
                show oS p e below T325 m 217 #[oi p0, oi p1, oi p2, oi p3, oi p4, oi (2 : Int32), oi (1 : Int32), oi m7, oi m8, oi m9, oi m10, oa b290, oa b292, oa u_315] [(.int (1 : Int32))] _
                exact retN X325 hx (t := .boolean) Bd.returns (by simp) (hb hby at_217) hr
              · show own_Q0 Z p0 p1 p2 p3 p4 h0 n0 _ T325.heap _
                rw [eq325]
                exact ⟨rfl, N325⟩
            · skip
              have mc314 := c314
              simp only [own_ltp] at mc314
              obtain ⟨_, _, ⟨T327, L327, k327, n327⟩, -, X327, ⟨Lc327, hQ327, l327, y327, z327⟩, st327⟩ := Jvm.LawKit.callS X309 hx (y := (⟨"com/example/strict_anon/strictanon/service/RecordSets", "union", "([I[I)[I"⟩ : MethodName)) hown (mvT hZ (hw _ (List.mem_of_getElem? (i := 13) rfl))) (mvT hZ (hw _ (List.mem_of_getElem? (i := 14) rfl))) (mvT hZ (hw _ (List.mem_of_getElem? (i := 15) rfl))) (mvT hZ (hw _ (List.mem_of_getElem? (i := 16) rfl))) (by decide) (backOf (W := 0) (own_rm4_21xyx l Z av hw [] b290 b292 k290 m7 m8 k292 p2 h305 n0 Z305 F306 V_307 (c313) (c314)) hZ (hw _ (List.mem_of_getElem? (i := 16) rfl)) (hw _ (List.mem_of_getElem? (i := 15) rfl)) (by decide) (by decide)) (g := (mkF m 164 #[oi p0, oi p1, oi p2, oi p3, oi p4, oi (2 : Int32), oi (1 : Int32), oi m7, oi m8, oi m9, oi m10, oa b290, oa b292, .unset] [(.ref b292), (.ref b290)])) rfl (by rw [hml]; rfl) (argsL := [(.ref b290), (.ref b292)]) (rest := []) (lenOf own_pd3 rfl) rfl (by show 2 * 0 + _ ≤ _; exact Nat.le_of_eq rfl) (hb hby at_164) (fun _ _ => ⟨rfl, eq309, (by decide : 2 + 1 ≤ _), (by decide : 3 + 3 ≤ _)⟩)
              dsimp only [Pt.U, Pt.locs, Pt.cells, Pt.slots] at X327 l327 y327 z327 st327 hQ327
              have yq327 : k327 = 3 := y327
              have zq327 : n327 = 6 := z327
              subst yq327 zq327
              obtain ⟨u_327, k_u_327, rfl, Nq327, Kq327, gq327_u, Oq327_0⟩ := hQ327
              have N327 : Fr n0 L327 := by rw [l327]; exact Fr.app N309 Nq327
              have Z327 : n0 ≤ T327.heap.size := Nat.le_trans Z305 Kq327.1
              have g_u_327 : n0 ≤ u_327 := Nat.le_trans Z305 gq327_u
              have ne328 : b290 ≠ u_327 := Nat.ne_of_lt (Nat.lt_of_lt_of_le F306.lt gq327_u)
              have ne329 : b292 ≠ u_327 := Nat.ne_of_lt (Nat.lt_of_lt_of_le V_307.lt gq327_u)
              have F330 := F306.keep Kq327 nin0
              have F331 := V_307.keep Kq327 nin0
              have b332 : (3 : Int32) = (3 : Int32) := (by decide)
              obtain ⟨_, _, ⟨T333, L333, k333, n333⟩, -, X333, ⟨Lc333, hQ333, l333, y333, z333⟩, st333⟩ := Jvm.LawKit.callS X327 hx (y := (⟨"com/example/strict_anon/strictanon/service/RecordSetsUnionPinLaw", "increasing", "([I)Z"⟩ : MethodName)) hown (mvT hZ (hw _ (List.mem_of_getElem? (i := 17) rfl))) (mvT hZ (hw _ (List.mem_of_getElem? (i := 18) rfl))) (mvT hZ (hw _ (List.mem_of_getElem? (i := 11) rfl))) (mvT hZ (hw _ (List.mem_of_getElem? (i := 19) rfl))) (by decide) (backOf (W := 0) (own_rm5_3 l Z av hw [] u_327 k_u_327 m7 p2 m8 T327.heap n0 Z327 Oq327_0) hZ (hw _ (List.mem_of_getElem? (i := 19) rfl)) (hw _ (List.mem_of_getElem? (i := 11) rfl)) (by decide) (by decide)) (g := (mkF m 184 #[oi p0, oi p1, oi p2, oi p3, oi p4, oi (2 : Int32), oi (1 : Int32), oi m7, oi m8, oi m9, oi m10, oa b290, oa b292, oa u_327] [(.ref u_327)])) rfl (by rw [hml]; rfl) (argsL := [(.ref u_327)]) (rest := []) (lenOf own_pd4 rfl) rfl (by show 2 * 0 + _ ≤ _; exact Nat.le_of_eq rfl) (hb hby at_184) (fun _ _ => ⟨rfl, rfl, (by decide : 3 + 0 ≤ _), (by decide : 6 + 0 ≤ _)⟩)
              dsimp only [Pt.U, Pt.locs, Pt.cells, Pt.slots] at X333 l333 y333 z333 st333 hQ333
              have yq333 : k333 = 3 := y333
              have zq333 : n333 = 6 := z333
              subst yq333 zq333
              obtain ⟨rfl, Nq333, eq333⟩ := hQ333
              have N333 : Fr n0 L333 := by rw [l333]; exact Fr.app N327 Nq333
              have b334 : ¬ ((own_f5_3 m7 p2 m8) = (0 : Int32)) := by unfold own_f5_3; (try simp only [own_ltp]); (repeat' split) <;> first | decide | (exfalso; omega)
              obtain ⟨_, _, ⟨T335, L335, k335, n335⟩, -, X335, ⟨Lc335, hQ335, l335, y335, z335⟩, st335⟩ := Jvm.LawKit.callS X333 hx (y := (⟨"com/example/strict_anon/strictanon/service/RecordSetsUnionPinLaw", "containsAll", "([I[I)Z"⟩ : MethodName)) hown (mvT hZ (hw _ (List.mem_of_getElem? (i := 20) rfl))) (mvT hZ (hw _ (List.mem_of_getElem? (i := 21) rfl))) (mvT hZ (hw _ (List.mem_of_getElem? (i := 11) rfl))) (mvT hZ (hw _ (List.mem_of_getElem? (i := 22) rfl))) (by decide) (backOf (W := 0) (own_rm6_32 l Z av hw [] u_327 b290 k_u_327 m7 p2 m8 k290 m7 m8 T327.heap n0 Z327 Oq327_0 F330) hZ (hw _ (List.mem_of_getElem? (i := 22) rfl)) (hw _ (List.mem_of_getElem? (i := 11) rfl)) (by decide) (by decide)) (g := (mkF m 196 #[oi p0, oi p1, oi p2, oi p3, oi p4, oi (2 : Int32), oi (1 : Int32), oi m7, oi m8, oi m9, oi m10, oa b290, oa b292, oa u_327] [(.ref b290), (.ref u_327)])) rfl (by rw [hml]; rfl) (argsL := [(.ref u_327), (.ref b290)]) (rest := []) (lenOf own_pd2 rfl) rfl (by show 2 * 0 + _ ≤ _; exact Nat.le_of_eq rfl) (hb hby at_196) (fun _ _ => ⟨rfl, eq333, (by decide : 3 + 0 ≤ _), (by decide : 6 + 0 ≤ _)⟩)
              dsimp only [Pt.U, Pt.locs, Pt.cells, Pt.slots] at X335 l335 y335 z335 st335 hQ335
              have yq335 : k335 = 3 := y335
              have zq335 : n335 = 6 := z335
              subst yq335 zq335
              obtain ⟨rfl, Nq335, eq335⟩ := hQ335
              have N335 : Fr n0 L335 := by rw [l335]; exact Fr.app N333 Nq335
              have b336 : ¬ ((own_f6_32 m7 p2 m8 m7 m8) = (0 : Int32)) := by simp [own_f6_32, own_f7_3]
              obtain ⟨_, _, ⟨T337, L337, k337, n337⟩, -, X337, ⟨Lc337, hQ337, l337, y337, z337⟩, st337⟩ := Jvm.LawKit.callS X335 hx (y := (⟨"com/example/strict_anon/strictanon/service/RecordSetsUnionPinLaw", "containsAll", "([I[I)Z"⟩ : MethodName)) hown (mvT hZ (hw _ (List.mem_of_getElem? (i := 20) rfl))) (mvT hZ (hw _ (List.mem_of_getElem? (i := 21) rfl))) (mvT hZ (hw _ (List.mem_of_getElem? (i := 11) rfl))) (mvT hZ (hw _ (List.mem_of_getElem? (i := 22) rfl))) (by decide) (backOf (W := 0) (own_rm6_31 l Z av hw [] u_327 b292 k_u_327 m7 p2 m8 k292 p2 T327.heap n0 Z327 Oq327_0 F331) hZ (hw _ (List.mem_of_getElem? (i := 22) rfl)) (hw _ (List.mem_of_getElem? (i := 11) rfl)) (by decide) (by decide)) (g := (mkF m 206 #[oi p0, oi p1, oi p2, oi p3, oi p4, oi (2 : Int32), oi (1 : Int32), oi m7, oi m8, oi m9, oi m10, oa b290, oa b292, oa u_327] [(.ref b292), (.ref u_327)])) rfl (by rw [hml]; rfl) (argsL := [(.ref u_327), (.ref b292)]) (rest := []) (lenOf own_pd2 rfl) rfl (by show 2 * 0 + _ ≤ _; exact Nat.le_of_eq rfl) (hb hby at_206) (fun _ _ => ⟨rfl, eq335, (by decide : 3 + 0 ≤ _), (by decide : 6 + 0 ≤ _)⟩)
              dsimp only [Pt.U, Pt.locs, Pt.cells, Pt.slots] at X337 l337 y337 z337 st337 hQ337
              have yq337 : k337 = 3 := y337
              have zq337 : n337 = 6 := z337
              subst yq337 zq337
              obtain ⟨rfl, Nq337, eq337⟩ := hQ337
              have N337 : Fr n0 L337 := by rw [l337]; exact Fr.app N335 Nq337
              have b338 : ¬ ((own_f6_31 m7 p2 m8 p2) = (0 : Int32)) := by simp [own_f6_31, own_f7_3]
              obtain ⟨fs, hr, hrun, hended, hW, hsame⟩ := X337.leave (v := (some (.int (1 : Int32)))) (fun h => by rw [Bd.returns] at h; cases h)
              refine ⟨_, _, pre312 _ ?_, hrun, hended, _, _, rfl, ?_, ⟨_, rfl⟩, hW, hsame.mono (by decide) (by decide)⟩
              · show oS p e below T309 m 164 #[oi p0, oi p1, oi p2, oi p3, oi p4, oi (2 : Int32), oi (1 : Int32), oi m7, oi m8, oi m9, oi m10, oa b290, oa b292, .unset] [(.ref b292), (.ref b290)] _
                refine st327 _ ?_
                show oS p e below T327 m 167 #[oi p0, oi p1, oi p2, oi p3, oi p4, oi (2 : Int32), oi (1 : Int32), oi m7, oi m8, oi m9, oi m10, oa b290, oa b292, .unset] [(.ref u_327)] _
                refine XS.astore X327.here hx rfl (hb hby at_167) rfl rfl (l' := #[oi p0, oi p1, oi p2, oi p3, oi p4, oi (2 : Int32), oi (1 : Int32), oi m7, oi m8, oi m9, oi m10, oa b290, oa b292, oa u_327]) rfl ?_
                refine XS.aload X327.here hx rfl (hb hby at_169) rfl rfl ?_
                show oS p e below T327 m 171 #[oi p0, oi p1, oi p2, oi p3, oi p4, oi (2 : Int32), oi (1 : Int32), oi m7, oi m8, oi m9, oi m10, oa b290, oa b292, oa u_327] [(.ref u_327)] _
                refine oLen X327 hx hZ rfl Oq327_0 (hb hby at_171) ?_
                refine XS.iload X327.here hx rfl (hb hby at_172) rfl ?_
                refine XS.iload X327.here hx rfl (hb hby at_174) rfl ?_
                refine XS.iadd X327.here hx rfl (hb hby at_176) rfl ?_
                show oS p e below T327 m 177 #[oi p0, oi p1, oi p2, oi p3, oi p4, oi (2 : Int32), oi (1 : Int32), oi m7, oi m8, oi m9, oi m10, oa b290, oa b292, oa u_327] [(.int (3 : Int32)), (.int (3 : Int32))] _
                refine XS.icmpYes X327.here hx rfl (pc0 := 177) (pc' := 182) rfl (hb hby at_177) rfl (teq b332).1 (by decide) (by decide) ?_
                refine XS.aload X327.here hx rfl (hb hby at_182) rfl rfl ?_
                show oS p e below T327 m 184 #[oi p0, oi p1, oi p2, oi p3, oi p4, oi (2 : Int32), oi (1 : Int32), oi m7, oi m8, oi m9, oi m10, oa b290, oa b292, oa u_327] [(.ref u_327)] _
                refine st333 _ ?_
                show oS p e below T333 m 187 #[oi p0, oi p1, oi p2, oi p3, oi p4, oi (2 : Int32), oi (1 : Int32), oi m7, oi m8, oi m9, oi m10, oa b290, oa b292, oa u_327] [(.int (own_f5_3 m7 p2 m8))] _
                refine XS.ifYes X333.here hx rfl (pc0 := 187) (pc' := 192) rfl (hb hby at_187) rfl ((if0 _ _).trans (feq b334).2) (by decide) (by decide) ?_
                refine XS.aload X333.here hx rfl (hb hby at_192) rfl rfl ?_
                refine XS.aload X333.here hx rfl (hb hby at_194) rfl rfl ?_
                show oS p e below T333 m 196 #[oi p0, oi p1, oi p2, oi p3, oi p4, oi (2 : Int32), oi (1 : Int32), oi m7, oi m8, oi m9, oi m10, oa b290, oa b292, oa u_327] [(.ref b290), (.ref u_327)] _
                refine st335 _ ?_
                show oS p e below T335 m 199 #[oi p0, oi p1, oi p2, oi p3, oi p4, oi (2 : Int32), oi (1 : Int32), oi m7, oi m8, oi m9, oi m10, oa b290, oa b292, oa u_327] [(.int (own_f6_32 m7 p2 m8 m7 m8))] _
                refine XS.ifNo X335.here hx rfl (hb hby at_199) rfl ((if0 _ _).trans (feq b336).1) ?_
                refine XS.aload X335.here hx rfl (hb hby at_202) rfl rfl ?_
                refine XS.aload X335.here hx rfl (hb hby at_204) rfl rfl ?_
                show oS p e below T335 m 206 #[oi p0, oi p1, oi p2, oi p3, oi p4, oi (2 : Int32), oi (1 : Int32), oi m7, oi m8, oi m9, oi m10, oa b290, oa b292, oa u_327] [(.ref b292), (.ref u_327)] _
                refine st337 _ ?_
                show oS p e below T337 m 209 #[oi p0, oi p1, oi p2, oi p3, oi p4, oi (2 : Int32), oi (1 : Int32), oi m7, oi m8, oi m9, oi m10, oa b290, oa b292, oa u_327] [(.int (own_f6_31 m7 p2 m8 p2))] _
                refine XS.ifNo X337.here hx rfl (hb hby at_209) rfl ((if0 _ _).trans (feq b338).1) ?_
                refine XS.iconst X337.here hx rfl (hb hby at_212) ?_
                refine XS.goto X337.here hx rfl (pc0 := 213) (pc' := 217) rfl (hb hby at_213) (by decide) (by decide) ?_
                show oS p e below T337 m 217 #[oi p0, oi p1, oi p2, oi p3, oi p4, oi (2 : Int32), oi (1 : Int32), oi m7, oi m8, oi m9, oi m10, oa b290, oa b292, oa u_327] [(.int (1 : Int32))] _
                exact retN X337 hx (t := .boolean) Bd.returns (by simp) (hb hby at_217) hr
              · show own_Q0 Z p0 p1 p2 p3 p4 h0 n0 _ T337.heap _
                rw [eq337]
                exact ⟨rfl, N337⟩
          · skip
            have mc313 := c313
            simp only [own_ltp] at mc313
            obtain ⟨_, _, ⟨T339, L339, k339, n339⟩, -, X339, ⟨Lc339, hQ339, l339, y339, z339⟩, st339⟩ := Jvm.LawKit.callS X309 hx (y := (⟨"com/example/strict_anon/strictanon/service/RecordSets", "union", "([I[I)[I"⟩ : MethodName)) hown (mvT hZ (hw _ (List.mem_of_getElem? (i := 13) rfl))) (mvT hZ (hw _ (List.mem_of_getElem? (i := 14) rfl))) (mvT hZ (hw _ (List.mem_of_getElem? (i := 15) rfl))) (mvT hZ (hw _ (List.mem_of_getElem? (i := 16) rfl))) (by decide) (backOf (W := 0) (own_rm4_21yxx l Z av hw [] b290 b292 k290 m7 m8 k292 p2 h305 n0 Z305 F306 V_307 (c313)) hZ (hw _ (List.mem_of_getElem? (i := 16) rfl)) (hw _ (List.mem_of_getElem? (i := 15) rfl)) (by decide) (by decide)) (g := (mkF m 164 #[oi p0, oi p1, oi p2, oi p3, oi p4, oi (2 : Int32), oi (1 : Int32), oi m7, oi m8, oi m9, oi m10, oa b290, oa b292, .unset] [(.ref b292), (.ref b290)])) rfl (by rw [hml]; rfl) (argsL := [(.ref b290), (.ref b292)]) (rest := []) (lenOf own_pd3 rfl) rfl (by show 2 * 0 + _ ≤ _; exact Nat.le_of_eq rfl) (hb hby at_164) (fun _ _ => ⟨rfl, eq309, (by decide : 2 + 1 ≤ _), (by decide : 3 + 3 ≤ _)⟩)
            dsimp only [Pt.U, Pt.locs, Pt.cells, Pt.slots] at X339 l339 y339 z339 st339 hQ339
            have yq339 : k339 = 3 := y339
            have zq339 : n339 = 6 := z339
            subst yq339 zq339
            obtain ⟨u_339, k_u_339, rfl, Nq339, Kq339, gq339_u, Oq339_0⟩ := hQ339
            have N339 : Fr n0 L339 := by rw [l339]; exact Fr.app N309 Nq339
            have Z339 : n0 ≤ T339.heap.size := Nat.le_trans Z305 Kq339.1
            have g_u_339 : n0 ≤ u_339 := Nat.le_trans Z305 gq339_u
            have ne340 : b290 ≠ u_339 := Nat.ne_of_lt (Nat.lt_of_lt_of_le F306.lt gq339_u)
            have ne341 : b292 ≠ u_339 := Nat.ne_of_lt (Nat.lt_of_lt_of_le V_307.lt gq339_u)
            have F342 := F306.keep Kq339 nin0
            have F343 := V_307.keep Kq339 nin0
            have b344 : (3 : Int32) = (3 : Int32) := (by decide)
            obtain ⟨_, _, ⟨T345, L345, k345, n345⟩, -, X345, ⟨Lc345, hQ345, l345, y345, z345⟩, st345⟩ := Jvm.LawKit.callS X339 hx (y := (⟨"com/example/strict_anon/strictanon/service/RecordSetsUnionPinLaw", "increasing", "([I)Z"⟩ : MethodName)) hown (mvT hZ (hw _ (List.mem_of_getElem? (i := 17) rfl))) (mvT hZ (hw _ (List.mem_of_getElem? (i := 18) rfl))) (mvT hZ (hw _ (List.mem_of_getElem? (i := 11) rfl))) (mvT hZ (hw _ (List.mem_of_getElem? (i := 19) rfl))) (by decide) (backOf (W := 0) (own_rm5_3 l Z av hw [] u_339 k_u_339 p2 m7 m8 T339.heap n0 Z339 Oq339_0) hZ (hw _ (List.mem_of_getElem? (i := 19) rfl)) (hw _ (List.mem_of_getElem? (i := 11) rfl)) (by decide) (by decide)) (g := (mkF m 184 #[oi p0, oi p1, oi p2, oi p3, oi p4, oi (2 : Int32), oi (1 : Int32), oi m7, oi m8, oi m9, oi m10, oa b290, oa b292, oa u_339] [(.ref u_339)])) rfl (by rw [hml]; rfl) (argsL := [(.ref u_339)]) (rest := []) (lenOf own_pd4 rfl) rfl (by show 2 * 0 + _ ≤ _; exact Nat.le_of_eq rfl) (hb hby at_184) (fun _ _ => ⟨rfl, rfl, (by decide : 3 + 0 ≤ _), (by decide : 6 + 0 ≤ _)⟩)
            dsimp only [Pt.U, Pt.locs, Pt.cells, Pt.slots] at X345 l345 y345 z345 st345 hQ345
            have yq345 : k345 = 3 := y345
            have zq345 : n345 = 6 := z345
            subst yq345 zq345
            obtain ⟨rfl, Nq345, eq345⟩ := hQ345
            have N345 : Fr n0 L345 := by rw [l345]; exact Fr.app N339 Nq345
            have b346 : ¬ ((own_f5_3 p2 m7 m8) = (0 : Int32)) := by unfold own_f5_3; (try simp only [own_ltp]); (repeat' split) <;> first | decide | (exfalso; omega)
            obtain ⟨_, _, ⟨T347, L347, k347, n347⟩, -, X347, ⟨Lc347, hQ347, l347, y347, z347⟩, st347⟩ := Jvm.LawKit.callS X345 hx (y := (⟨"com/example/strict_anon/strictanon/service/RecordSetsUnionPinLaw", "containsAll", "([I[I)Z"⟩ : MethodName)) hown (mvT hZ (hw _ (List.mem_of_getElem? (i := 20) rfl))) (mvT hZ (hw _ (List.mem_of_getElem? (i := 21) rfl))) (mvT hZ (hw _ (List.mem_of_getElem? (i := 11) rfl))) (mvT hZ (hw _ (List.mem_of_getElem? (i := 22) rfl))) (by decide) (backOf (W := 0) (own_rm6_32 l Z av hw [] u_339 b290 k_u_339 p2 m7 m8 k290 m7 m8 T339.heap n0 Z339 Oq339_0 F342) hZ (hw _ (List.mem_of_getElem? (i := 22) rfl)) (hw _ (List.mem_of_getElem? (i := 11) rfl)) (by decide) (by decide)) (g := (mkF m 196 #[oi p0, oi p1, oi p2, oi p3, oi p4, oi (2 : Int32), oi (1 : Int32), oi m7, oi m8, oi m9, oi m10, oa b290, oa b292, oa u_339] [(.ref b290), (.ref u_339)])) rfl (by rw [hml]; rfl) (argsL := [(.ref u_339), (.ref b290)]) (rest := []) (lenOf own_pd2 rfl) rfl (by show 2 * 0 + _ ≤ _; exact Nat.le_of_eq rfl) (hb hby at_196) (fun _ _ => ⟨rfl, eq345, (by decide : 3 + 0 ≤ _), (by decide : 6 + 0 ≤ _)⟩)
            dsimp only [Pt.U, Pt.locs, Pt.cells, Pt.slots] at X347 l347 y347 z347 st347 hQ347
            have yq347 : k347 = 3 := y347
            have zq347 : n347 = 6 := z347
            subst yq347 zq347
            obtain ⟨rfl, Nq347, eq347⟩ := hQ347
            have N347 : Fr n0 L347 := by rw [l347]; exact Fr.app N345 Nq347
            have b348 : ¬ ((own_f6_32 p2 m7 m8 m7 m8) = (0 : Int32)) := by simp [own_f6_32, own_f7_3]
            obtain ⟨_, _, ⟨T349, L349, k349, n349⟩, -, X349, ⟨Lc349, hQ349, l349, y349, z349⟩, st349⟩ := Jvm.LawKit.callS X347 hx (y := (⟨"com/example/strict_anon/strictanon/service/RecordSetsUnionPinLaw", "containsAll", "([I[I)Z"⟩ : MethodName)) hown (mvT hZ (hw _ (List.mem_of_getElem? (i := 20) rfl))) (mvT hZ (hw _ (List.mem_of_getElem? (i := 21) rfl))) (mvT hZ (hw _ (List.mem_of_getElem? (i := 11) rfl))) (mvT hZ (hw _ (List.mem_of_getElem? (i := 22) rfl))) (by decide) (backOf (W := 0) (own_rm6_31 l Z av hw [] u_339 b292 k_u_339 p2 m7 m8 k292 p2 T339.heap n0 Z339 Oq339_0 F343) hZ (hw _ (List.mem_of_getElem? (i := 22) rfl)) (hw _ (List.mem_of_getElem? (i := 11) rfl)) (by decide) (by decide)) (g := (mkF m 206 #[oi p0, oi p1, oi p2, oi p3, oi p4, oi (2 : Int32), oi (1 : Int32), oi m7, oi m8, oi m9, oi m10, oa b290, oa b292, oa u_339] [(.ref b292), (.ref u_339)])) rfl (by rw [hml]; rfl) (argsL := [(.ref u_339), (.ref b292)]) (rest := []) (lenOf own_pd2 rfl) rfl (by show 2 * 0 + _ ≤ _; exact Nat.le_of_eq rfl) (hb hby at_206) (fun _ _ => ⟨rfl, eq347, (by decide : 3 + 0 ≤ _), (by decide : 6 + 0 ≤ _)⟩)
            dsimp only [Pt.U, Pt.locs, Pt.cells, Pt.slots] at X349 l349 y349 z349 st349 hQ349
            have yq349 : k349 = 3 := y349
            have zq349 : n349 = 6 := z349
            subst yq349 zq349
            obtain ⟨rfl, Nq349, eq349⟩ := hQ349
            have N349 : Fr n0 L349 := by rw [l349]; exact Fr.app N347 Nq349
            have b350 : ¬ ((own_f6_31 p2 m7 m8 p2) = (0 : Int32)) := by simp [own_f6_31, own_f7_3]
            obtain ⟨fs, hr, hrun, hended, hW, hsame⟩ := X349.leave (v := (some (.int (1 : Int32)))) (fun h => by rw [Bd.returns] at h; cases h)
            refine ⟨_, _, pre312 _ ?_, hrun, hended, _, _, rfl, ?_, ⟨_, rfl⟩, hW, hsame.mono (by decide) (by decide)⟩
            · show oS p e below T309 m 164 #[oi p0, oi p1, oi p2, oi p3, oi p4, oi (2 : Int32), oi (1 : Int32), oi m7, oi m8, oi m9, oi m10, oa b290, oa b292, .unset] [(.ref b292), (.ref b290)] _
              refine st339 _ ?_
              show oS p e below T339 m 167 #[oi p0, oi p1, oi p2, oi p3, oi p4, oi (2 : Int32), oi (1 : Int32), oi m7, oi m8, oi m9, oi m10, oa b290, oa b292, .unset] [(.ref u_339)] _
              refine XS.astore X339.here hx rfl (hb hby at_167) rfl rfl (l' := #[oi p0, oi p1, oi p2, oi p3, oi p4, oi (2 : Int32), oi (1 : Int32), oi m7, oi m8, oi m9, oi m10, oa b290, oa b292, oa u_339]) rfl ?_
              refine XS.aload X339.here hx rfl (hb hby at_169) rfl rfl ?_
              show oS p e below T339 m 171 #[oi p0, oi p1, oi p2, oi p3, oi p4, oi (2 : Int32), oi (1 : Int32), oi m7, oi m8, oi m9, oi m10, oa b290, oa b292, oa u_339] [(.ref u_339)] _
              refine oLen X339 hx hZ rfl Oq339_0 (hb hby at_171) ?_
              refine XS.iload X339.here hx rfl (hb hby at_172) rfl ?_
              refine XS.iload X339.here hx rfl (hb hby at_174) rfl ?_
              refine XS.iadd X339.here hx rfl (hb hby at_176) rfl ?_
              show oS p e below T339 m 177 #[oi p0, oi p1, oi p2, oi p3, oi p4, oi (2 : Int32), oi (1 : Int32), oi m7, oi m8, oi m9, oi m10, oa b290, oa b292, oa u_339] [(.int (3 : Int32)), (.int (3 : Int32))] _
              refine XS.icmpYes X339.here hx rfl (pc0 := 177) (pc' := 182) rfl (hb hby at_177) rfl (teq b344).1 (by decide) (by decide) ?_
              refine XS.aload X339.here hx rfl (hb hby at_182) rfl rfl ?_
              show oS p e below T339 m 184 #[oi p0, oi p1, oi p2, oi p3, oi p4, oi (2 : Int32), oi (1 : Int32), oi m7, oi m8, oi m9, oi m10, oa b290, oa b292, oa u_339] [(.ref u_339)] _
              refine st345 _ ?_
              show oS p e below T345 m 187 #[oi p0, oi p1, oi p2, oi p3, oi p4, oi (2 : Int32), oi (1 : Int32), oi m7, oi m8, oi m9, oi m10, oa b290, oa b292, oa u_339] [(.int (own_f5_3 p2 m7 m8))] _
              refine XS.ifYes X345.here hx rfl (pc0 := 187) (pc' := 192) rfl (hb hby at_187) rfl ((if0 _ _).trans (feq b346).2) (by decide) (by decide) ?_
              refine XS.aload X345.here hx rfl (hb hby at_192) rfl rfl ?_
              refine XS.aload X345.here hx rfl (hb hby at_194) rfl rfl ?_
              show oS p e below T345 m 196 #[oi p0, oi p1, oi p2, oi p3, oi p4, oi (2 : Int32), oi (1 : Int32), oi m7, oi m8, oi m9, oi m10, oa b290, oa b292, oa u_339] [(.ref b290), (.ref u_339)] _
              refine st347 _ ?_
              show oS p e below T347 m 199 #[oi p0, oi p1, oi p2, oi p3, oi p4, oi (2 : Int32), oi (1 : Int32), oi m7, oi m8, oi m9, oi m10, oa b290, oa b292, oa u_339] [(.int (own_f6_32 p2 m7 m8 m7 m8))] _
              refine XS.ifNo X347.here hx rfl (hb hby at_199) rfl ((if0 _ _).trans (feq b348).1) ?_
              refine XS.aload X347.here hx rfl (hb hby at_202) rfl rfl ?_
              refine XS.aload X347.here hx rfl (hb hby at_204) rfl rfl ?_
              show oS p e below T347 m 206 #[oi p0, oi p1, oi p2, oi p3, oi p4, oi (2 : Int32), oi (1 : Int32), oi m7, oi m8, oi m9, oi m10, oa b290, oa b292, oa u_339] [(.ref b292), (.ref u_339)] _
              refine st349 _ ?_
              show oS p e below T349 m 209 #[oi p0, oi p1, oi p2, oi p3, oi p4, oi (2 : Int32), oi (1 : Int32), oi m7, oi m8, oi m9, oi m10, oa b290, oa b292, oa u_339] [(.int (own_f6_31 p2 m7 m8 p2))] _
              refine XS.ifNo X349.here hx rfl (hb hby at_209) rfl ((if0 _ _).trans (feq b350).1) ?_
              refine XS.iconst X349.here hx rfl (hb hby at_212) ?_
              refine XS.goto X349.here hx rfl (pc0 := 213) (pc' := 217) rfl (hb hby at_213) (by decide) (by decide) ?_
              show oS p e below T349 m 217 #[oi p0, oi p1, oi p2, oi p3, oi p4, oi (2 : Int32), oi (1 : Int32), oi m7, oi m8, oi m9, oi m10, oa b290, oa b292, oa u_339] [(.int (1 : Int32))] _
              exact retN X349 hx (t := .boolean) Bd.returns (by simp) (hb hby at_217) hr
            · show own_Q0 Z p0 p1 p2 p3 p4 h0 n0 _ T349.heap _
              rw [eq349]
              exact ⟨rfl, N349⟩
        · skip
          obtain ⟨fs, hr, hrun, hended, hW, hsame⟩ := X309.leave (v := (some (.int (1 : Int32)))) (fun h => by rw [Bd.returns] at h; cases h)
          refine ⟨_, _, pre310 _ ?_, hrun, hended, _, _, rfl, ?_, ⟨_, rfl⟩, hW, hsame.mono (by decide) (by decide)⟩
          · show oS p e below T309 m 155 #[oi p0, oi p1, oi p2, oi p3, oi p4, oi (2 : Int32), oi (1 : Int32), oi m7, oi m8, oi m9, oi m10, oa b290, oa b292, .unset] [(.int (own_f3_21 m7 m8 p2))] _
            refine XS.ifNo X309.here hx rfl (hb hby at_155) rfl ((if0 _ _).trans (feq c311).1) ?_
            refine XS.iconst X309.here hx rfl (hb hby at_158) ?_
            show oS p e below T309 m 159 #[oi p0, oi p1, oi p2, oi p3, oi p4, oi (2 : Int32), oi (1 : Int32), oi m7, oi m8, oi m9, oi m10, oa b290, oa b292, .unset] [(.int (1 : Int32))] _
            exact retN X309 hx (t := .boolean) Bd.returns (by simp) (hb hby at_159) hr
          · show own_Q0 Z p0 p1 p2 p3 p4 h0 n0 _ T309.heap _
            rw [eq309]
            exact ⟨rfl, N309⟩
    · skip
      rw [kn, km] at pre11
      have b351 : (2 : Int32) = (2 : Int32) := (by decide)
      have pre352 : ∀ t, Steps p.tables e below (T9.setTop (mkF m 58 #[oi p0, oi p1, oi p2, oi p3, oi p4, oi (2 : Int32), oi (2 : Int32), oi m7, oi m8, oi m9, oi m10, .unset, .unset, .unset] [(.int m8), (.int m7)])) t → Steps p.tables e below (s₁.setTop (entryFrame m #[(.int p0), (.int p1), (.int p2), (.int p3), (.int p4)] maxLocals)) t := by
        intro t k
        refine pre11 t ?_
        show oS p e below T9 m 48 #[oi p0, oi p1, oi p2, oi p3, oi p4, oi (2 : Int32), oi (2 : Int32), oi m7, oi m8, oi m9, oi m10, .unset, .unset, .unset] [] _
        refine XS.iload X9.here hx rfl (hb hby at_48) rfl ?_
        refine XS.iconst X9.here hx rfl (hb hby at_50) ?_
        show oS p e below T9 m 51 #[oi p0, oi p1, oi p2, oi p3, oi p4, oi (2 : Int32), oi (2 : Int32), oi m7, oi m8, oi m9, oi m10, .unset, .unset, .unset] [(.int (2 : Int32)), (.int (2 : Int32))] _
        refine XS.icmpNo X9.here hx rfl (hb hby at_51) rfl (teq b351).2 ?_
        refine XS.iload X9.here hx rfl (hb hby at_54) rfl ?_
        refine XS.iload X9.here hx rfl (hb hby at_56) rfl ?_
        exact k
      by_cases c353 : m7 = m8
      · skip
        obtain ⟨fs, hr, hrun, hended, hW, hsame⟩ := X9.leave (v := (some (.int (1 : Int32)))) (fun h => by rw [Bd.returns] at h; cases h)
        refine ⟨_, _, pre352 _ ?_, hrun, hended, _, _, rfl, ?_, ⟨_, rfl⟩, hW, hsame.mono (by decide) (by decide)⟩
        · show oS p e below T9 m 58 #[oi p0, oi p1, oi p2, oi p3, oi p4, oi (2 : Int32), oi (2 : Int32), oi m7, oi m8, oi m9, oi m10, .unset, .unset, .unset] [(.int m8), (.int m7)] _
          refine XS.icmpNo X9.here hx rfl (hb hby at_58) rfl (teq c353).2 ?_
          refine XS.iconst X9.here hx rfl (hb hby at_61) ?_
          show oS p e below T9 m 62 #[oi p0, oi p1, oi p2, oi p3, oi p4, oi (2 : Int32), oi (2 : Int32), oi m7, oi m8, oi m9, oi m10, .unset, .unset, .unset] [(.int (1 : Int32))] _
          exact retN X9 hx (t := .boolean) Bd.returns (by simp) (hb hby at_62) hr
        · show own_Q0 Z p0 p1 p2 p3 p4 h0 n0 _ T9.heap _
          rw [eq9]
          exact ⟨rfl, N9⟩
      · skip
        have hmx : m7.toInt < m8.toInt := by rw [hm7, hm8] at c353 ⊢; exact own_mm c353
        have b354 : (2 : Int32) = (2 : Int32) := (by decide)
        have pre355 : ∀ t, Steps p.tables e below (T9.setTop (mkF m 73 #[oi p0, oi p1, oi p2, oi p3, oi p4, oi (2 : Int32), oi (2 : Int32), oi m7, oi m8, oi m9, oi m10, .unset, .unset, .unset] [(.int m10), (.int m9)])) t → Steps p.tables e below (s₁.setTop (entryFrame m #[(.int p0), (.int p1), (.int p2), (.int p3), (.int p4)] maxLocals)) t := by
          intro t k
          refine pre352 t ?_
          show oS p e below T9 m 58 #[oi p0, oi p1, oi p2, oi p3, oi p4, oi (2 : Int32), oi (2 : Int32), oi m7, oi m8, oi m9, oi m10, .unset, .unset, .unset] [(.int m8), (.int m7)] _
          refine XS.icmpYes X9.here hx rfl (pc0 := 58) (pc' := 63) rfl (hb hby at_58) rfl (feq c353).2 (by decide) (by decide) ?_
          refine XS.iload X9.here hx rfl (hb hby at_63) rfl ?_
          refine XS.iconst X9.here hx rfl (hb hby at_65) ?_
          show oS p e below T9 m 66 #[oi p0, oi p1, oi p2, oi p3, oi p4, oi (2 : Int32), oi (2 : Int32), oi m7, oi m8, oi m9, oi m10, .unset, .unset, .unset] [(.int (2 : Int32)), (.int (2 : Int32))] _
          refine XS.icmpNo X9.here hx rfl (hb hby at_66) rfl (teq b354).2 ?_
          refine XS.iload X9.here hx rfl (hb hby at_69) rfl ?_
          refine XS.iload X9.here hx rfl (hb hby at_71) rfl ?_
          exact k
        by_cases c356 : m9 = m10
        · skip
          obtain ⟨fs, hr, hrun, hended, hW, hsame⟩ := X9.leave (v := (some (.int (1 : Int32)))) (fun h => by rw [Bd.returns] at h; cases h)
          refine ⟨_, _, pre355 _ ?_, hrun, hended, _, _, rfl, ?_, ⟨_, rfl⟩, hW, hsame.mono (by decide) (by decide)⟩
          · show oS p e below T9 m 73 #[oi p0, oi p1, oi p2, oi p3, oi p4, oi (2 : Int32), oi (2 : Int32), oi m7, oi m8, oi m9, oi m10, .unset, .unset, .unset] [(.int m10), (.int m9)] _
            refine XS.icmpNo X9.here hx rfl (hb hby at_73) rfl (teq c356).2 ?_
            refine XS.iconst X9.here hx rfl (hb hby at_76) ?_
            show oS p e below T9 m 77 #[oi p0, oi p1, oi p2, oi p3, oi p4, oi (2 : Int32), oi (2 : Int32), oi m7, oi m8, oi m9, oi m10, .unset, .unset, .unset] [(.int (1 : Int32))] _
            exact retN X9 hx (t := .boolean) Bd.returns (by simp) (hb hby at_77) hr
          · show own_Q0 Z p0 p1 p2 p3 p4 h0 n0 _ T9.heap _
            rw [eq9]
            exact ⟨rfl, N9⟩
        · skip
          have hmy : m9.toInt < m10.toInt := by rw [hm9, hm10] at c356 ⊢; exact own_mm c356
          obtain ⟨T357, h357, k357, X357, e357, E357, A357, st357⟩ := newP X9 hx hZ (hw _ (List.mem_of_getElem? (i := 8) rfl)) eq9 (g := (mkF m 80 #[oi p0, oi p1, oi p2, oi p3, oi p4, oi (2 : Int32), oi (2 : Int32), oi m7, oi m8, oi m9, oi m10, .unset, .unset, .unset] [(.int (2 : Int32))])) rfl (hb hby at_80) rfl (by decide) (cap := 2) (by decide) (by decide) (by decide) (by decide)
          obtain ⟨b357, g357⟩ : ∃ z, z = h0.size := ⟨_, rfl⟩
          rw [← g357] at A357 st357
          have g_b357 : n0 ≤ b357 := Nat.le_trans Z0 (Nat.le_of_eq g357.symm)
          have Z357 : n0 ≤ h357.size := Nat.le_trans Z0 E357.1
          have V_358 : Arv Z h357 b357 k357 .int (2 : Int32) [(.int (0 : Int32)), (.int (0 : Int32))] (.int (0 : Int32)) := (Arv.new A357 (by decide)).pad (pad_rep [] (.int (0 : Int32)) 2)
          obtain ⟨T359, h359, k359, X359, e359, E359, A359, st359⟩ := newP X357 hx hZ (hw _ (List.mem_of_getElem? (i := 8) rfl)) e357 (g := (mkF m 86 #[oi p0, oi p1, oi p2, oi p3, oi p4, oi (2 : Int32), oi (2 : Int32), oi m7, oi m8, oi m9, oi m10, oa b357, .unset, .unset] [(.int (2 : Int32))])) rfl (hb hby at_86) rfl (by decide) (cap := 2) (by decide) (by decide) (by decide) (by decide)
          obtain ⟨b359, g359⟩ : ∃ z, z = h357.size := ⟨_, rfl⟩
          rw [← g359] at A359 st359
          have g_b359 : n0 ≤ b359 := Nat.le_trans Z357 (Nat.le_of_eq g359.symm)
          have ne360 : b357 ≠ b359 := Nat.ne_of_lt (Nat.lt_of_lt_of_le V_358.lt (Nat.le_of_eq g359.symm))
          have Z359 : n0 ≤ h359.size := Nat.le_trans Z357 E359.1
          have F361 := V_358.ext E359
          have V_362 : Arv Z h359 b359 k359 .int (2 : Int32) [(.int (0 : Int32)), (.int (0 : Int32))] (.int (0 : Int32)) := (Arv.new A359 (by decide)).pad (pad_rep [] (.int (0 : Int32)) 2)
          have b363 : ¬ ((2 : Int32) = (1 : Int32)) := (by decide)
          have b364 : (2 : Int32) = (2 : Int32) := (by decide)
          obtain ⟨T365, h365, X365, e365, W365, V365, st365⟩ := oStI X359 hx hZ e359 F361 (j := (0 : Int32)) ⟨by decide, by decide⟩ 0 rfl (Nat.le_of_ble_eq_true rfl) (g := (mkF m 112 #[oi p0, oi p1, oi p2, oi p3, oi p4, oi (2 : Int32), oi (2 : Int32), oi m7, oi m8, oi m9, oi m10, oa b357, oa b359, .unset] [(.int m7), (.int (0 : Int32)), (.ref b357)])) rfl rfl (hb hby at_112)
          obtain ⟨Lo365, X365, N365⟩ := oOpq X365 (Fr.snoc X365 N9 g_b357)
          have Z365 := Nat.le_trans Z359 (Keep.of_wr W365).1
          have F366 := V_362.other W365 (Ne.symm ne360)
          have V_367 : Arv Z h365 b357 k357 .int (2 : Int32) [(.int m7), (.int (0 : Int32))] (.int (0 : Int32)) := V365
          obtain ⟨T368, h368, X368, e368, W368, V368, st368⟩ := oStI X365 hx hZ e365 V_367 (j := (1 : Int32)) ⟨by decide, by decide⟩ 1 rfl (Nat.le_of_ble_eq_true rfl) (g := (mkF m 118 #[oi p0, oi p1, oi p2, oi p3, oi p4, oi (2 : Int32), oi (2 : Int32), oi m7, oi m8, oi m9, oi m10, oa b357, oa b359, .unset] [(.int m8), (.int (1 : Int32)), (.ref b357)])) rfl rfl (hb hby at_118)
          obtain ⟨Lo368, X368, N368⟩ := oOpq X368 (Fr.snoc X368 N365 g_b357)
          have Z368 := Nat.le_trans Z365 (Keep.of_wr W368).1
          have F369 := F366.other W368 (Ne.symm ne360)
          have V_370 : Arv Z h368 b357 k357 .int (2 : Int32) [(.int m7), (.int m8)] (.int (0 : Int32)) := V368
          have b371 : ¬ ((2 : Int32) = (1 : Int32)) := (by decide)
          have b372 : (2 : Int32) = (2 : Int32) := (by decide)
          obtain ⟨T373, h373, X373, e373, W373, V373, st373⟩ := oStI X368 hx hZ e368 F369 (j := (0 : Int32)) ⟨by decide, by decide⟩ 0 rfl (Nat.le_of_ble_eq_true rfl) (g := (mkF m 141 #[oi p0, oi p1, oi p2, oi p3, oi p4, oi (2 : Int32), oi (2 : Int32), oi m7, oi m8, oi m9, oi m10, oa b357, oa b359, .unset] [(.int m9), (.int (0 : Int32)), (.ref b359)])) rfl rfl (hb hby at_141)
          obtain ⟨Lo373, X373, N373⟩ := oOpq X373 (Fr.snoc X373 N368 g_b359)
          have Z373 := Nat.le_trans Z368 (Keep.of_wr W373).1
          have F374 := V_370.other W373 ne360
          have V_375 : Arv Z h373 b359 k359 .int (2 : Int32) [(.int m9), (.int (0 : Int32))] (.int (0 : Int32)) := V373
          obtain ⟨T376, h376, X376, e376, W376, V376, st376⟩ := oStI X373 hx hZ e373 V_375 (j := (1 : Int32)) ⟨by decide, by decide⟩ 1 rfl (Nat.le_of_ble_eq_true rfl) (g := (mkF m 147 #[oi p0, oi p1, oi p2, oi p3, oi p4, oi (2 : Int32), oi (2 : Int32), oi m7, oi m8, oi m9, oi m10, oa b357, oa b359, .unset] [(.int m10), (.int (1 : Int32)), (.ref b359)])) rfl rfl (hb hby at_147)
          obtain ⟨Lo376, X376, N376⟩ := oOpq X376 (Fr.snoc X376 N373 g_b359)
          have Z376 := Nat.le_trans Z373 (Keep.of_wr W376).1
          have F377 := F374.other W376 ne360
          have V_378 : Arv Z h376 b359 k359 .int (2 : Int32) [(.int m9), (.int m10)] (.int (0 : Int32)) := V376
          obtain ⟨_, _, ⟨T379, L379, k379, n379⟩, -, X379, ⟨Lc379, hQ379, l379, y379, z379⟩, st379⟩ := Jvm.LawKit.callS X376 hx (y := (⟨"com/example/strict_anon/strictanon/service/RecordSetsUnionPinLaw", "shares", "([I[I)Z"⟩ : MethodName)) hown (mvT hZ (hw _ (List.mem_of_getElem? (i := 9) rfl))) (mvT hZ (hw _ (List.mem_of_getElem? (i := 10) rfl))) (mvT hZ (hw _ (List.mem_of_getElem? (i := 11) rfl))) (mvT hZ (hw _ (List.mem_of_getElem? (i := 12) rfl))) (by decide) (backOf (W := 0) (own_rm3_22 l Z av hw [] b357 b359 k357 m7 m8 k359 m9 m10 h376 n0 Z376 F377 V_378) hZ (hw _ (List.mem_of_getElem? (i := 12) rfl)) (hw _ (List.mem_of_getElem? (i := 11) rfl)) (by decide) (by decide)) (g := (mkF m 152 #[oi p0, oi p1, oi p2, oi p3, oi p4, oi (2 : Int32), oi (2 : Int32), oi m7, oi m8, oi m9, oi m10, oa b357, oa b359, .unset] [(.ref b359), (.ref b357)])) rfl (by rw [hml]; rfl) (argsL := [(.ref b357), (.ref b359)]) (rest := []) (lenOf own_pd2 rfl) rfl (by show 2 * 0 + _ ≤ _; exact Nat.le_of_eq rfl) (hb hby at_152) (fun _ _ => ⟨rfl, e376, (by decide : 2 + 0 ≤ _), (by decide : 4 + 0 ≤ _)⟩)
          dsimp only [Pt.U, Pt.locs, Pt.cells, Pt.slots] at X379 l379 y379 z379 st379 hQ379
          have yq379 : k379 = 2 := y379
          have zq379 : n379 = 4 := z379
          subst yq379 zq379
          obtain ⟨rfl, Nq379, eq379⟩ := hQ379
          have N379 : Fr n0 L379 := by rw [l379]; exact Fr.app N376 Nq379
          have pre380 : ∀ t, Steps p.tables e below (T379.setTop (mkF m 155 #[oi p0, oi p1, oi p2, oi p3, oi p4, oi (2 : Int32), oi (2 : Int32), oi m7, oi m8, oi m9, oi m10, oa b357, oa b359, .unset] [(.int (own_f3_22 m7 m8 m9 m10))])) t → Steps p.tables e below (s₁.setTop (entryFrame m #[(.int p0), (.int p1), (.int p2), (.int p3), (.int p4)] maxLocals)) t := by
            intro t k
            refine pre355 t ?_
            show oS p e below T9 m 73 #[oi p0, oi p1, oi p2, oi p3, oi p4, oi (2 : Int32), oi (2 : Int32), oi m7, oi m8, oi m9, oi m10, .unset, .unset, .unset] [(.int m10), (.int m9)] _
            refine XS.icmpYes X9.here hx rfl (pc0 := 73) (pc' := 78) rfl (hb hby at_73) rfl (feq c356).2 (by decide) (by decide) ?_
            refine XS.iload X9.here hx rfl (hb hby at_78) rfl ?_
            show oS p e below T9 m 80 #[oi p0, oi p1, oi p2, oi p3, oi p4, oi (2 : Int32), oi (2 : Int32), oi m7, oi m8, oi m9, oi m10, .unset, .unset, .unset] [(.int (2 : Int32))] _
            refine st357 _ ?_
            show oS p e below T357 m 82 #[oi p0, oi p1, oi p2, oi p3, oi p4, oi (2 : Int32), oi (2 : Int32), oi m7, oi m8, oi m9, oi m10, .unset, .unset, .unset] [(.ref b357)] _
            refine XS.astore X357.here hx rfl (hb hby at_82) rfl rfl (l' := #[oi p0, oi p1, oi p2, oi p3, oi p4, oi (2 : Int32), oi (2 : Int32), oi m7, oi m8, oi m9, oi m10, oa b357, .unset, .unset]) rfl ?_
            refine XS.iload X357.here hx rfl (hb hby at_84) rfl ?_
            show oS p e below T357 m 86 #[oi p0, oi p1, oi p2, oi p3, oi p4, oi (2 : Int32), oi (2 : Int32), oi m7, oi m8, oi m9, oi m10, oa b357, .unset, .unset] [(.int (2 : Int32))] _
            refine st359 _ ?_
            show oS p e below T359 m 88 #[oi p0, oi p1, oi p2, oi p3, oi p4, oi (2 : Int32), oi (2 : Int32), oi m7, oi m8, oi m9, oi m10, oa b357, .unset, .unset] [(.ref b359)] _
            refine XS.astore X359.here hx rfl (hb hby at_88) rfl rfl (l' := #[oi p0, oi p1, oi p2, oi p3, oi p4, oi (2 : Int32), oi (2 : Int32), oi m7, oi m8, oi m9, oi m10, oa b357, oa b359, .unset]) rfl ?_
            refine XS.iload X359.here hx rfl (hb hby at_90) rfl ?_
            refine XS.iconst X359.here hx rfl (hb hby at_92) ?_
            show oS p e below T359 m 93 #[oi p0, oi p1, oi p2, oi p3, oi p4, oi (2 : Int32), oi (2 : Int32), oi m7, oi m8, oi m9, oi m10, oa b357, oa b359, .unset] [(.int (1 : Int32)), (.int (2 : Int32))] _
            refine XS.icmpYes X359.here hx rfl (pc0 := 93) (pc' := 101) rfl (hb hby at_93) rfl (feq b363).2 (by decide) (by decide) ?_
            refine XS.iload X359.here hx rfl (hb hby at_101) rfl ?_
            refine XS.iconst X359.here hx rfl (hb hby at_103) ?_
            show oS p e below T359 m 104 #[oi p0, oi p1, oi p2, oi p3, oi p4, oi (2 : Int32), oi (2 : Int32), oi m7, oi m8, oi m9, oi m10, oa b357, oa b359, .unset] [(.int (2 : Int32)), (.int (2 : Int32))] _
            refine XS.icmpNo X359.here hx rfl (hb hby at_104) rfl (teq b364).2 ?_
            refine XS.aload X359.here hx rfl (hb hby at_107) rfl rfl ?_
            refine XS.iconst X359.here hx rfl (hb hby at_109) ?_
            refine XS.iload X359.here hx rfl (hb hby at_110) rfl ?_
            show oS p e below T359 m 112 #[oi p0, oi p1, oi p2, oi p3, oi p4, oi (2 : Int32), oi (2 : Int32), oi m7, oi m8, oi m9, oi m10, oa b357, oa b359, .unset] [(.int m7), (.int (0 : Int32)), (.ref b357)] _
            refine st365 _ ?_
            show oS p e below T365 m 113 #[oi p0, oi p1, oi p2, oi p3, oi p4, oi (2 : Int32), oi (2 : Int32), oi m7, oi m8, oi m9, oi m10, oa b357, oa b359, .unset] [] _
            refine XS.aload X365.here hx rfl (hb hby at_113) rfl rfl ?_
            refine XS.iconst X365.here hx rfl (hb hby at_115) ?_
            refine XS.iload X365.here hx rfl (hb hby at_116) rfl ?_
            show oS p e below T365 m 118 #[oi p0, oi p1, oi p2, oi p3, oi p4, oi (2 : Int32), oi (2 : Int32), oi m7, oi m8, oi m9, oi m10, oa b357, oa b359, .unset] [(.int m8), (.int (1 : Int32)), (.ref b357)] _
            refine st368 _ ?_
            show oS p e below T368 m 119 #[oi p0, oi p1, oi p2, oi p3, oi p4, oi (2 : Int32), oi (2 : Int32), oi m7, oi m8, oi m9, oi m10, oa b357, oa b359, .unset] [] _
            refine XS.iload X368.here hx rfl (hb hby at_119) rfl ?_
            refine XS.iconst X368.here hx rfl (hb hby at_121) ?_
            show oS p e below T368 m 122 #[oi p0, oi p1, oi p2, oi p3, oi p4, oi (2 : Int32), oi (2 : Int32), oi m7, oi m8, oi m9, oi m10, oa b357, oa b359, .unset] [(.int (1 : Int32)), (.int (2 : Int32))] _
            refine XS.icmpYes X368.here hx rfl (pc0 := 122) (pc' := 130) rfl (hb hby at_122) rfl (feq b371).2 (by decide) (by decide) ?_
            refine XS.iload X368.here hx rfl (hb hby at_130) rfl ?_
            refine XS.iconst X368.here hx rfl (hb hby at_132) ?_
            show oS p e below T368 m 133 #[oi p0, oi p1, oi p2, oi p3, oi p4, oi (2 : Int32), oi (2 : Int32), oi m7, oi m8, oi m9, oi m10, oa b357, oa b359, .unset] [(.int (2 : Int32)), (.int (2 : Int32))] _
            refine XS.icmpNo X368.here hx rfl (hb hby at_133) rfl (teq b372).2 ?_
            refine XS.aload X368.here hx rfl (hb hby at_136) rfl rfl ?_
            refine XS.iconst X368.here hx rfl (hb hby at_138) ?_
            refine XS.iload X368.here hx rfl (hb hby at_139) rfl ?_
            show oS p e below T368 m 141 #[oi p0, oi p1, oi p2, oi p3, oi p4, oi (2 : Int32), oi (2 : Int32), oi m7, oi m8, oi m9, oi m10, oa b357, oa b359, .unset] [(.int m9), (.int (0 : Int32)), (.ref b359)] _
            refine st373 _ ?_
            show oS p e below T373 m 142 #[oi p0, oi p1, oi p2, oi p3, oi p4, oi (2 : Int32), oi (2 : Int32), oi m7, oi m8, oi m9, oi m10, oa b357, oa b359, .unset] [] _
            refine XS.aload X373.here hx rfl (hb hby at_142) rfl rfl ?_
            refine XS.iconst X373.here hx rfl (hb hby at_144) ?_
            refine XS.iload X373.here hx rfl (hb hby at_145) rfl ?_
            show oS p e below T373 m 147 #[oi p0, oi p1, oi p2, oi p3, oi p4, oi (2 : Int32), oi (2 : Int32), oi m7, oi m8, oi m9, oi m10, oa b357, oa b359, .unset] [(.int m10), (.int (1 : Int32)), (.ref b359)] _
            refine st376 _ ?_
            show oS p e below T376 m 148 #[oi p0, oi p1, oi p2, oi p3, oi p4, oi (2 : Int32), oi (2 : Int32), oi m7, oi m8, oi m9, oi m10, oa b357, oa b359, .unset] [] _
            refine XS.aload X376.here hx rfl (hb hby at_148) rfl rfl ?_
            refine XS.aload X376.here hx rfl (hb hby at_150) rfl rfl ?_
            show oS p e below T376 m 152 #[oi p0, oi p1, oi p2, oi p3, oi p4, oi (2 : Int32), oi (2 : Int32), oi m7, oi m8, oi m9, oi m10, oa b357, oa b359, .unset] [(.ref b359), (.ref b357)] _
            refine st379 _ ?_
            exact k
          by_cases c381 : (own_f3_22 m7 m8 m9 m10) = (0 : Int32)
          · skip
            have ne_m7_m9 : m7.toInt ≠ m9.toInt := by
              intro q
              have q' := Int32.toInt_inj.mp q
              rw [q'] at c381
              simp [own_f3_22, own_f7_2] at c381
            have ne_m7_m10 : m7.toInt ≠ m10.toInt := by
              intro q
              have q' := Int32.toInt_inj.mp q
              rw [q'] at c381
              simp [own_f3_22, own_f7_2] at c381
            have ne_m8_m9 : m8.toInt ≠ m9.toInt := by
              intro q
              have q' := Int32.toInt_inj.mp q
              rw [q'] at c381
              simp [own_f3_22, own_f7_2] at c381
            have ne_m8_m10 : m8.toInt ≠ m10.toInt := by
              intro q
              have q' := Int32.toInt_inj.mp q
              rw [q'] at c381
              simp [own_f3_22, own_f7_2] at c381
            have pre382 : ∀ t, Steps p.tables e below (T379.setTop (mkF m 164 #[oi p0, oi p1, oi p2, oi p3, oi p4, oi (2 : Int32), oi (2 : Int32), oi m7, oi m8, oi m9, oi m10, oa b357, oa b359, .unset] [(.ref b359), (.ref b357)])) t → Steps p.tables e below (s₁.setTop (entryFrame m #[(.int p0), (.int p1), (.int p2), (.int p3), (.int p4)] maxLocals)) t := by
              intro t k
              refine pre380 t ?_
              show oS p e below T379 m 155 #[oi p0, oi p1, oi p2, oi p3, oi p4, oi (2 : Int32), oi (2 : Int32), oi m7, oi m8, oi m9, oi m10, oa b357, oa b359, .unset] [(.int (own_f3_22 m7 m8 m9 m10))] _
              refine XS.ifYes X379.here hx rfl (pc0 := 155) (pc' := 160) rfl (hb hby at_155) rfl ((if0 _ _).trans (teq c381).1) (by decide) (by decide) ?_
              refine XS.aload X379.here hx rfl (hb hby at_160) rfl rfl ?_
              refine XS.aload X379.here hx rfl (hb hby at_162) rfl rfl ?_
              exact k
            by_cases c383 : m7 < m9
            · skip
              have mc383 := c383
              simp only [own_ltp] at mc383
              by_cases c384 : m8 < m9
              · skip
                have mc384 := c384
                simp only [own_ltp] at mc384
                obtain ⟨_, _, ⟨T385, L385, k385, n385⟩, -, X385, ⟨Lc385, hQ385, l385, y385, z385⟩, st385⟩ := Jvm.LawKit.callS X379 hx (y := (⟨"com/example/strict_anon/strictanon/service/RecordSets", "union", "([I[I)[I"⟩ : MethodName)) hown (mvT hZ (hw _ (List.mem_of_getElem? (i := 13) rfl))) (mvT hZ (hw _ (List.mem_of_getElem? (i := 14) rfl))) (mvT hZ (hw _ (List.mem_of_getElem? (i := 15) rfl))) (mvT hZ (hw _ (List.mem_of_getElem? (i := 16) rfl))) (by decide) (backOf (W := 0) (own_rm4_22xxyy l Z av hw [] b357 b359 k357 m7 m8 k359 m9 m10 h376 n0 Z376 F377 V_378 (c383) (c384)) hZ (hw _ (List.mem_of_getElem? (i := 16) rfl)) (hw _ (List.mem_of_getElem? (i := 15) rfl)) (by decide) (by decide)) (g := (mkF m 164 #[oi p0, oi p1, oi p2, oi p3, oi p4, oi (2 : Int32), oi (2 : Int32), oi m7, oi m8, oi m9, oi m10, oa b357, oa b359, .unset] [(.ref b359), (.ref b357)])) rfl (by rw [hml]; rfl) (argsL := [(.ref b357), (.ref b359)]) (rest := []) (lenOf own_pd3 rfl) rfl (by show 2 * 0 + _ ≤ _; exact Nat.le_of_eq rfl) (hb hby at_164) (fun _ _ => ⟨rfl, eq379, (by decide : 2 + 1 ≤ _), (by decide : 4 + 4 ≤ _)⟩)
                dsimp only [Pt.U, Pt.locs, Pt.cells, Pt.slots] at X385 l385 y385 z385 st385 hQ385
                have yq385 : k385 = 3 := y385
                have zq385 : n385 = 8 := z385
                subst yq385 zq385
                obtain ⟨u_385, k_u_385, rfl, Nq385, Kq385, gq385_u, Oq385_0⟩ := hQ385
                have N385 : Fr n0 L385 := by rw [l385]; exact Fr.app N379 Nq385
                have Z385 : n0 ≤ T385.heap.size := Nat.le_trans Z376 Kq385.1
                have g_u_385 : n0 ≤ u_385 := Nat.le_trans Z376 gq385_u
                have ne386 : b357 ≠ u_385 := Nat.ne_of_lt (Nat.lt_of_lt_of_le F377.lt gq385_u)
                have ne387 : b359 ≠ u_385 := Nat.ne_of_lt (Nat.lt_of_lt_of_le V_378.lt gq385_u)
                have F388 := F377.keep Kq385 nin0
                have F389 := V_378.keep Kq385 nin0
                have b390 : (4 : Int32) = (4 : Int32) := (by decide)
                obtain ⟨_, _, ⟨T391, L391, k391, n391⟩, -, X391, ⟨Lc391, hQ391, l391, y391, z391⟩, st391⟩ := Jvm.LawKit.callS X385 hx (y := (⟨"com/example/strict_anon/strictanon/service/RecordSetsUnionPinLaw", "increasing", "([I)Z"⟩ : MethodName)) hown (mvT hZ (hw _ (List.mem_of_getElem? (i := 17) rfl))) (mvT hZ (hw _ (List.mem_of_getElem? (i := 18) rfl))) (mvT hZ (hw _ (List.mem_of_getElem? (i := 11) rfl))) (mvT hZ (hw _ (List.mem_of_getElem? (i := 19) rfl))) (by decide) (backOf (W := 0) (own_rm5_4 l Z av hw [] u_385 k_u_385 m7 m8 m9 m10 T385.heap n0 Z385 Oq385_0) hZ (hw _ (List.mem_of_getElem? (i := 19) rfl)) (hw _ (List.mem_of_getElem? (i := 11) rfl)) (by decide) (by decide)) (g := (mkF m 184 #[oi p0, oi p1, oi p2, oi p3, oi p4, oi (2 : Int32), oi (2 : Int32), oi m7, oi m8, oi m9, oi m10, oa b357, oa b359, oa u_385] [(.ref u_385)])) rfl (by rw [hml]; rfl) (argsL := [(.ref u_385)]) (rest := []) (lenOf own_pd4 rfl) rfl (by show 2 * 0 + _ ≤ _; exact Nat.le_of_eq rfl) (hb hby at_184) (fun _ _ => ⟨rfl, rfl, (by decide : 3 + 0 ≤ _), (by decide : 8 + 0 ≤ _)⟩)
                dsimp only [Pt.U, Pt.locs, Pt.cells, Pt.slots] at X391 l391 y391 z391 st391 hQ391
                have yq391 : k391 = 3 := y391
                have zq391 : n391 = 8 := z391
                subst yq391 zq391
                obtain ⟨rfl, Nq391, eq391⟩ := hQ391
                have N391 : Fr n0 L391 := by rw [l391]; exact Fr.app N385 Nq391
                have b392 : ¬ ((own_f5_4 m7 m8 m9 m10) = (0 : Int32)) := by unfold own_f5_4; (try simp only [own_ltp]); (repeat' split) <;> first | decide | (exfalso; omega)
                obtain ⟨_, _, ⟨T393, L393, k393, n393⟩, -, X393, ⟨Lc393, hQ393, l393, y393, z393⟩, st393⟩ := Jvm.LawKit.callS X391 hx (y := (⟨"com/example/strict_anon/strictanon/service/RecordSetsUnionPinLaw", "containsAll", "([I[I)Z"⟩ : MethodName)) hown (mvT hZ (hw _ (List.mem_of_getElem? (i := 20) rfl))) (mvT hZ (hw _ (List.mem_of_getElem? (i := 21) rfl))) (mvT hZ (hw _ (List.mem_of_getElem? (i := 11) rfl))) (mvT hZ (hw _ (List.mem_of_getElem? (i := 22) rfl))) (by decide) (backOf (W := 0) (own_rm6_42 l Z av hw [] u_385 b357 k_u_385 m7 m8 m9 m10 k357 m7 m8 T385.heap n0 Z385 Oq385_0 F388) hZ (hw _ (List.mem_of_getElem? (i := 22) rfl)) (hw _ (List.mem_of_getElem? (i := 11) rfl)) (by decide) (by decide)) (g := (mkF m 196 #[oi p0, oi p1, oi p2, oi p3, oi p4, oi (2 : Int32), oi (2 : Int32), oi m7, oi m8, oi m9, oi m10, oa b357, oa b359, oa u_385] [(.ref b357), (.ref u_385)])) rfl (by rw [hml]; rfl) (argsL := [(.ref u_385), (.ref b357)]) (rest := []) (lenOf own_pd2 rfl) rfl (by show 2 * 0 + _ ≤ _; exact Nat.le_of_eq rfl) (hb hby at_196) (fun _ _ => ⟨rfl, eq391, (by decide : 3 + 0 ≤ _), (by decide : 8 + 0 ≤ _)⟩)
                dsimp only [Pt.U, Pt.locs, Pt.cells, Pt.slots] at X393 l393 y393 z393 st393 hQ393
                have yq393 : k393 = 3 := y393
                have zq393 : n393 = 8 := z393
                subst yq393 zq393
                obtain ⟨rfl, Nq393, eq393⟩ := hQ393
                have N393 : Fr n0 L393 := by rw [l393]; exact Fr.app N391 Nq393
                have b394 : ¬ ((own_f6_42 m7 m8 m9 m10 m7 m8) = (0 : Int32)) := by simp [own_f6_42, own_f7_4]
                obtain ⟨_, _, ⟨T395, L395, k395, n395⟩, -, X395, ⟨Lc395, hQ395, l395, y395, z395⟩, st395⟩ := Jvm.LawKit.callS X393 hx (y := (⟨"com/example/strict_anon/strictanon/service/RecordSetsUnionPinLaw", "containsAll", "([I[I)Z"⟩ : MethodName)) hown (mvT hZ (hw _ (List.mem_of_getElem? (i := 20) rfl))) (mvT hZ (hw _ (List.mem_of_getElem? (i := 21) rfl))) (mvT hZ (hw _ (List.mem_of_getElem? (i := 11) rfl))) (mvT hZ (hw _ (List.mem_of_getElem? (i := 22) rfl))) (by decide) (backOf (W := 0) (own_rm6_42 l Z av hw [] u_385 b359 k_u_385 m7 m8 m9 m10 k359 m9 m10 T385.heap n0 Z385 Oq385_0 F389) hZ (hw _ (List.mem_of_getElem? (i := 22) rfl)) (hw _ (List.mem_of_getElem? (i := 11) rfl)) (by decide) (by decide)) (g := (mkF m 206 #[oi p0, oi p1, oi p2, oi p3, oi p4, oi (2 : Int32), oi (2 : Int32), oi m7, oi m8, oi m9, oi m10, oa b357, oa b359, oa u_385] [(.ref b359), (.ref u_385)])) rfl (by rw [hml]; rfl) (argsL := [(.ref u_385), (.ref b359)]) (rest := []) (lenOf own_pd2 rfl) rfl (by show 2 * 0 + _ ≤ _; exact Nat.le_of_eq rfl) (hb hby at_206) (fun _ _ => ⟨rfl, eq393, (by decide : 3 + 0 ≤ _), (by decide : 8 + 0 ≤ _)⟩)
                dsimp only [Pt.U, Pt.locs, Pt.cells, Pt.slots] at X395 l395 y395 z395 st395 hQ395
                have yq395 : k395 = 3 := y395
                have zq395 : n395 = 8 := z395
                subst yq395 zq395
                obtain ⟨rfl, Nq395, eq395⟩ := hQ395
                have N395 : Fr n0 L395 := by rw [l395]; exact Fr.app N393 Nq395
                have b396 : ¬ ((own_f6_42 m7 m8 m9 m10 m9 m10) = (0 : Int32)) := by simp [own_f6_42, own_f7_4]
                obtain ⟨fs, hr, hrun, hended, hW, hsame⟩ := X395.leave (v := (some (.int (1 : Int32)))) (fun h => by rw [Bd.returns] at h; cases h)
                refine ⟨_, _, pre382 _ ?_, hrun, hended, _, _, rfl, ?_, ⟨_, rfl⟩, hW, hsame.mono (by decide) (by decide)⟩
                · show oS p e below T379 m 164 #[oi p0, oi p1, oi p2, oi p3, oi p4, oi (2 : Int32), oi (2 : Int32), oi m7, oi m8, oi m9, oi m10, oa b357, oa b359, .unset] [(.ref b359), (.ref b357)] _
                  refine st385 _ ?_
                  show oS p e below T385 m 167 #[oi p0, oi p1, oi p2, oi p3, oi p4, oi (2 : Int32), oi (2 : Int32), oi m7, oi m8, oi m9, oi m10, oa b357, oa b359, .unset] [(.ref u_385)] _
                  refine XS.astore X385.here hx rfl (hb hby at_167) rfl rfl (l' := #[oi p0, oi p1, oi p2, oi p3, oi p4, oi (2 : Int32), oi (2 : Int32), oi m7, oi m8, oi m9, oi m10, oa b357, oa b359, oa u_385]) rfl ?_
                  refine XS.aload X385.here hx rfl (hb hby at_169) rfl rfl ?_
                  show oS p e below T385 m 171 #[oi p0, oi p1, oi p2, oi p3, oi p4, oi (2 : Int32), oi (2 : Int32), oi m7, oi m8, oi m9, oi m10, oa b357, oa b359, oa u_385] [(.ref u_385)] _
                  refine oLen X385 hx hZ rfl Oq385_0 (hb hby at_171) ?_
                  refine XS.iload X385.here hx rfl (hb hby at_172) rfl ?_
                  refine XS.iload X385.here hx rfl (hb hby at_174) rfl ?_
                  refine XS.iadd X385.here hx rfl (hb hby at_176) rfl ?_
                  show oS p e below T385 m 177 #[oi p0, oi p1, oi p2, oi p3, oi p4, oi (2 : Int32), oi (2 : Int32), oi m7, oi m8, oi m9, oi m10, oa b357, oa b359, oa u_385] [(.int (4 : Int32)), (.int (4 : Int32))] _
                  refine XS.icmpYes X385.here hx rfl (pc0 := 177) (pc' := 182) rfl (hb hby at_177) rfl (teq b390).1 (by decide) (by decide) ?_
                  refine XS.aload X385.here hx rfl (hb hby at_182) rfl rfl ?_
                  show oS p e below T385 m 184 #[oi p0, oi p1, oi p2, oi p3, oi p4, oi (2 : Int32), oi (2 : Int32), oi m7, oi m8, oi m9, oi m10, oa b357, oa b359, oa u_385] [(.ref u_385)] _
                  refine st391 _ ?_
                  show oS p e below T391 m 187 #[oi p0, oi p1, oi p2, oi p3, oi p4, oi (2 : Int32), oi (2 : Int32), oi m7, oi m8, oi m9, oi m10, oa b357, oa b359, oa u_385] [(.int (own_f5_4 m7 m8 m9 m10))] _
                  refine XS.ifYes X391.here hx rfl (pc0 := 187) (pc' := 192) rfl (hb hby at_187) rfl ((if0 _ _).trans (feq b392).2) (by decide) (by decide) ?_
                  refine XS.aload X391.here hx rfl (hb hby at_192) rfl rfl ?_
                  refine XS.aload X391.here hx rfl (hb hby at_194) rfl rfl ?_
                  show oS p e below T391 m 196 #[oi p0, oi p1, oi p2, oi p3, oi p4, oi (2 : Int32), oi (2 : Int32), oi m7, oi m8, oi m9, oi m10, oa b357, oa b359, oa u_385] [(.ref b357), (.ref u_385)] _
                  refine st393 _ ?_
                  show oS p e below T393 m 199 #[oi p0, oi p1, oi p2, oi p3, oi p4, oi (2 : Int32), oi (2 : Int32), oi m7, oi m8, oi m9, oi m10, oa b357, oa b359, oa u_385] [(.int (own_f6_42 m7 m8 m9 m10 m7 m8))] _
                  refine XS.ifNo X393.here hx rfl (hb hby at_199) rfl ((if0 _ _).trans (feq b394).1) ?_
                  refine XS.aload X393.here hx rfl (hb hby at_202) rfl rfl ?_
                  refine XS.aload X393.here hx rfl (hb hby at_204) rfl rfl ?_
                  show oS p e below T393 m 206 #[oi p0, oi p1, oi p2, oi p3, oi p4, oi (2 : Int32), oi (2 : Int32), oi m7, oi m8, oi m9, oi m10, oa b357, oa b359, oa u_385] [(.ref b359), (.ref u_385)] _
                  refine st395 _ ?_
                  show oS p e below T395 m 209 #[oi p0, oi p1, oi p2, oi p3, oi p4, oi (2 : Int32), oi (2 : Int32), oi m7, oi m8, oi m9, oi m10, oa b357, oa b359, oa u_385] [(.int (own_f6_42 m7 m8 m9 m10 m9 m10))] _
                  refine XS.ifNo X395.here hx rfl (hb hby at_209) rfl ((if0 _ _).trans (feq b396).1) ?_
                  refine XS.iconst X395.here hx rfl (hb hby at_212) ?_
                  refine XS.goto X395.here hx rfl (pc0 := 213) (pc' := 217) rfl (hb hby at_213) (by decide) (by decide) ?_
                  show oS p e below T395 m 217 #[oi p0, oi p1, oi p2, oi p3, oi p4, oi (2 : Int32), oi (2 : Int32), oi m7, oi m8, oi m9, oi m10, oa b357, oa b359, oa u_385] [(.int (1 : Int32))] _
                  exact retN X395 hx (t := .boolean) Bd.returns (by simp) (hb hby at_217) hr
                · show own_Q0 Z p0 p1 p2 p3 p4 h0 n0 _ T395.heap _
                  rw [eq395]
                  exact ⟨rfl, N395⟩
              · skip
                have mc384 := c384
                simp only [own_ltp] at mc384
                by_cases c397 : m8 < m10
                · skip
                  have mc397 := c397
                  simp only [own_ltp] at mc397
                  obtain ⟨_, _, ⟨T398, L398, k398, n398⟩, -, X398, ⟨Lc398, hQ398, l398, y398, z398⟩, st398⟩ := Jvm.LawKit.callS X379 hx (y := (⟨"com/example/strict_anon/strictanon/service/RecordSets", "union", "([I[I)[I"⟩ : MethodName)) hown (mvT hZ (hw _ (List.mem_of_getElem? (i := 13) rfl))) (mvT hZ (hw _ (List.mem_of_getElem? (i := 14) rfl))) (mvT hZ (hw _ (List.mem_of_getElem? (i := 15) rfl))) (mvT hZ (hw _ (List.mem_of_getElem? (i := 16) rfl))) (by decide) (backOf (W := 0) (own_rm4_22xyxy l Z av hw [] b357 b359 k357 m7 m8 k359 m9 m10 h376 n0 Z376 F377 V_378 (c383) (c384) (c397)) hZ (hw _ (List.mem_of_getElem? (i := 16) rfl)) (hw _ (List.mem_of_getElem? (i := 15) rfl)) (by decide) (by decide)) (g := (mkF m 164 #[oi p0, oi p1, oi p2, oi p3, oi p4, oi (2 : Int32), oi (2 : Int32), oi m7, oi m8, oi m9, oi m10, oa b357, oa b359, .unset] [(.ref b359), (.ref b357)])) rfl (by rw [hml]; rfl) (argsL := [(.ref b357), (.ref b359)]) (rest := []) (lenOf own_pd3 rfl) rfl (by show 2 * 0 + _ ≤ _; exact Nat.le_of_eq rfl) (hb hby at_164) (fun _ _ => ⟨rfl, eq379, (by decide : 2 + 1 ≤ _), (by decide : 4 + 4 ≤ _)⟩)
                  dsimp only [Pt.U, Pt.locs, Pt.cells, Pt.slots] at X398 l398 y398 z398 st398 hQ398
                  have yq398 : k398 = 3 := y398
                  have zq398 : n398 = 8 := z398
                  subst yq398 zq398
                  obtain ⟨u_398, k_u_398, rfl, Nq398, Kq398, gq398_u, Oq398_0⟩ := hQ398
                  have N398 : Fr n0 L398 := by rw [l398]; exact Fr.app N379 Nq398
                  have Z398 : n0 ≤ T398.heap.size := Nat.le_trans Z376 Kq398.1
                  have g_u_398 : n0 ≤ u_398 := Nat.le_trans Z376 gq398_u
                  have ne399 : b357 ≠ u_398 := Nat.ne_of_lt (Nat.lt_of_lt_of_le F377.lt gq398_u)
                  have ne400 : b359 ≠ u_398 := Nat.ne_of_lt (Nat.lt_of_lt_of_le V_378.lt gq398_u)
                  have F401 := F377.keep Kq398 nin0
                  have F402 := V_378.keep Kq398 nin0
                  have b403 : (4 : Int32) = (4 : Int32) := (by decide)
                  obtain ⟨_, _, ⟨T404, L404, k404, n404⟩, -, X404, ⟨Lc404, hQ404, l404, y404, z404⟩, st404⟩ := Jvm.LawKit.callS X398 hx (y := (⟨"com/example/strict_anon/strictanon/service/RecordSetsUnionPinLaw", "increasing", "([I)Z"⟩ : MethodName)) hown (mvT hZ (hw _ (List.mem_of_getElem? (i := 17) rfl))) (mvT hZ (hw _ (List.mem_of_getElem? (i := 18) rfl))) (mvT hZ (hw _ (List.mem_of_getElem? (i := 11) rfl))) (mvT hZ (hw _ (List.mem_of_getElem? (i := 19) rfl))) (by decide) (backOf (W := 0) (own_rm5_4 l Z av hw [] u_398 k_u_398 m7 m9 m8 m10 T398.heap n0 Z398 Oq398_0) hZ (hw _ (List.mem_of_getElem? (i := 19) rfl)) (hw _ (List.mem_of_getElem? (i := 11) rfl)) (by decide) (by decide)) (g := (mkF m 184 #[oi p0, oi p1, oi p2, oi p3, oi p4, oi (2 : Int32), oi (2 : Int32), oi m7, oi m8, oi m9, oi m10, oa b357, oa b359, oa u_398] [(.ref u_398)])) rfl (by rw [hml]; rfl) (argsL := [(.ref u_398)]) (rest := []) (lenOf own_pd4 rfl) rfl (by show 2 * 0 + _ ≤ _; exact Nat.le_of_eq rfl) (hb hby at_184) (fun _ _ => ⟨rfl, rfl, (by decide : 3 + 0 ≤ _), (by decide : 8 + 0 ≤ _)⟩)
                  dsimp only [Pt.U, Pt.locs, Pt.cells, Pt.slots] at X404 l404 y404 z404 st404 hQ404
                  have yq404 : k404 = 3 := y404
                  have zq404 : n404 = 8 := z404
                  subst yq404 zq404
                  obtain ⟨rfl, Nq404, eq404⟩ := hQ404
                  have N404 : Fr n0 L404 := by rw [l404]; exact Fr.app N398 Nq404
                  have b405 : ¬ ((own_f5_4 m7 m9 m8 m10) = (0 : Int32)) := by unfold own_f5_4; (try simp only [own_ltp]); (repeat' split) <;> first | decide | (exfalso; omega)
                  obtain ⟨_, _, ⟨T406, L406, k406, n406⟩, -, X406, ⟨Lc406, hQ406, l406, y406, z406⟩, st406⟩ := Jvm.LawKit.callS X404 hx (y := (⟨"com/example/strict_anon/strictanon/service/RecordSetsUnionPinLaw", "containsAll", "([I[I)Z"⟩ : MethodName)) hown (mvT hZ (hw _ (List.mem_of_getElem? (i := 20) rfl))) (mvT hZ (hw _ (List.mem_of_getElem? (i := 21) rfl))) (mvT hZ (hw _ (List.mem_of_getElem? (i := 11) rfl))) (mvT hZ (hw _ (List.mem_of_getElem? (i := 22) rfl))) (by decide) (backOf (W := 0) (own_rm6_42 l Z av hw [] u_398 b357 k_u_398 m7 m9 m8 m10 k357 m7 m8 T398.heap n0 Z398 Oq398_0 F401) hZ (hw _ (List.mem_of_getElem? (i := 22) rfl)) (hw _ (List.mem_of_getElem? (i := 11) rfl)) (by decide) (by decide)) (g := (mkF m 196 #[oi p0, oi p1, oi p2, oi p3, oi p4, oi (2 : Int32), oi (2 : Int32), oi m7, oi m8, oi m9, oi m10, oa b357, oa b359, oa u_398] [(.ref b357), (.ref u_398)])) rfl (by rw [hml]; rfl) (argsL := [(.ref u_398), (.ref b357)]) (rest := []) (lenOf own_pd2 rfl) rfl (by show 2 * 0 + _ ≤ _; exact Nat.le_of_eq rfl) (hb hby at_196) (fun _ _ => ⟨rfl, eq404, (by decide : 3 + 0 ≤ _), (by decide : 8 + 0 ≤ _)⟩)
                  dsimp only [Pt.U, Pt.locs, Pt.cells, Pt.slots] at X406 l406 y406 z406 st406 hQ406
                  have yq406 : k406 = 3 := y406
                  have zq406 : n406 = 8 := z406
                  subst yq406 zq406
                  obtain ⟨rfl, Nq406, eq406⟩ := hQ406
                  have N406 : Fr n0 L406 := by rw [l406]; exact Fr.app N404 Nq406
                  have b407 : ¬ ((own_f6_42 m7 m9 m8 m10 m7 m8) = (0 : Int32)) := by simp [own_f6_42, own_f7_4]
                  obtain ⟨_, _, ⟨T408, L408, k408, n408⟩, -, X408, ⟨Lc408, hQ408, l408, y408, z408⟩, st408⟩ := Jvm.LawKit.callS X406 hx (y := (⟨"com/example/strict_anon/strictanon/service/RecordSetsUnionPinLaw", "containsAll", "([I[I)Z"⟩ : MethodName)) hown (mvT hZ (hw _ (List.mem_of_getElem? (i := 20) rfl))) (mvT hZ (hw _ (List.mem_of_getElem? (i := 21) rfl))) (mvT hZ (hw _ (List.mem_of_getElem? (i := 11) rfl))) (mvT hZ (hw _ (List.mem_of_getElem? (i := 22) rfl))) (by decide) (backOf (W := 0) (own_rm6_42 l Z av hw [] u_398 b359 k_u_398 m7 m9 m8 m10 k359 m9 m10 T398.heap n0 Z398 Oq398_0 F402) hZ (hw _ (List.mem_of_getElem? (i := 22) rfl)) (hw _ (List.mem_of_getElem? (i := 11) rfl)) (by decide) (by decide)) (g := (mkF m 206 #[oi p0, oi p1, oi p2, oi p3, oi p4, oi (2 : Int32), oi (2 : Int32), oi m7, oi m8, oi m9, oi m10, oa b357, oa b359, oa u_398] [(.ref b359), (.ref u_398)])) rfl (by rw [hml]; rfl) (argsL := [(.ref u_398), (.ref b359)]) (rest := []) (lenOf own_pd2 rfl) rfl (by show 2 * 0 + _ ≤ _; exact Nat.le_of_eq rfl) (hb hby at_206) (fun _ _ => ⟨rfl, eq406, (by decide : 3 + 0 ≤ _), (by decide : 8 + 0 ≤ _)⟩)
                  dsimp only [Pt.U, Pt.locs, Pt.cells, Pt.slots] at X408 l408 y408 z408 st408 hQ408
                  have yq408 : k408 = 3 := y408
                  have zq408 : n408 = 8 := z408
                  subst yq408 zq408
                  obtain ⟨rfl, Nq408, eq408⟩ := hQ408
                  have N408 : Fr n0 L408 := by rw [l408]; exact Fr.app N406 Nq408
                  have b409 : ¬ ((own_f6_42 m7 m9 m8 m10 m9 m10) = (0 : Int32)) := by simp [own_f6_42, own_f7_4]
                  obtain ⟨fs, hr, hrun, hended, hW, hsame⟩ := X408.leave (v := (some (.int (1 : Int32)))) (fun h => by rw [Bd.returns] at h; cases h)
                  refine ⟨_, _, pre382 _ ?_, hrun, hended, _, _, rfl, ?_, ⟨_, rfl⟩, hW, hsame.mono (by decide) (by decide)⟩
                  · show oS p e below T379 m 164 #[oi p0, oi p1, oi p2, oi p3, oi p4, oi (2 : Int32), oi (2 : Int32), oi m7, oi m8, oi m9, oi m10, oa b357, oa b359, .unset] [(.ref b359), (.ref b357)] _
                    refine st398 _ ?_
                    show oS p e below T398 m 167 #[oi p0, oi p1, oi p2, oi p3, oi p4, oi (2 : Int32), oi (2 : Int32), oi m7, oi m8, oi m9, oi m10, oa b357, oa b359, .unset] [(.ref u_398)] _
                    refine XS.astore X398.here hx rfl (hb hby at_167) rfl rfl (l' := #[oi p0, oi p1, oi p2, oi p3, oi p4, oi (2 : Int32), oi (2 : Int32), oi m7, oi m8, oi m9, oi m10, oa b357, oa b359, oa u_398]) rfl ?_
                    refine XS.aload X398.here hx rfl (hb hby at_169) rfl rfl ?_
                    show oS p e below T398 m 171 #[oi p0, oi p1, oi p2, oi p3, oi p4, oi (2 : Int32), oi (2 : Int32), oi m7, oi m8, oi m9, oi m10, oa b357, oa b359, oa u_398] [(.ref u_398)] _
                    refine oLen X398 hx hZ rfl Oq398_0 (hb hby at_171) ?_
                    refine XS.iload X398.here hx rfl (hb hby at_172) rfl ?_
                    refine XS.iload X398.here hx rfl (hb hby at_174) rfl ?_
                    refine XS.iadd X398.here hx rfl (hb hby at_176) rfl ?_
                    show oS p e below T398 m 177 #[oi p0, oi p1, oi p2, oi p3, oi p4, oi (2 : Int32), oi (2 : Int32), oi m7, oi m8, oi m9, oi m10, oa b357, oa b359, oa u_398] [(.int (4 : Int32)), (.int (4 : Int32))] _
                    refine XS.icmpYes X398.here hx rfl (pc0 := 177) (pc' := 182) rfl (hb hby at_177) rfl (teq b403).1 (by decide) (by decide) ?_
                    refine XS.aload X398.here hx rfl (hb hby at_182) rfl rfl ?_
                    show oS p e below T398 m 184 #[oi p0, oi p1, oi p2, oi p3, oi p4, oi (2 : Int32), oi (2 : Int32), oi m7, oi m8, oi m9, oi m10, oa b357, oa b359, oa u_398] [(.ref u_398)] _
                    refine st404 _ ?_
                    show oS p e below T404 m 187 #[oi p0, oi p1, oi p2, oi p3, oi p4, oi (2 : Int32), oi (2 : Int32), oi m7, oi m8, oi m9, oi m10, oa b357, oa b359, oa u_398] [(.int (own_f5_4 m7 m9 m8 m10))] _
                    refine XS.ifYes X404.here hx rfl (pc0 := 187) (pc' := 192) rfl (hb hby at_187) rfl ((if0 _ _).trans (feq b405).2) (by decide) (by decide) ?_
                    refine XS.aload X404.here hx rfl (hb hby at_192) rfl rfl ?_
                    refine XS.aload X404.here hx rfl (hb hby at_194) rfl rfl ?_
                    show oS p e below T404 m 196 #[oi p0, oi p1, oi p2, oi p3, oi p4, oi (2 : Int32), oi (2 : Int32), oi m7, oi m8, oi m9, oi m10, oa b357, oa b359, oa u_398] [(.ref b357), (.ref u_398)] _
                    refine st406 _ ?_
                    show oS p e below T406 m 199 #[oi p0, oi p1, oi p2, oi p3, oi p4, oi (2 : Int32), oi (2 : Int32), oi m7, oi m8, oi m9, oi m10, oa b357, oa b359, oa u_398] [(.int (own_f6_42 m7 m9 m8 m10 m7 m8))] _
                    refine XS.ifNo X406.here hx rfl (hb hby at_199) rfl ((if0 _ _).trans (feq b407).1) ?_
                    refine XS.aload X406.here hx rfl (hb hby at_202) rfl rfl ?_
                    refine XS.aload X406.here hx rfl (hb hby at_204) rfl rfl ?_
                    show oS p e below T406 m 206 #[oi p0, oi p1, oi p2, oi p3, oi p4, oi (2 : Int32), oi (2 : Int32), oi m7, oi m8, oi m9, oi m10, oa b357, oa b359, oa u_398] [(.ref b359), (.ref u_398)] _
                    refine st408 _ ?_
                    show oS p e below T408 m 209 #[oi p0, oi p1, oi p2, oi p3, oi p4, oi (2 : Int32), oi (2 : Int32), oi m7, oi m8, oi m9, oi m10, oa b357, oa b359, oa u_398] [(.int (own_f6_42 m7 m9 m8 m10 m9 m10))] _
                    refine XS.ifNo X408.here hx rfl (hb hby at_209) rfl ((if0 _ _).trans (feq b409).1) ?_
                    refine XS.iconst X408.here hx rfl (hb hby at_212) ?_
                    refine XS.goto X408.here hx rfl (pc0 := 213) (pc' := 217) rfl (hb hby at_213) (by decide) (by decide) ?_
                    show oS p e below T408 m 217 #[oi p0, oi p1, oi p2, oi p3, oi p4, oi (2 : Int32), oi (2 : Int32), oi m7, oi m8, oi m9, oi m10, oa b357, oa b359, oa u_398] [(.int (1 : Int32))] _
                    exact retN X408 hx (t := .boolean) Bd.returns (by simp) (hb hby at_217) hr
                  · show own_Q0 Z p0 p1 p2 p3 p4 h0 n0 _ T408.heap _
                    rw [eq408]
                    exact ⟨rfl, N408⟩
                · skip
                  have mc397 := c397
                  simp only [own_ltp] at mc397
                  obtain ⟨_, _, ⟨T410, L410, k410, n410⟩, -, X410, ⟨Lc410, hQ410, l410, y410, z410⟩, st410⟩ := Jvm.LawKit.callS X379 hx (y := (⟨"com/example/strict_anon/strictanon/service/RecordSets", "union", "([I[I)[I"⟩ : MethodName)) hown (mvT hZ (hw _ (List.mem_of_getElem? (i := 13) rfl))) (mvT hZ (hw _ (List.mem_of_getElem? (i := 14) rfl))) (mvT hZ (hw _ (List.mem_of_getElem? (i := 15) rfl))) (mvT hZ (hw _ (List.mem_of_getElem? (i := 16) rfl))) (by decide) (backOf (W := 0) (own_rm4_22xyyx l Z av hw [] b357 b359 k357 m7 m8 k359 m9 m10 h376 n0 Z376 F377 V_378 (c383) (c384) (c397)) hZ (hw _ (List.mem_of_getElem? (i := 16) rfl)) (hw _ (List.mem_of_getElem? (i := 15) rfl)) (by decide) (by decide)) (g := (mkF m 164 #[oi p0, oi p1, oi p2, oi p3, oi p4, oi (2 : Int32), oi (2 : Int32), oi m7, oi m8, oi m9, oi m10, oa b357, oa b359, .unset] [(.ref b359), (.ref b357)])) rfl (by rw [hml]; rfl) (argsL := [(.ref b357), (.ref b359)]) (rest := []) (lenOf own_pd3 rfl) rfl (by show 2 * 0 + _ ≤ _; exact Nat.le_of_eq rfl) (hb hby at_164) (fun _ _ => ⟨rfl, eq379, (by decide : 2 + 1 ≤ _), (by decide : 4 + 4 ≤ _)⟩)
                  dsimp only [Pt.U, Pt.locs, Pt.cells, Pt.slots] at X410 l410 y410 z410 st410 hQ410
                  have yq410 : k410 = 3 := y410
                  have zq410 : n410 = 8 := z410
                  subst yq410 zq410
                  obtain ⟨u_410, k_u_410, rfl, Nq410, Kq410, gq410_u, Oq410_0⟩ := hQ410
                  have N410 : Fr n0 L410 := by rw [l410]; exact Fr.app N379 Nq410
                  have Z410 : n0 ≤ T410.heap.size := Nat.le_trans Z376 Kq410.1
                  have g_u_410 : n0 ≤ u_410 := Nat.le_trans Z376 gq410_u
                  have ne411 : b357 ≠ u_410 := Nat.ne_of_lt (Nat.lt_of_lt_of_le F377.lt gq410_u)
                  have ne412 : b359 ≠ u_410 := Nat.ne_of_lt (Nat.lt_of_lt_of_le V_378.lt gq410_u)
                  have F413 := F377.keep Kq410 nin0
                  have F414 := V_378.keep Kq410 nin0
                  have b415 : (4 : Int32) = (4 : Int32) := (by decide)
                  obtain ⟨_, _, ⟨T416, L416, k416, n416⟩, -, X416, ⟨Lc416, hQ416, l416, y416, z416⟩, st416⟩ := Jvm.LawKit.callS X410 hx (y := (⟨"com/example/strict_anon/strictanon/service/RecordSetsUnionPinLaw", "increasing", "([I)Z"⟩ : MethodName)) hown (mvT hZ (hw _ (List.mem_of_getElem? (i := 17) rfl))) (mvT hZ (hw _ (List.mem_of_getElem? (i := 18) rfl))) (mvT hZ (hw _ (List.mem_of_getElem? (i := 11) rfl))) (mvT hZ (hw _ (List.mem_of_getElem? (i := 19) rfl))) (by decide) (backOf (W := 0) (own_rm5_4 l Z av hw [] u_410 k_u_410 m7 m9 m10 m8 T410.heap n0 Z410 Oq410_0) hZ (hw _ (List.mem_of_getElem? (i := 19) rfl)) (hw _ (List.mem_of_getElem? (i := 11) rfl)) (by decide) (by decide)) (g := (mkF m 184 #[oi p0, oi p1, oi p2, oi p3, oi p4, oi (2 : Int32), oi (2 : Int32), oi m7, oi m8, oi m9, oi m10, oa b357, oa b359, oa u_410] [(.ref u_410)])) rfl (by rw [hml]; rfl) (argsL := [(.ref u_410)]) (rest := []) (lenOf own_pd4 rfl) rfl (by show 2 * 0 + _ ≤ _; exact Nat.le_of_eq rfl) (hb hby at_184) (fun _ _ => ⟨rfl, rfl, (by decide : 3 + 0 ≤ _), (by decide : 8 + 0 ≤ _)⟩)
                  dsimp only [Pt.U, Pt.locs, Pt.cells, Pt.slots] at X416 l416 y416 z416 st416 hQ416
                  have yq416 : k416 = 3 := y416
                  have zq416 : n416 = 8 := z416
                  subst yq416 zq416
                  obtain ⟨rfl, Nq416, eq416⟩ := hQ416
                  have N416 : Fr n0 L416 := by rw [l416]; exact Fr.app N410 Nq416
                  have b417 : ¬ ((own_f5_4 m7 m9 m10 m8) = (0 : Int32)) := by unfold own_f5_4; (try simp only [own_ltp]); (repeat' split) <;> first | decide | (exfalso; omega)
                  obtain ⟨_, _, ⟨T418, L418, k418, n418⟩, -, X418, ⟨Lc418, hQ418, l418, y418, z418⟩, st418⟩ := Jvm.LawKit.callS X416 hx (y := (⟨"com/example/strict_anon/strictanon/service/RecordSetsUnionPinLaw", "containsAll", "([I[I)Z"⟩ : MethodName)) hown (mvT hZ (hw _ (List.mem_of_getElem? (i := 20) rfl))) (mvT hZ (hw _ (List.mem_of_getElem? (i := 21) rfl))) (mvT hZ (hw _ (List.mem_of_getElem? (i := 11) rfl))) (mvT hZ (hw _ (List.mem_of_getElem? (i := 22) rfl))) (by decide) (backOf (W := 0) (own_rm6_42 l Z av hw [] u_410 b357 k_u_410 m7 m9 m10 m8 k357 m7 m8 T410.heap n0 Z410 Oq410_0 F413) hZ (hw _ (List.mem_of_getElem? (i := 22) rfl)) (hw _ (List.mem_of_getElem? (i := 11) rfl)) (by decide) (by decide)) (g := (mkF m 196 #[oi p0, oi p1, oi p2, oi p3, oi p4, oi (2 : Int32), oi (2 : Int32), oi m7, oi m8, oi m9, oi m10, oa b357, oa b359, oa u_410] [(.ref b357), (.ref u_410)])) rfl (by rw [hml]; rfl) (argsL := [(.ref u_410), (.ref b357)]) (rest := []) (lenOf own_pd2 rfl) rfl (by show 2 * 0 + _ ≤ _; exact Nat.le_of_eq rfl) (hb hby at_196) (fun _ _ => ⟨rfl, eq416, (by decide : 3 + 0 ≤ _), (by decide : 8 + 0 ≤ _)⟩)
                  dsimp only [Pt.U, Pt.locs, Pt.cells, Pt.slots] at X418 l418 y418 z418 st418 hQ418
                  have yq418 : k418 = 3 := y418
                  have zq418 : n418 = 8 := z418
                  subst yq418 zq418
                  obtain ⟨rfl, Nq418, eq418⟩ := hQ418
                  have N418 : Fr n0 L418 := by rw [l418]; exact Fr.app N416 Nq418
                  have b419 : ¬ ((own_f6_42 m7 m9 m10 m8 m7 m8) = (0 : Int32)) := by simp [own_f6_42, own_f7_4]
                  obtain ⟨_, _, ⟨T420, L420, k420, n420⟩, -, X420, ⟨Lc420, hQ420, l420, y420, z420⟩, st420⟩ := Jvm.LawKit.callS X418 hx (y := (⟨"com/example/strict_anon/strictanon/service/RecordSetsUnionPinLaw", "containsAll", "([I[I)Z"⟩ : MethodName)) hown (mvT hZ (hw _ (List.mem_of_getElem? (i := 20) rfl))) (mvT hZ (hw _ (List.mem_of_getElem? (i := 21) rfl))) (mvT hZ (hw _ (List.mem_of_getElem? (i := 11) rfl))) (mvT hZ (hw _ (List.mem_of_getElem? (i := 22) rfl))) (by decide) (backOf (W := 0) (own_rm6_42 l Z av hw [] u_410 b359 k_u_410 m7 m9 m10 m8 k359 m9 m10 T410.heap n0 Z410 Oq410_0 F414) hZ (hw _ (List.mem_of_getElem? (i := 22) rfl)) (hw _ (List.mem_of_getElem? (i := 11) rfl)) (by decide) (by decide)) (g := (mkF m 206 #[oi p0, oi p1, oi p2, oi p3, oi p4, oi (2 : Int32), oi (2 : Int32), oi m7, oi m8, oi m9, oi m10, oa b357, oa b359, oa u_410] [(.ref b359), (.ref u_410)])) rfl (by rw [hml]; rfl) (argsL := [(.ref u_410), (.ref b359)]) (rest := []) (lenOf own_pd2 rfl) rfl (by show 2 * 0 + _ ≤ _; exact Nat.le_of_eq rfl) (hb hby at_206) (fun _ _ => ⟨rfl, eq418, (by decide : 3 + 0 ≤ _), (by decide : 8 + 0 ≤ _)⟩)
                  dsimp only [Pt.U, Pt.locs, Pt.cells, Pt.slots] at X420 l420 y420 z420 st420 hQ420
                  have yq420 : k420 = 3 := y420
                  have zq420 : n420 = 8 := z420
                  subst yq420 zq420
                  obtain ⟨rfl, Nq420, eq420⟩ := hQ420
                  have N420 : Fr n0 L420 := by rw [l420]; exact Fr.app N418 Nq420
                  have b421 : ¬ ((own_f6_42 m7 m9 m10 m8 m9 m10) = (0 : Int32)) := by simp [own_f6_42, own_f7_4]
                  obtain ⟨fs, hr, hrun, hended, hW, hsame⟩ := X420.leave (v := (some (.int (1 : Int32)))) (fun h => by rw [Bd.returns] at h; cases h)
                  refine ⟨_, _, pre382 _ ?_, hrun, hended, _, _, rfl, ?_, ⟨_, rfl⟩, hW, hsame.mono (by decide) (by decide)⟩
                  · show oS p e below T379 m 164 #[oi p0, oi p1, oi p2, oi p3, oi p4, oi (2 : Int32), oi (2 : Int32), oi m7, oi m8, oi m9, oi m10, oa b357, oa b359, .unset] [(.ref b359), (.ref b357)] _
                    refine st410 _ ?_
                    show oS p e below T410 m 167 #[oi p0, oi p1, oi p2, oi p3, oi p4, oi (2 : Int32), oi (2 : Int32), oi m7, oi m8, oi m9, oi m10, oa b357, oa b359, .unset] [(.ref u_410)] _
                    refine XS.astore X410.here hx rfl (hb hby at_167) rfl rfl (l' := #[oi p0, oi p1, oi p2, oi p3, oi p4, oi (2 : Int32), oi (2 : Int32), oi m7, oi m8, oi m9, oi m10, oa b357, oa b359, oa u_410]) rfl ?_
                    refine XS.aload X410.here hx rfl (hb hby at_169) rfl rfl ?_
                    show oS p e below T410 m 171 #[oi p0, oi p1, oi p2, oi p3, oi p4, oi (2 : Int32), oi (2 : Int32), oi m7, oi m8, oi m9, oi m10, oa b357, oa b359, oa u_410] [(.ref u_410)] _
                    refine oLen X410 hx hZ rfl Oq410_0 (hb hby at_171) ?_
                    refine XS.iload X410.here hx rfl (hb hby at_172) rfl ?_
                    refine XS.iload X410.here hx rfl (hb hby at_174) rfl ?_
                    refine XS.iadd X410.here hx rfl (hb hby at_176) rfl ?_
                    show oS p e below T410 m 177 #[oi p0, oi p1, oi p2, oi p3, oi p4, oi (2 : Int32), oi (2 : Int32), oi m7, oi m8, oi m9, oi m10, oa b357, oa b359, oa u_410] [(.int (4 : Int32)), (.int (4 : Int32))] _
                    refine XS.icmpYes X410.here hx rfl (pc0 := 177) (pc' := 182) rfl (hb hby at_177) rfl (teq b415).1 (by decide) (by decide) ?_
                    refine XS.aload X410.here hx rfl (hb hby at_182) rfl rfl ?_
                    show oS p e below T410 m 184 #[oi p0, oi p1, oi p2, oi p3, oi p4, oi (2 : Int32), oi (2 : Int32), oi m7, oi m8, oi m9, oi m10, oa b357, oa b359, oa u_410] [(.ref u_410)] _
                    refine st416 _ ?_
                    show oS p e below T416 m 187 #[oi p0, oi p1, oi p2, oi p3, oi p4, oi (2 : Int32), oi (2 : Int32), oi m7, oi m8, oi m9, oi m10, oa b357, oa b359, oa u_410] [(.int (own_f5_4 m7 m9 m10 m8))] _
                    refine XS.ifYes X416.here hx rfl (pc0 := 187) (pc' := 192) rfl (hb hby at_187) rfl ((if0 _ _).trans (feq b417).2) (by decide) (by decide) ?_
                    refine XS.aload X416.here hx rfl (hb hby at_192) rfl rfl ?_
                    refine XS.aload X416.here hx rfl (hb hby at_194) rfl rfl ?_
                    show oS p e below T416 m 196 #[oi p0, oi p1, oi p2, oi p3, oi p4, oi (2 : Int32), oi (2 : Int32), oi m7, oi m8, oi m9, oi m10, oa b357, oa b359, oa u_410] [(.ref b357), (.ref u_410)] _
                    refine st418 _ ?_
                    show oS p e below T418 m 199 #[oi p0, oi p1, oi p2, oi p3, oi p4, oi (2 : Int32), oi (2 : Int32), oi m7, oi m8, oi m9, oi m10, oa b357, oa b359, oa u_410] [(.int (own_f6_42 m7 m9 m10 m8 m7 m8))] _
                    refine XS.ifNo X418.here hx rfl (hb hby at_199) rfl ((if0 _ _).trans (feq b419).1) ?_
                    refine XS.aload X418.here hx rfl (hb hby at_202) rfl rfl ?_
                    refine XS.aload X418.here hx rfl (hb hby at_204) rfl rfl ?_
                    show oS p e below T418 m 206 #[oi p0, oi p1, oi p2, oi p3, oi p4, oi (2 : Int32), oi (2 : Int32), oi m7, oi m8, oi m9, oi m10, oa b357, oa b359, oa u_410] [(.ref b359), (.ref u_410)] _
                    refine st420 _ ?_
                    show oS p e below T420 m 209 #[oi p0, oi p1, oi p2, oi p3, oi p4, oi (2 : Int32), oi (2 : Int32), oi m7, oi m8, oi m9, oi m10, oa b357, oa b359, oa u_410] [(.int (own_f6_42 m7 m9 m10 m8 m9 m10))] _
                    refine XS.ifNo X420.here hx rfl (hb hby at_209) rfl ((if0 _ _).trans (feq b421).1) ?_
                    refine XS.iconst X420.here hx rfl (hb hby at_212) ?_
                    refine XS.goto X420.here hx rfl (pc0 := 213) (pc' := 217) rfl (hb hby at_213) (by decide) (by decide) ?_
                    show oS p e below T420 m 217 #[oi p0, oi p1, oi p2, oi p3, oi p4, oi (2 : Int32), oi (2 : Int32), oi m7, oi m8, oi m9, oi m10, oa b357, oa b359, oa u_410] [(.int (1 : Int32))] _
                    exact retN X420 hx (t := .boolean) Bd.returns (by simp) (hb hby at_217) hr
                  · show own_Q0 Z p0 p1 p2 p3 p4 h0 n0 _ T420.heap _
                    rw [eq420]
                    exact ⟨rfl, N420⟩
            · skip
              have mc383 := c383
              simp only [own_ltp] at mc383
              by_cases c422 : m7 < m10
              · skip
                have mc422 := c422
                simp only [own_ltp] at mc422
                by_cases c423 : m8 < m10
                · skip
                  have mc423 := c423
                  simp only [own_ltp] at mc423
                  obtain ⟨_, _, ⟨T424, L424, k424, n424⟩, -, X424, ⟨Lc424, hQ424, l424, y424, z424⟩, st424⟩ := Jvm.LawKit.callS X379 hx (y := (⟨"com/example/strict_anon/strictanon/service/RecordSets", "union", "([I[I)[I"⟩ : MethodName)) hown (mvT hZ (hw _ (List.mem_of_getElem? (i := 13) rfl))) (mvT hZ (hw _ (List.mem_of_getElem? (i := 14) rfl))) (mvT hZ (hw _ (List.mem_of_getElem? (i := 15) rfl))) (mvT hZ (hw _ (List.mem_of_getElem? (i := 16) rfl))) (by decide) (backOf (W := 0) (own_rm4_22yxxy l Z av hw [] b357 b359 k357 m7 m8 k359 m9 m10 h376 n0 Z376 F377 V_378 (c383) (c422) (c423)) hZ (hw _ (List.mem_of_getElem? (i := 16) rfl)) (hw _ (List.mem_of_getElem? (i := 15) rfl)) (by decide) (by decide)) (g := (mkF m 164 #[oi p0, oi p1, oi p2, oi p3, oi p4, oi (2 : Int32), oi (2 : Int32), oi m7, oi m8, oi m9, oi m10, oa b357, oa b359, .unset] [(.ref b359), (.ref b357)])) rfl (by rw [hml]; rfl) (argsL := [(.ref b357), (.ref b359)]) (rest := []) (lenOf own_pd3 rfl) rfl (by show 2 * 0 + _ ≤ _; exact Nat.le_of_eq rfl) (hb hby at_164) (fun _ _ => ⟨rfl, eq379, (by decide : 2 + 1 ≤ _), (by decide : 4 + 4 ≤ _)⟩)
                  dsimp only [Pt.U, Pt.locs, Pt.cells, Pt.slots] at X424 l424 y424 z424 st424 hQ424
                  have yq424 : k424 = 3 := y424
                  have zq424 : n424 = 8 := z424
                  subst yq424 zq424
                  obtain ⟨u_424, k_u_424, rfl, Nq424, Kq424, gq424_u, Oq424_0⟩ := hQ424
                  have N424 : Fr n0 L424 := by rw [l424]; exact Fr.app N379 Nq424
                  have Z424 : n0 ≤ T424.heap.size := Nat.le_trans Z376 Kq424.1
                  have g_u_424 : n0 ≤ u_424 := Nat.le_trans Z376 gq424_u
                  have ne425 : b357 ≠ u_424 := Nat.ne_of_lt (Nat.lt_of_lt_of_le F377.lt gq424_u)
                  have ne426 : b359 ≠ u_424 := Nat.ne_of_lt (Nat.lt_of_lt_of_le V_378.lt gq424_u)
                  have F427 := F377.keep Kq424 nin0
                  have F428 := V_378.keep Kq424 nin0
                  have b429 : (4 : Int32) = (4 : Int32) := (by decide)
                  obtain ⟨_, _, ⟨T430, L430, k430, n430⟩, -, X430, ⟨Lc430, hQ430, l430, y430, z430⟩, st430⟩ := Jvm.LawKit.callS X424 hx (y := (⟨"com/example/strict_anon/strictanon/service/RecordSetsUnionPinLaw", "increasing", "([I)Z"⟩ : MethodName)) hown (mvT hZ (hw _ (List.mem_of_getElem? (i := 17) rfl))) (mvT hZ (hw _ (List.mem_of_getElem? (i := 18) rfl))) (mvT hZ (hw _ (List.mem_of_getElem? (i := 11) rfl))) (mvT hZ (hw _ (List.mem_of_getElem? (i := 19) rfl))) (by decide) (backOf (W := 0) (own_rm5_4 l Z av hw [] u_424 k_u_424 m9 m7 m8 m10 T424.heap n0 Z424 Oq424_0) hZ (hw _ (List.mem_of_getElem? (i := 19) rfl)) (hw _ (List.mem_of_getElem? (i := 11) rfl)) (by decide) (by decide)) (g := (mkF m 184 #[oi p0, oi p1, oi p2, oi p3, oi p4, oi (2 : Int32), oi (2 : Int32), oi m7, oi m8, oi m9, oi m10, oa b357, oa b359, oa u_424] [(.ref u_424)])) rfl (by rw [hml]; rfl) (argsL := [(.ref u_424)]) (rest := []) (lenOf own_pd4 rfl) rfl (by show 2 * 0 + _ ≤ _; exact Nat.le_of_eq rfl) (hb hby at_184) (fun _ _ => ⟨rfl, rfl, (by decide : 3 + 0 ≤ _), (by decide : 8 + 0 ≤ _)⟩)
                  dsimp only [Pt.U, Pt.locs, Pt.cells, Pt.slots] at X430 l430 y430 z430 st430 hQ430
                  have yq430 : k430 = 3 := y430
                  have zq430 : n430 = 8 := z430
                  subst yq430 zq430
                  obtain ⟨rfl, Nq430, eq430⟩ := hQ430
                  have N430 : Fr n0 L430 := by rw [l430]; exact Fr.app N424 Nq430
                  have b431 : ¬ ((own_f5_4 m9 m7 m8 m10) = (0 : Int32)) := by unfold own_f5_4; (try simp only [own_ltp]); (repeat' split) <;> first | decide | (exfalso; omega)
                  obtain ⟨_, _, ⟨T432, L432, k432, n432⟩, -, X432, ⟨Lc432, hQ432, l432, y432, z432⟩, st432⟩ := Jvm.LawKit.callS X430 hx (y := (⟨"com/example/strict_anon/strictanon/service/RecordSetsUnionPinLaw", "containsAll", "([I[I)Z"⟩ : MethodName)) hown (mvT hZ (hw _ (List.mem_of_getElem? (i := 20) rfl))) (mvT hZ (hw _ (List.mem_of_getElem? (i := 21) rfl))) (mvT hZ (hw _ (List.mem_of_getElem? (i := 11) rfl))) (mvT hZ (hw _ (List.mem_of_getElem? (i := 22) rfl))) (by decide) (backOf (W := 0) (own_rm6_42 l Z av hw [] u_424 b357 k_u_424 m9 m7 m8 m10 k357 m7 m8 T424.heap n0 Z424 Oq424_0 F427) hZ (hw _ (List.mem_of_getElem? (i := 22) rfl)) (hw _ (List.mem_of_getElem? (i := 11) rfl)) (by decide) (by decide)) (g := (mkF m 196 #[oi p0, oi p1, oi p2, oi p3, oi p4, oi (2 : Int32), oi (2 : Int32), oi m7, oi m8, oi m9, oi m10, oa b357, oa b359, oa u_424] [(.ref b357), (.ref u_424)])) rfl (by rw [hml]; rfl) (argsL := [(.ref u_424), (.ref b357)]) (rest := []) (lenOf own_pd2 rfl) rfl (by show 2 * 0 + _ ≤ _; exact Nat.le_of_eq rfl) (hb hby at_196) (fun _ _ => ⟨rfl, eq430, (by decide : 3 + 0 ≤ _), (by decide : 8 + 0 ≤ _)⟩)
                  dsimp only [Pt.U, Pt.locs, Pt.cells, Pt.slots] at X432 l432 y432 z432 st432 hQ432
                  have yq432 : k432 = 3 := y432
                  have zq432 : n432 = 8 := z432
                  subst yq432 zq432
                  obtain ⟨rfl, Nq432, eq432⟩ := hQ432
                  have N432 : Fr n0 L432 := by rw [l432]; exact Fr.app N430 Nq432
                  have b433 : ¬ ((own_f6_42 m9 m7 m8 m10 m7 m8) = (0 : Int32)) := by simp [own_f6_42, own_f7_4]
                  obtain ⟨_, _, ⟨T434, L434, k434, n434⟩, -, X434, ⟨Lc434, hQ434, l434, y434, z434⟩, st434⟩ := Jvm.LawKit.callS X432 hx (y := (⟨"com/example/strict_anon/strictanon/service/RecordSetsUnionPinLaw", "containsAll", "([I[I)Z"⟩ : MethodName)) hown (mvT hZ (hw _ (List.mem_of_getElem? (i := 20) rfl))) (mvT hZ (hw _ (List.mem_of_getElem? (i := 21) rfl))) (mvT hZ (hw _ (List.mem_of_getElem? (i := 11) rfl))) (mvT hZ (hw _ (List.mem_of_getElem? (i := 22) rfl))) (by decide) (backOf (W := 0) (own_rm6_42 l Z av hw [] u_424 b359 k_u_424 m9 m7 m8 m10 k359 m9 m10 T424.heap n0 Z424 Oq424_0 F428) hZ (hw _ (List.mem_of_getElem? (i := 22) rfl)) (hw _ (List.mem_of_getElem? (i := 11) rfl)) (by decide) (by decide)) (g := (mkF m 206 #[oi p0, oi p1, oi p2, oi p3, oi p4, oi (2 : Int32), oi (2 : Int32), oi m7, oi m8, oi m9, oi m10, oa b357, oa b359, oa u_424] [(.ref b359), (.ref u_424)])) rfl (by rw [hml]; rfl) (argsL := [(.ref u_424), (.ref b359)]) (rest := []) (lenOf own_pd2 rfl) rfl (by show 2 * 0 + _ ≤ _; exact Nat.le_of_eq rfl) (hb hby at_206) (fun _ _ => ⟨rfl, eq432, (by decide : 3 + 0 ≤ _), (by decide : 8 + 0 ≤ _)⟩)
                  dsimp only [Pt.U, Pt.locs, Pt.cells, Pt.slots] at X434 l434 y434 z434 st434 hQ434
                  have yq434 : k434 = 3 := y434
                  have zq434 : n434 = 8 := z434
                  subst yq434 zq434
                  obtain ⟨rfl, Nq434, eq434⟩ := hQ434
                  have N434 : Fr n0 L434 := by rw [l434]; exact Fr.app N432 Nq434
                  have b435 : ¬ ((own_f6_42 m9 m7 m8 m10 m9 m10) = (0 : Int32)) := by simp [own_f6_42, own_f7_4]
                  obtain ⟨fs, hr, hrun, hended, hW, hsame⟩ := X434.leave (v := (some (.int (1 : Int32)))) (fun h => by rw [Bd.returns] at h; cases h)
                  refine ⟨_, _, pre382 _ ?_, hrun, hended, _, _, rfl, ?_, ⟨_, rfl⟩, hW, hsame.mono (by decide) (by decide)⟩
                  · show oS p e below T379 m 164 #[oi p0, oi p1, oi p2, oi p3, oi p4, oi (2 : Int32), oi (2 : Int32), oi m7, oi m8, oi m9, oi m10, oa b357, oa b359, .unset] [(.ref b359), (.ref b357)] _
                    refine st424 _ ?_
                    show oS p e below T424 m 167 #[oi p0, oi p1, oi p2, oi p3, oi p4, oi (2 : Int32), oi (2 : Int32), oi m7, oi m8, oi m9, oi m10, oa b357, oa b359, .unset] [(.ref u_424)] _
                    refine XS.astore X424.here hx rfl (hb hby at_167) rfl rfl (l' := #[oi p0, oi p1, oi p2, oi p3, oi p4, oi (2 : Int32), oi (2 : Int32), oi m7, oi m8, oi m9, oi m10, oa b357, oa b359, oa u_424]) rfl ?_
                    refine XS.aload X424.here hx rfl (hb hby at_169) rfl rfl ?_
                    show oS p e below T424 m 171 #[oi p0, oi p1, oi p2, oi p3, oi p4, oi (2 : Int32), oi (2 : Int32), oi m7, oi m8, oi m9, oi m10, oa b357, oa b359, oa u_424] [(.ref u_424)] _
                    refine oLen X424 hx hZ rfl Oq424_0 (hb hby at_171) ?_
                    refine XS.iload X424.here hx rfl (hb hby at_172) rfl ?_
                    refine XS.iload X424.here hx rfl (hb hby at_174) rfl ?_
                    refine XS.iadd X424.here hx rfl (hb hby at_176) rfl ?_
                    show oS p e below T424 m 177 #[oi p0, oi p1, oi p2, oi p3, oi p4, oi (2 : Int32), oi (2 : Int32), oi m7, oi m8, oi m9, oi m10, oa b357, oa b359, oa u_424] [(.int (4 : Int32)), (.int (4 : Int32))] _
                    refine XS.icmpYes X424.here hx rfl (pc0 := 177) (pc' := 182) rfl (hb hby at_177) rfl (teq b429).1 (by decide) (by decide) ?_
                    refine XS.aload X424.here hx rfl (hb hby at_182) rfl rfl ?_
                    show oS p e below T424 m 184 #[oi p0, oi p1, oi p2, oi p3, oi p4, oi (2 : Int32), oi (2 : Int32), oi m7, oi m8, oi m9, oi m10, oa b357, oa b359, oa u_424] [(.ref u_424)] _
                    refine st430 _ ?_
                    show oS p e below T430 m 187 #[oi p0, oi p1, oi p2, oi p3, oi p4, oi (2 : Int32), oi (2 : Int32), oi m7, oi m8, oi m9, oi m10, oa b357, oa b359, oa u_424] [(.int (own_f5_4 m9 m7 m8 m10))] _
                    refine XS.ifYes X430.here hx rfl (pc0 := 187) (pc' := 192) rfl (hb hby at_187) rfl ((if0 _ _).trans (feq b431).2) (by decide) (by decide) ?_
                    refine XS.aload X430.here hx rfl (hb hby at_192) rfl rfl ?_
                    refine XS.aload X430.here hx rfl (hb hby at_194) rfl rfl ?_
                    show oS p e below T430 m 196 #[oi p0, oi p1, oi p2, oi p3, oi p4, oi (2 : Int32), oi (2 : Int32), oi m7, oi m8, oi m9, oi m10, oa b357, oa b359, oa u_424] [(.ref b357), (.ref u_424)] _
                    refine st432 _ ?_
                    show oS p e below T432 m 199 #[oi p0, oi p1, oi p2, oi p3, oi p4, oi (2 : Int32), oi (2 : Int32), oi m7, oi m8, oi m9, oi m10, oa b357, oa b359, oa u_424] [(.int (own_f6_42 m9 m7 m8 m10 m7 m8))] _
                    refine XS.ifNo X432.here hx rfl (hb hby at_199) rfl ((if0 _ _).trans (feq b433).1) ?_
                    refine XS.aload X432.here hx rfl (hb hby at_202) rfl rfl ?_
                    refine XS.aload X432.here hx rfl (hb hby at_204) rfl rfl ?_
                    show oS p e below T432 m 206 #[oi p0, oi p1, oi p2, oi p3, oi p4, oi (2 : Int32), oi (2 : Int32), oi m7, oi m8, oi m9, oi m10, oa b357, oa b359, oa u_424] [(.ref b359), (.ref u_424)] _
                    refine st434 _ ?_
                    show oS p e below T434 m 209 #[oi p0, oi p1, oi p2, oi p3, oi p4, oi (2 : Int32), oi (2 : Int32), oi m7, oi m8, oi m9, oi m10, oa b357, oa b359, oa u_424] [(.int (own_f6_42 m9 m7 m8 m10 m9 m10))] _
                    refine XS.ifNo X434.here hx rfl (hb hby at_209) rfl ((if0 _ _).trans (feq b435).1) ?_
                    refine XS.iconst X434.here hx rfl (hb hby at_212) ?_
                    refine XS.goto X434.here hx rfl (pc0 := 213) (pc' := 217) rfl (hb hby at_213) (by decide) (by decide) ?_
                    show oS p e below T434 m 217 #[oi p0, oi p1, oi p2, oi p3, oi p4, oi (2 : Int32), oi (2 : Int32), oi m7, oi m8, oi m9, oi m10, oa b357, oa b359, oa u_424] [(.int (1 : Int32))] _
                    exact retN X434 hx (t := .boolean) Bd.returns (by simp) (hb hby at_217) hr
                  · show own_Q0 Z p0 p1 p2 p3 p4 h0 n0 _ T434.heap _
                    rw [eq434]
                    exact ⟨rfl, N434⟩
                · skip
                  have mc423 := c423
                  simp only [own_ltp] at mc423
                  obtain ⟨_, _, ⟨T436, L436, k436, n436⟩, -, X436, ⟨Lc436, hQ436, l436, y436, z436⟩, st436⟩ := Jvm.LawKit.callS X379 hx (y := (⟨"com/example/strict_anon/strictanon/service/RecordSets", "union", "([I[I)[I"⟩ : MethodName)) hown (mvT hZ (hw _ (List.mem_of_getElem? (i := 13) rfl))) (mvT hZ (hw _ (List.mem_of_getElem? (i := 14) rfl))) (mvT hZ (hw _ (List.mem_of_getElem? (i := 15) rfl))) (mvT hZ (hw _ (List.mem_of_getElem? (i := 16) rfl))) (by decide) (backOf (W := 0) (own_rm4_22yxyx l Z av hw [] b357 b359 k357 m7 m8 k359 m9 m10 h376 n0 Z376 F377 V_378 (c383) (c422) (c423)) hZ (hw _ (List.mem_of_getElem? (i := 16) rfl)) (hw _ (List.mem_of_getElem? (i := 15) rfl)) (by decide) (by decide)) (g := (mkF m 164 #[oi p0, oi p1, oi p2, oi p3, oi p4, oi (2 : Int32), oi (2 : Int32), oi m7, oi m8, oi m9, oi m10, oa b357, oa b359, .unset] [(.ref b359), (.ref b357)])) rfl (by rw [hml]; rfl) (argsL := [(.ref b357), (.ref b359)]) (rest := []) (lenOf own_pd3 rfl) rfl (by show 2 * 0 + _ ≤ _; exact Nat.le_of_eq rfl) (hb hby at_164) (fun _ _ => ⟨rfl, eq379, (by decide : 2 + 1 ≤ _), (by decide : 4 + 4 ≤ _)⟩)
                  dsimp only [Pt.U, Pt.locs, Pt.cells, Pt.slots] at X436 l436 y436 z436 st436 hQ436
                  have yq436 : k436 = 3 := y436
                  have zq436 : n436 = 8 := z436
                  subst yq436 zq436
                  obtain ⟨u_436, k_u_436, rfl, Nq436, Kq436, gq436_u, Oq436_0⟩ := hQ436
                  have N436 : Fr n0 L436 := by rw [l436]; exact Fr.app N379 Nq436
                  have Z436 : n0 ≤ T436.heap.size := Nat.le_trans Z376 Kq436.1
                  have g_u_436 : n0 ≤ u_436 := Nat.le_trans Z376 gq436_u
                  have ne437 : b357 ≠ u_436 := Nat.ne_of_lt (Nat.lt_of_lt_of_le F377.lt gq436_u)
                  have ne438 : b359 ≠ u_436 := Nat.ne_of_lt (Nat.lt_of_lt_of_le V_378.lt gq436_u)
                  have F439 := F377.keep Kq436 nin0
                  have F440 := V_378.keep Kq436 nin0
                  have b441 : (4 : Int32) = (4 : Int32) := (by decide)
                  obtain ⟨_, _, ⟨T442, L442, k442, n442⟩, -, X442, ⟨Lc442, hQ442, l442, y442, z442⟩, st442⟩ := Jvm.LawKit.callS X436 hx (y := (⟨"com/example/strict_anon/strictanon/service/RecordSetsUnionPinLaw", "increasing", "([I)Z"⟩ : MethodName)) hown (mvT hZ (hw _ (List.mem_of_getElem? (i := 17) rfl))) (mvT hZ (hw _ (List.mem_of_getElem? (i := 18) rfl))) (mvT hZ (hw _ (List.mem_of_getElem? (i := 11) rfl))) (mvT hZ (hw _ (List.mem_of_getElem? (i := 19) rfl))) (by decide) (backOf (W := 0) (own_rm5_4 l Z av hw [] u_436 k_u_436 m9 m7 m10 m8 T436.heap n0 Z436 Oq436_0) hZ (hw _ (List.mem_of_getElem? (i := 19) rfl)) (hw _ (List.mem_of_getElem? (i := 11) rfl)) (by decide) (by decide)) (g := (mkF m 184 #[oi p0, oi p1, oi p2, oi p3, oi p4, oi (2 : Int32), oi (2 : Int32), oi m7, oi m8, oi m9, oi m10, oa b357, oa b359, oa u_436] [(.ref u_436)])) rfl (by rw [hml]; rfl) (argsL := [(.ref u_436)]) (rest := []) (lenOf own_pd4 rfl) rfl (by show 2 * 0 + _ ≤ _; exact Nat.le_of_eq rfl) (hb hby at_184) (fun _ _ => ⟨rfl, rfl, (by decide : 3 + 0 ≤ _), (by decide : 8 + 0 ≤ _)⟩)
                  dsimp only [Pt.U, Pt.locs, Pt.cells, Pt.slots] at X442 l442 y442 z442 st442 hQ442
                  have yq442 : k442 = 3 := y442
                  have zq442 : n442 = 8 := z442
                  subst yq442 zq442
                  obtain ⟨rfl, Nq442, eq442⟩ := hQ442
                  have N442 : Fr n0 L442 := by rw [l442]; exact Fr.app N436 Nq442
                  have b443 : ¬ ((own_f5_4 m9 m7 m10 m8) = (0 : Int32)) := by unfold own_f5_4; (try simp only [own_ltp]); (repeat' split) <;> first | decide | (exfalso; omega)
                  obtain ⟨_, _, ⟨T444, L444, k444, n444⟩, -, X444, ⟨Lc444, hQ444, l444, y444, z444⟩, st444⟩ := Jvm.LawKit.callS X442 hx (y := (⟨"com/example/strict_anon/strictanon/service/RecordSetsUnionPinLaw", "containsAll", "([I[I)Z"⟩ : MethodName)) hown (mvT hZ (hw _ (List.mem_of_getElem? (i := 20) rfl))) (mvT hZ (hw _ (List.mem_of_getElem? (i := 21) rfl))) (mvT hZ (hw _ (List.mem_of_getElem? (i := 11) rfl))) (mvT hZ (hw _ (List.mem_of_getElem? (i := 22) rfl))) (by decide) (backOf (W := 0) (own_rm6_42 l Z av hw [] u_436 b357 k_u_436 m9 m7 m10 m8 k357 m7 m8 T436.heap n0 Z436 Oq436_0 F439) hZ (hw _ (List.mem_of_getElem? (i := 22) rfl)) (hw _ (List.mem_of_getElem? (i := 11) rfl)) (by decide) (by decide)) (g := (mkF m 196 #[oi p0, oi p1, oi p2, oi p3, oi p4, oi (2 : Int32), oi (2 : Int32), oi m7, oi m8, oi m9, oi m10, oa b357, oa b359, oa u_436] [(.ref b357), (.ref u_436)])) rfl (by rw [hml]; rfl) (argsL := [(.ref u_436), (.ref b357)]) (rest := []) (lenOf own_pd2 rfl) rfl (by show 2 * 0 + _ ≤ _; exact Nat.le_of_eq rfl) (hb hby at_196) (fun _ _ => ⟨rfl, eq442, (by decide : 3 + 0 ≤ _), (by decide : 8 + 0 ≤ _)⟩)
                  dsimp only [Pt.U, Pt.locs, Pt.cells, Pt.slots] at X444 l444 y444 z444 st444 hQ444
                  have yq444 : k444 = 3 := y444
                  have zq444 : n444 = 8 := z444
                  subst yq444 zq444
                  obtain ⟨rfl, Nq444, eq444⟩ := hQ444
                  have N444 : Fr n0 L444 := by rw [l444]; exact Fr.app N442 Nq444
                  have b445 : ¬ ((own_f6_42 m9 m7 m10 m8 m7 m8) = (0 : Int32)) := by simp [own_f6_42, own_f7_4]
                  obtain ⟨_, _, ⟨T446, L446, k446, n446⟩, -, X446, ⟨Lc446, hQ446, l446, y446, z446⟩, st446⟩ := Jvm.LawKit.callS X444 hx (y := (⟨"com/example/strict_anon/strictanon/service/RecordSetsUnionPinLaw", "containsAll", "([I[I)Z"⟩ : MethodName)) hown (mvT hZ (hw _ (List.mem_of_getElem? (i := 20) rfl))) (mvT hZ (hw _ (List.mem_of_getElem? (i := 21) rfl))) (mvT hZ (hw _ (List.mem_of_getElem? (i := 11) rfl))) (mvT hZ (hw _ (List.mem_of_getElem? (i := 22) rfl))) (by decide) (backOf (W := 0) (own_rm6_42 l Z av hw [] u_436 b359 k_u_436 m9 m7 m10 m8 k359 m9 m10 T436.heap n0 Z436 Oq436_0 F440) hZ (hw _ (List.mem_of_getElem? (i := 22) rfl)) (hw _ (List.mem_of_getElem? (i := 11) rfl)) (by decide) (by decide)) (g := (mkF m 206 #[oi p0, oi p1, oi p2, oi p3, oi p4, oi (2 : Int32), oi (2 : Int32), oi m7, oi m8, oi m9, oi m10, oa b357, oa b359, oa u_436] [(.ref b359), (.ref u_436)])) rfl (by rw [hml]; rfl) (argsL := [(.ref u_436), (.ref b359)]) (rest := []) (lenOf own_pd2 rfl) rfl (by show 2 * 0 + _ ≤ _; exact Nat.le_of_eq rfl) (hb hby at_206) (fun _ _ => ⟨rfl, eq444, (by decide : 3 + 0 ≤ _), (by decide : 8 + 0 ≤ _)⟩)
                  dsimp only [Pt.U, Pt.locs, Pt.cells, Pt.slots] at X446 l446 y446 z446 st446 hQ446
                  have yq446 : k446 = 3 := y446
                  have zq446 : n446 = 8 := z446
                  subst yq446 zq446
                  obtain ⟨rfl, Nq446, eq446⟩ := hQ446
                  have N446 : Fr n0 L446 := by rw [l446]; exact Fr.app N444 Nq446
                  have b447 : ¬ ((own_f6_42 m9 m7 m10 m8 m9 m10) = (0 : Int32)) := by simp [own_f6_42, own_f7_4]
                  obtain ⟨fs, hr, hrun, hended, hW, hsame⟩ := X446.leave (v := (some (.int (1 : Int32)))) (fun h => by rw [Bd.returns] at h; cases h)
                  refine ⟨_, _, pre382 _ ?_, hrun, hended, _, _, rfl, ?_, ⟨_, rfl⟩, hW, hsame.mono (by decide) (by decide)⟩
                  · show oS p e below T379 m 164 #[oi p0, oi p1, oi p2, oi p3, oi p4, oi (2 : Int32), oi (2 : Int32), oi m7, oi m8, oi m9, oi m10, oa b357, oa b359, .unset] [(.ref b359), (.ref b357)] _
                    refine st436 _ ?_
                    show oS p e below T436 m 167 #[oi p0, oi p1, oi p2, oi p3, oi p4, oi (2 : Int32), oi (2 : Int32), oi m7, oi m8, oi m9, oi m10, oa b357, oa b359, .unset] [(.ref u_436)] _
                    refine XS.astore X436.here hx rfl (hb hby at_167) rfl rfl (l' := #[oi p0, oi p1, oi p2, oi p3, oi p4, oi (2 : Int32), oi (2 : Int32), oi m7, oi m8, oi m9, oi m10, oa b357, oa b359, oa u_436]) rfl ?_
                    refine XS.aload X436.here hx rfl (hb hby at_169) rfl rfl ?_
                    show oS p e below T436 m 171 #[oi p0, oi p1, oi p2, oi p3, oi p4, oi (2 : Int32), oi (2 : Int32), oi m7, oi m8, oi m9, oi m10, oa b357, oa b359, oa u_436] [(.ref u_436)] _
                    refine oLen X436 hx hZ rfl Oq436_0 (hb hby at_171) ?_
                    refine XS.iload X436.here hx rfl (hb hby at_172) rfl ?_
                    refine XS.iload X436.here hx rfl (hb hby at_174) rfl ?_
                    refine XS.iadd X436.here hx rfl (hb hby at_176) rfl ?_
                    show oS p e below T436 m 177 #[oi p0, oi p1, oi p2, oi p3, oi p4, oi (2 : Int32), oi (2 : Int32), oi m7, oi m8, oi m9, oi m10, oa b357, oa b359, oa u_436] [(.int (4 : Int32)), (.int (4 : Int32))] _
                    refine XS.icmpYes X436.here hx rfl (pc0 := 177) (pc' := 182) rfl (hb hby at_177) rfl (teq b441).1 (by decide) (by decide) ?_
                    refine XS.aload X436.here hx rfl (hb hby at_182) rfl rfl ?_
                    show oS p e below T436 m 184 #[oi p0, oi p1, oi p2, oi p3, oi p4, oi (2 : Int32), oi (2 : Int32), oi m7, oi m8, oi m9, oi m10, oa b357, oa b359, oa u_436] [(.ref u_436)] _
                    refine st442 _ ?_
                    show oS p e below T442 m 187 #[oi p0, oi p1, oi p2, oi p3, oi p4, oi (2 : Int32), oi (2 : Int32), oi m7, oi m8, oi m9, oi m10, oa b357, oa b359, oa u_436] [(.int (own_f5_4 m9 m7 m10 m8))] _
                    refine XS.ifYes X442.here hx rfl (pc0 := 187) (pc' := 192) rfl (hb hby at_187) rfl ((if0 _ _).trans (feq b443).2) (by decide) (by decide) ?_
                    refine XS.aload X442.here hx rfl (hb hby at_192) rfl rfl ?_
                    refine XS.aload X442.here hx rfl (hb hby at_194) rfl rfl ?_
                    show oS p e below T442 m 196 #[oi p0, oi p1, oi p2, oi p3, oi p4, oi (2 : Int32), oi (2 : Int32), oi m7, oi m8, oi m9, oi m10, oa b357, oa b359, oa u_436] [(.ref b357), (.ref u_436)] _
                    refine st444 _ ?_
                    show oS p e below T444 m 199 #[oi p0, oi p1, oi p2, oi p3, oi p4, oi (2 : Int32), oi (2 : Int32), oi m7, oi m8, oi m9, oi m10, oa b357, oa b359, oa u_436] [(.int (own_f6_42 m9 m7 m10 m8 m7 m8))] _
                    refine XS.ifNo X444.here hx rfl (hb hby at_199) rfl ((if0 _ _).trans (feq b445).1) ?_
                    refine XS.aload X444.here hx rfl (hb hby at_202) rfl rfl ?_
                    refine XS.aload X444.here hx rfl (hb hby at_204) rfl rfl ?_
                    show oS p e below T444 m 206 #[oi p0, oi p1, oi p2, oi p3, oi p4, oi (2 : Int32), oi (2 : Int32), oi m7, oi m8, oi m9, oi m10, oa b357, oa b359, oa u_436] [(.ref b359), (.ref u_436)] _
                    refine st446 _ ?_
                    show oS p e below T446 m 209 #[oi p0, oi p1, oi p2, oi p3, oi p4, oi (2 : Int32), oi (2 : Int32), oi m7, oi m8, oi m9, oi m10, oa b357, oa b359, oa u_436] [(.int (own_f6_42 m9 m7 m10 m8 m9 m10))] _
                    refine XS.ifNo X446.here hx rfl (hb hby at_209) rfl ((if0 _ _).trans (feq b447).1) ?_
                    refine XS.iconst X446.here hx rfl (hb hby at_212) ?_
                    refine XS.goto X446.here hx rfl (pc0 := 213) (pc' := 217) rfl (hb hby at_213) (by decide) (by decide) ?_
                    show oS p e below T446 m 217 #[oi p0, oi p1, oi p2, oi p3, oi p4, oi (2 : Int32), oi (2 : Int32), oi m7, oi m8, oi m9, oi m10, oa b357, oa b359, oa u_436] [(.int (1 : Int32))] _
                    exact retN X446 hx (t := .boolean) Bd.returns (by simp) (hb hby at_217) hr
                  · show own_Q0 Z p0 p1 p2 p3 p4 h0 n0 _ T446.heap _
                    rw [eq446]
                    exact ⟨rfl, N446⟩
              · skip
                have mc422 := c422
                simp only [own_ltp] at mc422
                obtain ⟨_, _, ⟨T448, L448, k448, n448⟩, -, X448, ⟨Lc448, hQ448, l448, y448, z448⟩, st448⟩ := Jvm.LawKit.callS X379 hx (y := (⟨"com/example/strict_anon/strictanon/service/RecordSets", "union", "([I[I)[I"⟩ : MethodName)) hown (mvT hZ (hw _ (List.mem_of_getElem? (i := 13) rfl))) (mvT hZ (hw _ (List.mem_of_getElem? (i := 14) rfl))) (mvT hZ (hw _ (List.mem_of_getElem? (i := 15) rfl))) (mvT hZ (hw _ (List.mem_of_getElem? (i := 16) rfl))) (by decide) (backOf (W := 0) (own_rm4_22yyxx l Z av hw [] b357 b359 k357 m7 m8 k359 m9 m10 h376 n0 Z376 F377 V_378 (c383) (c422)) hZ (hw _ (List.mem_of_getElem? (i := 16) rfl)) (hw _ (List.mem_of_getElem? (i := 15) rfl)) (by decide) (by decide)) (g := (mkF m 164 #[oi p0, oi p1, oi p2, oi p3, oi p4, oi (2 : Int32), oi (2 : Int32), oi m7, oi m8, oi m9, oi m10, oa b357, oa b359, .unset] [(.ref b359), (.ref b357)])) rfl (by rw [hml]; rfl) (argsL := [(.ref b357), (.ref b359)]) (rest := []) (lenOf own_pd3 rfl) rfl (by show 2 * 0 + _ ≤ _; exact Nat.le_of_eq rfl) (hb hby at_164) (fun _ _ => ⟨rfl, eq379, (by decide : 2 + 1 ≤ _), (by decide : 4 + 4 ≤ _)⟩)
                dsimp only [Pt.U, Pt.locs, Pt.cells, Pt.slots] at X448 l448 y448 z448 st448 hQ448
                have yq448 : k448 = 3 := y448
                have zq448 : n448 = 8 := z448
                subst yq448 zq448
                obtain ⟨u_448, k_u_448, rfl, Nq448, Kq448, gq448_u, Oq448_0⟩ := hQ448
                have N448 : Fr n0 L448 := by rw [l448]; exact Fr.app N379 Nq448
                have Z448 : n0 ≤ T448.heap.size := Nat.le_trans Z376 Kq448.1
                have g_u_448 : n0 ≤ u_448 := Nat.le_trans Z376 gq448_u
                have ne449 : b357 ≠ u_448 := Nat.ne_of_lt (Nat.lt_of_lt_of_le F377.lt gq448_u)
                have ne450 : b359 ≠ u_448 := Nat.ne_of_lt (Nat.lt_of_lt_of_le V_378.lt gq448_u)
                have F451 := F377.keep Kq448 nin0
                have F452 := V_378.keep Kq448 nin0
                have b453 : (4 : Int32) = (4 : Int32) := (by decide)
                obtain ⟨_, _, ⟨T454, L454, k454, n454⟩, -, X454, ⟨Lc454, hQ454, l454, y454, z454⟩, st454⟩ := Jvm.LawKit.callS X448 hx (y := (⟨"com/example/strict_anon/strictanon/service/RecordSetsUnionPinLaw", "increasing", "([I)Z"⟩ : MethodName)) hown (mvT hZ (hw _ (List.mem_of_getElem? (i := 17) rfl))) (mvT hZ (hw _ (List.mem_of_getElem? (i := 18) rfl))) (mvT hZ (hw _ (List.mem_of_getElem? (i := 11) rfl))) (mvT hZ (hw _ (List.mem_of_getElem? (i := 19) rfl))) (by decide) (backOf (W := 0) (own_rm5_4 l Z av hw [] u_448 k_u_448 m9 m10 m7 m8 T448.heap n0 Z448 Oq448_0) hZ (hw _ (List.mem_of_getElem? (i := 19) rfl)) (hw _ (List.mem_of_getElem? (i := 11) rfl)) (by decide) (by decide)) (g := (mkF m 184 #[oi p0, oi p1, oi p2, oi p3, oi p4, oi (2 : Int32), oi (2 : Int32), oi m7, oi m8, oi m9, oi m10, oa b357, oa b359, oa u_448] [(.ref u_448)])) rfl (by rw [hml]; rfl) (argsL := [(.ref u_448)]) (rest := []) (lenOf own_pd4 rfl) rfl (by show 2 * 0 + _ ≤ _; exact Nat.le_of_eq rfl) (hb hby at_184) (fun _ _ => ⟨rfl, rfl, (by decide : 3 + 0 ≤ _), (by decide : 8 + 0 ≤ _)⟩)
                dsimp only [Pt.U, Pt.locs, Pt.cells, Pt.slots] at X454 l454 y454 z454 st454 hQ454
                have yq454 : k454 = 3 := y454
                have zq454 : n454 = 8 := z454
                subst yq454 zq454
                obtain ⟨rfl, Nq454, eq454⟩ := hQ454
                have N454 : Fr n0 L454 := by rw [l454]; exact Fr.app N448 Nq454
                have b455 : ¬ ((own_f5_4 m9 m10 m7 m8) = (0 : Int32)) := by unfold own_f5_4; (try simp only [own_ltp]); (repeat' split) <;> first | decide | (exfalso; omega)
                obtain ⟨_, _, ⟨T456, L456, k456, n456⟩, -, X456, ⟨Lc456, hQ456, l456, y456, z456⟩, st456⟩ := Jvm.LawKit.callS X454 hx (y := (⟨"com/example/strict_anon/strictanon/service/RecordSetsUnionPinLaw", "containsAll", "([I[I)Z"⟩ : MethodName)) hown (mvT hZ (hw _ (List.mem_of_getElem? (i := 20) rfl))) (mvT hZ (hw _ (List.mem_of_getElem? (i := 21) rfl))) (mvT hZ (hw _ (List.mem_of_getElem? (i := 11) rfl))) (mvT hZ (hw _ (List.mem_of_getElem? (i := 22) rfl))) (by decide) (backOf (W := 0) (own_rm6_42 l Z av hw [] u_448 b357 k_u_448 m9 m10 m7 m8 k357 m7 m8 T448.heap n0 Z448 Oq448_0 F451) hZ (hw _ (List.mem_of_getElem? (i := 22) rfl)) (hw _ (List.mem_of_getElem? (i := 11) rfl)) (by decide) (by decide)) (g := (mkF m 196 #[oi p0, oi p1, oi p2, oi p3, oi p4, oi (2 : Int32), oi (2 : Int32), oi m7, oi m8, oi m9, oi m10, oa b357, oa b359, oa u_448] [(.ref b357), (.ref u_448)])) rfl (by rw [hml]; rfl) (argsL := [(.ref u_448), (.ref b357)]) (rest := []) (lenOf own_pd2 rfl) rfl (by show 2 * 0 + _ ≤ _; exact Nat.le_of_eq rfl) (hb hby at_196) (fun _ _ => ⟨rfl, eq454, (by decide : 3 + 0 ≤ _), (by decide : 8 + 0 ≤ _)⟩)
                dsimp only [Pt.U, Pt.locs, Pt.cells, Pt.slots] at X456 l456 y456 z456 st456 hQ456
                have yq456 : k456 = 3 := y456
                have zq456 : n456 = 8 := z456
                subst yq456 zq456
                obtain ⟨rfl, Nq456, eq456⟩ := hQ456
                have N456 : Fr n0 L456 := by rw [l456]; exact Fr.app N454 Nq456
                have b457 : ¬ ((own_f6_42 m9 m10 m7 m8 m7 m8) = (0 : Int32)) := by simp [own_f6_42, own_f7_4]
                obtain ⟨_, _, ⟨T458, L458, k458, n458⟩, -, X458, ⟨Lc458, hQ458, l458, y458, z458⟩, st458⟩ := Jvm.LawKit.callS X456 hx (y := (⟨"com/example/strict_anon/strictanon/service/RecordSetsUnionPinLaw", "containsAll", "([I[I)Z"⟩ : MethodName)) hown (mvT hZ (hw _ (List.mem_of_getElem? (i := 20) rfl))) (mvT hZ (hw _ (List.mem_of_getElem? (i := 21) rfl))) (mvT hZ (hw _ (List.mem_of_getElem? (i := 11) rfl))) (mvT hZ (hw _ (List.mem_of_getElem? (i := 22) rfl))) (by decide) (backOf (W := 0) (own_rm6_42 l Z av hw [] u_448 b359 k_u_448 m9 m10 m7 m8 k359 m9 m10 T448.heap n0 Z448 Oq448_0 F452) hZ (hw _ (List.mem_of_getElem? (i := 22) rfl)) (hw _ (List.mem_of_getElem? (i := 11) rfl)) (by decide) (by decide)) (g := (mkF m 206 #[oi p0, oi p1, oi p2, oi p3, oi p4, oi (2 : Int32), oi (2 : Int32), oi m7, oi m8, oi m9, oi m10, oa b357, oa b359, oa u_448] [(.ref b359), (.ref u_448)])) rfl (by rw [hml]; rfl) (argsL := [(.ref u_448), (.ref b359)]) (rest := []) (lenOf own_pd2 rfl) rfl (by show 2 * 0 + _ ≤ _; exact Nat.le_of_eq rfl) (hb hby at_206) (fun _ _ => ⟨rfl, eq456, (by decide : 3 + 0 ≤ _), (by decide : 8 + 0 ≤ _)⟩)
                dsimp only [Pt.U, Pt.locs, Pt.cells, Pt.slots] at X458 l458 y458 z458 st458 hQ458
                have yq458 : k458 = 3 := y458
                have zq458 : n458 = 8 := z458
                subst yq458 zq458
                obtain ⟨rfl, Nq458, eq458⟩ := hQ458
                have N458 : Fr n0 L458 := by rw [l458]; exact Fr.app N456 Nq458
                have b459 : ¬ ((own_f6_42 m9 m10 m7 m8 m9 m10) = (0 : Int32)) := by simp [own_f6_42, own_f7_4]
                obtain ⟨fs, hr, hrun, hended, hW, hsame⟩ := X458.leave (v := (some (.int (1 : Int32)))) (fun h => by rw [Bd.returns] at h; cases h)
                refine ⟨_, _, pre382 _ ?_, hrun, hended, _, _, rfl, ?_, ⟨_, rfl⟩, hW, hsame.mono (by decide) (by decide)⟩
                · show oS p e below T379 m 164 #[oi p0, oi p1, oi p2, oi p3, oi p4, oi (2 : Int32), oi (2 : Int32), oi m7, oi m8, oi m9, oi m10, oa b357, oa b359, .unset] [(.ref b359), (.ref b357)] _
                  refine st448 _ ?_
                  show oS p e below T448 m 167 #[oi p0, oi p1, oi p2, oi p3, oi p4, oi (2 : Int32), oi (2 : Int32), oi m7, oi m8, oi m9, oi m10, oa b357, oa b359, .unset] [(.ref u_448)] _
                  refine XS.astore X448.here hx rfl (hb hby at_167) rfl rfl (l' := #[oi p0, oi p1, oi p2, oi p3, oi p4, oi (2 : Int32), oi (2 : Int32), oi m7, oi m8, oi m9, oi m10, oa b357, oa b359, oa u_448]) rfl ?_
                  refine XS.aload X448.here hx rfl (hb hby at_169) rfl rfl ?_
                  show oS p e below T448 m 171 #[oi p0, oi p1, oi p2, oi p3, oi p4, oi (2 : Int32), oi (2 : Int32), oi m7, oi m8, oi m9, oi m10, oa b357, oa b359, oa u_448] [(.ref u_448)] _
                  refine oLen X448 hx hZ rfl Oq448_0 (hb hby at_171) ?_
                  refine XS.iload X448.here hx rfl (hb hby at_172) rfl ?_
                  refine XS.iload X448.here hx rfl (hb hby at_174) rfl ?_
                  refine XS.iadd X448.here hx rfl (hb hby at_176) rfl ?_
                  show oS p e below T448 m 177 #[oi p0, oi p1, oi p2, oi p3, oi p4, oi (2 : Int32), oi (2 : Int32), oi m7, oi m8, oi m9, oi m10, oa b357, oa b359, oa u_448] [(.int (4 : Int32)), (.int (4 : Int32))] _
                  refine XS.icmpYes X448.here hx rfl (pc0 := 177) (pc' := 182) rfl (hb hby at_177) rfl (teq b453).1 (by decide) (by decide) ?_
                  refine XS.aload X448.here hx rfl (hb hby at_182) rfl rfl ?_
                  show oS p e below T448 m 184 #[oi p0, oi p1, oi p2, oi p3, oi p4, oi (2 : Int32), oi (2 : Int32), oi m7, oi m8, oi m9, oi m10, oa b357, oa b359, oa u_448] [(.ref u_448)] _
                  refine st454 _ ?_
                  show oS p e below T454 m 187 #[oi p0, oi p1, oi p2, oi p3, oi p4, oi (2 : Int32), oi (2 : Int32), oi m7, oi m8, oi m9, oi m10, oa b357, oa b359, oa u_448] [(.int (own_f5_4 m9 m10 m7 m8))] _
                  refine XS.ifYes X454.here hx rfl (pc0 := 187) (pc' := 192) rfl (hb hby at_187) rfl ((if0 _ _).trans (feq b455).2) (by decide) (by decide) ?_
                  refine XS.aload X454.here hx rfl (hb hby at_192) rfl rfl ?_
                  refine XS.aload X454.here hx rfl (hb hby at_194) rfl rfl ?_
                  show oS p e below T454 m 196 #[oi p0, oi p1, oi p2, oi p3, oi p4, oi (2 : Int32), oi (2 : Int32), oi m7, oi m8, oi m9, oi m10, oa b357, oa b359, oa u_448] [(.ref b357), (.ref u_448)] _
                  refine st456 _ ?_
                  show oS p e below T456 m 199 #[oi p0, oi p1, oi p2, oi p3, oi p4, oi (2 : Int32), oi (2 : Int32), oi m7, oi m8, oi m9, oi m10, oa b357, oa b359, oa u_448] [(.int (own_f6_42 m9 m10 m7 m8 m7 m8))] _
                  refine XS.ifNo X456.here hx rfl (hb hby at_199) rfl ((if0 _ _).trans (feq b457).1) ?_
                  refine XS.aload X456.here hx rfl (hb hby at_202) rfl rfl ?_
                  refine XS.aload X456.here hx rfl (hb hby at_204) rfl rfl ?_
                  show oS p e below T456 m 206 #[oi p0, oi p1, oi p2, oi p3, oi p4, oi (2 : Int32), oi (2 : Int32), oi m7, oi m8, oi m9, oi m10, oa b357, oa b359, oa u_448] [(.ref b359), (.ref u_448)] _
                  refine st458 _ ?_
                  show oS p e below T458 m 209 #[oi p0, oi p1, oi p2, oi p3, oi p4, oi (2 : Int32), oi (2 : Int32), oi m7, oi m8, oi m9, oi m10, oa b357, oa b359, oa u_448] [(.int (own_f6_42 m9 m10 m7 m8 m9 m10))] _
                  refine XS.ifNo X458.here hx rfl (hb hby at_209) rfl ((if0 _ _).trans (feq b459).1) ?_
                  refine XS.iconst X458.here hx rfl (hb hby at_212) ?_
                  refine XS.goto X458.here hx rfl (pc0 := 213) (pc' := 217) rfl (hb hby at_213) (by decide) (by decide) ?_
                  show oS p e below T458 m 217 #[oi p0, oi p1, oi p2, oi p3, oi p4, oi (2 : Int32), oi (2 : Int32), oi m7, oi m8, oi m9, oi m10, oa b357, oa b359, oa u_448] [(.int (1 : Int32))] _
                  exact retN X458 hx (t := .boolean) Bd.returns (by simp) (hb hby at_217) hr
                · show own_Q0 Z p0 p1 p2 p3 p4 h0 n0 _ T458.heap _
                  rw [eq458]
                  exact ⟨rfl, N458⟩
          · skip
            obtain ⟨fs, hr, hrun, hended, hW, hsame⟩ := X379.leave (v := (some (.int (1 : Int32)))) (fun h => by rw [Bd.returns] at h; cases h)
            refine ⟨_, _, pre380 _ ?_, hrun, hended, _, _, rfl, ?_, ⟨_, rfl⟩, hW, hsame.mono (by decide) (by decide)⟩
            · show oS p e below T379 m 155 #[oi p0, oi p1, oi p2, oi p3, oi p4, oi (2 : Int32), oi (2 : Int32), oi m7, oi m8, oi m9, oi m10, oa b357, oa b359, .unset] [(.int (own_f3_22 m7 m8 m9 m10))] _
              refine XS.ifNo X379.here hx rfl (hb hby at_155) rfl ((if0 _ _).trans (feq c381).1) ?_
              refine XS.iconst X379.here hx rfl (hb hby at_158) ?_
              show oS p e below T379 m 159 #[oi p0, oi p1, oi p2, oi p3, oi p4, oi (2 : Int32), oi (2 : Int32), oi m7, oi m8, oi m9, oi m10, oa b357, oa b359, .unset] [(.int (1 : Int32))] _
              exact retN X379 hx (t := .boolean) Bd.returns (by simp) (hb hby at_159) hr
            · show own_Q0 Z p0 p1 p2 p3 p4 h0 n0 _ T379.heap _
              rw [eq379]
              exact ⟨rfl, N379⟩
set_option maxRecDepth 65536 in
set_option maxHeartbeats 40000000 in
theorem own_comes {Post : Tables → Env → Array Value → State → Outcome → State → Prop} (hpost : ∀ tb e args s v u, (limb_1_1.after args s (.returned v) u = true ∧ limb_1_2.after args s (.returned v) u = true ∧ True) → FrameEnd s (.returned v) u (Jvm.fieldLocs frame_1_writes args s ++ Jvm.arrayLocs frame_1_arrays args s ++ Jvm.staticLocs frame_1_statics s) 16 128 → Post tb e args s (.returned v) u) :
    ArmFor flags0 classFile x code maxLocals ret World_1 tables_1 room_1 Calls_1 rest_1 Pre_1 Post := by
  intro l hfl _ _ p e ha hc hk s m args below hf hA hF happ hP
  obtain ⟨hcalls, hrest, hpre⟩ := hP
  obtain ⟨-, -, -, hnamed, -, -, -, hat⟩ := (Spec.applies_iff hf).mp happ
  obtain ⟨hg, hn⟩ := and_e (Cond.before_iff.mp (show (Jvm.Cond.and given_1 narrow_1).before args s = true from hpre))
  obtain ⟨gv1, gv2⟩ := and_e hg
  obtain ⟨gv3, gv4⟩ := and_e gv2
  obtain ⟨gv5, gv6⟩ := and_e gv4
  obtain ⟨gv7, gv8⟩ := and_e gv6
  obtain ⟨gv9, gv10⟩ := and_e gv8
  obtain ⟨w0, w1, w2, w3, w4, rfl⟩ : ∃ w0 w1 w2 w3 w4 : Value, args = #[w0, w1, w2, w3, w4] := by
    have hs : args.size = 5 := by simpa [Cond.value, given_1] using gv1
    obtain ⟨L⟩ := args
    match L, hs with
    | [w0, w1, w2, w3, w4], _ => exact ⟨w0, w1, w2, w3, w4, rfl⟩
  have hw := fun d (hd : d ∈ tables_1) => atoms_spec (ws := Jvm.Cond.code x code maxLocals ret :: tables_1) hat d (List.mem_cons_of_mem _ hd)
  have hfit : Fit s := fun {y c} hc i hi => by
    obtain ⟨ha, rfl⟩ := Array.getElem?_eq_some_iff.mp hc
    have q := List.all_eq_true.mp ((Array.all_eq_true_iff_forall_mem.mp hF) _ (Array.getElem_mem ha)) i (List.mem_range.mpr hi)
    simpa [Array.getElem?_eq_getElem hi] using q
  obtain ⟨i0, ei0⟩ := is_v gv3
  obtain rfl : w0 = (.int i0) := Option.some.inj ei0
  obtain ⟨i1, ei1⟩ := is_v gv5
  obtain rfl : w1 = (.int i1) := Option.some.inj ei1
  obtain ⟨i2, ei2⟩ := is_v gv7
  obtain rfl : w2 = (.int i2) := Option.some.inj ei2
  obtain ⟨i3, ei3⟩ := is_v gv9
  obtain rfl : w3 = (.int i3) := Option.some.inj ei3
  obtain ⟨i4, ei4⟩ := is_v gv10
  obtain rfl : w4 = (.int i4) := Option.some.inj ei4
  obtain ⟨n, o, h1, h2, h3, _, L, rfl, ⟨rfl, N⟩, hq⟩ := own_rm0 l s _ hw tables_1 i0 i1 i2 i3 i4  s.heap s.heap.size (Nat.le_refl _)  p e ha hc hk s m _ below hf ((Spec.applies_iff_loose hf).mp happ).1 ⟨rfl, State.Warmed39.refl s, rfl⟩ trivial
  refine ⟨n, _, h1, h2, h3, hpost _ _ _ _ _ _ ⟨Cond.after_iff.mpr rfl, Cond.after_iff.mpr (eq_i res_at (Term.int_eval (1)) rfl), trivial⟩ ⟨hq.1, hq.2.1, (hq.2.2.sift fun y hy => Or.inr (N y hy)).mono (by decide) (by decide)⟩⟩
theorem main_1_1 : Claimed_1_1 := own_comes fun _ _ _ _ _ _ h hF => ⟨h.1, hF⟩
theorem main_1_2 : Claimed_1_2 := own_comes fun _ _ _ _ _ _ h hF => ⟨h.2.1, hF⟩
end Jvm.Pilot.@@N@@
namespace Jvm.Pilot.@@N@@
open Jvm Jvm.ClassFile Sem Op Lib Jvm.Free Jvm.Stand Jvm.Pilot.@@N@@.Jvm.D
/-! MADE BY PROGRAM (witnessworld.py) out of the Statement's table words and the real class files: 10 classes; the members and pool entries that the words name. The judged class is class 1, her method 1. -/
namespace start1
open Jvm.ClassFile
def u (s : String) : CpInfo := .utf8 (stringToUtf16 s)
/-- a pool by its gaps: so many unusable entries, then the entry; so many at the end -/
def gap : Nat → List CpInfo → List CpInfo
  | 0, r => r
  | n + 1, r => .unusable :: gap n r
def poolList (es : List (Nat × CpInfo)) (last : Nat) : List CpInfo := es.foldr (fun e r => gap e.1 (e.2 :: r)) (gap last [])
def pool (es : List (Nat × CpInfo)) (last : Nat) : Array CpInfo := ⟨poolList es last⟩
def fileOf (pool : Array CpInfo) (this : Nat) (attrs : Array Attribute := #[]) (ms : Array MethodInfo := #[]) (fl : Nat := 33) (sup : Nat := 0) (ifs : Array Nat := #[]) (fds : Array FieldInfo := #[]) : ClassFile where
  minorVersion := 0
  majorVersion := 65
  constantPool := pool
  accessFlags := fl
  thisClass := this
  superClass := sup
  interfaces := ifs
  fields := fds
  methods := ms
  attributes := attrs
def plain (name : String) (sup : Option ClassId) : Class where
  name := name
  kind := .ordinary
  loader := none
  accessFlags := 33
  super := sup
  interfaces := #[]
  cf := none
  fields := #[]
  methods := #[]
  instanceTypes := #[]
  staticTypes := #[]
  resolved := #[]
  callSites := []
  init := .initialized
  statics := none
  mirror := none

def pool0 : Array CpInfo := pool [(5, u "<init>"), (0, u "()V"), (1, .class_ 10), (1, u "java/lang/Object")] 113

def k0m0 : Method := { name := "<init>", desc := "()V", sig := { parameters := [], returnType := none }, accessFlags := 1, code := none }
/-- java/lang/Object -/
def k0 : Class := { plain "java/lang/Object" none with
  accessFlags := 33
  interfaces := #[]
  cf := some (fileOf pool0 8 #[] #[{ accessFlags := 1, nameIndex := 5, descriptorIndex := 6, attributes := #[] }] 33 0 #[] #[])
  fields := #[]
  methods := #[k0m0]
  instanceTypes := #[]
  staticTypes := #[]
  resolved := Array.replicate 124 none
  statics := none }

def pool1 : Array CpInfo := pool [(2, .class_ 4), (1, u "java/lang/Object"), (0, u "<init>"), (0, u "()V"), (0, .integer 2147483647), (0, .methodref 9 10), (0, .class_ 11), (0, .nameAndType 12 13), (0, u "java/lang/Math"), (0, u "min"), (0, u "(II)I"), (0, .methodref 9 15), (0, .nameAndType 16 13), (0, u "max"), (0, .methodref 18 19), (0, .class_ 20), (0, .nameAndType 21 22), (0, u "com/example/strict_anon/strictanon/service/RecordSetsUnionPinLaw"), (0, u "shares"), (0, u "([I[I)Z"), (0, .methodref 24 25), (0, .class_ 26), (0, .nameAndType 27 28), (0, u "com/example/strict_anon/strictanon/service/RecordSets"), (0, u "union"), (0, u "([I[I)[I"), (0, .methodref 18 30), (0, .nameAndType 31 32), (0, u "increasing"), (0, u "([I)Z"), (0, .methodref 18 34), (0, .nameAndType 35 22), (0, u "containsAll"), (0, .methodref 18 37), (0, .nameAndType 38 39), (0, u "contains"), (0, u "([II)Z"), (2, u "law"), (0, u "(IIIII)Z")] 5

def k1m0 : Method := { name := "<init>", desc := "()V", sig := { parameters := [], returnType := none }, accessFlags := 2, code := none }
def k1c1 : Code := { maxStack := 3, maxLocals := 14, code := code, exceptionTable := #[], attributes := #[] }
def k1m1 : Method := { name := "law", desc := "(IIIII)Z", sig := { parameters := [.int, .int, .int, .int, .int], returnType := some .boolean }, accessFlags := 9, code := some k1c1 }
def k1c2 : Code := { maxStack := 2, maxLocals := 2, code := method_3_code, exceptionTable := #[], attributes := #[] }
def k1m2 : Method := { name := "contains", desc := "([II)Z", sig := { parameters := [(.array .int), .int], returnType := some .boolean }, accessFlags := 10, code := some k1c2 }
def k1c3 : Code := { maxStack := 3, maxLocals := 2, code := method_4_code, exceptionTable := #[], attributes := #[] }
def k1m3 : Method := { name := "shares", desc := "([I[I)Z", sig := { parameters := [(.array .int), (.array .int)], returnType := some .boolean }, accessFlags := 10, code := some k1c3 }
def k1c4 : Code := { maxStack := 3, maxLocals := 2, code := method_5_code, exceptionTable := #[], attributes := #[] }
def k1m4 : Method := { name := "containsAll", desc := "([I[I)Z", sig := { parameters := [(.array .int), (.array .int)], returnType := some .boolean }, accessFlags := 10, code := some k1c4 }
def k1c5 : Code := { maxStack := 3, maxLocals := 1, code := method_6_code, exceptionTable := #[], attributes := #[] }
def k1m5 : Method := { name := "increasing", desc := "([I)Z", sig := { parameters := [(.array .int)], returnType := some .boolean }, accessFlags := 10, code := some k1c5 }
/-- com/example/strict_anon/strictanon/service/RecordSetsUnionPinLaw -/
def k1 : Class := { plain "com/example/strict_anon/strictanon/service/RecordSetsUnionPinLaw" (some 0) with
  accessFlags := 49
  interfaces := #[]
  cf := some (fileOf pool1 18 #[] #[{ accessFlags := 2, nameIndex := 5, descriptorIndex := 6, attributes := #[] }, { accessFlags := 9, nameIndex := 42, descriptorIndex := 43, attributes := #[] }, { accessFlags := 10, nameIndex := 38, descriptorIndex := 39, attributes := #[] }, { accessFlags := 10, nameIndex := 21, descriptorIndex := 22, attributes := #[] }, { accessFlags := 10, nameIndex := 35, descriptorIndex := 22, attributes := #[] }, { accessFlags := 10, nameIndex := 31, descriptorIndex := 32, attributes := #[] }] 49 2 #[] #[])
  fields := #[]
  methods := #[k1m0, k1m1, k1m2, k1m3, k1m4, k1m5]
  instanceTypes := #[]
  staticTypes := #[]
  resolved := Array.replicate 49 none
  statics := none }

def pool2 : Array CpInfo := pool [(1, .class_ 2), (0, u "java/lang/Math"), (1, .class_ 6), (1, u "java/lang/Object"), (0, u "<init>"), (0, u "()V"), (89, .class_ 100), (1, u "java/lang/Math$RandomNumberGeneratorHolder"), (71, u "negativeZeroFloatBits"), (0, u "J"), (2, u "negativeZeroDoubleBits"), (21, u "max"), (2, u "min"), (43, u "$assertionsDisabled"), (0, u "Z"), (88, u "(II)I"), (2, u "twoToTheDoubleScaleDown"), (0, u "D"), (4, u "twoToTheDoubleScaleUp"), (9, u "E"), (3, u "PI"), (2, u "TAU"), (2, u "DEGREES_TO_RADIANS"), (0, u "RADIANS_TO_DEGREES")] 94

def k2m0 : Method := { name := "<init>", desc := "()V", sig := { parameters := [], returnType := none }, accessFlags := 2, code := none }
def k2c1 : Code := { maxStack := 2, maxLocals := 2, code := jdk_29_method_65_code, exceptionTable := #[], attributes := #[] }
def k2m1 : Method := { name := "max", desc := "(II)I", sig := { parameters := [.int, .int], returnType := some .int }, accessFlags := 9, code := some k2c1 }
def k2c2 : Code := { maxStack := 2, maxLocals := 2, code := jdk_29_method_69_code, exceptionTable := #[], attributes := #[] }
def k2m2 : Method := { name := "min", desc := "(II)I", sig := { parameters := [.int, .int], returnType := some .int }, accessFlags := 9, code := some k2c2 }
/-- java/lang/Math -/
def k2 : Class := { plain "java/lang/Math" (some 0) with
  accessFlags := 49
  interfaces := #[]
  cf := some (fileOf pool2 1 #[.nestMembers #[98]] #[{ accessFlags := 2, nameIndex := 7, descriptorIndex := 8, attributes := #[] }, { accessFlags := 9, nameIndex := 198, descriptorIndex := 335, attributes := #[] }, { accessFlags := 9, nameIndex := 201, descriptorIndex := 335, attributes := #[] }] 49 4 #[] #[{ accessFlags := 25, nameIndex := 354, descriptorIndex := 339, attributes := #[] }, { accessFlags := 25, nameIndex := 358, descriptorIndex := 339, attributes := #[] }, { accessFlags := 25, nameIndex := 361, descriptorIndex := 339, attributes := #[] }, { accessFlags := 26, nameIndex := 364, descriptorIndex := 339, attributes := #[] }, { accessFlags := 26, nameIndex := 365, descriptorIndex := 339, attributes := #[] }, { accessFlags := 26, nameIndex := 172, descriptorIndex := 173, attributes := #[] }, { accessFlags := 26, nameIndex := 176, descriptorIndex := 173, attributes := #[] }, { accessFlags := 8, nameIndex := 344, descriptorIndex := 339, attributes := #[] }, { accessFlags := 8, nameIndex := 338, descriptorIndex := 339, attributes := #[] }, { accessFlags := 4120, nameIndex := 245, descriptorIndex := 246, attributes := #[] }])
  fields := #[{ name := "E", type := .double, accessFlags := 25, slot := 0, constantValue := 0 }, { name := "PI", type := .double, accessFlags := 25, slot := 1, constantValue := 0 }, { name := "TAU", type := .double, accessFlags := 25, slot := 2, constantValue := 0 }, { name := "DEGREES_TO_RADIANS", type := .double, accessFlags := 26, slot := 3, constantValue := 0 }, { name := "RADIANS_TO_DEGREES", type := .double, accessFlags := 26, slot := 4, constantValue := 0 }, { name := "negativeZeroFloatBits", type := .long, accessFlags := 26, slot := 5, constantValue := 0 }, { name := "negativeZeroDoubleBits", type := .long, accessFlags := 26, slot := 6, constantValue := 0 }, { name := "twoToTheDoubleScaleUp", type := .double, accessFlags := 8, slot := 7, constantValue := 0 }, { name := "twoToTheDoubleScaleDown", type := .double, accessFlags := 8, slot := 8, constantValue := 0 }, { name := "$assertionsDisabled", type := .boolean, accessFlags := 4120, slot := 9, constantValue := 0 }]
  methods := #[k2m0, k2m1, k2m2]
  instanceTypes := #[]
  staticTypes := #[.double, .double, .double, .double, .double, .long, .long, .double, .double, .boolean]
  resolved := Array.replicate 460 none
  statics := none }

def pool3 : Array CpInfo := pool [(2, .class_ 4), (1, u "java/lang/Object"), (0, u "<init>"), (0, u "()V"), (6, .class_ 14), (0, u "com/example/strict_anon/strictanon/service/RecordSets"), (2, u "union"), (0, u "([I[I)[I")] 6

def k3m0 : Method := { name := "<init>", desc := "()V", sig := { parameters := [], returnType := none }, accessFlags := 2, code := none }
def k3c1 : Code := { maxStack := 4, maxLocals := 5, code := prog_30_method_2_code, exceptionTable := #[], attributes := #[] }
def k3m1 : Method := { name := "union", desc := "([I[I)[I", sig := { parameters := [(.array .int), (.array .int)], returnType := some (.array .int) }, accessFlags := 8, code := some k3c1 }
/-- com/example/strict_anon/strictanon/service/RecordSets -/
def k3 : Class := { plain "com/example/strict_anon/strictanon/service/RecordSets" (some 0) with
  accessFlags := 48
  interfaces := #[]
  cf := some (fileOf pool3 13 #[] #[{ accessFlags := 2, nameIndex := 5, descriptorIndex := 6, attributes := #[] }, { accessFlags := 8, nameIndex := 17, descriptorIndex := 18, attributes := #[] }] 48 2 #[] #[])
  fields := #[]
  methods := #[k3m0, k3m1]
  instanceTypes := #[]
  staticTypes := #[]
  resolved := Array.replicate 25 none
  statics := none }

def pool4 : Array CpInfo := pool [(1, u "java/lang/Cloneable"), (0, .class_ 1), (0, u "java/lang/Object"), (0, .class_ 3)] 3

/-- java/lang/Cloneable -/
def k4 : Class := { plain "java/lang/Cloneable" (some 0) with
  accessFlags := 1537
  interfaces := #[]
  cf := some (fileOf pool4 2 #[] #[] 1537 4 #[] #[])
  fields := #[]
  methods := #[]
  instanceTypes := #[]
  staticTypes := #[]
  resolved := Array.replicate 8 none
  statics := none }

def pool5 : Array CpInfo := pool [(1, u "java/io/Serializable"), (0, .class_ 1), (0, u "java/lang/Object"), (0, .class_ 3)] 3

/-- java/io/Serializable -/
def k5 : Class := { plain "java/io/Serializable" (some 0) with
  accessFlags := 1537
  interfaces := #[]
  cf := some (fileOf pool5 2 #[] #[] 1537 4 #[] #[])
  fields := #[]
  methods := #[]
  instanceTypes := #[]
  staticTypes := #[]
  resolved := Array.replicate 8 none
  statics := none }

/-- the primitive byte -/
def k6 : Class := { plain "byte" none with kind := .primitive 'B', accessFlags := 0x411 }
/-- [B -/
def k7 : Class := { plain "[B" (some 0) with kind := .array 6 .byte, interfaces := #[4, 5], accessFlags := 1041 }

/-- the primitive int -/
def k8 : Class := { plain "int" none with kind := .primitive 'I', accessFlags := 0x411 }
/-- [I -/
def k9 : Class := { plain "[I" (some 0) with kind := .array 8 .int, interfaces := #[4, 5], accessFlags := 1041 }

def heap : Heap := #[]
def classes : Array Class := #[k0, k1, k2, k3, k4, k5, k6, k7, k8, k9]
def interned : List (Array UInt16 × Addr) := []
def slotsUsed : Nat := 0
def theMethod : MethodId := ⟨1, 1⟩
def args0 : Array Value := #[.int 2, .int 6, .int 7, .int 8, .int 0]
def aboutOver (below : List Frame) : State where
  vm := { classes := classes, interned := interned.toArray }
  heap := heap
  slotsUsed := slotsUsed
  threads := #[{ frames := .invoking theMethod args0 :: below }]
def below0 : List Frame := [.native { method := ⟨0, 0⟩, args := #[] }]
def about1 : State := aboutOver below0
def p0 : Program := .bare "" "" ""
def e0 : Env := launch0.env 0 0 0
theorem w_frames : about1.frames = Frame.invoking theMethod args0 :: below0 := rfl
set_option maxRecDepth 65536 in
theorem w_args : argsFit about1.vm theMethod args0 = true := by decide +kernel
set_option maxRecDepth 65536 in
theorem w_heap : heapFits about1 = true := by decide +kernel
set_option maxRecDepth 65536 in
theorem w_runnable : about1.curStatus? = some .runnable := by decide +kernel
set_option maxRecDepth 65536 in
theorem w_alone : about1.alone = true := by decide +kernel
set_option maxRecDepth 65536 in
theorem w_named : about1.methodNamed? x = some theMethod := by decide +kernel
set_option maxRecDepth 65536 in
theorem w_hears : about1.hears theMethod below0 = true := by decide +kernel
set_option maxRecDepth 65536 in
theorem w_ripe : about1.ripe theMethod args0 below0 = true := by decide +kernel
theorem w_running : about1.status = .running := rfl
set_option maxRecDepth 65536 in
theorem w_room : about1.hasRoom e0.platform room_1 = true :=
  launch0.hasRoom_least _ room_1 (by decide +kernel) (by decide +kernel) (by decide +kernel) (by decide +kernel) (by decide +kernel) (by decide +kernel)
theorem allAtoms_all (ts : List Jvm.Cond) (a : Array Jvm.Value) (st : Jvm.State) : (allAtoms ts).before a st = ts.all (fun c => c.before a st) := by
  induction ts with
  | nil => rfl
  | cons c t ih =>
    show (Jvm.Cond.and c (allAtoms t)).before a st = _
    rw [Jvm.Cond.before_and, ih, List.all_cons]
def words1 : List Jvm.Cond := Jvm.Cond.code x code maxLocals ret :: tables_1
/-- a 'code' word, met by the world's own term for the bytes: nothing is compared byte by byte -/
theorem code_word {y : MethodName} {bytes : ByteArray} {mx : Nat} {rt : Option FieldType} {a : Array Value} {s : State} {m : MethodId} {meth : Method} {c : Code} (h1 : s.methodNamed? y = some m) (h2 : s.vm.method? m = some meth) (h3 : meth.code = some c) (h4 : c.code = bytes)
    (h5 : (c.maxLocals == mx && c.exceptionTable.isEmpty && decide (c.maxStack ≤ mostOperands) && decide (meth.sig.returnType = rt) && !meth.locks && decide (parseMethodDescriptor y.desc = some meth.sig)) = true) : (Jvm.Cond.code y bytes mx rt).before a s = true := by
  simp only [Bool.and_eq_true, beq_iff_eq, Bool.not_eq_true', decide_eq_true_eq] at h5
  obtain ⟨⟨⟨⟨⟨g1, g2⟩, g3⟩, g4⟩, g5⟩, g6⟩ := h5
  simp [Cond.before, Cond.holds, Cond.value, h1, h2, h3, h4, g1, g2, g3, g4, g5, g6]
def isCode : Jvm.Cond → Bool
  | .code _ _ _ _ => true
  | _ => false
theorem all_split {L : List Jvm.Cond} {P : Jvm.Cond → Bool} (h1 : L.all (fun c => isCode c || P c) = true) (h2 : ∀ c ∈ L.filter isCode, P c = true) : L.all P = true := by
  refine List.all_eq_true.mpr fun c hc => ?_
  have h := List.all_eq_true.mp h1 c hc
  rcases Bool.eq_false_or_eq_true (isCode c) with hi | hi
  · exact h2 c (List.mem_filter.mpr ⟨hc, hi⟩)
  · simpa [hi] using h
set_option maxRecDepth 65536 in
theorem w_c0 : (Jvm.Cond.code x code maxLocals ret).before args0 about1 = true := code_word (m := ⟨1, 1⟩) (meth := k1m1) (c := k1c1) (by decide +kernel) rfl rfl rfl (by decide +kernel)
set_option maxRecDepth 65536 in
theorem w_c1 : (Jvm.Cond.code ({ cls := "java/lang/Math", name := "min", desc := "(II)I" } : Jvm.MethodName) jdk_29_method_69_code (2 : Nat) (Option.some Jvm.ClassFile.FieldType.int)).before args0 about1 = true := code_word (m := ⟨2, 2⟩) (meth := k2m2) (c := k2c2) (by decide +kernel) rfl rfl rfl (by decide +kernel)
set_option maxRecDepth 65536 in
theorem w_c2 : (Jvm.Cond.code ({ cls := "java/lang/Math", name := "max", desc := "(II)I" } : Jvm.MethodName) jdk_29_method_65_code (2 : Nat) (Option.some Jvm.ClassFile.FieldType.int)).before args0 about1 = true := code_word (m := ⟨2, 1⟩) (meth := k2m1) (c := k2c1) (by decide +kernel) rfl rfl rfl (by decide +kernel)
set_option maxRecDepth 65536 in
theorem w_c3 : (Jvm.Cond.code ({ cls := "com/example/strict_anon/strictanon/service/RecordSetsUnionPinLaw", name := "shares", desc := "([I[I)Z" } : Jvm.MethodName) method_4_code (2 : Nat) (Option.some Jvm.ClassFile.FieldType.boolean)).before args0 about1 = true := code_word (m := ⟨1, 3⟩) (meth := k1m3) (c := k1c3) (by decide +kernel) rfl rfl rfl (by decide +kernel)
set_option maxRecDepth 65536 in
theorem w_c4 : (Jvm.Cond.code ({ cls := "com/example/strict_anon/strictanon/service/RecordSets", name := "union", desc := "([I[I)[I" } : Jvm.MethodName) prog_30_method_2_code (5 : Nat) (Option.some (Jvm.ClassFile.FieldType.array Jvm.ClassFile.FieldType.int))).before args0 about1 = true := code_word (m := ⟨3, 1⟩) (meth := k3m1) (c := k3c1) (by decide +kernel) rfl rfl rfl (by decide +kernel)
set_option maxRecDepth 65536 in
theorem w_c5 : (Jvm.Cond.code ({ cls := "com/example/strict_anon/strictanon/service/RecordSetsUnionPinLaw", name := "increasing", desc := "([I)Z" } : Jvm.MethodName) method_6_code (1 : Nat) (Option.some Jvm.ClassFile.FieldType.boolean)).before args0 about1 = true := code_word (m := ⟨1, 5⟩) (meth := k1m5) (c := k1c5) (by decide +kernel) rfl rfl rfl (by decide +kernel)
set_option maxRecDepth 65536 in
theorem w_c6 : (Jvm.Cond.code ({ cls := "com/example/strict_anon/strictanon/service/RecordSetsUnionPinLaw", name := "containsAll", desc := "([I[I)Z" } : Jvm.MethodName) method_5_code (2 : Nat) (Option.some Jvm.ClassFile.FieldType.boolean)).before args0 about1 = true := code_word (m := ⟨1, 4⟩) (meth := k1m4) (c := k1c4) (by decide +kernel) rfl rfl rfl (by decide +kernel)
set_option maxRecDepth 65536 in
theorem w_c7 : (Jvm.Cond.code ({ cls := "com/example/strict_anon/strictanon/service/RecordSetsUnionPinLaw", name := "contains", desc := "([II)Z" } : Jvm.MethodName) method_3_code (2 : Nat) (Option.some Jvm.ClassFile.FieldType.boolean)).before args0 about1 = true := code_word (m := ⟨1, 2⟩) (meth := k1m2) (c := k1c2) (by decide +kernel) rfl rfl rfl (by decide +kernel)
def codes1 : List Jvm.Cond := [Jvm.Cond.code x code maxLocals ret, Jvm.Cond.code ({ cls := "java/lang/Math", name := "min", desc := "(II)I" } : Jvm.MethodName) jdk_29_method_69_code (2 : Nat) (Option.some Jvm.ClassFile.FieldType.int), Jvm.Cond.code ({ cls := "java/lang/Math", name := "max", desc := "(II)I" } : Jvm.MethodName) jdk_29_method_65_code (2 : Nat) (Option.some Jvm.ClassFile.FieldType.int), Jvm.Cond.code ({ cls := "com/example/strict_anon/strictanon/service/RecordSetsUnionPinLaw", name := "shares", desc := "([I[I)Z" } : Jvm.MethodName) method_4_code (2 : Nat) (Option.some Jvm.ClassFile.FieldType.boolean), Jvm.Cond.code ({ cls := "com/example/strict_anon/strictanon/service/RecordSets", name := "union", desc := "([I[I)[I" } : Jvm.MethodName) prog_30_method_2_code (5 : Nat) (Option.some (Jvm.ClassFile.FieldType.array Jvm.ClassFile.FieldType.int)), Jvm.Cond.code ({ cls := "com/example/strict_anon/strictanon/service/RecordSetsUnionPinLaw", name := "increasing", desc := "([I)Z" } : Jvm.MethodName) method_6_code (1 : Nat) (Option.some Jvm.ClassFile.FieldType.boolean), Jvm.Cond.code ({ cls := "com/example/strict_anon/strictanon/service/RecordSetsUnionPinLaw", name := "containsAll", desc := "([I[I)Z" } : Jvm.MethodName) method_5_code (2 : Nat) (Option.some Jvm.ClassFile.FieldType.boolean), Jvm.Cond.code ({ cls := "com/example/strict_anon/strictanon/service/RecordSetsUnionPinLaw", name := "contains", desc := "([II)Z" } : Jvm.MethodName) method_3_code (2 : Nat) (Option.some Jvm.ClassFile.FieldType.boolean)]
set_option maxRecDepth 65536 in
theorem codes_eq : words1.filter isCode = codes1 := rfl
theorem w_codes : ∀ c ∈ words1.filter isCode, c.before args0 about1 = true := by
  rw [codes_eq]
  intro c hc
  simp only [codes1, List.mem_cons, List.not_mem_nil, or_false] at hc
  rcases hc with rfl | rfl | rfl | rfl | rfl | rfl | rfl | rfl
  · exact w_c0
  · exact w_c1
  · exact w_c2
  · exact w_c3
  · exact w_c4
  · exact w_c5
  · exact w_c6
  · exact w_c7
set_option maxRecDepth 65536 in
theorem w_t1 : (words1.take 24).all (fun c => isCode c || c.before args0 about1) = true := by decide +kernel
set_option maxRecDepth 65536 in
theorem w_t2 : (words1.drop 24).all (fun c => isCode c || c.before args0 about1) = true := by decide +kernel
theorem w_tables : (allAtoms (Jvm.Cond.code x code maxLocals ret :: tables_1)).before args0 about1 = true := by
  rw [allAtoms_all]
  show words1.all (fun c => c.before args0 about1) = true
  refine all_split ?_ w_codes
  rw [← List.take_append_drop 24 words1, List.all_append, w_t1, w_t2]
  rfl
set_option maxRecDepth 65536 in
theorem w_case : (Jvm.Cond.and given_1 narrow_1).before args0 about1 = true := by decide +kernel
theorem w_applies : (headSpec (Jvm.Cond.code x code maxLocals ret :: tables_1) room_1).applies x e0.platform about1 = true :=
  (Spec.applies_iff w_frames).mpr ⟨w_running, w_runnable, w_alone, w_named, w_hears, w_ripe, w_room, w_tables⟩
theorem atStart : AtStart classFile x code maxLocals ret World_1 tables_1 room_1 Calls_1 rest_1 Pre_1 launch0 p0 e0 about1 theMethod args0 below0 :=
  ⟨lists_1, trivial, launch0.admits_env _ _ _, launch0.least_env, fairChoices_fair.cas, fairChoices_fair.clock, w_frames, w_args, w_heap, w_applies, trivial, trivial, w_case⟩
end start1
theorem witness_1 : WitnessClaimed_1 := ⟨start1.p0, start1.e0, start1.about1, start1.theMethod, start1.args0, start1.below0, start1.atStart⟩
end Jvm.Pilot.@@N@@
