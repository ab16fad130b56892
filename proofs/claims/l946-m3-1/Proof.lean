import JvmDerived
import JvmDerived.Pilot.@@N@@Statement
import JvmDerived.Pilot.@@N@@Code
set_option linter.unusedVariables false
set_option linter.unusedSimpArgs false
namespace Jvm.Pilot.@@N@@
open Jvm Jvm.ClassFile Sem Op Lib Jvm.Free Jvm.Stand Jvm.LawKit Jvm.RoadKit Bundle Jvm.Pilot.@@N@@.Jvm.D
section OwnKit
variable {p : Program} {l : Launch} {e : Env} {R : Room} {s : State} {m : MethodId} {args : Array Value} {below : List Frame} {meth : Method} {c : Code} {T : State} {locs : List Loc} {cells slots : Nat} {Z : State} {h : Heap} {a : Addr} {k : ClassId} {z : Int32} {vs : List Value} {dv : Value}
theorem oLen (X : Stand p l e R s m args below meth c T locs cells slots) (hx : p.tables.exec = Jvm.exec) (hZ : Z.Warmed39 s.vm) (eT : T.heap = h) {ty : FieldType} (F : Arv Z h a k ty z vs dv) {g : JFrame} (hg : g.method = m) {rest : List Value} (hs : g.stack = .ref a :: rest) (hd : decode c.code g.pc = .ok (.arraylength, 1)) (target : State)
    (hr : Steps p.tables e below (T.setTop { g with pc := g.pc + 1, stack := .int z :: rest }) target) : Steps p.tables e below (T.setTop g) target := by
  obtain ⟨cl, A, -, S, M, -, -⟩ := F
  refine X.arraylength hx (by rw [eT]; exact A.1) (State.isArrayOf_alike hZ.alike A.2.1) hg hs hd target ?_
  rw [len_of S M]
  exact hr
theorem oLdI (X : Stand p l e R s m args below meth c T locs cells slots) (hx : p.tables.exec = Jvm.exec) (hZ : Z.Warmed39 s.vm) (eT : T.heap = h) (F : Arv Z h a k .int z vs dv) {j : Int32} {v : Value} (hj : ¬ j < 0 ∧ j < z) (hv : vs.getD j.toNatClampNeg dv = v) {g : JFrame} (hg : g.method = m) {rest : List Value} (hs : g.stack = .int j :: .ref a :: rest) (hd : decode c.code g.pc = .ok (.iaload, 1)) (target : State)
    (hr : Steps p.tables e below (T.setTop { g with pc := g.pc + 1, stack := v :: rest }) target) : Steps p.tables e below (T.setTop g) target := by
  obtain ⟨cl, A, -, S, -, H, -⟩ := F
  have hin := inb_of S hj
  exact X.iaload hx (by rw [eT]; exact A.1) (State.isArrayOf_alike hZ.alike A.2.1) A.2.2 hin (Has.at H hin hv) hg hs hd target hr
theorem oLdB (X : Stand p l e R s m args below meth c T locs cells slots) (hx : p.tables.exec = Jvm.exec) (hZ : Z.Warmed39 s.vm) (eT : T.heap = h) (F : Arv Z h a k .byte z vs dv) {j : Int32} {v : Value} (hj : ¬ j < 0 ∧ j < z) (hv : vs.getD j.toNatClampNeg dv = v) {g : JFrame} (hg : g.method = m) {rest : List Value} (hs : g.stack = .int j :: .ref a :: rest) (hd : decode c.code g.pc = .ok (.baload, 1)) (target : State)
    (hr : Steps p.tables e below (T.setTop { g with pc := g.pc + 1, stack := v :: rest }) target) : Steps p.tables e below (T.setTop g) target := by
  obtain ⟨cl, A, -, S, -, H, -⟩ := F
  have hin := inb_of S hj
  exact X.baloadBytes hx (by rw [eT]; exact A.1) (State.isArrayOf_alike hZ.alike A.2.1) A.2.2 hin (Has.at H hin hv) hg hs hd target hr
theorem oLdJ (X : Stand p l e R s m args below meth c T locs cells slots) (hx : p.tables.exec = Jvm.exec) (hZ : Z.Warmed39 s.vm) (eT : T.heap = h) (F : Arv Z h a k .long z vs dv) {j : Int32} {v : Value} (hj : ¬ j < 0 ∧ j < z) (hv : vs.getD j.toNatClampNeg dv = v) {g : JFrame} (hg : g.method = m) {rest : List Value} (hs : g.stack = .int j :: .ref a :: rest) (hd : decode c.code g.pc = .ok (.laload, 1)) (target : State)
    (hr : Steps p.tables e below (T.setTop { g with pc := g.pc + 1, stack := v :: rest }) target) : Steps p.tables e below (T.setTop g) target := by
  obtain ⟨cl, A, -, S, -, H, -⟩ := F
  have hin := inb_of S hj
  exact X.laload hx (by rw [eT]; exact A.1) (State.isArrayOf_alike hZ.alike A.2.1) A.2.2 hin (Has.at H hin hv) hg hs hd target hr
theorem oLdD (X : Stand p l e R s m args below meth c T locs cells slots) (hx : p.tables.exec = Jvm.exec) (hZ : Z.Warmed39 s.vm) (eT : T.heap = h) (F : Arv Z h a k .double z vs dv) {j : Int32} {v : Value} (hj : ¬ j < 0 ∧ j < z) (hv : vs.getD j.toNatClampNeg dv = v) {g : JFrame} (hg : g.method = m) {rest : List Value} (hs : g.stack = .int j :: .ref a :: rest) (hd : decode c.code g.pc = .ok (.daload, 1)) (target : State)
    (hr : Steps p.tables e below (T.setTop { g with pc := g.pc + 1, stack := v :: rest }) target) : Steps p.tables e below (T.setTop g) target := by
  obtain ⟨cl, A, -, S, -, H, -⟩ := F
  have hin := inb_of S hj
  exact X.daload hx (by rw [eT]; exact A.1) (State.isArrayOf_alike hZ.alike A.2.1) A.2.2 hin (Has.at H hin hv) hg hs hd target hr
theorem oStI (X : Stand p l e R s m args below meth c T locs cells slots) (hx : p.tables.exec = Jvm.exec) (hZ : Z.Warmed39 s.vm) (eT : T.heap = h) (F : Arv Z h a k .int z vs dv) {j : Int32} {x : Int32} (hj : ¬ j < 0 ∧ j < z) (i : Nat) (hi : j.toNatClampNeg = i) (hl : i < vs.length) {g : JFrame} (hg : g.method = m) {rest : List Value} (hs : g.stack = .int x :: .int j :: .ref a :: rest) (hd : decode c.code g.pc = .ok (.iastore, 1)) :
    ∃ T' h', Stand p l e R s m args below meth c T' (locs ++ [⟨a, j.toNatClampNeg⟩]) cells slots ∧ T'.heap = h' ∧ Wr h h' a j.toNatClampNeg (.int x) ∧ Arv Z h' a k .int z (vs.set i (.int x)) dv ∧ ∀ target, Steps p.tables e below (T'.setTop { g with pc := g.pc + 1, stack := rest }) target → Steps p.tables e below (T.setTop g) target := by
  obtain ⟨cl, A, q1, S, M, H, G⟩ := F
  obtain ⟨T', h', X', e', W, st⟩ := stI X hx hZ eT A (j := j) (inb_of S hj) hg hs hd
  exact ⟨T', h', X', e', W, Arv.set A q1 S M H G rfl W i hi hl, st⟩
theorem oStB (X : Stand p l e R s m args below meth c T locs cells slots) (hx : p.tables.exec = Jvm.exec) (hZ : Z.Warmed39 s.vm) (eT : T.heap = h) (F : Arv Z h a k .byte z vs dv) {j : Int32} {x : Int32} (hj : ¬ j < 0 ∧ j < z) (i : Nat) (hi : j.toNatClampNeg = i) (hl : i < vs.length) {g : JFrame} (hg : g.method = m) {rest : List Value} (hs : g.stack = .int x :: .int j :: .ref a :: rest) (hd : decode c.code g.pc = .ok (.bastore, 1)) :
    ∃ T' h', Stand p l e R s m args below meth c T' (locs ++ [⟨a, j.toNatClampNeg⟩]) cells slots ∧ T'.heap = h' ∧ Wr h h' a j.toNatClampNeg (.int (nar .byte x)) ∧ Arv Z h' a k .byte z (vs.set i (.int (nar .byte x))) dv ∧ ∀ target, Steps p.tables e below (T'.setTop { g with pc := g.pc + 1, stack := rest }) target → Steps p.tables e below (T.setTop g) target := by
  obtain ⟨cl, A, q1, S, M, H, G⟩ := F
  obtain ⟨T', h', X', e', W, st⟩ := stB X hx hZ eT A (j := j) (inb_of S hj) hg hs hd
  exact ⟨T', h', X', e', W, Arv.set A q1 S M H G (fits_nar_byte x) W i hi hl, st⟩
theorem oStJ (X : Stand p l e R s m args below meth c T locs cells slots) (hx : p.tables.exec = Jvm.exec) (hZ : Z.Warmed39 s.vm) (eT : T.heap = h) (F : Arv Z h a k .long z vs dv) {j : Int32} {x : Int64} (hj : ¬ j < 0 ∧ j < z) (i : Nat) (hi : j.toNatClampNeg = i) (hl : i < vs.length) {g : JFrame} (hg : g.method = m) {rest : List Value} (hs : g.stack = .long x :: .int j :: .ref a :: rest) (hd : decode c.code g.pc = .ok (.lastore, 1)) :
    ∃ T' h', Stand p l e R s m args below meth c T' (locs ++ [⟨a, j.toNatClampNeg⟩]) cells slots ∧ T'.heap = h' ∧ Wr h h' a j.toNatClampNeg (.long x) ∧ Arv Z h' a k .long z (vs.set i (.long x)) dv ∧ ∀ target, Steps p.tables e below (T'.setTop { g with pc := g.pc + 1, stack := rest }) target → Steps p.tables e below (T.setTop g) target := by
  obtain ⟨cl, A, q1, S, M, H, G⟩ := F
  obtain ⟨T', h', X', e', W, st⟩ := stJ X hx hZ eT A (j := j) (inb_of S hj) hg hs hd
  exact ⟨T', h', X', e', W, Arv.set A q1 S M H G rfl W i hi hl, st⟩
theorem oStD (X : Stand p l e R s m args below meth c T locs cells slots) (hx : p.tables.exec = Jvm.exec) (hZ : Z.Warmed39 s.vm) (eT : T.heap = h) (F : Arv Z h a k .double z vs dv) {j : Int32} {x : UInt64} (hj : ¬ j < 0 ∧ j < z) (i : Nat) (hi : j.toNatClampNeg = i) (hl : i < vs.length) {g : JFrame} (hg : g.method = m) {rest : List Value} (hs : g.stack = .double x :: .int j :: .ref a :: rest) (hd : decode c.code g.pc = .ok (.dastore, 1)) :
    ∃ T' h', Stand p l e R s m args below meth c T' (locs ++ [⟨a, j.toNatClampNeg⟩]) cells slots ∧ T'.heap = h' ∧ Wr h h' a j.toNatClampNeg (.double x) ∧ Arv Z h' a k .double z (vs.set i (.double x)) dv ∧ ∀ target, Steps p.tables e below (T'.setTop { g with pc := g.pc + 1, stack := rest }) target → Steps p.tables e below (T.setTop g) target := by
  obtain ⟨cl, A, q1, S, M, H, G⟩ := F
  obtain ⟨T', h', X', e', W, st⟩ := stD X hx hZ eT A (j := j) (inb_of S hj) hg hs hd
  exact ⟨T', h', X', e', W, Arv.set A q1 S M H G rfl W i hi hl, st⟩
end OwnKit
abbrev oi (x : Int32) : Slot := .val (.int x)
abbrev oj (x : Int64) : Slot := .val (.long x)
abbrev oa (x : Addr) : Slot := .val (.ref x)
abbrev od (x : UInt64) : Slot := .val (.double x)
abbrev oS (p : Program) (e : Env) (below : List Frame) (T : State) (m : MethodId) (pc : Nat) (L : Array Slot) (S : List Value) (t : State) : Prop := Steps p.tables e below (T.setTop (mkF m pc L S)) t
theorem own_ltp (x k : Int32) : (x < k) = (x.toInt < k.toInt) := propext Int32.lt_iff_toInt_lt
theorem own_eqp (x k : Int32) : (x = k) = (x.toInt = k.toInt) := propext Int32.toInt_inj.symm
theorem own_ltpL (x k : Int64) : (x < k) = (x.toInt < k.toInt) := propext Int64.lt_iff_toInt_lt
theorem own_eqpL (x k : Int64) : (x = k) = (x.toInt = k.toInt) := propext Int64.toInt_inj.symm
theorem own_of_range {P : Int32 → Prop} (n : Nat) (h : ∀ i : Fin n, P (Int32.ofNat i.1)) (x : Int32) (h0 : 0 ≤ x.toInt) (h1 : x.toInt < (n : Int)) : P x := by
  have e : Int32.ofNat x.toInt.toNat = x := by
    rw [← Int32.ofInt_eq_ofNat, Int.toNat_of_nonneg h0, Int32.ofInt_toInt]
  have q := h ⟨x.toInt.toNat, by omega⟩
  rwa [e] at q
theorem own_getD (ws : List Int32) (n : Nat) : (ws.map Value.int).getD n (.int (0 : Int32)) = .int (ws.getD n 0) := by
  simp only [List.getD_eq_getElem?_getD, List.getElem?_map]
  cases ws[n]? <;> rfl

theorem own_eqI {args : Array Value} {s : State} {t : Term} {n : Int32} {idx : List Nat} (h : (Jvm.Cond.eq t (.int n)).value args s none s idx = some true) : t.eval args s none idx s = some (.int n) := by
  obtain ⟨x, y, e1, e2, k1, k2⟩ := cmp_v (Or.inl h)
  cases (Term.int_eval n).symm.trans e2
  obtain ⟨z, rfl⟩ : ∃ z, x = Value.int z := k2
  exact e1.trans (congrArg (fun z => some (Value.int z)) (gotT (Cond.eq_ints e1 (Term.int_eval n)) h))

theorem own_pn0 : plainName "com/example/godwit/godwit/link/Utf8MayFollowPinLaw" = true := by first | (simp [plainName, overriddenIn]; done) | decide +kernel
theorem own_d1_0 : decode method_2_code 0 = .ok (.iload_n 0, 1) := by decide +kernel
theorem own_d1_1 : decode method_2_code 1 = .ok (.sipush 224, 3) := by decide +kernel
theorem own_d1_4 : decode method_2_code 4 = .ok (.if_icmp .ne 7, 3) := by decide +kernel
theorem own_d1_7 : decode method_2_code 7 = .ok (.sipush 160, 3) := by decide +kernel
theorem own_d1_10 : decode method_2_code 10 = .ok (.ireturn, 1) := by decide +kernel
theorem own_d1_11 : decode method_2_code 11 = .ok (.iload_n 0, 1) := by decide +kernel
theorem own_d1_12 : decode method_2_code 12 = .ok (.sipush 240, 3) := by decide +kernel
theorem own_d1_15 : decode method_2_code 15 = .ok (.if_icmp .ne 7, 3) := by decide +kernel
theorem own_d1_18 : decode method_2_code 18 = .ok (.sipush 144, 3) := by decide +kernel
theorem own_d1_21 : decode method_2_code 21 = .ok (.ireturn, 1) := by decide +kernel
theorem own_d1_22 : decode method_2_code 22 = .ok (.sipush 128, 3) := by decide +kernel
theorem own_d1_25 : decode method_2_code 25 = .ok (.ireturn, 1) := by decide +kernel
theorem own_ef1 (m : MethodId) (p0 : Int32) : entryFrame m #[(.int p0)] 1 = mkF m 0 #[oi p0] [] := by first | (simp [entryFrame, mkF, argsToLocals, Value.category]; done) | rfl
def own_f1 (p0 : Int32) : Int32 := (if p0 = (224 : Int32) then (160 : Int32) else (if p0 = (240 : Int32) then (144 : Int32) else (128 : Int32)))
def own_Q1 (Z : State) (p0 : Int32) (h0 : Heap) (n0 : Nat) (v : Option Value) (h : Heap) (L : List Loc) : Prop := v = some (Value.int (own_f1 p0)) ∧ Fr n0 L ∧ h = h0
set_option maxRecDepth 65536 in
set_option maxHeartbeats 40000000 in
theorem own_rm1 (l : Launch) (Z : State) (av : Array Value) (hw : ∀ d ∈ tables_1, d.before av Z = true) (ws : List Jvm.Cond) (p0 : Int32) (h0 : Heap) (n0 : Nat) (Z0 : n0 ≤ h0.size) :
    MetFree l (⟨"com/example/godwit/godwit/link/Utf8MayFollowPinLaw", "lowest", "(I)I"⟩ : MethodName) (head1 (Jvm.Cond.code (⟨"com/example/godwit/godwit/link/Utf8MayFollowPinLaw", "lowest", "(I)I"⟩ : MethodName) method_2_code 1 (some .int) :: ws) ({ frames := 0, cells := 0, slots := 0, locals := 0 } : Room)) (fun a U => a = #[(.int p0)] ∧ Z.Warmed39 U.vm ∧ U.heap = h0) (fun _ _ _ _ _ => True) (fun _ U o U' => ∃ v L, o = .returned v ∧ own_Q1 Z p0 h0 n0 v U'.heap L ∧ FrameEnd U o U' L ({ frames := 0, cells := 0, slots := 0, locals := 0 } : Room).cells ({ frames := 0, cells := 0, slots := 0, locals := 0 } : Room).slots) := by
  refine MetFree.of_bodySF (plainFor_of_name own_pn0) hisR ?_
  intro p e s m args below meth c s₁ Bd hml0 hP hK
  obtain ⟨rfl, hZ, hh⟩ := hP
  have hx := Bd.exec
  have hby := Bd.bytes
  have hml : c.maxLocals = 1 := hml0
  have hown : s.vm.findClass "com/example/godwit/godwit/link/Utf8MayFollowPinLaw" = some m.cls := findClass_of_methodNamed Bd.named
  have hnm := (name_of_methodNamed Bd.named Bd.method).1
  have X0 : Stand p l e ({ frames := 0, cells := 0, slots := 0, locals := 0 } : Room) s m #[(.int p0)] below meth c s₁ [] 0 0 := Stand.of_body Bd
  have e0 : s₁.heap = h0 := by rw [← hh, Bd.state]; rfl
  have N0 := Fr.nil n0
  have pre0 : ∀ t, Steps p.tables e below (s₁.setTop (mkF m 0 #[oi p0] [])) t → Steps p.tables e below (s₁.setTop (entryFrame m #[(.int p0)] 1)) t := fun t k => castTop (own_ef1 m p0) k
  have pre1 : ∀ t, Steps p.tables e below (s₁.setTop (mkF m 4 #[oi p0] [(.int (224 : Int32)), (.int p0)])) t → Steps p.tables e below (s₁.setTop (entryFrame m #[(.int p0)] 1)) t := by
    intro t k
    refine pre0 t ?_
    show oS p e below s₁ m 0 #[oi p0] [] _
    refine XS.iloadN X0.here hx rfl (hb hby own_d1_0) rfl ?_
    show oS p e below s₁ m 1 #[oi p0] [(.int p0)] _
    refine XS.sipush X0.here hx rfl (hb hby own_d1_1) ?_
    exact k
  by_cases c2 : p0 = (224 : Int32)
  · skip
    obtain ⟨fs, hr, hrun, hended, hW, hsame⟩ := X0.leave (v := (some (.int (160 : Int32)))) (fun h => by rw [Bd.returns] at h; cases h)
    refine ⟨_, _, pre1 _ ?_, hrun, hended, _, _, rfl, ?_, ⟨_, rfl⟩, hW, hsame.mono (by decide) (by decide)⟩
    · show oS p e below s₁ m 4 #[oi p0] [(.int (224 : Int32)), (.int p0)] _
      refine XS.icmpNo X0.here hx rfl (hb hby own_d1_4) rfl (teq c2).2 ?_
      show oS p e below s₁ m 7 #[oi p0] [] _
      refine XS.sipush X0.here hx rfl (hb hby own_d1_7) ?_
      show oS p e below s₁ m 10 #[oi p0] [(.int (160 : Int32))] _
      exact retOut X0 hx Bd.returns rfl (Or.inl ⟨rfl, Or.inl rfl, _, rfl⟩) (hb hby own_d1_10) hr
    · show own_Q1 Z p0 h0 n0 _ s₁.heap _
      rw [e0]
      exact ⟨congrArg (fun z => some (Value.int z)) (by rw [own_f1, if_pos c2]), N0, rfl⟩
  · skip
    have pre3 : ∀ t, Steps p.tables e below (s₁.setTop (mkF m 15 #[oi p0] [(.int (240 : Int32)), (.int p0)])) t → Steps p.tables e below (s₁.setTop (entryFrame m #[(.int p0)] 1)) t := by
      intro t k
      refine pre1 t ?_
      show oS p e below s₁ m 4 #[oi p0] [(.int (224 : Int32)), (.int p0)] _
      refine XS.icmpYes X0.here hx rfl (pc0 := 4) (pc' := 11) rfl (hb hby own_d1_4) rfl (feq c2).2 (by decide) (by decide) ?_
      show oS p e below s₁ m 11 #[oi p0] [] _
      refine XS.iloadN X0.here hx rfl (hb hby own_d1_11) rfl ?_
      show oS p e below s₁ m 12 #[oi p0] [(.int p0)] _
      refine XS.sipush X0.here hx rfl (hb hby own_d1_12) ?_
      exact k
    by_cases c4 : p0 = (240 : Int32)
    · skip
      obtain ⟨fs, hr, hrun, hended, hW, hsame⟩ := X0.leave (v := (some (.int (144 : Int32)))) (fun h => by rw [Bd.returns] at h; cases h)
      refine ⟨_, _, pre3 _ ?_, hrun, hended, _, _, rfl, ?_, ⟨_, rfl⟩, hW, hsame.mono (by decide) (by decide)⟩
      · show oS p e below s₁ m 15 #[oi p0] [(.int (240 : Int32)), (.int p0)] _
        refine XS.icmpNo X0.here hx rfl (hb hby own_d1_15) rfl (teq c4).2 ?_
        show oS p e below s₁ m 18 #[oi p0] [] _
        refine XS.sipush X0.here hx rfl (hb hby own_d1_18) ?_
        show oS p e below s₁ m 21 #[oi p0] [(.int (144 : Int32))] _
        exact retOut X0 hx Bd.returns rfl (Or.inl ⟨rfl, Or.inl rfl, _, rfl⟩) (hb hby own_d1_21) hr
      · show own_Q1 Z p0 h0 n0 _ s₁.heap _
        rw [e0]
        exact ⟨congrArg (fun z => some (Value.int z)) (by rw [own_f1, if_neg c2, if_pos c4]), N0, rfl⟩
    · skip
      obtain ⟨fs, hr, hrun, hended, hW, hsame⟩ := X0.leave (v := (some (.int (128 : Int32)))) (fun h => by rw [Bd.returns] at h; cases h)
      refine ⟨_, _, pre3 _ ?_, hrun, hended, _, _, rfl, ?_, ⟨_, rfl⟩, hW, hsame.mono (by decide) (by decide)⟩
      · show oS p e below s₁ m 15 #[oi p0] [(.int (240 : Int32)), (.int p0)] _
        refine XS.icmpYes X0.here hx rfl (pc0 := 15) (pc' := 22) rfl (hb hby own_d1_15) rfl (feq c4).2 (by decide) (by decide) ?_
        show oS p e below s₁ m 22 #[oi p0] [] _
        refine XS.sipush X0.here hx rfl (hb hby own_d1_22) ?_
        show oS p e below s₁ m 25 #[oi p0] [(.int (128 : Int32))] _
        exact retOut X0 hx Bd.returns rfl (Or.inl ⟨rfl, Or.inl rfl, _, rfl⟩) (hb hby own_d1_25) hr
      · show own_Q1 Z p0 h0 n0 _ s₁.heap _
        rw [e0]
        exact ⟨congrArg (fun z => some (Value.int z)) (by rw [own_f1, if_neg c2, if_neg c4]), N0, rfl⟩
theorem own_d3_0 : decode method_3_code 0 = .ok (.iload_n 0, 1) := by decide +kernel
theorem own_d3_1 : decode method_3_code 1 = .ok (.sipush 237, 3) := by decide +kernel
theorem own_d3_4 : decode method_3_code 4 = .ok (.if_icmp .ne 7, 3) := by decide +kernel
theorem own_d3_7 : decode method_3_code 7 = .ok (.sipush 159, 3) := by decide +kernel
theorem own_d3_10 : decode method_3_code 10 = .ok (.ireturn, 1) := by decide +kernel
theorem own_d3_11 : decode method_3_code 11 = .ok (.iload_n 0, 1) := by decide +kernel
theorem own_d3_12 : decode method_3_code 12 = .ok (.sipush 244, 3) := by decide +kernel
theorem own_d3_15 : decode method_3_code 15 = .ok (.if_icmp .ne 7, 3) := by decide +kernel
theorem own_d3_18 : decode method_3_code 18 = .ok (.sipush 143, 3) := by decide +kernel
theorem own_d3_21 : decode method_3_code 21 = .ok (.ireturn, 1) := by decide +kernel
theorem own_d3_22 : decode method_3_code 22 = .ok (.sipush 191, 3) := by decide +kernel
theorem own_d3_25 : decode method_3_code 25 = .ok (.ireturn, 1) := by decide +kernel
theorem own_ef3 (m : MethodId) (p0 : Int32) : entryFrame m #[(.int p0)] 1 = mkF m 0 #[oi p0] [] := by first | (simp [entryFrame, mkF, argsToLocals, Value.category]; done) | rfl
def own_f3 (p0 : Int32) : Int32 := (if p0 = (237 : Int32) then (159 : Int32) else (if p0 = (244 : Int32) then (143 : Int32) else (191 : Int32)))
def own_Q3 (Z : State) (p0 : Int32) (h0 : Heap) (n0 : Nat) (v : Option Value) (h : Heap) (L : List Loc) : Prop := v = some (Value.int (own_f3 p0)) ∧ Fr n0 L ∧ h = h0
set_option maxRecDepth 65536 in
set_option maxHeartbeats 40000000 in
theorem own_rm3 (l : Launch) (Z : State) (av : Array Value) (hw : ∀ d ∈ tables_1, d.before av Z = true) (ws : List Jvm.Cond) (p0 : Int32) (h0 : Heap) (n0 : Nat) (Z0 : n0 ≤ h0.size) :
    MetFree l (⟨"com/example/godwit/godwit/link/Utf8MayFollowPinLaw", "highest", "(I)I"⟩ : MethodName) (head1 (Jvm.Cond.code (⟨"com/example/godwit/godwit/link/Utf8MayFollowPinLaw", "highest", "(I)I"⟩ : MethodName) method_3_code 1 (some .int) :: ws) ({ frames := 0, cells := 0, slots := 0, locals := 0 } : Room)) (fun a U => a = #[(.int p0)] ∧ Z.Warmed39 U.vm ∧ U.heap = h0) (fun _ _ _ _ _ => True) (fun _ U o U' => ∃ v L, o = .returned v ∧ own_Q3 Z p0 h0 n0 v U'.heap L ∧ FrameEnd U o U' L ({ frames := 0, cells := 0, slots := 0, locals := 0 } : Room).cells ({ frames := 0, cells := 0, slots := 0, locals := 0 } : Room).slots) := by
  refine MetFree.of_bodySF (plainFor_of_name own_pn0) hisR ?_
  intro p e s m args below meth c s₁ Bd hml0 hP hK
  obtain ⟨rfl, hZ, hh⟩ := hP
  have hx := Bd.exec
  have hby := Bd.bytes
  have hml : c.maxLocals = 1 := hml0
  have hown : s.vm.findClass "com/example/godwit/godwit/link/Utf8MayFollowPinLaw" = some m.cls := findClass_of_methodNamed Bd.named
  have hnm := (name_of_methodNamed Bd.named Bd.method).1
  have X0 : Stand p l e ({ frames := 0, cells := 0, slots := 0, locals := 0 } : Room) s m #[(.int p0)] below meth c s₁ [] 0 0 := Stand.of_body Bd
  have e0 : s₁.heap = h0 := by rw [← hh, Bd.state]; rfl
  have N0 := Fr.nil n0
  have pre0 : ∀ t, Steps p.tables e below (s₁.setTop (mkF m 0 #[oi p0] [])) t → Steps p.tables e below (s₁.setTop (entryFrame m #[(.int p0)] 1)) t := fun t k => castTop (own_ef3 m p0) k
  have pre1 : ∀ t, Steps p.tables e below (s₁.setTop (mkF m 4 #[oi p0] [(.int (237 : Int32)), (.int p0)])) t → Steps p.tables e below (s₁.setTop (entryFrame m #[(.int p0)] 1)) t := by
    intro t k
    refine pre0 t ?_
    show oS p e below s₁ m 0 #[oi p0] [] _
    refine XS.iloadN X0.here hx rfl (hb hby own_d3_0) rfl ?_
    show oS p e below s₁ m 1 #[oi p0] [(.int p0)] _
    refine XS.sipush X0.here hx rfl (hb hby own_d3_1) ?_
    exact k
  by_cases c2 : p0 = (237 : Int32)
  · skip
    obtain ⟨fs, hr, hrun, hended, hW, hsame⟩ := X0.leave (v := (some (.int (159 : Int32)))) (fun h => by rw [Bd.returns] at h; cases h)
    refine ⟨_, _, pre1 _ ?_, hrun, hended, _, _, rfl, ?_, ⟨_, rfl⟩, hW, hsame.mono (by decide) (by decide)⟩
    · show oS p e below s₁ m 4 #[oi p0] [(.int (237 : Int32)), (.int p0)] _
      refine XS.icmpNo X0.here hx rfl (hb hby own_d3_4) rfl (teq c2).2 ?_
      show oS p e below s₁ m 7 #[oi p0] [] _
      refine XS.sipush X0.here hx rfl (hb hby own_d3_7) ?_
      show oS p e below s₁ m 10 #[oi p0] [(.int (159 : Int32))] _
      exact retOut X0 hx Bd.returns rfl (Or.inl ⟨rfl, Or.inl rfl, _, rfl⟩) (hb hby own_d3_10) hr
    · show own_Q3 Z p0 h0 n0 _ s₁.heap _
      rw [e0]
      exact ⟨congrArg (fun z => some (Value.int z)) (by rw [own_f3, if_pos c2]), N0, rfl⟩
  · skip
    have pre3 : ∀ t, Steps p.tables e below (s₁.setTop (mkF m 15 #[oi p0] [(.int (244 : Int32)), (.int p0)])) t → Steps p.tables e below (s₁.setTop (entryFrame m #[(.int p0)] 1)) t := by
      intro t k
      refine pre1 t ?_
      show oS p e below s₁ m 4 #[oi p0] [(.int (237 : Int32)), (.int p0)] _
      refine XS.icmpYes X0.here hx rfl (pc0 := 4) (pc' := 11) rfl (hb hby own_d3_4) rfl (feq c2).2 (by decide) (by decide) ?_
      show oS p e below s₁ m 11 #[oi p0] [] _
      refine XS.iloadN X0.here hx rfl (hb hby own_d3_11) rfl ?_
      show oS p e below s₁ m 12 #[oi p0] [(.int p0)] _
      refine XS.sipush X0.here hx rfl (hb hby own_d3_12) ?_
      exact k
    by_cases c4 : p0 = (244 : Int32)
    · skip
      obtain ⟨fs, hr, hrun, hended, hW, hsame⟩ := X0.leave (v := (some (.int (143 : Int32)))) (fun h => by rw [Bd.returns] at h; cases h)
      refine ⟨_, _, pre3 _ ?_, hrun, hended, _, _, rfl, ?_, ⟨_, rfl⟩, hW, hsame.mono (by decide) (by decide)⟩
      · show oS p e below s₁ m 15 #[oi p0] [(.int (244 : Int32)), (.int p0)] _
        refine XS.icmpNo X0.here hx rfl (hb hby own_d3_15) rfl (teq c4).2 ?_
        show oS p e below s₁ m 18 #[oi p0] [] _
        refine XS.sipush X0.here hx rfl (hb hby own_d3_18) ?_
        show oS p e below s₁ m 21 #[oi p0] [(.int (143 : Int32))] _
        exact retOut X0 hx Bd.returns rfl (Or.inl ⟨rfl, Or.inl rfl, _, rfl⟩) (hb hby own_d3_21) hr
      · show own_Q3 Z p0 h0 n0 _ s₁.heap _
        rw [e0]
        exact ⟨congrArg (fun z => some (Value.int z)) (by rw [own_f3, if_neg c2, if_pos c4]), N0, rfl⟩
    · skip
      obtain ⟨fs, hr, hrun, hended, hW, hsame⟩ := X0.leave (v := (some (.int (191 : Int32)))) (fun h => by rw [Bd.returns] at h; cases h)
      refine ⟨_, _, pre3 _ ?_, hrun, hended, _, _, rfl, ?_, ⟨_, rfl⟩, hW, hsame.mono (by decide) (by decide)⟩
      · show oS p e below s₁ m 15 #[oi p0] [(.int (244 : Int32)), (.int p0)] _
        refine XS.icmpYes X0.here hx rfl (pc0 := 15) (pc' := 22) rfl (hb hby own_d3_15) rfl (feq c4).2 (by decide) (by decide) ?_
        show oS p e below s₁ m 22 #[oi p0] [] _
        refine XS.sipush X0.here hx rfl (hb hby own_d3_22) ?_
        show oS p e below s₁ m 25 #[oi p0] [(.int (191 : Int32))] _
        exact retOut X0 hx Bd.returns rfl (Or.inl ⟨rfl, Or.inl rfl, _, rfl⟩) (hb hby own_d3_25) hr
      · show own_Q3 Z p0 h0 n0 _ s₁.heap _
        rw [e0]
        exact ⟨congrArg (fun z => some (Value.int z)) (by rw [own_f3, if_neg c2, if_neg c4]), N0, rfl⟩
theorem own_pn1 : plainName "com/example/godwit/godwit/link/Utf8" = true := by first | (simp [plainName, overriddenIn]; done) | decide +kernel
theorem own_d2_0 : decode prog_21_method_6_code 0 = .ok (.getstatic 30, 3) := by decide +kernel
theorem own_d2_3 : decode prog_21_method_6_code 3 = .ok (.iload_n 0, 1) := by decide +kernel
theorem own_d2_4 : decode prog_21_method_6_code 4 = .ok (.sipush 128, 3) := by decide +kernel
theorem own_d2_7 : decode prog_21_method_6_code 7 = .ok (.isub, 1) := by decide +kernel
theorem own_d2_8 : decode prog_21_method_6_code 8 = .ok (.iaload, 1) := by decide +kernel
theorem own_d2_9 : decode prog_21_method_6_code 9 = .ok (.istore_n 2, 1) := by decide +kernel
theorem own_d2_10 : decode prog_21_method_6_code 10 = .ok (.iload_n 1, 1) := by decide +kernel
theorem own_d2_11 : decode prog_21_method_6_code 11 = .ok (.iload_n 2, 1) := by decide +kernel
theorem own_d2_12 : decode prog_21_method_6_code 12 = .ok (.bipush 8, 2) := by decide +kernel
theorem own_d2_14 : decode prog_21_method_6_code 14 = .ok (.ishr, 1) := by decide +kernel
theorem own_d2_15 : decode prog_21_method_6_code 15 = .ok (.sipush 255, 3) := by decide +kernel
theorem own_d2_18 : decode prog_21_method_6_code 18 = .ok (.iand, 1) := by decide +kernel
theorem own_d2_19 : decode prog_21_method_6_code 19 = .ok (.if_icmp .lt 15, 3) := by decide +kernel
theorem own_d2_22 : decode prog_21_method_6_code 22 = .ok (.iload_n 1, 1) := by decide +kernel
theorem own_d2_23 : decode prog_21_method_6_code 23 = .ok (.iload_n 2, 1) := by decide +kernel
theorem own_d2_24 : decode prog_21_method_6_code 24 = .ok (.bipush 16, 2) := by decide +kernel
theorem own_d2_26 : decode prog_21_method_6_code 26 = .ok (.iushr, 1) := by decide +kernel
theorem own_d2_27 : decode prog_21_method_6_code 27 = .ok (.if_icmp .gt 7, 3) := by decide +kernel
theorem own_d2_30 : decode prog_21_method_6_code 30 = .ok (.iconst 1, 1) := by decide +kernel
theorem own_d2_31 : decode prog_21_method_6_code 31 = .ok (.goto 4, 3) := by decide +kernel
theorem own_d2_34 : decode prog_21_method_6_code 34 = .ok (.iconst 0, 1) := by decide +kernel
theorem own_d2_35 : decode prog_21_method_6_code 35 = .ok (.ireturn, 1) := by decide +kernel
theorem own_ef2 (m : MethodId) (p0 : Int32) (p1 : Int32) : entryFrame m #[(.int p0), (.int p1)] 3 = mkF m 0 #[oi p0, oi p1, .unset] [] := by first | (simp [entryFrame, mkF, argsToLocals, Value.category]; done) | rfl
def own_f2 (p1 : Int32) (w : Int32) : Int32 := (if p1 < ((w >>> ((8 : Int32) &&& 31)) &&& (255 : Int32)) then (0 : Int32) else (if ((w.toUInt32 >>> ((16 : Int32) &&& 31).toUInt32).toInt32) < p1 then (0 : Int32) else (1 : Int32)))
def own_Q2 (Z : State) (p0 : Int32) (p1 : Int32) (aL : Addr) (cl : Cell) (w : Int32) (h0 : Heap) (n0 : Nat) (v : Option Value) (h : Heap) (L : List Loc) : Prop := v = some (Value.int (own_f2 p1 w)) ∧ Fr n0 L ∧ h = h0
set_option maxRecDepth 65536 in
set_option maxHeartbeats 40000000 in
theorem own_rm2 (l : Launch) (Z : State) (av : Array Value) (hw : ∀ d ∈ tables_1, d.before av Z = true) (ws : List Jvm.Cond) (p0 : Int32) (p1 : Int32) (aL : Addr) (cl : Cell) (w : Int32) (h0 : Heap) (n0 : Nat) (Z0 : n0 ≤ h0.size) (S_LEADS : Sta Z h0 "com/example/godwit/godwit/link/Utf8" "LEADS" "[I" (.ref aL)) (AL : Arr Z h0 aL cl .int) (hin : ¬ ((p0 - (128 : Int32)) < 0 ∨ cl.slots.size ≤ (p0 - (128 : Int32)).toNatClampNeg)) (hat : cl.slots[(p0 - (128 : Int32)).toNatClampNeg]? = some (.int w)) :
    MetFree l (⟨"com/example/godwit/godwit/link/Utf8", "mayFollow", "(II)Z"⟩ : MethodName) (head1 (Jvm.Cond.code (⟨"com/example/godwit/godwit/link/Utf8", "mayFollow", "(II)Z"⟩ : MethodName) prog_21_method_6_code 3 (some .boolean) :: ws) ({ frames := 0, cells := 0, slots := 0, locals := 0 } : Room)) (fun a U => a = #[(.int p0), (.int p1)] ∧ Z.Warmed39 U.vm ∧ U.heap = h0) (fun _ _ _ _ _ => True) (fun _ U o U' => ∃ v L, o = .returned v ∧ own_Q2 Z p0 p1 aL cl w h0 n0 v U'.heap L ∧ FrameEnd U o U' L ({ frames := 0, cells := 0, slots := 0, locals := 0 } : Room).cells ({ frames := 0, cells := 0, slots := 0, locals := 0 } : Room).slots) := by
  refine MetFree.of_bodySF (plainFor_of_name own_pn1) hisR ?_
  intro p e s m args below meth c s₁ Bd hml0 hP hK
  obtain ⟨rfl, hZ, hh⟩ := hP
  have hx := Bd.exec
  have hby := Bd.bytes
  have hml : c.maxLocals = 3 := hml0
  have hown : s.vm.findClass "com/example/godwit/godwit/link/Utf8" = some m.cls := findClass_of_methodNamed Bd.named
  have hnm := (name_of_methodNamed Bd.named Bd.method).1
  have X0 : Stand p l e ({ frames := 0, cells := 0, slots := 0, locals := 0 } : Room) s m #[(.int p0), (.int p1)] below meth c s₁ [] 0 0 := Stand.of_body Bd
  have e0 : s₁.heap = h0 := by rw [← hh, Bd.state]; rfl
  have N0 := Fr.nil n0
  have pre0 : ∀ t, Steps p.tables e below (s₁.setTop (mkF m 0 #[oi p0, oi p1, .unset] [])) t → Steps p.tables e below (s₁.setTop (entryFrame m #[(.int p0), (.int p1)] 3)) t := fun t k => castTop (own_ef2 m p0 p1) k
  obtain ⟨T1, X1, e1, st1⟩ := getS2 X0 hx hZ hown (host := "") (Or.inl (hw _ (List.mem_of_getElem? (i := 9) rfl))) Via.refl e0 S_LEADS (g := (mkF m 0 #[oi p0, oi p1, .unset] [])) rfl (hb hby own_d2_0)
  have pre2 : ∀ t, Steps p.tables e below (T1.setTop (mkF m 19 #[oi p0, oi p1, oi w] [(.int ((w >>> ((8 : Int32) &&& 31)) &&& (255 : Int32))), (.int p1)])) t → Steps p.tables e below (s₁.setTop (entryFrame m #[(.int p0), (.int p1)] 3)) t := by
    intro t k
    refine pre0 t ?_
    show oS p e below s₁ m 0 #[oi p0, oi p1, .unset] [] _
    refine st1 _ ?_
    show oS p e below T1 m 3 #[oi p0, oi p1, .unset] [(.ref aL)] _
    refine XS.iloadN X1.here hx rfl (hb hby own_d2_3) rfl ?_
    show oS p e below T1 m 4 #[oi p0, oi p1, .unset] [(.int p0), (.ref aL)] _
    refine XS.sipush X1.here hx rfl (hb hby own_d2_4) ?_
    show oS p e below T1 m 7 #[oi p0, oi p1, .unset] [(.int (128 : Int32)), (.int p0), (.ref aL)] _
    refine XS.isub X1.here hx rfl (hb hby own_d2_7) rfl ?_
    show oS p e below T1 m 8 #[oi p0, oi p1, .unset] [(.int (p0 - (128 : Int32))), (.ref aL)] _
    refine X1.iaload hx (j := (p0 - (128 : Int32))) (v := (.int w)) (by rw [e1]; exact AL.1) (State.isArrayOf_alike hZ.alike AL.2.1) AL.2.2 hin hat (g := (mkF m 8 #[oi p0, oi p1, .unset] [(.int (p0 - (128 : Int32))), (.ref aL)])) rfl rfl (hb hby own_d2_8) _ ?_
    show oS p e below T1 m 9 #[oi p0, oi p1, .unset] [(.int w)] _
    refine XS.istoreN X1.here hx rfl (hb hby own_d2_9) rfl (l' := #[oi p0, oi p1, oi w]) rfl ?_
    show oS p e below T1 m 10 #[oi p0, oi p1, oi w] [] _
    refine XS.iloadN X1.here hx rfl (hb hby own_d2_10) rfl ?_
    show oS p e below T1 m 11 #[oi p0, oi p1, oi w] [(.int p1)] _
    refine XS.iloadN X1.here hx rfl (hb hby own_d2_11) rfl ?_
    show oS p e below T1 m 12 #[oi p0, oi p1, oi w] [(.int w), (.int p1)] _
    refine XS.bipush X1.here hx rfl (hb hby own_d2_12) ?_
    show oS p e below T1 m 14 #[oi p0, oi p1, oi w] [(.int (8 : Int32)), (.int w), (.int p1)] _
    refine XS.ishr X1.here hx rfl (hb hby own_d2_14) rfl ?_
    show oS p e below T1 m 15 #[oi p0, oi p1, oi w] [(.int (w >>> ((8 : Int32) &&& 31))), (.int p1)] _
    refine XS.sipush X1.here hx rfl (hb hby own_d2_15) ?_
    show oS p e below T1 m 18 #[oi p0, oi p1, oi w] [(.int (255 : Int32)), (.int (w >>> ((8 : Int32) &&& 31))), (.int p1)] _
    refine XS.iand X1.here hx rfl (hb hby own_d2_18) rfl ?_
    exact k
  by_cases c3 : p1 < ((w >>> ((8 : Int32) &&& 31)) &&& (255 : Int32))
  · skip
    obtain ⟨fs, hr, hrun, hended, hW, hsame⟩ := X1.leave (v := (some (.int (0 : Int32)))) (fun h => by rw [Bd.returns] at h; cases h)
    refine ⟨_, _, pre2 _ ?_, hrun, hended, _, _, rfl, ?_, ⟨_, rfl⟩, hW, hsame.mono (by decide) (by decide)⟩
    · show oS p e below T1 m 19 #[oi p0, oi p1, oi w] [(.int ((w >>> ((8 : Int32) &&& 31)) &&& (255 : Int32))), (.int p1)] _
      refine XS.icmpYes X1.here hx rfl (pc0 := 19) (pc' := 34) rfl (hb hby own_d2_19) rfl (tlt c3).1 (by decide) (by decide) ?_
      show oS p e below T1 m 34 #[oi p0, oi p1, oi w] [] _
      refine XS.iconst X1.here hx rfl (hb hby own_d2_34) ?_
      show oS p e below T1 m 35 #[oi p0, oi p1, oi w] [(.int (0 : Int32))] _
      exact retN X1 hx (t := .boolean) Bd.returns (by simp) (hb hby own_d2_35) hr
    · show own_Q2 Z p0 p1 aL cl w h0 n0 _ T1.heap _
      rw [e1]
      exact ⟨congrArg (fun z => some (Value.int z)) (by rw [own_f2, if_pos c3]), N0, rfl⟩
  · skip
    have pre4 : ∀ t, Steps p.tables e below (T1.setTop (mkF m 27 #[oi p0, oi p1, oi w] [(.int ((w.toUInt32 >>> ((16 : Int32) &&& 31).toUInt32).toInt32)), (.int p1)])) t → Steps p.tables e below (s₁.setTop (entryFrame m #[(.int p0), (.int p1)] 3)) t := by
      intro t k
      refine pre2 t ?_
      show oS p e below T1 m 19 #[oi p0, oi p1, oi w] [(.int ((w >>> ((8 : Int32) &&& 31)) &&& (255 : Int32))), (.int p1)] _
      refine XS.icmpNo X1.here hx rfl (hb hby own_d2_19) rfl (flt c3).1 ?_
      show oS p e below T1 m 22 #[oi p0, oi p1, oi w] [] _
      refine XS.iloadN X1.here hx rfl (hb hby own_d2_22) rfl ?_
      show oS p e below T1 m 23 #[oi p0, oi p1, oi w] [(.int p1)] _
      refine XS.iloadN X1.here hx rfl (hb hby own_d2_23) rfl ?_
      show oS p e below T1 m 24 #[oi p0, oi p1, oi w] [(.int w), (.int p1)] _
      refine XS.bipush X1.here hx rfl (hb hby own_d2_24) ?_
      show oS p e below T1 m 26 #[oi p0, oi p1, oi w] [(.int (16 : Int32)), (.int w), (.int p1)] _
      refine XS.iushr X1.here hx rfl (hb hby own_d2_26) rfl ?_
      exact k
    by_cases c5 : ((w.toUInt32 >>> ((16 : Int32) &&& 31).toUInt32).toInt32) < p1
    · skip
      obtain ⟨fs, hr, hrun, hended, hW, hsame⟩ := X1.leave (v := (some (.int (0 : Int32)))) (fun h => by rw [Bd.returns] at h; cases h)
      refine ⟨_, _, pre4 _ ?_, hrun, hended, _, _, rfl, ?_, ⟨_, rfl⟩, hW, hsame.mono (by decide) (by decide)⟩
      · show oS p e below T1 m 27 #[oi p0, oi p1, oi w] [(.int ((w.toUInt32 >>> ((16 : Int32) &&& 31).toUInt32).toInt32)), (.int p1)] _
        refine XS.icmpYes X1.here hx rfl (pc0 := 27) (pc' := 34) rfl (hb hby own_d2_27) rfl (tlt c5).2.2.1 (by decide) (by decide) ?_
        show oS p e below T1 m 34 #[oi p0, oi p1, oi w] [] _
        refine XS.iconst X1.here hx rfl (hb hby own_d2_34) ?_
        show oS p e below T1 m 35 #[oi p0, oi p1, oi w] [(.int (0 : Int32))] _
        exact retN X1 hx (t := .boolean) Bd.returns (by simp) (hb hby own_d2_35) hr
      · show own_Q2 Z p0 p1 aL cl w h0 n0 _ T1.heap _
        rw [e1]
        exact ⟨congrArg (fun z => some (Value.int z)) (by rw [own_f2, if_neg c3, if_pos c5]), N0, rfl⟩
    · skip
      obtain ⟨fs, hr, hrun, hended, hW, hsame⟩ := X1.leave (v := (some (.int (1 : Int32)))) (fun h => by rw [Bd.returns] at h; cases h)
      refine ⟨_, _, pre4 _ ?_, hrun, hended, _, _, rfl, ?_, ⟨_, rfl⟩, hW, hsame.mono (by decide) (by decide)⟩
      · show oS p e below T1 m 27 #[oi p0, oi p1, oi w] [(.int ((w.toUInt32 >>> ((16 : Int32) &&& 31).toUInt32).toInt32)), (.int p1)] _
        refine XS.icmpNo X1.here hx rfl (hb hby own_d2_27) rfl (flt c5).2.2.1 ?_
        show oS p e below T1 m 30 #[oi p0, oi p1, oi w] [] _
        refine XS.iconst X1.here hx rfl (hb hby own_d2_30) ?_
        show oS p e below T1 m 31 #[oi p0, oi p1, oi w] [(.int (1 : Int32))] _
        refine XS.goto X1.here hx rfl (pc0 := 31) (pc' := 35) rfl (hb hby own_d2_31) (by decide) (by decide) ?_
        show oS p e below T1 m 35 #[oi p0, oi p1, oi w] [(.int (1 : Int32))] _
        exact retN X1 hx (t := .boolean) Bd.returns (by simp) (hb hby own_d2_35) hr
      · show own_Q2 Z p0 p1 aL cl w h0 n0 _ T1.heap _
        rw [e1]
        exact ⟨congrArg (fun z => some (Value.int z)) (by rw [own_f2, if_neg c3, if_neg c5]), N0, rfl⟩
def own_lead (j : Int32) : Int32 := if j < (96 : Int32) then 12550145 else if j = (96 : Int32) then 12558338 else if j < (109 : Int32) then 12550146 else if j = (109 : Int32) then 10452994 else if j < (112 : Int32) then 12550146 else if j = (112 : Int32) then 12554243 else if j < (116 : Int32) then 12550147 else 9404419
theorem own_d (x : Int32) : 194 ≤ ((194 : Int32) + ((x &&& (2147483647 : Int32)) % (51 : Int32))).toInt ∧ ((194 : Int32) + ((x &&& (2147483647 : Int32)) % (51 : Int32))).toInt ≤ 244 := by
  have h : (x &&& (2147483647 : Int32)).toInt = x.toInt % 2147483648 := c_mask x 2147483647 31 (by decide) (by decide)
  have h2 := (c_irem (x &&& 2147483647) 51 51 (by decide)).1 (by omega)
  have h3 := c_iadd 194 ((x &&& 2147483647) % 51)
  have h4 := rng32 (194 + (x &&& 2147483647) % 51)
  simp only [Int32.reduceToInt, h2] at h3
  omega
theorem own_sub {v : Int32} (h : 194 ≤ v.toInt ∧ v.toInt ≤ 244) : (v - (128 : Int32)).toInt = v.toInt - 128 := by
  have h2 := c_isub v 128
  have h3 := rng32 (v - 128)
  simp only [Int32.reduceToInt] at h2
  omega
theorem own_in2 {v : Int32} (h : 194 ≤ v.toInt ∧ v.toInt ≤ 244) : ¬ (v - (128 : Int32)) < (66 : Int32) ∧ (v - (128 : Int32)) < (117 : Int32) := by
  have e := own_sub h
  simp only [own_ltp, Int32.reduceToInt, e]
  omega
theorem own_in {cl : Cell} (HS : cl.slots.size = (128 : Int32).toNatClampNeg) {v : Int32} (h : 194 ≤ v.toInt ∧ v.toInt ≤ 244) : ¬ ((v - (128 : Int32)) < 0 ∨ cl.slots.size ≤ (v - (128 : Int32)).toNatClampNeg) := by
  have e := own_sub h
  refine inb_of HS ?_
  simp only [own_ltp, Int32.reduceToInt, e]
  omega
theorem own_t : ∀ i : Fin 51, ((own_lead (Int32.ofNat (i.1 + 66))) >>> ((8 : Int32) &&& 31)) &&& (255 : Int32) = own_f1 (Int32.ofNat (i.1 + 194)) ∧ (((own_lead (Int32.ofNat (i.1 + 66))).toUInt32 >>> ((16 : Int32) &&& 31).toUInt32).toInt32) = own_f3 (Int32.ofNat (i.1 + 194)) := by decide +kernel
theorem own_nat {v : Int32} (k : Nat) (h0 : 0 ≤ v.toInt) (e : v.toInt = (k : Int)) : Int32.ofNat k = v := by
  rw [← Int32.ofInt_eq_ofNat, ← e, Int32.ofInt_toInt]
theorem own_key {v : Int32} (h : 194 ≤ v.toInt ∧ v.toInt ≤ 244) (o : Int32) : own_f2 o (own_lead (v - (128 : Int32))) = (if o < own_f1 v then (0 : Int32) else (if own_f3 v < o then (0 : Int32) else (1 : Int32))) := by
  have e := own_sub h
  have q := own_t ⟨(v.toInt - 194).toNat, by omega⟩
  rw [own_nat (v := v - (128 : Int32)) ((v.toInt - 194).toNat + 66) (by omega) (by omega), own_nat (v := v) ((v.toInt - 194).toNat + 194) (by omega) (by omega)] at q
  unfold own_f2
  rw [q.1, q.2]
theorem own_pd0 : parseMethodDescriptor "(I)I" = some ⟨[.int], some .int⟩ := by decide +kernel
theorem own_pd1 : parseMethodDescriptor "(II)Z" = some ⟨[.int, .int], some .boolean⟩ := by decide +kernel
theorem own_ef0 (m : MethodId) (p0 : Int32) (p1 : Int32) (p2 : Int32) : entryFrame m #[(.int p0), (.int p1), (.int p2)] maxLocals = mkF m 0 #[oi p0, oi p1, oi p2, .unset, .unset, .unset] [] := by first | (simp [entryFrame, mkF, argsToLocals, Value.category, maxLocals]; done) | rfl
def own_Q0 (Z : State) (p0 : Int32) (p1 : Int32) (p2 : Int32) (aL : Addr) (cl : Cell) (h0 : Heap) (n0 : Nat) (v : Option Value) (h : Heap) (L : List Loc) : Prop := v = some (Value.int (1 : Int32)) ∧ Fr n0 L
set_option maxRecDepth 65536 in
set_option maxHeartbeats 40000000 in
theorem own_rm0 (l : Launch) (Z : State) (av : Array Value) (hw : ∀ d ∈ tables_1, d.before av Z = true) (ws : List Jvm.Cond) (p0 : Int32) (p1 : Int32) (p2 : Int32) (aL : Addr) (cl : Cell) (h0 : Heap) (n0 : Nat) (Z0 : n0 ≤ h0.size) (S_LEADS : Sta Z h0 "com/example/godwit/godwit/link/Utf8" "LEADS" "[I" (.ref aL)) (AL : Arr Z h0 aL cl .int) (HS : cl.slots.size = (128 : Int32).toNatClampNeg) (HL : ∀ j : Int32, ¬ j < (66 : Int32) → j < (117 : Int32) → cl.slots[j.toNatClampNeg]? = some (.int (own_lead j))) :
    MetFree l x (head1 (Jvm.Cond.code x code maxLocals ret :: ws) room_1) (fun a U => a = #[(.int p0), (.int p1), (.int p2)] ∧ Z.Warmed39 U.vm ∧ U.heap = h0) (fun _ _ _ _ _ => True) (fun _ U o U' => ∃ v L, o = .returned v ∧ own_Q0 Z p0 p1 p2 aL cl h0 n0 v U'.heap L ∧ FrameEnd U o U' L room_1.cells room_1.slots) := by
  refine MetFree.of_bodySF (plainFor_of_name own_pn0) hisR ?_
  intro p e s m args below meth c s₁ Bd hml0 hP hK
  obtain ⟨rfl, hZ, hh⟩ := hP
  have hx := Bd.exec
  have hby := Bd.bytes
  have hml : c.maxLocals = 6 := hml0
  have hown : s.vm.findClass "com/example/godwit/godwit/link/Utf8MayFollowPinLaw" = some m.cls := findClass_of_methodNamed Bd.named
  have hnm := (name_of_methodNamed Bd.named Bd.method).1
  have X0 : Stand p l e room_1 s m #[(.int p0), (.int p1), (.int p2)] below meth c s₁ [] 0 0 := Stand.of_body Bd
  have e0 : s₁.heap = h0 := by rw [← hh, Bd.state]; rfl
  have N0 := Fr.nil n0
  have pre0 : ∀ t, Steps p.tables e below (s₁.setTop (mkF m 0 #[oi p0, oi p1, oi p2, .unset, .unset, .unset] [])) t → Steps p.tables e below (s₁.setTop (entryFrame m #[(.int p0), (.int p1), (.int p2)] maxLocals)) t := fun t k => castTop (own_ef0 m p0 p1 p2) k
  have pre1 : ∀ t, Steps p.tables e below (s₁.setTop (mkF m 11 #[oi p0, oi p1, oi p2, .unset, .unset, .unset] [(.int ((194 : Int32) + ((p0 &&& (2147483647 : Int32)) % (51 : Int32))))])) t → Steps p.tables e below (s₁.setTop (entryFrame m #[(.int p0), (.int p1), (.int p2)] maxLocals)) t := by
    intro t k
    refine pre0 t ?_
    show oS p e below s₁ m 0 #[oi p0, oi p1, oi p2, .unset, .unset, .unset] [] _
    refine XS.sipush X0.here hx rfl (hb hby at_0) ?_
    show oS p e below s₁ m 3 #[oi p0, oi p1, oi p2, .unset, .unset, .unset] [(.int (194 : Int32))] _
    refine XS.iloadN X0.here hx rfl (hb hby at_3) rfl ?_
    show oS p e below s₁ m 4 #[oi p0, oi p1, oi p2, .unset, .unset, .unset] [(.int p0), (.int (194 : Int32))] _
    refine X0.ldcInt hx hown (mvT hZ (hw _ (List.mem_of_getElem? (i := 0) rfl))) (g := (mkF m 4 #[oi p0, oi p1, oi p2, .unset, .unset, .unset] [(.int p0), (.int (194 : Int32))])) rfl (hb hby at_4) _ ?_
    show oS p e below s₁ m 6 #[oi p0, oi p1, oi p2, .unset, .unset, .unset] [(.int (2147483647 : Int32)), (.int p0), (.int (194 : Int32))] _
    refine XS.iand X0.here hx rfl (hb hby at_6) rfl ?_
    show oS p e below s₁ m 7 #[oi p0, oi p1, oi p2, .unset, .unset, .unset] [(.int (p0 &&& (2147483647 : Int32))), (.int (194 : Int32))] _
    refine XS.bipush X0.here hx rfl (hb hby at_7) ?_
    show oS p e below s₁ m 9 #[oi p0, oi p1, oi p2, .unset, .unset, .unset] [(.int (51 : Int32)), (.int (p0 &&& (2147483647 : Int32))), (.int (194 : Int32))] _
    refine Jvm.RoadKit.iremM X0 hx rfl (hb hby at_9) rfl (by decide) ?_
    show oS p e below s₁ m 10 #[oi p0, oi p1, oi p2, .unset, .unset, .unset] [(.int ((p0 &&& (2147483647 : Int32)) % (51 : Int32))), (.int (194 : Int32))] _
    refine XS.iadd X0.here hx rfl (hb hby at_10) rfl ?_
    exact k
  obtain ⟨vl, hvl⟩ : ∃ z : Int32, z = ((194 : Int32) + ((p0 &&& (2147483647 : Int32)) % (51 : Int32))) := ⟨_, rfl⟩
  rw [← hvl] at pre1
  have rv : 194 ≤ vl.toInt ∧ vl.toInt ≤ 244 := by rw [hvl]; exact own_d _
  have pre2 : ∀ t, Steps p.tables e below (s₁.setTop (mkF m 15 #[oi p0, oi p1, oi p2, oi vl, .unset, .unset] [(.int (p2 &&& (1 : Int32)))])) t → Steps p.tables e below (s₁.setTop (entryFrame m #[(.int p0), (.int p1), (.int p2)] maxLocals)) t := by
    intro t k
    refine pre1 t ?_
    show oS p e below s₁ m 11 #[oi p0, oi p1, oi p2, .unset, .unset, .unset] [(.int vl)] _
    refine XS.istoreN X0.here hx rfl (hb hby at_11) rfl (l' := #[oi p0, oi p1, oi p2, oi vl, .unset, .unset]) rfl ?_
    show oS p e below s₁ m 12 #[oi p0, oi p1, oi p2, oi vl, .unset, .unset] [] _
    refine XS.iloadN X0.here hx rfl (hb hby at_12) rfl ?_
    show oS p e below s₁ m 13 #[oi p0, oi p1, oi p2, oi vl, .unset, .unset] [(.int p2)] _
    refine XS.iconst X0.here hx rfl (hb hby at_13) ?_
    show oS p e below s₁ m 14 #[oi p0, oi p1, oi p2, oi vl, .unset, .unset] [(.int (1 : Int32)), (.int p2)] _
    refine XS.iand X0.here hx rfl (hb hby at_14) rfl ?_
    exact k
  obtain ⟨v4, hv4⟩ : ∃ z : Int32, z = (if (p2 &&& (1 : Int32)) = (0 : Int32) then (p1 &&& (255 : Int32)) else p1) := ⟨_, rfl⟩
  have pre5 : ∀ t, Steps p.tables e below (s₁.setTop (mkF m 27 #[oi p0, oi p1, oi p2, oi vl, .unset, .unset] [(.int v4)])) t → Steps p.tables e below (s₁.setTop (entryFrame m #[(.int p0), (.int p1), (.int p2)] maxLocals)) t := by
    intro t k
    by_cases c3 : (p2 &&& (1 : Int32)) = (0 : Int32)
    · skip
      rw [show v4 = (p1 &&& (255 : Int32)) from hv4.trans (by rw [if_pos c3])] at k
      refine pre2 t ?_
      show oS p e below s₁ m 15 #[oi p0, oi p1, oi p2, oi vl, .unset, .unset] [(.int (p2 &&& (1 : Int32)))] _
      refine XS.ifYes X0.here hx rfl (pc0 := 15) (pc' := 22) rfl (hb hby at_15) rfl ((if0 _ _).trans (teq c3).1) (by decide) (by decide) ?_
      show oS p e below s₁ m 22 #[oi p0, oi p1, oi p2, oi vl, .unset, .unset] [] _
      refine XS.iloadN X0.here hx rfl (hb hby at_22) rfl ?_
      show oS p e below s₁ m 23 #[oi p0, oi p1, oi p2, oi vl, .unset, .unset] [(.int p1)] _
      refine XS.sipush X0.here hx rfl (hb hby at_23) ?_
      show oS p e below s₁ m 26 #[oi p0, oi p1, oi p2, oi vl, .unset, .unset] [(.int (255 : Int32)), (.int p1)] _
      refine XS.iand X0.here hx rfl (hb hby at_26) rfl ?_
      exact k
    · skip
      rw [show v4 = p1 from hv4.trans (by rw [if_neg c3])] at k
      refine pre2 t ?_
      show oS p e below s₁ m 15 #[oi p0, oi p1, oi p2, oi vl, .unset, .unset] [(.int (p2 &&& (1 : Int32)))] _
      refine XS.ifNo X0.here hx rfl (hb hby at_15) rfl ((if0 _ _).trans (feq c3).1) ?_
      show oS p e below s₁ m 18 #[oi p0, oi p1, oi p2, oi vl, .unset, .unset] [] _
      refine XS.iloadN X0.here hx rfl (hb hby at_18) rfl ?_
      show oS p e below s₁ m 19 #[oi p0, oi p1, oi p2, oi vl, .unset, .unset] [(.int p1)] _
      refine XS.goto X0.here hx rfl (pc0 := 19) (pc' := 27) rfl (hb hby at_19) (by decide) (by decide) ?_
      exact k
  obtain ⟨_, _, ⟨T6, L6, k6, n6⟩, -, X6, ⟨Lc6, hQ6, l6, y6, z6⟩, st6⟩ := Jvm.LawKit.callS X0 hx (y := (⟨"com/example/godwit/godwit/link/Utf8MayFollowPinLaw", "lowest", "(I)I"⟩ : MethodName)) hown (mvT hZ (hw _ (List.mem_of_getElem? (i := 1) rfl))) (mvT hZ (hw _ (List.mem_of_getElem? (i := 2) rfl))) (mvT hZ (hw _ (List.mem_of_getElem? (i := 3) rfl))) (mvT hZ (hw _ (List.mem_of_getElem? (i := 4) rfl))) (by decide) (backOf (W := 1) (own_rm1 l Z av hw [] vl h0 n0 Z0 ) hZ (hw _ (List.mem_of_getElem? (i := 4) rfl)) (hw _ (List.mem_of_getElem? (i := 3) rfl)) (by decide) (by decide)) (g := (mkF m 32 #[oi p0, oi p1, oi p2, oi vl, oi v4, .unset] [(.int vl), (.int v4)])) rfl (by rw [hml]; rfl) (argsL := [(.int vl)]) (rest := [(.int v4)]) (lenOf own_pd0 rfl) rfl (by show 2 * 0 + _ ≤ _; exact Nat.le_of_eq rfl) (hb hby at_32) (fun _ _ => ⟨rfl, e0, (by decide : 0 + 0 ≤ _), (by decide : 0 + 0 ≤ _)⟩)
  dsimp only [Pt.U, Pt.locs, Pt.cells, Pt.slots] at X6 l6 y6 z6 st6 hQ6
  subst l6 y6 z6
  obtain ⟨rfl, Nq6, eq6⟩ := hQ6
  have N6 := Fr.app N0 Nq6
  have pre7 : ∀ t, Steps p.tables e below (T6.setTop (mkF m 35 #[oi p0, oi p1, oi p2, oi vl, oi v4, .unset] [(.int (own_f1 vl)), (.int v4)])) t → Steps p.tables e below (s₁.setTop (entryFrame m #[(.int p0), (.int p1), (.int p2)] maxLocals)) t := by
    intro t k
    refine pre5 t ?_
    show oS p e below s₁ m 27 #[oi p0, oi p1, oi p2, oi vl, .unset, .unset] [(.int v4)] _
    refine XS.istore X0.here hx rfl (hb hby at_27) rfl (l' := #[oi p0, oi p1, oi p2, oi vl, oi v4, .unset]) rfl ?_
    show oS p e below s₁ m 29 #[oi p0, oi p1, oi p2, oi vl, oi v4, .unset] [] _
    refine XS.iload X0.here hx rfl (hb hby at_29) rfl ?_
    show oS p e below s₁ m 31 #[oi p0, oi p1, oi p2, oi vl, oi v4, .unset] [(.int v4)] _
    refine XS.iloadN X0.here hx rfl (hb hby at_31) rfl ?_
    show oS p e below s₁ m 32 #[oi p0, oi p1, oi p2, oi vl, oi v4, .unset] [(.int vl), (.int v4)] _
    refine st6 _ ?_
    exact k
  by_cases c8 : v4 < (own_f1 vl)
  · skip
    obtain ⟨_, _, ⟨T9, L9, k9, n9⟩, -, X9, ⟨Lc9, hQ9, l9, y9, z9⟩, st9⟩ := Jvm.LawKit.callS X6 hx (y := (⟨"com/example/godwit/godwit/link/Utf8", "mayFollow", "(II)Z"⟩ : MethodName)) hown (mvT hZ (hw _ (List.mem_of_getElem? (i := 5) rfl))) (mvT hZ (hw _ (List.mem_of_getElem? (i := 6) rfl))) (mvT hZ (hw _ (List.mem_of_getElem? (i := 7) rfl))) (mvT hZ (hw _ (List.mem_of_getElem? (i := 8) rfl))) (by decide) (backOf (W := 0) (own_rm2 l Z av hw [] vl v4 aL cl (own_lead (vl - (128 : Int32))) h0 n0 Z0 S_LEADS (AL) (own_in HS rv) (HL _ (own_in2 rv).1 (own_in2 rv).2)) hZ (hw _ (List.mem_of_getElem? (i := 8) rfl)) (hw _ (List.mem_of_getElem? (i := 7) rfl)) (by decide) (by decide)) (g := (mkF m 57 #[oi p0, oi p1, oi p2, oi vl, oi v4, oi (0 : Int32)] [(.int v4), (.int vl)])) rfl (by rw [hml]; rfl) (argsL := [(.int vl), (.int v4)]) (rest := []) (lenOf own_pd1 rfl) rfl (by show 2 * 0 + _ ≤ _; exact Nat.le_of_eq rfl) (hb hby at_57) (fun _ _ => ⟨rfl, eq6, (by decide : 0 + 0 ≤ _), (by decide : 0 + 0 ≤ _)⟩)
    dsimp only [Pt.U, Pt.locs, Pt.cells, Pt.slots] at X9 l9 y9 z9 st9 hQ9
    subst l9 y9 z9
    obtain ⟨rfl, Nq9, eq9⟩ := hQ9
    have N9 := Fr.app N6 Nq9
    have b10 : (own_f2 v4 (own_lead (vl - (128 : Int32)))) = (0 : Int32) := by rw [own_key rv, if_pos c8]
    obtain ⟨fs, hr, hrun, hended, hW, hsame⟩ := X9.leave (v := (some (.int (1 : Int32)))) (fun h => by rw [Bd.returns] at h; cases h)
    refine ⟨_, _, pre7 _ ?_, hrun, hended, _, _, rfl, ?_, ⟨_, rfl⟩, hW, hsame.mono (by decide) (by decide)⟩
    · show oS p e below T6 m 35 #[oi p0, oi p1, oi p2, oi vl, oi v4, .unset] [(.int (own_f1 vl)), (.int v4)] _
      refine XS.icmpYes X6.here hx rfl (pc0 := 35) (pc' := 51) rfl (hb hby at_35) rfl (tlt c8).1 (by decide) (by decide) ?_
      show oS p e below T6 m 51 #[oi p0, oi p1, oi p2, oi vl, oi v4, .unset] [] _
      refine XS.iconst X6.here hx rfl (hb hby at_51) ?_
      show oS p e below T6 m 52 #[oi p0, oi p1, oi p2, oi vl, oi v4, .unset] [(.int (0 : Int32))] _
      refine XS.istore X6.here hx rfl (hb hby at_52) rfl (l' := #[oi p0, oi p1, oi p2, oi vl, oi v4, oi (0 : Int32)]) rfl ?_
      show oS p e below T6 m 54 #[oi p0, oi p1, oi p2, oi vl, oi v4, oi (0 : Int32)] [] _
      refine XS.iloadN X6.here hx rfl (hb hby at_54) rfl ?_
      show oS p e below T6 m 55 #[oi p0, oi p1, oi p2, oi vl, oi v4, oi (0 : Int32)] [(.int vl)] _
      refine XS.iload X6.here hx rfl (hb hby at_55) rfl ?_
      show oS p e below T6 m 57 #[oi p0, oi p1, oi p2, oi vl, oi v4, oi (0 : Int32)] [(.int v4), (.int vl)] _
      refine st9 _ ?_
      show oS p e below T9 m 60 #[oi p0, oi p1, oi p2, oi vl, oi v4, oi (0 : Int32)] [(.int (own_f2 v4 (own_lead (vl - (128 : Int32)))))] _
      refine XS.iload X9.here hx rfl (hb hby at_60) rfl ?_
      show oS p e below T9 m 62 #[oi p0, oi p1, oi p2, oi vl, oi v4, oi (0 : Int32)] [(.int (0 : Int32)), (.int (own_f2 v4 (own_lead (vl - (128 : Int32)))))] _
      refine XS.icmpNo X9.here hx rfl (hb hby at_62) rfl (teq b10).2 ?_
      show oS p e below T9 m 65 #[oi p0, oi p1, oi p2, oi vl, oi v4, oi (0 : Int32)] [] _
      refine XS.iconst X9.here hx rfl (hb hby at_65) ?_
      show oS p e below T9 m 66 #[oi p0, oi p1, oi p2, oi vl, oi v4, oi (0 : Int32)] [(.int (1 : Int32))] _
      refine XS.goto X9.here hx rfl (pc0 := 66) (pc' := 70) rfl (hb hby at_66) (by decide) (by decide) ?_
      show oS p e below T9 m 70 #[oi p0, oi p1, oi p2, oi vl, oi v4, oi (0 : Int32)] [(.int (1 : Int32))] _
      exact retN X9 hx (t := .boolean) Bd.returns (by simp) (hb hby at_70) hr
    · show own_Q0 Z p0 p1 p2 aL cl h0 n0 _ T9.heap _
      rw [eq9]
      exact ⟨rfl, N9⟩
  · skip
    obtain ⟨_, _, ⟨T11, L11, k11, n11⟩, -, X11, ⟨Lc11, hQ11, l11, y11, z11⟩, st11⟩ := Jvm.LawKit.callS X6 hx (y := (⟨"com/example/godwit/godwit/link/Utf8MayFollowPinLaw", "highest", "(I)I"⟩ : MethodName)) hown (mvT hZ (hw _ (List.mem_of_getElem? (i := 11) rfl))) (mvT hZ (hw _ (List.mem_of_getElem? (i := 12) rfl))) (mvT hZ (hw _ (List.mem_of_getElem? (i := 3) rfl))) (mvT hZ (hw _ (List.mem_of_getElem? (i := 13) rfl))) (by decide) (backOf (W := 1) (own_rm3 l Z av hw [] vl h0 n0 Z0 ) hZ (hw _ (List.mem_of_getElem? (i := 13) rfl)) (hw _ (List.mem_of_getElem? (i := 3) rfl)) (by decide) (by decide)) (g := (mkF m 41 #[oi p0, oi p1, oi p2, oi vl, oi v4, .unset] [(.int vl), (.int v4)])) rfl (by rw [hml]; rfl) (argsL := [(.int vl)]) (rest := [(.int v4)]) (lenOf own_pd0 rfl) rfl (by show 2 * 0 + _ ≤ _; exact Nat.le_of_eq rfl) (hb hby at_41) (fun _ _ => ⟨rfl, eq6, (by decide : 0 + 0 ≤ _), (by decide : 0 + 0 ≤ _)⟩)
    dsimp only [Pt.U, Pt.locs, Pt.cells, Pt.slots] at X11 l11 y11 z11 st11 hQ11
    subst l11 y11 z11
    obtain ⟨rfl, Nq11, eq11⟩ := hQ11
    have N11 := Fr.app N6 Nq11
    have pre12 : ∀ t, Steps p.tables e below (T11.setTop (mkF m 44 #[oi p0, oi p1, oi p2, oi vl, oi v4, .unset] [(.int (own_f3 vl)), (.int v4)])) t → Steps p.tables e below (s₁.setTop (entryFrame m #[(.int p0), (.int p1), (.int p2)] maxLocals)) t := by
      intro t k
      refine pre7 t ?_
      show oS p e below T6 m 35 #[oi p0, oi p1, oi p2, oi vl, oi v4, .unset] [(.int (own_f1 vl)), (.int v4)] _
      refine XS.icmpNo X6.here hx rfl (hb hby at_35) rfl (flt c8).1 ?_
      show oS p e below T6 m 38 #[oi p0, oi p1, oi p2, oi vl, oi v4, .unset] [] _
      refine XS.iload X6.here hx rfl (hb hby at_38) rfl ?_
      show oS p e below T6 m 40 #[oi p0, oi p1, oi p2, oi vl, oi v4, .unset] [(.int v4)] _
      refine XS.iloadN X6.here hx rfl (hb hby at_40) rfl ?_
      show oS p e below T6 m 41 #[oi p0, oi p1, oi p2, oi vl, oi v4, .unset] [(.int vl), (.int v4)] _
      refine st11 _ ?_
      exact k
    by_cases c13 : (own_f3 vl) < v4
    · skip
      obtain ⟨_, _, ⟨T14, L14, k14, n14⟩, -, X14, ⟨Lc14, hQ14, l14, y14, z14⟩, st14⟩ := Jvm.LawKit.callS X11 hx (y := (⟨"com/example/godwit/godwit/link/Utf8", "mayFollow", "(II)Z"⟩ : MethodName)) hown (mvT hZ (hw _ (List.mem_of_getElem? (i := 5) rfl))) (mvT hZ (hw _ (List.mem_of_getElem? (i := 6) rfl))) (mvT hZ (hw _ (List.mem_of_getElem? (i := 7) rfl))) (mvT hZ (hw _ (List.mem_of_getElem? (i := 8) rfl))) (by decide) (backOf (W := 0) (own_rm2 l Z av hw [] vl v4 aL cl (own_lead (vl - (128 : Int32))) h0 n0 Z0 S_LEADS (AL) (own_in HS rv) (HL _ (own_in2 rv).1 (own_in2 rv).2)) hZ (hw _ (List.mem_of_getElem? (i := 8) rfl)) (hw _ (List.mem_of_getElem? (i := 7) rfl)) (by decide) (by decide)) (g := (mkF m 57 #[oi p0, oi p1, oi p2, oi vl, oi v4, oi (0 : Int32)] [(.int v4), (.int vl)])) rfl (by rw [hml]; rfl) (argsL := [(.int vl), (.int v4)]) (rest := []) (lenOf own_pd1 rfl) rfl (by show 2 * 0 + _ ≤ _; exact Nat.le_of_eq rfl) (hb hby at_57) (fun _ _ => ⟨rfl, eq11, (by decide : 0 + 0 ≤ _), (by decide : 0 + 0 ≤ _)⟩)
      dsimp only [Pt.U, Pt.locs, Pt.cells, Pt.slots] at X14 l14 y14 z14 st14 hQ14
      subst l14 y14 z14
      obtain ⟨rfl, Nq14, eq14⟩ := hQ14
      have N14 := Fr.app N11 Nq14
      have b15 : (own_f2 v4 (own_lead (vl - (128 : Int32)))) = (0 : Int32) := by rw [own_key rv, if_neg c8, if_pos c13]
      obtain ⟨fs, hr, hrun, hended, hW, hsame⟩ := X14.leave (v := (some (.int (1 : Int32)))) (fun h => by rw [Bd.returns] at h; cases h)
      refine ⟨_, _, pre12 _ ?_, hrun, hended, _, _, rfl, ?_, ⟨_, rfl⟩, hW, hsame.mono (by decide) (by decide)⟩
      · show oS p e below T11 m 44 #[oi p0, oi p1, oi p2, oi vl, oi v4, .unset] [(.int (own_f3 vl)), (.int v4)] _
        refine XS.icmpYes X11.here hx rfl (pc0 := 44) (pc' := 51) rfl (hb hby at_44) rfl (tlt c13).2.2.1 (by decide) (by decide) ?_
        show oS p e below T11 m 51 #[oi p0, oi p1, oi p2, oi vl, oi v4, .unset] [] _
        refine XS.iconst X11.here hx rfl (hb hby at_51) ?_
        show oS p e below T11 m 52 #[oi p0, oi p1, oi p2, oi vl, oi v4, .unset] [(.int (0 : Int32))] _
        refine XS.istore X11.here hx rfl (hb hby at_52) rfl (l' := #[oi p0, oi p1, oi p2, oi vl, oi v4, oi (0 : Int32)]) rfl ?_
        show oS p e below T11 m 54 #[oi p0, oi p1, oi p2, oi vl, oi v4, oi (0 : Int32)] [] _
        refine XS.iloadN X11.here hx rfl (hb hby at_54) rfl ?_
        show oS p e below T11 m 55 #[oi p0, oi p1, oi p2, oi vl, oi v4, oi (0 : Int32)] [(.int vl)] _
        refine XS.iload X11.here hx rfl (hb hby at_55) rfl ?_
        show oS p e below T11 m 57 #[oi p0, oi p1, oi p2, oi vl, oi v4, oi (0 : Int32)] [(.int v4), (.int vl)] _
        refine st14 _ ?_
        show oS p e below T14 m 60 #[oi p0, oi p1, oi p2, oi vl, oi v4, oi (0 : Int32)] [(.int (own_f2 v4 (own_lead (vl - (128 : Int32)))))] _
        refine XS.iload X14.here hx rfl (hb hby at_60) rfl ?_
        show oS p e below T14 m 62 #[oi p0, oi p1, oi p2, oi vl, oi v4, oi (0 : Int32)] [(.int (0 : Int32)), (.int (own_f2 v4 (own_lead (vl - (128 : Int32)))))] _
        refine XS.icmpNo X14.here hx rfl (hb hby at_62) rfl (teq b15).2 ?_
        show oS p e below T14 m 65 #[oi p0, oi p1, oi p2, oi vl, oi v4, oi (0 : Int32)] [] _
        refine XS.iconst X14.here hx rfl (hb hby at_65) ?_
        show oS p e below T14 m 66 #[oi p0, oi p1, oi p2, oi vl, oi v4, oi (0 : Int32)] [(.int (1 : Int32))] _
        refine XS.goto X14.here hx rfl (pc0 := 66) (pc' := 70) rfl (hb hby at_66) (by decide) (by decide) ?_
        show oS p e below T14 m 70 #[oi p0, oi p1, oi p2, oi vl, oi v4, oi (0 : Int32)] [(.int (1 : Int32))] _
        exact retN X14 hx (t := .boolean) Bd.returns (by simp) (hb hby at_70) hr
      · show own_Q0 Z p0 p1 p2 aL cl h0 n0 _ T14.heap _
        rw [eq14]
        exact ⟨rfl, N14⟩
    · skip
      obtain ⟨_, _, ⟨T16, L16, k16, n16⟩, -, X16, ⟨Lc16, hQ16, l16, y16, z16⟩, st16⟩ := Jvm.LawKit.callS X11 hx (y := (⟨"com/example/godwit/godwit/link/Utf8", "mayFollow", "(II)Z"⟩ : MethodName)) hown (mvT hZ (hw _ (List.mem_of_getElem? (i := 5) rfl))) (mvT hZ (hw _ (List.mem_of_getElem? (i := 6) rfl))) (mvT hZ (hw _ (List.mem_of_getElem? (i := 7) rfl))) (mvT hZ (hw _ (List.mem_of_getElem? (i := 8) rfl))) (by decide) (backOf (W := 0) (own_rm2 l Z av hw [] vl v4 aL cl (own_lead (vl - (128 : Int32))) h0 n0 Z0 S_LEADS (AL) (own_in HS rv) (HL _ (own_in2 rv).1 (own_in2 rv).2)) hZ (hw _ (List.mem_of_getElem? (i := 8) rfl)) (hw _ (List.mem_of_getElem? (i := 7) rfl)) (by decide) (by decide)) (g := (mkF m 57 #[oi p0, oi p1, oi p2, oi vl, oi v4, oi (1 : Int32)] [(.int v4), (.int vl)])) rfl (by rw [hml]; rfl) (argsL := [(.int vl), (.int v4)]) (rest := []) (lenOf own_pd1 rfl) rfl (by show 2 * 0 + _ ≤ _; exact Nat.le_of_eq rfl) (hb hby at_57) (fun _ _ => ⟨rfl, eq11, (by decide : 0 + 0 ≤ _), (by decide : 0 + 0 ≤ _)⟩)
      dsimp only [Pt.U, Pt.locs, Pt.cells, Pt.slots] at X16 l16 y16 z16 st16 hQ16
      subst l16 y16 z16
      obtain ⟨rfl, Nq16, eq16⟩ := hQ16
      have N16 := Fr.app N11 Nq16
      have b17 : (own_f2 v4 (own_lead (vl - (128 : Int32)))) = (1 : Int32) := by rw [own_key rv, if_neg c8, if_neg c13]
      obtain ⟨fs, hr, hrun, hended, hW, hsame⟩ := X16.leave (v := (some (.int (1 : Int32)))) (fun h => by rw [Bd.returns] at h; cases h)
      refine ⟨_, _, pre12 _ ?_, hrun, hended, _, _, rfl, ?_, ⟨_, rfl⟩, hW, hsame.mono (by decide) (by decide)⟩
      · show oS p e below T11 m 44 #[oi p0, oi p1, oi p2, oi vl, oi v4, .unset] [(.int (own_f3 vl)), (.int v4)] _
        refine XS.icmpNo X11.here hx rfl (hb hby at_44) rfl (flt c13).2.2.1 ?_
        show oS p e below T11 m 47 #[oi p0, oi p1, oi p2, oi vl, oi v4, .unset] [] _
        refine XS.iconst X11.here hx rfl (hb hby at_47) ?_
        show oS p e below T11 m 48 #[oi p0, oi p1, oi p2, oi vl, oi v4, .unset] [(.int (1 : Int32))] _
        refine XS.goto X11.here hx rfl (pc0 := 48) (pc' := 52) rfl (hb hby at_48) (by decide) (by decide) ?_
        show oS p e below T11 m 52 #[oi p0, oi p1, oi p2, oi vl, oi v4, .unset] [(.int (1 : Int32))] _
        refine XS.istore X11.here hx rfl (hb hby at_52) rfl (l' := #[oi p0, oi p1, oi p2, oi vl, oi v4, oi (1 : Int32)]) rfl ?_
        show oS p e below T11 m 54 #[oi p0, oi p1, oi p2, oi vl, oi v4, oi (1 : Int32)] [] _
        refine XS.iloadN X11.here hx rfl (hb hby at_54) rfl ?_
        show oS p e below T11 m 55 #[oi p0, oi p1, oi p2, oi vl, oi v4, oi (1 : Int32)] [(.int vl)] _
        refine XS.iload X11.here hx rfl (hb hby at_55) rfl ?_
        show oS p e below T11 m 57 #[oi p0, oi p1, oi p2, oi vl, oi v4, oi (1 : Int32)] [(.int v4), (.int vl)] _
        refine st16 _ ?_
        show oS p e below T16 m 60 #[oi p0, oi p1, oi p2, oi vl, oi v4, oi (1 : Int32)] [(.int (own_f2 v4 (own_lead (vl - (128 : Int32)))))] _
        refine XS.iload X16.here hx rfl (hb hby at_60) rfl ?_
        show oS p e below T16 m 62 #[oi p0, oi p1, oi p2, oi vl, oi v4, oi (1 : Int32)] [(.int (1 : Int32)), (.int (own_f2 v4 (own_lead (vl - (128 : Int32)))))] _
        refine XS.icmpNo X16.here hx rfl (hb hby at_62) rfl (teq b17).2 ?_
        show oS p e below T16 m 65 #[oi p0, oi p1, oi p2, oi vl, oi v4, oi (1 : Int32)] [] _
        refine XS.iconst X16.here hx rfl (hb hby at_65) ?_
        show oS p e below T16 m 66 #[oi p0, oi p1, oi p2, oi vl, oi v4, oi (1 : Int32)] [(.int (1 : Int32))] _
        refine XS.goto X16.here hx rfl (pc0 := 66) (pc' := 70) rfl (hb hby at_66) (by decide) (by decide) ?_
        show oS p e below T16 m 70 #[oi p0, oi p1, oi p2, oi vl, oi v4, oi (1 : Int32)] [(.int (1 : Int32))] _
        exact retN X16 hx (t := .boolean) Bd.returns (by simp) (hb hby at_70) hr
      · show own_Q0 Z p0 p1 p2 aL cl h0 n0 _ T16.heap _
        rw [eq16]
        exact ⟨rfl, N16⟩
theorem own_len {args : Array Value} {s : State} {t : Term} {a : Addr} {cl : Cell} {n : Int32} (ht : t.eval args s none [] s = some (.ref a)) (ha : s.arrayAt? a = some cl) (h : (Term.length t).eval args s none [] s = some (.int n)) : cl.slots.size < 2 ^ 31 ∧ cl.slots.size.toInt32 = n := by
  simpa [Term.eval, ht, ha] using h
theorem own_HL {cl : Cell} (HS : cl.slots.size = (128 : Int32).toNatClampNeg) (HT : ∀ j : Int32, ¬ (j < 0 ∨ cl.slots.size ≤ j.toNatClampNeg) → cl.slots[j.toNatClampNeg]? = some (.int (atv cl j)))
    (al66 : ∀ j : Int32, ¬ (j < 0 ∨ cl.slots.size ≤ j.toNatClampNeg) → j < (66 : Int32) ∨ ¬ j < (96 : Int32) ∨ atv cl j = (12550145 : Int32)) (at96 : atv cl (96 : Int32) = (12558338 : Int32))
    (al97 : ∀ j : Int32, ¬ (j < 0 ∨ cl.slots.size ≤ j.toNatClampNeg) → j < (97 : Int32) ∨ ¬ j < (109 : Int32) ∨ atv cl j = (12550146 : Int32)) (at109 : atv cl (109 : Int32) = (10452994 : Int32)) (at110 : atv cl (110 : Int32) = (12550146 : Int32)) (at111 : atv cl (111 : Int32) = (12550146 : Int32))
    (at112 : atv cl (112 : Int32) = (12554243 : Int32)) (at113 : atv cl (113 : Int32) = (12550147 : Int32)) (at114 : atv cl (114 : Int32) = (12550147 : Int32)) (at115 : atv cl (115 : Int32) = (12550147 : Int32)) (at116 : atv cl (116 : Int32) = (9404419 : Int32)) :
    ∀ j : Int32, ¬ j < (66 : Int32) → j < (117 : Int32) → cl.slots[j.toNatClampNeg]? = some (.int (own_lead j)) := by
  intro j h1 h2
  have hj : ¬ (j < 0 ∨ cl.slots.size ≤ j.toNatClampNeg) := by
    refine inb_of HS ?_
    simp only [own_ltp, Int32.reduceToInt] at h1 h2 ⊢
    omega
  rw [HT j hj]
  have q1 := al66 j hj
  have q2 := al97 j hj
  suffices e : atv cl j = own_lead j by rw [e]
  unfold own_lead
  by_cases c1 : j < (96 : Int32)
  · rw [if_pos c1]; exact (q1.resolve_left h1).resolve_left (fun q => q c1)
  · rw [if_neg c1]
    by_cases c2 : j = (96 : Int32)
    · rw [if_pos c2, c2]; exact at96
    · rw [if_neg c2]
      by_cases c3 : j < (109 : Int32)
      · rw [if_pos c3]
        refine (q2.resolve_left ?_).resolve_left (fun q => q c3)
        rw [own_eqp] at c2
        simp only [own_ltp, Int32.reduceToInt] at c1 c2 ⊢
        omega
      · rw [if_neg c3]
        have hk : j = 109 ∨ j = 110 ∨ j = 111 ∨ j = 112 ∨ j = 113 ∨ j = 114 ∨ j = 115 ∨ j = 116 := by
          simp only [own_eqp, own_ltp, Int32.reduceToInt] at h2 c3 ⊢
          omega
        rcases hk with rfl | rfl | rfl | rfl | rfl | rfl | rfl | rfl
        · rw [at109]; decide
        · rw [at110]; decide
        · rw [at111]; decide
        · rw [at112]; decide
        · rw [at113]; decide
        · rw [at114]; decide
        · rw [at115]; decide
        · rw [at116]; decide
set_option maxRecDepth 65536 in
set_option maxHeartbeats 40000000 in
theorem own_comes {Post : Tables → Env → Array Value → State → Outcome → State → Prop} (hpost : ∀ tb e args s v u, (limb_1_1.after args s (.returned v) u = true ∧ limb_1_2.after args s (.returned v) u = true ∧ True) → FrameEnd s (.returned v) u (Jvm.fieldLocs frame_1_writes args s ++ Jvm.arrayLocs frame_1_arrays args s ++ Jvm.staticLocs frame_1_statics s) 0 0 → Post tb e args s (.returned v) u) :
    ArmFor flags0 classFile x code maxLocals ret World_1 tables_1 room_1 Calls_1 rest_1 Pre_1 Post := by
  intro l hfl _ _ p e ha hc hk s m args below hf hA hF happ hP
  obtain ⟨hcalls, hrest, hpre⟩ := hP
  obtain ⟨-, -, -, hnamed, -, -, -, hat⟩ := (Spec.applies_iff hf).mp happ
  obtain ⟨hg, hn⟩ := and_e (Cond.before_iff.mp (show (Jvm.Cond.and given_1 narrow_1).before args s = true from hpre))
  obtain ⟨gv1, gv2⟩ := and_e hg
  obtain ⟨gv3, gv4⟩ := and_e gv2
  obtain ⟨gv5, gv6⟩ := and_e gv4
  obtain ⟨w0, w1, w2, rfl⟩ : ∃ w0 w1 w2 : Value, args = #[w0, w1, w2] := by
    have hs : args.size = 3 := by simpa [Cond.value, given_1] using gv1
    obtain ⟨L⟩ := args
    match L, hs with
    | [w0, w1, w2], _ => exact ⟨w0, w1, w2, rfl⟩
  have hw := fun d (hd : d ∈ tables_1) => atoms_spec (ws := Jvm.Cond.code x code maxLocals ret :: tables_1) hat d (List.mem_cons_of_mem _ hd)
  have hfit : Fit s := fun {y c} hc i hi => by
    obtain ⟨ha, rfl⟩ := Array.getElem?_eq_some_iff.mp hc
    have q := List.all_eq_true.mp ((Array.all_eq_true_iff_forall_mem.mp hF) _ (Array.getElem_mem ha)) i (List.mem_range.mpr hi)
    simpa [Array.getElem?_eq_getElem hi] using q
  obtain ⟨i0, ei0⟩ := is_v gv3
  obtain rfl : w0 = (.int i0) := Option.some.inj ei0
  obtain ⟨i1, ei1⟩ := is_v gv5
  obtain rfl : w1 = (.int i1) := Option.some.inj ei1
  obtain ⟨i2, ei2⟩ := is_v gv6
  obtain rfl : w2 = (.int i2) := Option.some.inj ei2
  obtain ⟨na1, na2⟩ := and_e hn
  obtain ⟨na3, na4⟩ := and_e na2
  obtain ⟨na5, na6⟩ := and_e na4
  obtain ⟨na7, na8⟩ := and_e na6
  obtain ⟨na9, na10⟩ := and_e na8
  obtain ⟨na11, na12⟩ := and_e na10
  obtain ⟨na13, na14⟩ := and_e na12
  obtain ⟨na15, na16⟩ := and_e na14
  obtain ⟨na17, na18⟩ := and_e na16
  obtain ⟨na19, na20⟩ := and_e na18
  obtain ⟨na21, na22⟩ := and_e na20
  obtain ⟨na23, na24⟩ := and_e na22
  obtain ⟨na25, na26⟩ := and_e na24
  obtain ⟨na27, na28⟩ := and_e na26
  obtain ⟨aL, evL⟩ := arr_v na1
  obtain ⟨cl, AL⟩ := Arr.start evL na1
  have atL : s.arrayAt? aL = some cl := AL.fin (Vm.Alike.refl _)
  have S_LEADS : Sta s s.heap "com/example/godwit/godwit/link/Utf8" "LEADS" "[I" (.ref aL) := Sta.start evL (Or.inr ⟨(hw _ (List.mem_of_getElem? (i := 7) rfl)), (hw _ (List.mem_of_getElem? (i := 10) rfl))⟩)
  obtain ⟨sz1, sz2⟩ := own_len evL atL (own_eqI na3)
  have TL := Tab.start hfit AL (Or.inl rfl) sz1 sz2 (by decide)
  have HS := TL.2.1
  have et : ∀ j : Int32, ¬ (j < 0 ∨ cl.slots.size ≤ j.toNatClampNeg) → ∀ i, (Jvm.Term.static "com/example/godwit/godwit/link/Utf8" "LEADS" "[I").eval #[.int i0, .int i1, .int i2] s none i s = some (.ref aL) → (Jvm.Term.elem (Jvm.Term.static "com/example/godwit/godwit/link/Utf8" "LEADS" "[I") (Jvm.Term.index 0)).eval #[.int i0, .int i1, .int i2] s none [j.toNatClampNeg] s = some (.int (atv cl j)) := fun j hj i _ => (elem_f (show (Jvm.Term.static "com/example/godwit/godwit/link/Utf8" "LEADS" "[I").eval #[.int i0, .int i1, .int i2] s none [j.toNatClampNeg] s = some (.ref aL) from evL) (idx_at fun q => hj (Or.inl q)) atL (fun q => hj (Or.inl q))).trans (TL.2.2.2 j hj)
  have al66 : ∀ j : Int32, ¬ (j < 0 ∨ cl.slots.size ≤ j.toNatClampNeg) → j < (66 : Int32) ∨ ¬ j < (96 : Int32) ∨ atv cl j = (12550145 : Int32) := fun j hj => or3 (Cond.all_elim evL atL na7 j.toNatClampNeg (Nat.lt_of_not_le fun q => hj (Or.inr q))) (Cond.lt_ints (idx_at fun q => hj (Or.inl q)) (Term.int_eval (66))) (Cond.le_ints (Term.int_eval (96)) (idx_at fun q => hj (Or.inl q))) (Cond.eq_ints (et j hj [] evL) (Term.int_eval (12550145)))
  have at96 : atv cl (96 : Int32) = (12558338 : Int32) := atv_of ((elem_f evL (Term.int_eval (96)) atL (by decide)).symm.trans (own_eqI na9))
  have al97 : ∀ j : Int32, ¬ (j < 0 ∨ cl.slots.size ≤ j.toNatClampNeg) → j < (97 : Int32) ∨ ¬ j < (109 : Int32) ∨ atv cl j = (12550146 : Int32) := fun j hj => or3 (Cond.all_elim evL atL na11 j.toNatClampNeg (Nat.lt_of_not_le fun q => hj (Or.inr q))) (Cond.lt_ints (idx_at fun q => hj (Or.inl q)) (Term.int_eval (97))) (Cond.le_ints (Term.int_eval (109)) (idx_at fun q => hj (Or.inl q))) (Cond.eq_ints (et j hj [] evL) (Term.int_eval (12550146)))
  have at109 : atv cl (109 : Int32) = (10452994 : Int32) := atv_of ((elem_f evL (Term.int_eval (109)) atL (by decide)).symm.trans (own_eqI na13))
  have at110 : atv cl (110 : Int32) = (12550146 : Int32) := atv_of ((elem_f evL (Term.int_eval (110)) atL (by decide)).symm.trans (own_eqI na15))
  have at111 : atv cl (111 : Int32) = (12550146 : Int32) := atv_of ((elem_f evL (Term.int_eval (111)) atL (by decide)).symm.trans (own_eqI na17))
  have at112 : atv cl (112 : Int32) = (12554243 : Int32) := atv_of ((elem_f evL (Term.int_eval (112)) atL (by decide)).symm.trans (own_eqI na19))
  have at113 : atv cl (113 : Int32) = (12550147 : Int32) := atv_of ((elem_f evL (Term.int_eval (113)) atL (by decide)).symm.trans (own_eqI na21))
  have at114 : atv cl (114 : Int32) = (12550147 : Int32) := atv_of ((elem_f evL (Term.int_eval (114)) atL (by decide)).symm.trans (own_eqI na23))
  have at115 : atv cl (115 : Int32) = (12550147 : Int32) := atv_of ((elem_f evL (Term.int_eval (115)) atL (by decide)).symm.trans (own_eqI na25))
  have at116 : atv cl (116 : Int32) = (9404419 : Int32) := atv_of ((elem_f evL (Term.int_eval (116)) atL (by decide)).symm.trans (own_eqI na27))
  have HL : ∀ j : Int32, ¬ j < (66 : Int32) → j < (117 : Int32) → cl.slots[j.toNatClampNeg]? = some (.int (own_lead j)) := own_HL HS TL.2.2.2 al66 at96 al97 at109 at110 at111 at112 at113 at114 at115 at116
  obtain ⟨n, o, h1, h2, h3, _, L, rfl, ⟨rfl, N⟩, hq⟩ := own_rm0 l s _ hw tables_1 i0 i1 i2 aL cl s.heap s.heap.size (Nat.le_refl _) S_LEADS AL HS HL p e ha hc hk s m _ below hf ((Spec.applies_iff_loose hf).mp happ).1 ⟨rfl, State.Warmed39.refl s, rfl⟩ trivial
  refine ⟨n, _, h1, h2, h3, hpost _ _ _ _ _ _ ⟨Cond.after_iff.mpr rfl, Cond.after_iff.mpr (eq_i res_at (Term.int_eval (1)) rfl), trivial⟩ ⟨hq.1, hq.2.1, (hq.2.2.sift fun y hy => Or.inr (N y hy)).mono (by decide) (by decide)⟩⟩
theorem main_1_1 : Claimed_1_1 := own_comes fun _ _ _ _ _ _ h hF => ⟨h.1, hF⟩
theorem main_1_2 : Claimed_1_2 := own_comes fun _ _ _ _ _ _ h hF => ⟨h.2.1, hF⟩
end Jvm.Pilot.@@N@@
namespace Jvm.Pilot.@@N@@
open Jvm Jvm.ClassFile Sem Op Lib Jvm.Free Jvm.Stand Jvm.Pilot.@@N@@.Jvm.D
/-! MADE BY PROGRAM (witnessworld.py) out of the Statement's table words and the real class files: 9 classes; the members and pool entries that the words name. The judged class is class 1, her method 3. -/
namespace start1
open Jvm.ClassFile
def u (s : String) : CpInfo := .utf8 (stringToUtf16 s)
/-- a pool by its gaps: so many unusable entries, then the entry; so many at the end -/
def gap : Nat → List CpInfo → List CpInfo
  | 0, r => r
  | n + 1, r => .unusable :: gap n r
def poolList (es : List (Nat × CpInfo)) (last : Nat) : List CpInfo := es.foldr (fun e r => gap e.1 (e.2 :: r)) (gap last [])
def pool (es : List (Nat × CpInfo)) (last : Nat) : Array CpInfo := ⟨poolList es last⟩
def fileOf (pool : Array CpInfo) (this : Nat) (attrs : Array Attribute := #[]) (ms : Array MethodInfo := #[]) (fl : Nat := 33) (sup : Nat := 0) (ifs : Array Nat := #[]) (fds : Array FieldInfo := #[]) : ClassFile where
  minorVersion := 0
  majorVersion := 65
  constantPool := pool
  accessFlags := fl
  thisClass := this
  superClass := sup
  interfaces := ifs
  fields := fds
  methods := ms
  attributes := attrs
def plain (name : String) (sup : Option ClassId) : Class where
  name := name
  kind := .ordinary
  loader := none
  accessFlags := 33
  super := sup
  interfaces := #[]
  cf := none
  fields := #[]
  methods := #[]
  instanceTypes := #[]
  staticTypes := #[]
  resolved := #[]
  callSites := []
  init := .initialized
  statics := none
  mirror := none

def pool0 : Array CpInfo := pool [(5, u "<init>"), (0, u "()V"), (1, .class_ 10), (1, u "java/lang/Object")] 113

def k0m0 : Method := { name := "<init>", desc := "()V", sig := { parameters := [], returnType := none }, accessFlags := 1, code := none }
/-- java/lang/Object -/
def k0 : Class := { plain "java/lang/Object" none with
  accessFlags := 33
  interfaces := #[]
  cf := some (fileOf pool0 8 #[] #[{ accessFlags := 1, nameIndex := 5, descriptorIndex := 6, attributes := #[] }] 33 0 #[] #[])
  fields := #[]
  methods := #[k0m0]
  instanceTypes := #[]
  staticTypes := #[]
  resolved := Array.replicate 124 none
  statics := none }

def pool1 : Array CpInfo := pool [(2, .class_ 4), (1, u "java/lang/Object"), (0, u "<init>"), (0, u "()V"), (0, .integer 2147483647), (0, .methodref 9 10), (0, .class_ 11), (0, .nameAndType 12 13), (0, u "com/example/godwit/godwit/link/Utf8MayFollowPinLaw"), (0, u "lowest"), (0, u "(I)I"), (0, .methodref 9 15), (0, .nameAndType 16 13), (0, u "highest"), (0, .methodref 18 19), (0, .class_ 20), (0, .nameAndType 21 22), (0, u "com/example/godwit/godwit/link/Utf8"), (0, u "mayFollow"), (0, u "(II)Z"), (3, u "law"), (0, u "(III)Z")] 2

def k1m0 : Method := { name := "<init>", desc := "()V", sig := { parameters := [], returnType := none }, accessFlags := 2, code := none }
def k1c1 : Code := { maxStack := 2, maxLocals := 1, code := method_2_code, exceptionTable := #[], attributes := #[] }
def k1m1 : Method := { name := "lowest", desc := "(I)I", sig := { parameters := [.int], returnType := some .int }, accessFlags := 10, code := some k1c1 }
def k1c2 : Code := { maxStack := 2, maxLocals := 1, code := method_3_code, exceptionTable := #[], attributes := #[] }
def k1m2 : Method := { name := "highest", desc := "(I)I", sig := { parameters := [.int], returnType := some .int }, accessFlags := 10, code := some k1c2 }
def k1c3 : Code := { maxStack := 3, maxLocals := 6, code := code, exceptionTable := #[], attributes := #[] }
def k1m3 : Method := { name := "law", desc := "(III)Z", sig := { parameters := [.int, .int, .int], returnType := some .boolean }, accessFlags := 9, code := some k1c3 }
/-- com/example/godwit/godwit/link/Utf8MayFollowPinLaw -/
def k1 : Class := { plain "com/example/godwit/godwit/link/Utf8MayFollowPinLaw" (some 0) with
  accessFlags := 49
  interfaces := #[]
  cf := some (fileOf pool1 9 #[] #[{ accessFlags := 2, nameIndex := 5, descriptorIndex := 6, attributes := #[] }, { accessFlags := 10, nameIndex := 12, descriptorIndex := 13, attributes := #[] }, { accessFlags := 10, nameIndex := 16, descriptorIndex := 13, attributes := #[] }, { accessFlags := 9, nameIndex := 26, descriptorIndex := 27, attributes := #[] }] 49 2 #[] #[])
  fields := #[]
  methods := #[k1m0, k1m1, k1m2, k1m3]
  instanceTypes := #[]
  staticTypes := #[]
  resolved := Array.replicate 30 none
  statics := none }

def pool2 : Array CpInfo := pool [(2, .class_ 4), (1, u "java/lang/Object"), (0, u "<init>"), (0, u "()V"), (23, .fieldref 31 32), (0, .class_ 33), (0, .nameAndType 34 35), (0, u "com/example/godwit/godwit/link/Utf8"), (0, u "LEADS"), (0, u "[I"), (12, u "HEX_DIGITS"), (0, u "[C"), (14, u "LONGEST"), (0, u "I"), (10, u "mayFollow"), (0, u "(II)Z")] 7

def k2m0 : Method := { name := "<init>", desc := "()V", sig := { parameters := [], returnType := none }, accessFlags := 2, code := none }
def k2c1 : Code := { maxStack := 3, maxLocals := 3, code := prog_21_method_6_code, exceptionTable := #[], attributes := #[] }
def k2m1 : Method := { name := "mayFollow", desc := "(II)Z", sig := { parameters := [.int, .int], returnType := some .boolean }, accessFlags := 8, code := some k2c1 }
/-- com/example/godwit/godwit/link/Utf8 -/
def k2 : Class := { plain "com/example/godwit/godwit/link/Utf8" (some 0) with
  accessFlags := 48
  interfaces := #[]
  cf := some (fileOf pool2 31 #[] #[{ accessFlags := 2, nameIndex := 5, descriptorIndex := 6, attributes := #[] }, { accessFlags := 8, nameIndex := 76, descriptorIndex := 77, attributes := #[] }] 48 2 #[] #[{ accessFlags := 24, nameIndex := 64, descriptorIndex := 65, attributes := #[] }, { accessFlags := 26, nameIndex := 48, descriptorIndex := 49, attributes := #[] }, { accessFlags := 26, nameIndex := 34, descriptorIndex := 35, attributes := #[] }])
  fields := #[{ name := "LONGEST", type := .int, accessFlags := 24, slot := 0, constantValue := 0 }, { name := "HEX_DIGITS", type := (.array .char), accessFlags := 26, slot := 1, constantValue := 0 }, { name := "LEADS", type := (.array .int), accessFlags := 26, slot := 2, constantValue := 0 }]
  methods := #[k2m0, k2m1]
  instanceTypes := #[]
  staticTypes := #[.int, (.array .char), (.array .int)]
  resolved := Array.replicate 85 none
  statics := some 0 }

def pool3 : Array CpInfo := pool [(1, u "java/lang/Cloneable"), (0, .class_ 1), (0, u "java/lang/Object"), (0, .class_ 3)] 3

/-- java/lang/Cloneable -/
def k3 : Class := { plain "java/lang/Cloneable" (some 0) with
  accessFlags := 1537
  interfaces := #[]
  cf := some (fileOf pool3 2 #[] #[] 1537 4 #[] #[])
  fields := #[]
  methods := #[]
  instanceTypes := #[]
  staticTypes := #[]
  resolved := Array.replicate 8 none
  statics := none }

def pool4 : Array CpInfo := pool [(1, u "java/io/Serializable"), (0, .class_ 1), (0, u "java/lang/Object"), (0, .class_ 3)] 3

/-- java/io/Serializable -/
def k4 : Class := { plain "java/io/Serializable" (some 0) with
  accessFlags := 1537
  interfaces := #[]
  cf := some (fileOf pool4 2 #[] #[] 1537 4 #[] #[])
  fields := #[]
  methods := #[]
  instanceTypes := #[]
  staticTypes := #[]
  resolved := Array.replicate 8 none
  statics := none }

/-- the primitive byte -/
def k5 : Class := { plain "byte" none with kind := .primitive 'B', accessFlags := 0x411 }
/-- [B -/
def k6 : Class := { plain "[B" (some 0) with kind := .array 5 .byte, interfaces := #[3, 4], accessFlags := 1041 }

/-- the primitive int -/
def k7 : Class := { plain "int" none with kind := .primitive 'I', accessFlags := 0x411 }
/-- [I -/
def k8 : Class := { plain "[I" (some 0) with kind := .array 7 .int, interfaces := #[3, 4], accessFlags := 1041 }

def heap : Heap := #[{ cls := 2, slots := #[.int 0, .null, .ref 1], vm := .statics 2 },
  { cls := 8, slots := #[.int (-1), .int (-1), .int (-1), .int (-1), .int (-1), .int (-1), .int (-1), .int (-1), .int (-1), .int (-1), .int (-1), .int (-1), .int (-1), .int (-1), .int (-1), .int (-1), .int (-1), .int (-1), .int (-1), .int (-1), .int (-1), .int (-1), .int (-1), .int (-1), .int (-1), .int (-1), .int (-1), .int (-1), .int (-1), .int (-1), .int (-1), .int (-1), .int (-1), .int (-1), .int (-1), .int (-1), .int (-1), .int (-1), .int (-1), .int (-1), .int (-1), .int (-1), .int (-1), .int (-1), .int (-1), .int (-1), .int (-1), .int (-1), .int (-1), .int (-1), .int (-1), .int (-1), .int (-1), .int (-1), .int (-1), .int (-1), .int (-1), .int (-1), .int (-1), .int (-1), .int (-1), .int (-1), .int (-1), .int (-1), .int (-1), .int (-1), .int 12550145, .int 12550145, .int 12550145, .int 12550145, .int 12550145, .int 12550145, .int 12550145, .int 12550145, .int 12550145, .int 12550145, .int 12550145, .int 12550145, .int 12550145, .int 12550145, .int 12550145, .int 12550145, .int 12550145, .int 12550145, .int 12550145, .int 12550145, .int 12550145, .int 12550145, .int 12550145, .int 12550145, .int 12550145, .int 12550145, .int 12550145, .int 12550145, .int 12550145, .int 12550145, .int 12558338, .int 12550146, .int 12550146, .int 12550146, .int 12550146, .int 12550146, .int 12550146, .int 12550146, .int 12550146, .int 12550146, .int 12550146, .int 12550146, .int 12550146, .int 10452994, .int 12550146, .int 12550146, .int 12554243, .int 12550147, .int 12550147, .int 12550147, .int 9404419, .int (-1), .int (-1), .int (-1), .int (-1), .int (-1), .int (-1), .int (-1), .int (-1), .int (-1), .int (-1), .int (-1)], vm := .none }]
def classes : Array Class := #[k0, k1, k2, k3, k4, k5, k6, k7, k8]
def interned : List (Array UInt16 × Addr) := []
def slotsUsed : Nat := 131
def theMethod : MethodId := ⟨1, 3⟩
def args0 : Array Value := #[.int 5, .int 6, .int 7]
def aboutOver (below : List Frame) : State where
  vm := { classes := classes, interned := interned.toArray }
  heap := heap
  slotsUsed := slotsUsed
  threads := #[{ frames := .invoking theMethod args0 :: below }]
def below0 : List Frame := [.native { method := ⟨0, 0⟩, args := #[] }]
def about1 : State := aboutOver below0
def p0 : Program := .bare "" "" ""
def e0 : Env := launch0.env 0 0 0
theorem w_frames : about1.frames = Frame.invoking theMethod args0 :: below0 := rfl
set_option maxRecDepth 65536 in
theorem w_args : argsFit about1.vm theMethod args0 = true := by decide +kernel
set_option maxRecDepth 65536 in
theorem w_heap : heapFits about1 = true := by decide +kernel
set_option maxRecDepth 65536 in
theorem w_runnable : about1.curStatus? = some .runnable := by decide +kernel
set_option maxRecDepth 65536 in
theorem w_alone : about1.alone = true := by decide +kernel
set_option maxRecDepth 65536 in
theorem w_named : about1.methodNamed? x = some theMethod := by decide +kernel
set_option maxRecDepth 65536 in
theorem w_hears : about1.hears theMethod below0 = true := by decide +kernel
set_option maxRecDepth 65536 in
theorem w_ripe : about1.ripe theMethod args0 below0 = true := by decide +kernel
theorem w_running : about1.status = .running := rfl
set_option maxRecDepth 65536 in
theorem w_room : about1.hasRoom e0.platform room_1 = true :=
  launch0.hasRoom_least _ room_1 (by decide +kernel) (by decide +kernel) (by decide +kernel) (by decide +kernel) (by decide +kernel) (by decide +kernel)
theorem allAtoms_all (ts : List Jvm.Cond) (a : Array Jvm.Value) (st : Jvm.State) : (allAtoms ts).before a st = ts.all (fun c => c.before a st) := by
  induction ts with
  | nil => rfl
  | cons c t ih =>
    show (Jvm.Cond.and c (allAtoms t)).before a st = _
    rw [Jvm.Cond.before_and, ih, List.all_cons]
def words1 : List Jvm.Cond := Jvm.Cond.code x code maxLocals ret :: tables_1
/-- a 'code' word, met by the world's own term for the bytes: nothing is compared byte by byte -/
theorem code_word {y : MethodName} {bytes : ByteArray} {mx : Nat} {rt : Option FieldType} {a : Array Value} {s : State} {m : MethodId} {meth : Method} {c : Code} (h1 : s.methodNamed? y = some m) (h2 : s.vm.method? m = some meth) (h3 : meth.code = some c) (h4 : c.code = bytes)
    (h5 : (c.maxLocals == mx && c.exceptionTable.isEmpty && decide (c.maxStack ≤ mostOperands) && decide (meth.sig.returnType = rt) && !meth.locks && decide (parseMethodDescriptor y.desc = some meth.sig)) = true) : (Jvm.Cond.code y bytes mx rt).before a s = true := by
  simp only [Bool.and_eq_true, beq_iff_eq, Bool.not_eq_true', decide_eq_true_eq] at h5
  obtain ⟨⟨⟨⟨⟨g1, g2⟩, g3⟩, g4⟩, g5⟩, g6⟩ := h5
  simp [Cond.before, Cond.holds, Cond.value, h1, h2, h3, h4, g1, g2, g3, g4, g5, g6]
def isCode : Jvm.Cond → Bool
  | .code _ _ _ _ => true
  | _ => false
theorem all_split {L : List Jvm.Cond} {P : Jvm.Cond → Bool} (h1 : L.all (fun c => isCode c || P c) = true) (h2 : ∀ c ∈ L.filter isCode, P c = true) : L.all P = true := by
  refine List.all_eq_true.mpr fun c hc => ?_
  have h := List.all_eq_true.mp h1 c hc
  rcases Bool.eq_false_or_eq_true (isCode c) with hi | hi
  · exact h2 c (List.mem_filter.mpr ⟨hc, hi⟩)
  · simpa [hi] using h
set_option maxRecDepth 65536 in
theorem w_c0 : (Jvm.Cond.code x code maxLocals ret).before args0 about1 = true := code_word (m := ⟨1, 3⟩) (meth := k1m3) (c := k1c3) (by decide +kernel) rfl rfl rfl (by decide +kernel)
set_option maxRecDepth 65536 in
theorem w_c1 : (Jvm.Cond.code ({ cls := "com/example/godwit/godwit/link/Utf8MayFollowPinLaw", name := "lowest", desc := "(I)I" } : Jvm.MethodName) method_2_code (1 : Nat) (Option.some Jvm.ClassFile.FieldType.int)).before args0 about1 = true := code_word (m := ⟨1, 1⟩) (meth := k1m1) (c := k1c1) (by decide +kernel) rfl rfl rfl (by decide +kernel)
set_option maxRecDepth 65536 in
theorem w_c2 : (Jvm.Cond.code ({ cls := "com/example/godwit/godwit/link/Utf8", name := "mayFollow", desc := "(II)Z" } : Jvm.MethodName) prog_21_method_6_code (3 : Nat) (Option.some Jvm.ClassFile.FieldType.boolean)).before args0 about1 = true := code_word (m := ⟨2, 1⟩) (meth := k2m1) (c := k2c1) (by decide +kernel) rfl rfl rfl (by decide +kernel)
set_option maxRecDepth 65536 in
theorem w_c3 : (Jvm.Cond.code ({ cls := "com/example/godwit/godwit/link/Utf8MayFollowPinLaw", name := "highest", desc := "(I)I" } : Jvm.MethodName) method_3_code (1 : Nat) (Option.some Jvm.ClassFile.FieldType.int)).before args0 about1 = true := code_word (m := ⟨1, 2⟩) (meth := k1m2) (c := k1c2) (by decide +kernel) rfl rfl rfl (by decide +kernel)
def codes1 : List Jvm.Cond := [Jvm.Cond.code x code maxLocals ret, Jvm.Cond.code ({ cls := "com/example/godwit/godwit/link/Utf8MayFollowPinLaw", name := "lowest", desc := "(I)I" } : Jvm.MethodName) method_2_code (1 : Nat) (Option.some Jvm.ClassFile.FieldType.int), Jvm.Cond.code ({ cls := "com/example/godwit/godwit/link/Utf8", name := "mayFollow", desc := "(II)Z" } : Jvm.MethodName) prog_21_method_6_code (3 : Nat) (Option.some Jvm.ClassFile.FieldType.boolean), Jvm.Cond.code ({ cls := "com/example/godwit/godwit/link/Utf8MayFollowPinLaw", name := "highest", desc := "(I)I" } : Jvm.MethodName) method_3_code (1 : Nat) (Option.some Jvm.ClassFile.FieldType.int)]
set_option maxRecDepth 65536 in
theorem codes_eq : words1.filter isCode = codes1 := rfl
theorem w_codes : ∀ c ∈ words1.filter isCode, c.before args0 about1 = true := by
  rw [codes_eq]
  intro c hc
  simp only [codes1, List.mem_cons, List.not_mem_nil, or_false] at hc
  rcases hc with rfl | rfl | rfl | rfl
  · exact w_c0
  · exact w_c1
  · exact w_c2
  · exact w_c3
set_option maxRecDepth 65536 in
theorem w_t1 : words1.all (fun c => isCode c || c.before args0 about1) = true := by decide +kernel
theorem w_tables : (allAtoms (Jvm.Cond.code x code maxLocals ret :: tables_1)).before args0 about1 = true := by
  rw [allAtoms_all]
  show words1.all (fun c => c.before args0 about1) = true
  refine all_split ?_ w_codes
  rw [w_t1]
set_option maxRecDepth 65536 in
theorem w_case : (Jvm.Cond.and given_1 narrow_1).before args0 about1 = true := by decide +kernel
theorem w_applies : (headSpec (Jvm.Cond.code x code maxLocals ret :: tables_1) room_1).applies x e0.platform about1 = true :=
  (Spec.applies_iff w_frames).mpr ⟨w_running, w_runnable, w_alone, w_named, w_hears, w_ripe, w_room, w_tables⟩
theorem atStart : AtStart classFile x code maxLocals ret World_1 tables_1 room_1 Calls_1 rest_1 Pre_1 launch0 p0 e0 about1 theMethod args0 below0 :=
  ⟨lists_1, trivial, launch0.admits_env _ _ _, launch0.least_env, fairChoices_fair.cas, fairChoices_fair.clock, w_frames, w_args, w_heap, w_applies, trivial, trivial, w_case⟩
end start1
theorem witness_1 : WitnessClaimed_1 := ⟨start1.p0, start1.e0, start1.about1, start1.theMethod, start1.args0, start1.below0, start1.atStart⟩
end Jvm.Pilot.@@N@@
