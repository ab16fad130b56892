import JvmDerived
import JvmDerived.Pilot.@@N@@Statement
import JvmDerived.Pilot.@@N@@Code
set_option linter.unusedVariables false
set_option linter.unusedSimpArgs false
namespace Jvm.Pilot.@@N@@
open Jvm Jvm.ClassFile Sem Op Lib Jvm.Free Jvm.Stand Jvm.LawKit Jvm.RoadKit Bundle Jvm.Pilot.@@N@@.Jvm.D
section OwnKit
variable {p : Program} {l : Launch} {e : Env} {R : Room} {s : State} {m : MethodId} {args : Array Value} {below : List Frame} {meth : Method} {c : Code} {T : State} {locs : List Loc} {cells slots : Nat} {Z : State} {h : Heap} {a : Addr} {k : ClassId} {z : Int32} {vs : List Value} {dv : Value}
theorem oLen (X : Stand p l e R s m args below meth c T locs cells slots) (hx : p.tables.exec = Jvm.exec) (hZ : Z.Warmed39 s.vm) (eT : T.heap = h) {ty : FieldType} (F : Arv Z h a k ty z vs dv) {g : JFrame} (hg : g.method = m) {rest : List Value} (hs : g.stack = .ref a :: rest) (hd : decode c.code g.pc = .ok (.arraylength, 1)) (target : State)
    (hr : Steps p.tables e below (T.setTop { g with pc := g.pc + 1, stack := .int z :: rest }) target) : Steps p.tables e below (T.setTop g) target := by
  obtain ⟨cl, A, -, S, M, -, -⟩ := F
  refine X.arraylength hx (by rw [eT]; exact A.1) (State.isArrayOf_alike hZ.alike A.2.1) hg hs hd target ?_
  rw [len_of S M]
  exact hr
theorem oLdI (X : Stand p l e R s m args below meth c T locs cells slots) (hx : p.tables.exec = Jvm.exec) (hZ : Z.Warmed39 s.vm) (eT : T.heap = h) (F : Arv Z h a k .int z vs dv) {j : Int32} {v : Value} (hj : ¬ j < 0 ∧ j < z) (hv : vs.getD j.toNatClampNeg dv = v) {g : JFrame} (hg : g.method = m) {rest : List Value} (hs : g.stack = .int j :: .ref a :: rest) (hd : decode c.code g.pc = .ok (.iaload, 1)) (target : State)
    (hr : Steps p.tables e below (T.setTop { g with pc := g.pc + 1, stack := v :: rest }) target) : Steps p.tables e below (T.setTop g) target := by
  obtain ⟨cl, A, -, S, -, H, -⟩ := F
  have hin := inb_of S hj
  exact X.iaload hx (by rw [eT]; exact A.1) (State.isArrayOf_alike hZ.alike A.2.1) A.2.2 hin (Has.at H hin hv) hg hs hd target hr
theorem oLdB (X : Stand p l e R s m args below meth c T locs cells slots) (hx : p.tables.exec = Jvm.exec) (hZ : Z.Warmed39 s.vm) (eT : T.heap = h) (F : Arv Z h a k .byte z vs dv) {j : Int32} {v : Value} (hj : ¬ j < 0 ∧ j < z) (hv : vs.getD j.toNatClampNeg dv = v) {g : JFrame} (hg : g.method = m) {rest : List Value} (hs : g.stack = .int j :: .ref a :: rest) (hd : decode c.code g.pc = .ok (.baload, 1)) (target : State)
    (hr : Steps p.tables e below (T.setTop { g with pc := g.pc + 1, stack := v :: rest }) target) : Steps p.tables e below (T.setTop g) target := by
  obtain ⟨cl, A, -, S, -, H, -⟩ := F
  have hin := inb_of S hj
  exact X.baloadBytes hx (by rw [eT]; exact A.1) (State.isArrayOf_alike hZ.alike A.2.1) A.2.2 hin (Has.at H hin hv) hg hs hd target hr
theorem oLdJ (X : Stand p l e R s m args below meth c T locs cells slots) (hx : p.tables.exec = Jvm.exec) (hZ : Z.Warmed39 s.vm) (eT : T.heap = h) (F : Arv Z h a k .long z vs dv) {j : Int32} {v : Value} (hj : ¬ j < 0 ∧ j < z) (hv : vs.getD j.toNatClampNeg dv = v) {g : JFrame} (hg : g.method = m) {rest : List Value} (hs : g.stack = .int j :: .ref a :: rest) (hd : decode c.code g.pc = .ok (.laload, 1)) (target : State)
    (hr : Steps p.tables e below (T.setTop { g with pc := g.pc + 1, stack := v :: rest }) target) : Steps p.tables e below (T.setTop g) target := by
  obtain ⟨cl, A, -, S, -, H, -⟩ := F
  have hin := inb_of S hj
  exact X.laload hx (by rw [eT]; exact A.1) (State.isArrayOf_alike hZ.alike A.2.1) A.2.2 hin (Has.at H hin hv) hg hs hd target hr
theorem oLdD (X : Stand p l e R s m args below meth c T locs cells slots) (hx : p.tables.exec = Jvm.exec) (hZ : Z.Warmed39 s.vm) (eT : T.heap = h) (F : Arv Z h a k .double z vs dv) {j : Int32} {v : Value} (hj : ¬ j < 0 ∧ j < z) (hv : vs.getD j.toNatClampNeg dv = v) {g : JFrame} (hg : g.method = m) {rest : List Value} (hs : g.stack = .int j :: .ref a :: rest) (hd : decode c.code g.pc = .ok (.daload, 1)) (target : State)
    (hr : Steps p.tables e below (T.setTop { g with pc := g.pc + 1, stack := v :: rest }) target) : Steps p.tables e below (T.setTop g) target := by
  obtain ⟨cl, A, -, S, -, H, -⟩ := F
  have hin := inb_of S hj
  exact X.daload hx (by rw [eT]; exact A.1) (State.isArrayOf_alike hZ.alike A.2.1) A.2.2 hin (Has.at H hin hv) hg hs hd target hr
theorem oStI (X : Stand p l e R s m args below meth c T locs cells slots) (hx : p.tables.exec = Jvm.exec) (hZ : Z.Warmed39 s.vm) (eT : T.heap = h) (F : Arv Z h a k .int z vs dv) {j : Int32} {x : Int32} (hj : ¬ j < 0 ∧ j < z) (i : Nat) (hi : j.toNatClampNeg = i) (hl : i < vs.length) {g : JFrame} (hg : g.method = m) {rest : List Value} (hs : g.stack = .int x :: .int j :: .ref a :: rest) (hd : decode c.code g.pc = .ok (.iastore, 1)) :
    ∃ T' h', Stand p l e R s m args below meth c T' (locs ++ [⟨a, j.toNatClampNeg⟩]) cells slots ∧ T'.heap = h' ∧ Wr h h' a j.toNatClampNeg (.int x) ∧ Arv Z h' a k .int z (vs.set i (.int x)) dv ∧ ∀ target, Steps p.tables e below (T'.setTop { g with pc := g.pc + 1, stack := rest }) target → Steps p.tables e below (T.setTop g) target := by
  obtain ⟨cl, A, q1, S, M, H, G⟩ := F
  obtain ⟨T', h', X', e', W, st⟩ := stI X hx hZ eT A (j := j) (inb_of S hj) hg hs hd
  exact ⟨T', h', X', e', W, Arv.set A q1 S M H G rfl W i hi hl, st⟩
theorem oStB (X : Stand p l e R s m args below meth c T locs cells slots) (hx : p.tables.exec = Jvm.exec) (hZ : Z.Warmed39 s.vm) (eT : T.heap = h) (F : Arv Z h a k .byte z vs dv) {j : Int32} {x : Int32} (hj : ¬ j < 0 ∧ j < z) (i : Nat) (hi : j.toNatClampNeg = i) (hl : i < vs.length) {g : JFrame} (hg : g.method = m) {rest : List Value} (hs : g.stack = .int x :: .int j :: .ref a :: rest) (hd : decode c.code g.pc = .ok (.bastore, 1)) :
    ∃ T' h', Stand p l e R s m args below meth c T' (locs ++ [⟨a, j.toNatClampNeg⟩]) cells slots ∧ T'.heap = h' ∧ Wr h h' a j.toNatClampNeg (.int (nar .byte x)) ∧ Arv Z h' a k .byte z (vs.set i (.int (nar .byte x))) dv ∧ ∀ target, Steps p.tables e below (T'.setTop { g with pc := g.pc + 1, stack := rest }) target → Steps p.tables e below (T.setTop g) target := by
  obtain ⟨cl, A, q1, S, M, H, G⟩ := F
  obtain ⟨T', h', X', e', W, st⟩ := stB X hx hZ eT A (j := j) (inb_of S hj) hg hs hd
  exact ⟨T', h', X', e', W, Arv.set A q1 S M H G (fits_nar_byte x) W i hi hl, st⟩
theorem oStJ (X : Stand p l e R s m args below meth c T locs cells slots) (hx : p.tables.exec = Jvm.exec) (hZ : Z.Warmed39 s.vm) (eT : T.heap = h) (F : Arv Z h a k .long z vs dv) {j : Int32} {x : Int64} (hj : ¬ j < 0 ∧ j < z) (i : Nat) (hi : j.toNatClampNeg = i) (hl : i < vs.length) {g : JFrame} (hg : g.method = m) {rest : List Value} (hs : g.stack = .long x :: .int j :: .ref a :: rest) (hd : decode c.code g.pc = .ok (.lastore, 1)) :
    ∃ T' h', Stand p l e R s m args below meth c T' (locs ++ [⟨a, j.toNatClampNeg⟩]) cells slots ∧ T'.heap = h' ∧ Wr h h' a j.toNatClampNeg (.long x) ∧ Arv Z h' a k .long z (vs.set i (.long x)) dv ∧ ∀ target, Steps p.tables e below (T'.setTop { g with pc := g.pc + 1, stack := rest }) target → Steps p.tables e below (T.setTop g) target := by
  obtain ⟨cl, A, q1, S, M, H, G⟩ := F
  obtain ⟨T', h', X', e', W, st⟩ := stJ X hx hZ eT A (j := j) (inb_of S hj) hg hs hd
  exact ⟨T', h', X', e', W, Arv.set A q1 S M H G rfl W i hi hl, st⟩
theorem oStD (X : Stand p l e R s m args below meth c T locs cells slots) (hx : p.tables.exec = Jvm.exec) (hZ : Z.Warmed39 s.vm) (eT : T.heap = h) (F : Arv Z h a k .double z vs dv) {j : Int32} {x : UInt64} (hj : ¬ j < 0 ∧ j < z) (i : Nat) (hi : j.toNatClampNeg = i) (hl : i < vs.length) {g : JFrame} (hg : g.method = m) {rest : List Value} (hs : g.stack = .double x :: .int j :: .ref a :: rest) (hd : decode c.code g.pc = .ok (.dastore, 1)) :
    ∃ T' h', Stand p l e R s m args below meth c T' (locs ++ [⟨a, j.toNatClampNeg⟩]) cells slots ∧ T'.heap = h' ∧ Wr h h' a j.toNatClampNeg (.double x) ∧ Arv Z h' a k .double z (vs.set i (.double x)) dv ∧ ∀ target, Steps p.tables e below (T'.setTop { g with pc := g.pc + 1, stack := rest }) target → Steps p.tables e below (T.setTop g) target := by
  obtain ⟨cl, A, q1, S, M, H, G⟩ := F
  obtain ⟨T', h', X', e', W, st⟩ := stD X hx hZ eT A (j := j) (inb_of S hj) hg hs hd
  exact ⟨T', h', X', e', W, Arv.set A q1 S M H G rfl W i hi hl, st⟩
end OwnKit
abbrev oi (x : Int32) : Slot := .val (.int x)
abbrev oj (x : Int64) : Slot := .val (.long x)
abbrev oa (x : Addr) : Slot := .val (.ref x)
abbrev od (x : UInt64) : Slot := .val (.double x)
abbrev oS (p : Program) (e : Env) (below : List Frame) (T : State) (m : MethodId) (pc : Nat) (L : Array Slot) (S : List Value) (t : State) : Prop := Steps p.tables e below (T.setTop (mkF m pc L S)) t
theorem own_ltp (x k : Int32) : (x < k) = (x.toInt < k.toInt) := propext Int32.lt_iff_toInt_lt
theorem own_eqp (x k : Int32) : (x = k) = (x.toInt = k.toInt) := propext Int32.toInt_inj.symm
theorem own_ltpL (x k : Int64) : (x < k) = (x.toInt < k.toInt) := propext Int64.lt_iff_toInt_lt
theorem own_eqpL (x k : Int64) : (x = k) = (x.toInt = k.toInt) := propext Int64.toInt_inj.symm
theorem own_of_range {P : Int32 → Prop} (n : Nat) (h : ∀ i : Fin n, P (Int32.ofNat i.1)) (x : Int32) (h0 : 0 ≤ x.toInt) (h1 : x.toInt < (n : Int)) : P x := by
  have e : Int32.ofNat x.toInt.toNat = x := by
    rw [← Int32.ofInt_eq_ofNat, Int.toNat_of_nonneg h0, Int32.ofInt_toInt]
  have q := h ⟨x.toInt.toNat, by omega⟩
  rwa [e] at q
theorem own_getD (ws : List Int32) (n : Nat) : (ws.map Value.int).getD n (.int (0 : Int32)) = .int (ws.getD n 0) := by
  simp only [List.getD_eq_getElem?_getD, List.getElem?_map]
  cases ws[n]? <;> rfl

theorem own_pn0 : plainName "com/example/typewright/typewright/declaration/Keyword" = true := by first | (simp [plainName, overriddenIn]; done) | decide +kernel
theorem own_d1_0 : decode prog_20_method_6_code 0 = .ok (.iload_n 0, 1) := by decide +kernel
theorem own_d1_1 : decode prog_20_method_6_code 1 = .ok (.bipush 97, 2) := by decide +kernel
theorem own_d1_3 : decode prog_20_method_6_code 3 = .ok (.if_icmp .lt 9, 3) := by decide +kernel
theorem own_d1_6 : decode prog_20_method_6_code 6 = .ok (.iload_n 0, 1) := by decide +kernel
theorem own_d1_7 : decode prog_20_method_6_code 7 = .ok (.bipush 122, 2) := by decide +kernel
theorem own_d1_9 : decode prog_20_method_6_code 9 = .ok (.if_icmp .le 21, 3) := by decide +kernel
theorem own_d1_12 : decode prog_20_method_6_code 12 = .ok (.iload_n 0, 1) := by decide +kernel
theorem own_d1_13 : decode prog_20_method_6_code 13 = .ok (.bipush 65, 2) := by decide +kernel
theorem own_d1_15 : decode prog_20_method_6_code 15 = .ok (.if_icmp .lt 9, 3) := by decide +kernel
theorem own_d1_18 : decode prog_20_method_6_code 18 = .ok (.iload_n 0, 1) := by decide +kernel
theorem own_d1_19 : decode prog_20_method_6_code 19 = .ok (.bipush 90, 2) := by decide +kernel
theorem own_d1_21 : decode prog_20_method_6_code 21 = .ok (.if_icmp .le 9, 3) := by decide +kernel
theorem own_d1_24 : decode prog_20_method_6_code 24 = .ok (.iload_n 0, 1) := by decide +kernel
theorem own_d1_25 : decode prog_20_method_6_code 25 = .ok (.bipush 95, 2) := by decide +kernel
theorem own_d1_27 : decode prog_20_method_6_code 27 = .ok (.if_icmp .ne 7, 3) := by decide +kernel
theorem own_d1_30 : decode prog_20_method_6_code 30 = .ok (.iconst 1, 1) := by decide +kernel
theorem own_d1_31 : decode prog_20_method_6_code 31 = .ok (.goto 4, 3) := by decide +kernel
theorem own_d1_34 : decode prog_20_method_6_code 34 = .ok (.iconst 0, 1) := by decide +kernel
theorem own_d1_35 : decode prog_20_method_6_code 35 = .ok (.ireturn, 1) := by decide +kernel
theorem own_ef1 (m : MethodId) (p0 : Int32) : entryFrame m #[(.int p0)] 1 = mkF m 0 #[oi p0] [] := by first | (simp [entryFrame, mkF, argsToLocals, Value.category]; done) | rfl
def own_f1 (p0 : Int32) : Int32 := (if p0 < (97 : Int32) then (if p0 < (65 : Int32) then (if p0 = (95 : Int32) then (1 : Int32) else (0 : Int32)) else (if (90 : Int32) < p0 then (if p0 = (95 : Int32) then (1 : Int32) else (0 : Int32)) else (1 : Int32))) else (if (122 : Int32) < p0 then (if p0 < (65 : Int32) then (if p0 = (95 : Int32) then (1 : Int32) else (0 : Int32)) else (if (90 : Int32) < p0 then (if p0 = (95 : Int32) then (1 : Int32) else (0 : Int32)) else (1 : Int32))) else (1 : Int32)))
def own_Q1 (Z : State) (p0 : Int32) (h0 : Heap) (n0 : Nat) (v : Option Value) (h : Heap) (L : List Loc) : Prop := v = some (Value.int (own_f1 p0)) ∧ Fr n0 L ∧ h = h0
set_option maxRecDepth 65536 in
set_option maxHeartbeats 40000000 in
theorem own_rm1 (l : Launch) (Z : State) (av : Array Value) (hw : ∀ d ∈ tables_1, d.before av Z = true) (ws : List Jvm.Cond) (p0 : Int32) (h0 : Heap) (n0 : Nat) (Z0 : n0 ≤ h0.size) :
    MetFree l (⟨"com/example/typewright/typewright/declaration/Keyword", "isSpeltWith", "(C)Z"⟩ : MethodName) (head1 (Jvm.Cond.code (⟨"com/example/typewright/typewright/declaration/Keyword", "isSpeltWith", "(C)Z"⟩ : MethodName) prog_20_method_6_code 1 (some .boolean) :: ws) ({ frames := 0, cells := 0, slots := 0, locals := 0 } : Room)) (fun a U => a = #[(.int p0)] ∧ Z.Warmed39 U.vm ∧ U.heap = h0) (fun _ _ _ _ _ => True) (fun _ U o U' => ∃ v L, o = .returned v ∧ own_Q1 Z p0 h0 n0 v U'.heap L ∧ FrameEnd U o U' L ({ frames := 0, cells := 0, slots := 0, locals := 0 } : Room).cells ({ frames := 0, cells := 0, slots := 0, locals := 0 } : Room).slots) := by
  refine MetFree.of_bodySF (plainFor_of_name own_pn0) hisR ?_
  intro p e s m args below meth c s₁ Bd hml0 hP hK
  obtain ⟨rfl, hZ, hh⟩ := hP
  have hx := Bd.exec
  have hby := Bd.bytes
  have hml : c.maxLocals = 1 := hml0
  have hown : s.vm.findClass "com/example/typewright/typewright/declaration/Keyword" = some m.cls := findClass_of_methodNamed Bd.named
  have hnm := (name_of_methodNamed Bd.named Bd.method).1
  have X0 : Stand p l e ({ frames := 0, cells := 0, slots := 0, locals := 0 } : Room) s m #[(.int p0)] below meth c s₁ [] 0 0 := Stand.of_body Bd
  have e0 : s₁.heap = h0 := by rw [← hh, Bd.state]; rfl
  have N0 := Fr.nil n0
  have pre0 : ∀ t, Steps p.tables e below (s₁.setTop (mkF m 0 #[oi p0] [])) t → Steps p.tables e below (s₁.setTop (entryFrame m #[(.int p0)] 1)) t := fun t k => castTop (own_ef1 m p0) k
  have pre1 : ∀ t, Steps p.tables e below (s₁.setTop (mkF m 3 #[oi p0] [(.int (97 : Int32)), (.int p0)])) t → Steps p.tables e below (s₁.setTop (entryFrame m #[(.int p0)] 1)) t := by
    intro t k
    refine pre0 t ?_
    show oS p e below s₁ m 0 #[oi p0] [] _
    refine XS.iloadN X0.here hx rfl (hb hby own_d1_0) rfl ?_
    show oS p e below s₁ m 1 #[oi p0] [(.int p0)] _
    refine XS.bipush X0.here hx rfl (hb hby own_d1_1) ?_
    exact k
  by_cases c2 : p0 < (97 : Int32)
  · skip
    have pre3 : ∀ t, Steps p.tables e below (s₁.setTop (mkF m 15 #[oi p0] [(.int (65 : Int32)), (.int p0)])) t → Steps p.tables e below (s₁.setTop (entryFrame m #[(.int p0)] 1)) t := by
      intro t k
      refine pre1 t ?_
      show oS p e below s₁ m 3 #[oi p0] [(.int (97 : Int32)), (.int p0)] _
      refine XS.icmpYes X0.here hx rfl (pc0 := 3) (pc' := 12) rfl (hb hby own_d1_3) rfl (tlt c2).1 (by decide) (by decide) ?_
      show oS p e below s₁ m 12 #[oi p0] [] _
      refine XS.iloadN X0.here hx rfl (hb hby own_d1_12) rfl ?_
      show oS p e below s₁ m 13 #[oi p0] [(.int p0)] _
      refine XS.bipush X0.here hx rfl (hb hby own_d1_13) ?_
      exact k
    by_cases c4 : p0 < (65 : Int32)
    · skip
      have pre5 : ∀ t, Steps p.tables e below (s₁.setTop (mkF m 27 #[oi p0] [(.int (95 : Int32)), (.int p0)])) t → Steps p.tables e below (s₁.setTop (entryFrame m #[(.int p0)] 1)) t := by
        intro t k
        refine pre3 t ?_
        show oS p e below s₁ m 15 #[oi p0] [(.int (65 : Int32)), (.int p0)] _
        refine XS.icmpYes X0.here hx rfl (pc0 := 15) (pc' := 24) rfl (hb hby own_d1_15) rfl (tlt c4).1 (by decide) (by decide) ?_
        show oS p e below s₁ m 24 #[oi p0] [] _
        refine XS.iloadN X0.here hx rfl (hb hby own_d1_24) rfl ?_
        show oS p e below s₁ m 25 #[oi p0] [(.int p0)] _
        refine XS.bipush X0.here hx rfl (hb hby own_d1_25) ?_
        exact k
      by_cases c6 : p0 = (95 : Int32)
      · skip
        obtain ⟨fs, hr, hrun, hended, hW, hsame⟩ := X0.leave (v := (some (.int (1 : Int32)))) (fun h => by rw [Bd.returns] at h; cases h)
        refine ⟨_, _, pre5 _ ?_, hrun, hended, _, _, rfl, ?_, ⟨_, rfl⟩, hW, hsame.mono (by decide) (by decide)⟩
        · show oS p e below s₁ m 27 #[oi p0] [(.int (95 : Int32)), (.int p0)] _
          refine XS.icmpNo X0.here hx rfl (hb hby own_d1_27) rfl (teq c6).2 ?_
          show oS p e below s₁ m 30 #[oi p0] [] _
          refine XS.iconst X0.here hx rfl (hb hby own_d1_30) ?_
          show oS p e below s₁ m 31 #[oi p0] [(.int (1 : Int32))] _
          refine XS.goto X0.here hx rfl (pc0 := 31) (pc' := 35) rfl (hb hby own_d1_31) (by decide) (by decide) ?_
          show oS p e below s₁ m 35 #[oi p0] [(.int (1 : Int32))] _
          exact retN X0 hx (t := .boolean) Bd.returns (by simp) (hb hby own_d1_35) hr
        · show own_Q1 Z p0 h0 n0 _ s₁.heap _
          rw [e0]
          exact ⟨congrArg (fun z => some (Value.int z)) (by rw [own_f1, if_pos c2, if_pos c4, if_pos c6]), N0, rfl⟩
      · skip
        obtain ⟨fs, hr, hrun, hended, hW, hsame⟩ := X0.leave (v := (some (.int (0 : Int32)))) (fun h => by rw [Bd.returns] at h; cases h)
        refine ⟨_, _, pre5 _ ?_, hrun, hended, _, _, rfl, ?_, ⟨_, rfl⟩, hW, hsame.mono (by decide) (by decide)⟩
        · show oS p e below s₁ m 27 #[oi p0] [(.int (95 : Int32)), (.int p0)] _
          refine XS.icmpYes X0.here hx rfl (pc0 := 27) (pc' := 34) rfl (hb hby own_d1_27) rfl (feq c6).2 (by decide) (by decide) ?_
          show oS p e below s₁ m 34 #[oi p0] [] _
          refine XS.iconst X0.here hx rfl (hb hby own_d1_34) ?_
          show oS p e below s₁ m 35 #[oi p0] [(.int (0 : Int32))] _
          exact retN X0 hx (t := .boolean) Bd.returns (by simp) (hb hby own_d1_35) hr
        · show own_Q1 Z p0 h0 n0 _ s₁.heap _
          rw [e0]
          exact ⟨congrArg (fun z => some (Value.int z)) (by rw [own_f1, if_pos c2, if_pos c4, if_neg c6]), N0, rfl⟩
    · skip
      have pre7 : ∀ t, Steps p.tables e below (s₁.setTop (mkF m 21 #[oi p0] [(.int (90 : Int32)), (.int p0)])) t → Steps p.tables e below (s₁.setTop (entryFrame m #[(.int p0)] 1)) t := by
        intro t k
        refine pre3 t ?_
        show oS p e below s₁ m 15 #[oi p0] [(.int (65 : Int32)), (.int p0)] _
        refine XS.icmpNo X0.here hx rfl (hb hby own_d1_15) rfl (flt c4).1 ?_
        show oS p e below s₁ m 18 #[oi p0] [] _
        refine XS.iloadN X0.here hx rfl (hb hby own_d1_18) rfl ?_
        show oS p e below s₁ m 19 #[oi p0] [(.int p0)] _
        refine XS.bipush X0.here hx rfl (hb hby own_d1_19) ?_
        exact k
      by_cases c8 : (90 : Int32) < p0
      · skip
        have pre9 : ∀ t, Steps p.tables e below (s₁.setTop (mkF m 27 #[oi p0] [(.int (95 : Int32)), (.int p0)])) t → Steps p.tables e below (s₁.setTop (entryFrame m #[(.int p0)] 1)) t := by
          intro t k
          refine pre7 t ?_
          show oS p e below s₁ m 21 #[oi p0] [(.int (90 : Int32)), (.int p0)] _
          refine XS.icmpNo X0.here hx rfl (hb hby own_d1_21) rfl (tlt c8).2.2.2 ?_
          show oS p e below s₁ m 24 #[oi p0] [] _
          refine XS.iloadN X0.here hx rfl (hb hby own_d1_24) rfl ?_
          show oS p e below s₁ m 25 #[oi p0] [(.int p0)] _
          refine XS.bipush X0.here hx rfl (hb hby own_d1_25) ?_
          exact k
        by_cases c10 : p0 = (95 : Int32)
        · skip
          obtain ⟨fs, hr, hrun, hended, hW, hsame⟩ := X0.leave (v := (some (.int (1 : Int32)))) (fun h => by rw [Bd.returns] at h; cases h)
          refine ⟨_, _, pre9 _ ?_, hrun, hended, _, _, rfl, ?_, ⟨_, rfl⟩, hW, hsame.mono (by decide) (by decide)⟩
          · show oS p e below s₁ m 27 #[oi p0] [(.int (95 : Int32)), (.int p0)] _
            refine XS.icmpNo X0.here hx rfl (hb hby own_d1_27) rfl (teq c10).2 ?_
            show oS p e below s₁ m 30 #[oi p0] [] _
            refine XS.iconst X0.here hx rfl (hb hby own_d1_30) ?_
            show oS p e below s₁ m 31 #[oi p0] [(.int (1 : Int32))] _
            refine XS.goto X0.here hx rfl (pc0 := 31) (pc' := 35) rfl (hb hby own_d1_31) (by decide) (by decide) ?_
            show oS p e below s₁ m 35 #[oi p0] [(.int (1 : Int32))] _
            exact retN X0 hx (t := .boolean) Bd.returns (by simp) (hb hby own_d1_35) hr
          · show own_Q1 Z p0 h0 n0 _ s₁.heap _
            rw [e0]
            exact ⟨congrArg (fun z => some (Value.int z)) (by rw [own_f1, if_pos c2, if_neg c4, if_pos c8, if_pos c10]), N0, rfl⟩
        · skip
          obtain ⟨fs, hr, hrun, hended, hW, hsame⟩ := X0.leave (v := (some (.int (0 : Int32)))) (fun h => by rw [Bd.returns] at h; cases h)
          refine ⟨_, _, pre9 _ ?_, hrun, hended, _, _, rfl, ?_, ⟨_, rfl⟩, hW, hsame.mono (by decide) (by decide)⟩
          · show oS p e below s₁ m 27 #[oi p0] [(.int (95 : Int32)), (.int p0)] _
            refine XS.icmpYes X0.here hx rfl (pc0 := 27) (pc' := 34) rfl (hb hby own_d1_27) rfl (feq c10).2 (by decide) (by decide) ?_
            show oS p e below s₁ m 34 #[oi p0] [] _
            refine XS.iconst X0.here hx rfl (hb hby own_d1_34) ?_
            show oS p e below s₁ m 35 #[oi p0] [(.int (0 : Int32))] _
            exact retN X0 hx (t := .boolean) Bd.returns (by simp) (hb hby own_d1_35) hr
          · show own_Q1 Z p0 h0 n0 _ s₁.heap _
            rw [e0]
            exact ⟨congrArg (fun z => some (Value.int z)) (by rw [own_f1, if_pos c2, if_neg c4, if_pos c8, if_neg c10]), N0, rfl⟩
      · skip
        obtain ⟨fs, hr, hrun, hended, hW, hsame⟩ := X0.leave (v := (some (.int (1 : Int32)))) (fun h => by rw [Bd.returns] at h; cases h)
        refine ⟨_, _, pre7 _ ?_, hrun, hended, _, _, rfl, ?_, ⟨_, rfl⟩, hW, hsame.mono (by decide) (by decide)⟩
        · show oS p e below s₁ m 21 #[oi p0] [(.int (90 : Int32)), (.int p0)] _
          refine XS.icmpYes X0.here hx rfl (pc0 := 21) (pc' := 30) rfl (hb hby own_d1_21) rfl (flt c8).2.2.2 (by decide) (by decide) ?_
          show oS p e below s₁ m 30 #[oi p0] [] _
          refine XS.iconst X0.here hx rfl (hb hby own_d1_30) ?_
          show oS p e below s₁ m 31 #[oi p0] [(.int (1 : Int32))] _
          refine XS.goto X0.here hx rfl (pc0 := 31) (pc' := 35) rfl (hb hby own_d1_31) (by decide) (by decide) ?_
          show oS p e below s₁ m 35 #[oi p0] [(.int (1 : Int32))] _
          exact retN X0 hx (t := .boolean) Bd.returns (by simp) (hb hby own_d1_35) hr
        · show own_Q1 Z p0 h0 n0 _ s₁.heap _
          rw [e0]
          exact ⟨congrArg (fun z => some (Value.int z)) (by rw [own_f1, if_pos c2, if_neg c4, if_neg c8]), N0, rfl⟩
  · skip
    have pre11 : ∀ t, Steps p.tables e below (s₁.setTop (mkF m 9 #[oi p0] [(.int (122 : Int32)), (.int p0)])) t → Steps p.tables e below (s₁.setTop (entryFrame m #[(.int p0)] 1)) t := by
      intro t k
      refine pre1 t ?_
      show oS p e below s₁ m 3 #[oi p0] [(.int (97 : Int32)), (.int p0)] _
      refine XS.icmpNo X0.here hx rfl (hb hby own_d1_3) rfl (flt c2).1 ?_
      show oS p e below s₁ m 6 #[oi p0] [] _
      refine XS.iloadN X0.here hx rfl (hb hby own_d1_6) rfl ?_
      show oS p e below s₁ m 7 #[oi p0] [(.int p0)] _
      refine XS.bipush X0.here hx rfl (hb hby own_d1_7) ?_
      exact k
    by_cases c12 : (122 : Int32) < p0
    · skip
      have pre13 : ∀ t, Steps p.tables e below (s₁.setTop (mkF m 15 #[oi p0] [(.int (65 : Int32)), (.int p0)])) t → Steps p.tables e below (s₁.setTop (entryFrame m #[(.int p0)] 1)) t := by
        intro t k
        refine pre11 t ?_
        show oS p e below s₁ m 9 #[oi p0] [(.int (122 : Int32)), (.int p0)] _
        refine XS.icmpNo X0.here hx rfl (hb hby own_d1_9) rfl (tlt c12).2.2.2 ?_
        show oS p e below s₁ m 12 #[oi p0] [] _
        refine XS.iloadN X0.here hx rfl (hb hby own_d1_12) rfl ?_
        show oS p e below s₁ m 13 #[oi p0] [(.int p0)] _
        refine XS.bipush X0.here hx rfl (hb hby own_d1_13) ?_
        exact k
      by_cases c14 : p0 < (65 : Int32)
      · skip
        have pre15 : ∀ t, Steps p.tables e below (s₁.setTop (mkF m 27 #[oi p0] [(.int (95 : Int32)), (.int p0)])) t → Steps p.tables e below (s₁.setTop (entryFrame m #[(.int p0)] 1)) t := by
          intro t k
          refine pre13 t ?_
          show oS p e below s₁ m 15 #[oi p0] [(.int (65 : Int32)), (.int p0)] _
          refine XS.icmpYes X0.here hx rfl (pc0 := 15) (pc' := 24) rfl (hb hby own_d1_15) rfl (tlt c14).1 (by decide) (by decide) ?_
          show oS p e below s₁ m 24 #[oi p0] [] _
          refine XS.iloadN X0.here hx rfl (hb hby own_d1_24) rfl ?_
          show oS p e below s₁ m 25 #[oi p0] [(.int p0)] _
          refine XS.bipush X0.here hx rfl (hb hby own_d1_25) ?_
          exact k
        by_cases c16 : p0 = (95 : Int32)
        · skip
          obtain ⟨fs, hr, hrun, hended, hW, hsame⟩ := X0.leave (v := (some (.int (1 : Int32)))) (fun h => by rw [Bd.returns] at h; cases h)
          refine ⟨_, _, pre15 _ ?_, hrun, hended, _, _, rfl, ?_, ⟨_, rfl⟩, hW, hsame.mono (by decide) (by decide)⟩
          · show oS p e below s₁ m 27 #[oi p0] [(.int (95 : Int32)), (.int p0)] _
            refine XS.icmpNo X0.here hx rfl (hb hby own_d1_27) rfl (teq c16).2 ?_
            show oS p e below s₁ m 30 #[oi p0] [] _
            refine XS.iconst X0.here hx rfl (hb hby own_d1_30) ?_
            show oS p e below s₁ m 31 #[oi p0] [(.int (1 : Int32))] _
            refine XS.goto X0.here hx rfl (pc0 := 31) (pc' := 35) rfl (hb hby own_d1_31) (by decide) (by decide) ?_
            show oS p e below s₁ m 35 #[oi p0] [(.int (1 : Int32))] _
            exact retN X0 hx (t := .boolean) Bd.returns (by simp) (hb hby own_d1_35) hr
          · show own_Q1 Z p0 h0 n0 _ s₁.heap _
            rw [e0]
            exact ⟨congrArg (fun z => some (Value.int z)) (by rw [own_f1, if_neg c2, if_pos c12, if_pos c14, if_pos c16]), N0, rfl⟩
        · skip
          obtain ⟨fs, hr, hrun, hended, hW, hsame⟩ := X0.leave (v := (some (.int (0 : Int32)))) (fun h => by rw [Bd.returns] at h; cases h)
          refine ⟨_, _, pre15 _ ?_, hrun, hended, _, _, rfl, ?_, ⟨_, rfl⟩, hW, hsame.mono (by decide) (by decide)⟩
          · show oS p e below s₁ m 27 #[oi p0] [(.int (95 : Int32)), (.int p0)] _
            refine XS.icmpYes X0.here hx rfl (pc0 := 27) (pc' := 34) rfl (hb hby own_d1_27) rfl (feq c16).2 (by decide) (by decide) ?_
            show oS p e below s₁ m 34 #[oi p0] [] _
            refine XS.iconst X0.here hx rfl (hb hby own_d1_34) ?_
            show oS p e below s₁ m 35 #[oi p0] [(.int (0 : Int32))] _
            exact retN X0 hx (t := .boolean) Bd.returns (by simp) (hb hby own_d1_35) hr
          · show own_Q1 Z p0 h0 n0 _ s₁.heap _
            rw [e0]
            exact ⟨congrArg (fun z => some (Value.int z)) (by rw [own_f1, if_neg c2, if_pos c12, if_pos c14, if_neg c16]), N0, rfl⟩
      · skip
        have pre17 : ∀ t, Steps p.tables e below (s₁.setTop (mkF m 21 #[oi p0] [(.int (90 : Int32)), (.int p0)])) t → Steps p.tables e below (s₁.setTop (entryFrame m #[(.int p0)] 1)) t := by
          intro t k
          refine pre13 t ?_
          show oS p e below s₁ m 15 #[oi p0] [(.int (65 : Int32)), (.int p0)] _
          refine XS.icmpNo X0.here hx rfl (hb hby own_d1_15) rfl (flt c14).1 ?_
          show oS p e below s₁ m 18 #[oi p0] [] _
          refine XS.iloadN X0.here hx rfl (hb hby own_d1_18) rfl ?_
          show oS p e below s₁ m 19 #[oi p0] [(.int p0)] _
          refine XS.bipush X0.here hx rfl (hb hby own_d1_19) ?_
          exact k
        by_cases c18 : (90 : Int32) < p0
        · skip
          have pre19 : ∀ t, Steps p.tables e below (s₁.setTop (mkF m 27 #[oi p0] [(.int (95 : Int32)), (.int p0)])) t → Steps p.tables e below (s₁.setTop (entryFrame m #[(.int p0)] 1)) t := by
            intro t k
            refine pre17 t ?_
            show oS p e below s₁ m 21 #[oi p0] [(.int (90 : Int32)), (.int p0)] _
            refine XS.icmpNo X0.here hx rfl (hb hby own_d1_21) rfl (tlt c18).2.2.2 ?_
            show oS p e below s₁ m 24 #[oi p0] [] _
            refine XS.iloadN X0.here hx rfl (hb hby own_d1_24) rfl ?_
            show oS p e below s₁ m 25 #[oi p0] [(.int p0)] _
            refine XS.bipush X0.here hx rfl (hb hby own_d1_25) ?_
            exact k
          by_cases c20 : p0 = (95 : Int32)
          · skip
            obtain ⟨fs, hr, hrun, hended, hW, hsame⟩ := X0.leave (v := (some (.int (1 : Int32)))) (fun h => by rw [Bd.returns] at h; cases h)
            refine ⟨_, _, pre19 _ ?_, hrun, hended, _, _, rfl, ?_, ⟨_, rfl⟩, hW, hsame.mono (by decide) (by decide)⟩
            · show oS p e below s₁ m 27 #[oi p0] [(.int (95 : Int32)), (.int p0)] _
              refine XS.icmpNo X0.here hx rfl (hb hby own_d1_27) rfl (teq c20).2 ?_
              show oS p e below s₁ m 30 #[oi p0] [] _
              refine XS.iconst X0.here hx rfl (hb hby own_d1_30) ?_
              show oS p e below s₁ m 31 #[oi p0] [(.int (1 : Int32))] _
              refine XS.goto X0.here hx rfl (pc0 := 31) (pc' := 35) rfl (hb hby own_d1_31) (by decide) (by decide) ?_
              show oS p e below s₁ m 35 #[oi p0] [(.int (1 : Int32))] _
              exact retN X0 hx (t := .boolean) Bd.returns (by simp) (hb hby own_d1_35) hr
            · show own_Q1 Z p0 h0 n0 _ s₁.heap _
              rw [e0]
              exact ⟨congrArg (fun z => some (Value.int z)) (by rw [own_f1, if_neg c2, if_pos c12, if_neg c14, if_pos c18, if_pos c20]), N0, rfl⟩
          · skip
            obtain ⟨fs, hr, hrun, hended, hW, hsame⟩ := X0.leave (v := (some (.int (0 : Int32)))) (fun h => by rw [Bd.returns] at h; cases h)
            refine ⟨_, _, pre19 _ ?_, hrun, hended, _, _, rfl, ?_, ⟨_, rfl⟩, hW, hsame.mono (by decide) (by decide)⟩
            · show oS p e below s₁ m 27 #[oi p0] [(.int (95 : Int32)), (.int p0)] _
              refine XS.icmpYes X0.here hx rfl (pc0 := 27) (pc' := 34) rfl (hb hby own_d1_27) rfl (feq c20).2 (by decide) (by decide) ?_
              show oS p e below s₁ m 34 #[oi p0] [] _
              refine XS.iconst X0.here hx rfl (hb hby own_d1_34) ?_
              show oS p e below s₁ m 35 #[oi p0] [(.int (0 : Int32))] _
              exact retN X0 hx (t := .boolean) Bd.returns (by simp) (hb hby own_d1_35) hr
            · show own_Q1 Z p0 h0 n0 _ s₁.heap _
              rw [e0]
              exact ⟨congrArg (fun z => some (Value.int z)) (by rw [own_f1, if_neg c2, if_pos c12, if_neg c14, if_pos c18, if_neg c20]), N0, rfl⟩
        · skip
          obtain ⟨fs, hr, hrun, hended, hW, hsame⟩ := X0.leave (v := (some (.int (1 : Int32)))) (fun h => by rw [Bd.returns] at h; cases h)
          refine ⟨_, _, pre17 _ ?_, hrun, hended, _, _, rfl, ?_, ⟨_, rfl⟩, hW, hsame.mono (by decide) (by decide)⟩
          · show oS p e below s₁ m 21 #[oi p0] [(.int (90 : Int32)), (.int p0)] _
            refine XS.icmpYes X0.here hx rfl (pc0 := 21) (pc' := 30) rfl (hb hby own_d1_21) rfl (flt c18).2.2.2 (by decide) (by decide) ?_
            show oS p e below s₁ m 30 #[oi p0] [] _
            refine XS.iconst X0.here hx rfl (hb hby own_d1_30) ?_
            show oS p e below s₁ m 31 #[oi p0] [(.int (1 : Int32))] _
            refine XS.goto X0.here hx rfl (pc0 := 31) (pc' := 35) rfl (hb hby own_d1_31) (by decide) (by decide) ?_
            show oS p e below s₁ m 35 #[oi p0] [(.int (1 : Int32))] _
            exact retN X0 hx (t := .boolean) Bd.returns (by simp) (hb hby own_d1_35) hr
          · show own_Q1 Z p0 h0 n0 _ s₁.heap _
            rw [e0]
            exact ⟨congrArg (fun z => some (Value.int z)) (by rw [own_f1, if_neg c2, if_pos c12, if_neg c14, if_neg c18]), N0, rfl⟩
    · skip
      obtain ⟨fs, hr, hrun, hended, hW, hsame⟩ := X0.leave (v := (some (.int (1 : Int32)))) (fun h => by rw [Bd.returns] at h; cases h)
      refine ⟨_, _, pre11 _ ?_, hrun, hended, _, _, rfl, ?_, ⟨_, rfl⟩, hW, hsame.mono (by decide) (by decide)⟩
      · show oS p e below s₁ m 9 #[oi p0] [(.int (122 : Int32)), (.int p0)] _
        refine XS.icmpYes X0.here hx rfl (pc0 := 9) (pc' := 30) rfl (hb hby own_d1_9) rfl (flt c12).2.2.2 (by decide) (by decide) ?_
        show oS p e below s₁ m 30 #[oi p0] [] _
        refine XS.iconst X0.here hx rfl (hb hby own_d1_30) ?_
        show oS p e below s₁ m 31 #[oi p0] [(.int (1 : Int32))] _
        refine XS.goto X0.here hx rfl (pc0 := 31) (pc' := 35) rfl (hb hby own_d1_31) (by decide) (by decide) ?_
        show oS p e below s₁ m 35 #[oi p0] [(.int (1 : Int32))] _
        exact retN X0 hx (t := .boolean) Bd.returns (by simp) (hb hby own_d1_35) hr
      · show own_Q1 Z p0 h0 n0 _ s₁.heap _
        rw [e0]
        exact ⟨congrArg (fun z => some (Value.int z)) (by rw [own_f1, if_neg c2, if_neg c12]), N0, rfl⟩
def own_g (c : Int32) : Int32 := (if (c ||| (32 : Int32)) < (97 : Int32) then (if c = (95 : Int32) then (1 : Int32) else (0 : Int32)) else (if (122 : Int32) < (c ||| (32 : Int32)) then (if c = (95 : Int32) then (1 : Int32) else (0 : Int32)) else (1 : Int32)))
theorem own_small : ∀ i : Fin 128, own_f1 (Int32.ofNat i.1) = own_g (Int32.ofNat i.1) := by decide +kernel
theorem own_eq (c : Int32) : own_f1 c = own_g c := by
  by_cases h0 : 0 ≤ c.toInt
  · by_cases h1 : c.toInt < 128
    · exact own_of_range (P := fun c => own_f1 c = own_g c) 128 own_small c h0 h1
    · have h2 := c_or0 c 32 h0 (by decide)
      unfold own_f1 own_g
      simp only [own_ltp, own_eqp c, Int32.reduceToInt]
      repeat' split
      all_goals first | rfl | (exfalso; omega)
  · have h2 := (c_orS c 32).2.1 (by omega)
    unfold own_f1 own_g
    simp only [own_ltp, own_eqp c, Int32.reduceToInt]
    repeat' split
    all_goals first | rfl | (exfalso; omega)
theorem own_pd0 : parseMethodDescriptor "(C)Z" = some ⟨[.char], some .boolean⟩ := by decide +kernel
theorem own_pn1 : plainName "com/example/typewright/typewright/declaration/KeywordIsSpeltWithPinLaw" = true := by first | (simp [plainName, overriddenIn]; done) | decide +kernel
theorem own_ef0 (m : MethodId) (p0 : Int32) : entryFrame m #[(.int p0)] maxLocals = mkF m 0 #[oi p0, .unset, .unset, .unset] [] := by first | (simp [entryFrame, mkF, argsToLocals, Value.category, maxLocals]; done) | rfl
def own_Q0 (Z : State) (p0 : Int32) (h0 : Heap) (n0 : Nat) (v : Option Value) (h : Heap) (L : List Loc) : Prop := v = some (Value.int (1 : Int32)) ∧ Fr n0 L
set_option maxRecDepth 65536 in
set_option maxHeartbeats 40000000 in
theorem own_rm0 (l : Launch) (Z : State) (av : Array Value) (hw : ∀ d ∈ tables_1, d.before av Z = true) (ws : List Jvm.Cond) (p0 : Int32) (h0 : Heap) (n0 : Nat) (Z0 : n0 ≤ h0.size) :
    MetFree l x (head1 (Jvm.Cond.code x code maxLocals ret :: ws) room_1) (fun a U => a = #[(.int p0)] ∧ Z.Warmed39 U.vm ∧ U.heap = h0) (fun _ _ _ _ _ => True) (fun _ U o U' => ∃ v L, o = .returned v ∧ own_Q0 Z p0 h0 n0 v U'.heap L ∧ FrameEnd U o U' L room_1.cells room_1.slots) := by
  refine MetFree.of_bodySF (plainFor_of_name own_pn1) hisR ?_
  intro p e s m args below meth c s₁ Bd hml0 hP hK
  obtain ⟨rfl, hZ, hh⟩ := hP
  have hx := Bd.exec
  have hby := Bd.bytes
  have hml : c.maxLocals = 4 := hml0
  have hown : s.vm.findClass "com/example/typewright/typewright/declaration/KeywordIsSpeltWithPinLaw" = some m.cls := findClass_of_methodNamed Bd.named
  have hnm := (name_of_methodNamed Bd.named Bd.method).1
  have X0 : Stand p l e room_1 s m #[(.int p0)] below meth c s₁ [] 0 0 := Stand.of_body Bd
  have e0 : s₁.heap = h0 := by rw [← hh, Bd.state]; rfl
  have N0 := Fr.nil n0
  have pre0 : ∀ t, Steps p.tables e below (s₁.setTop (mkF m 0 #[oi p0, .unset, .unset, .unset] [])) t → Steps p.tables e below (s₁.setTop (entryFrame m #[(.int p0)] maxLocals)) t := fun t k => castTop (own_ef0 m p0) k
  have pre1 : ∀ t, Steps p.tables e below (s₁.setTop (mkF m 5 #[oi p0, .unset, .unset, .unset] [(.int ((p0 &&& (65535 : Int32)).toUInt32.toUInt16.toUInt32.toInt32))])) t → Steps p.tables e below (s₁.setTop (entryFrame m #[(.int p0)] maxLocals)) t := by
    intro t k
    refine pre0 t ?_
    show oS p e below s₁ m 0 #[oi p0, .unset, .unset, .unset] [] _
    refine XS.iloadN X0.here hx rfl (hb hby at_0) rfl ?_
    show oS p e below s₁ m 1 #[oi p0, .unset, .unset, .unset] [(.int p0)] _
    refine X0.ldcInt hx hown (mvT hZ (hw _ (List.mem_of_getElem? (i := 0) rfl))) (g := (mkF m 1 #[oi p0, .unset, .unset, .unset] [(.int p0)])) rfl (hb hby at_1) _ ?_
    show oS p e below s₁ m 3 #[oi p0, .unset, .unset, .unset] [(.int (65535 : Int32)), (.int p0)] _
    refine XS.iand X0.here hx rfl (hb hby at_3) rfl ?_
    show oS p e below s₁ m 4 #[oi p0, .unset, .unset, .unset] [(.int (p0 &&& (65535 : Int32)))] _
    refine XS.i2c X0.here hx rfl (hb hby at_4) rfl ?_
    exact k
  obtain ⟨v2, hv2⟩ : ∃ z : Int32, z = ((p0 &&& (65535 : Int32)).toUInt32.toUInt16.toUInt32.toInt32) := ⟨_, rfl⟩
  rw [← hv2] at pre1
  have pre3 : ∀ t, Steps p.tables e below (s₁.setTop (mkF m 14 #[oi p0, oi v2, oi (v2 ||| (32 : Int32)), .unset] [(.int (97 : Int32)), (.int (v2 ||| (32 : Int32)))])) t → Steps p.tables e below (s₁.setTop (entryFrame m #[(.int p0)] maxLocals)) t := by
    intro t k
    refine pre1 t ?_
    show oS p e below s₁ m 5 #[oi p0, .unset, .unset, .unset] [(.int v2)] _
    refine XS.istoreN X0.here hx rfl (hb hby at_5) rfl (l' := #[oi p0, oi v2, .unset, .unset]) rfl ?_
    show oS p e below s₁ m 6 #[oi p0, oi v2, .unset, .unset] [] _
    refine XS.iloadN X0.here hx rfl (hb hby at_6) rfl ?_
    show oS p e below s₁ m 7 #[oi p0, oi v2, .unset, .unset] [(.int v2)] _
    refine XS.bipush X0.here hx rfl (hb hby at_7) ?_
    show oS p e below s₁ m 9 #[oi p0, oi v2, .unset, .unset] [(.int (32 : Int32)), (.int v2)] _
    refine XS.ior X0.here hx rfl (hb hby at_9) rfl ?_
    show oS p e below s₁ m 10 #[oi p0, oi v2, .unset, .unset] [(.int (v2 ||| (32 : Int32)))] _
    refine XS.istoreN X0.here hx rfl (hb hby at_10) rfl (l' := #[oi p0, oi v2, oi (v2 ||| (32 : Int32)), .unset]) rfl ?_
    show oS p e below s₁ m 11 #[oi p0, oi v2, oi (v2 ||| (32 : Int32)), .unset] [] _
    refine XS.iloadN X0.here hx rfl (hb hby at_11) rfl ?_
    show oS p e below s₁ m 12 #[oi p0, oi v2, oi (v2 ||| (32 : Int32)), .unset] [(.int (v2 ||| (32 : Int32)))] _
    refine XS.bipush X0.here hx rfl (hb hby at_12) ?_
    exact k
  obtain ⟨v8, hv8⟩ : ∃ z : Int32, z = (if (v2 ||| (32 : Int32)) < (97 : Int32) then (if v2 = (95 : Int32) then (1 : Int32) else (0 : Int32)) else (if (122 : Int32) < (v2 ||| (32 : Int32)) then (if v2 = (95 : Int32) then (1 : Int32) else (0 : Int32)) else (1 : Int32))) := ⟨_, rfl⟩
  have pre9 : ∀ t, Steps p.tables e below (s₁.setTop (mkF m 34 #[oi p0, oi v2, oi (v2 ||| (32 : Int32)), .unset] [(.int v8)])) t → Steps p.tables e below (s₁.setTop (entryFrame m #[(.int p0)] maxLocals)) t := by
    intro t k
    by_cases c4 : (v2 ||| (32 : Int32)) < (97 : Int32)
    · skip
      by_cases c5 : v2 = (95 : Int32)
      · skip
        rw [show v8 = (1 : Int32) from hv8.trans (by rw [if_pos c4, if_pos c5])] at k
        refine pre3 t ?_
        show oS p e below s₁ m 14 #[oi p0, oi v2, oi (v2 ||| (32 : Int32)), .unset] [(.int (97 : Int32)), (.int (v2 ||| (32 : Int32)))] _
        refine XS.icmpYes X0.here hx rfl (pc0 := 14) (pc' := 23) rfl (hb hby at_14) rfl (tlt c4).1 (by decide) (by decide) ?_
        show oS p e below s₁ m 23 #[oi p0, oi v2, oi (v2 ||| (32 : Int32)), .unset] [] _
        refine XS.iloadN X0.here hx rfl (hb hby at_23) rfl ?_
        show oS p e below s₁ m 24 #[oi p0, oi v2, oi (v2 ||| (32 : Int32)), .unset] [(.int v2)] _
        refine XS.bipush X0.here hx rfl (hb hby at_24) ?_
        show oS p e below s₁ m 26 #[oi p0, oi v2, oi (v2 ||| (32 : Int32)), .unset] [(.int (95 : Int32)), (.int v2)] _
        refine XS.icmpNo X0.here hx rfl (hb hby at_26) rfl (teq c5).2 ?_
        show oS p e below s₁ m 29 #[oi p0, oi v2, oi (v2 ||| (32 : Int32)), .unset] [] _
        refine XS.iconst X0.here hx rfl (hb hby at_29) ?_
        show oS p e below s₁ m 30 #[oi p0, oi v2, oi (v2 ||| (32 : Int32)), .unset] [(.int (1 : Int32))] _
        refine XS.goto X0.here hx rfl (pc0 := 30) (pc' := 34) rfl (hb hby at_30) (by decide) (by decide) ?_
        exact k
      · skip
        rw [show v8 = (0 : Int32) from hv8.trans (by rw [if_pos c4, if_neg c5])] at k
        refine pre3 t ?_
        show oS p e below s₁ m 14 #[oi p0, oi v2, oi (v2 ||| (32 : Int32)), .unset] [(.int (97 : Int32)), (.int (v2 ||| (32 : Int32)))] _
        refine XS.icmpYes X0.here hx rfl (pc0 := 14) (pc' := 23) rfl (hb hby at_14) rfl (tlt c4).1 (by decide) (by decide) ?_
        show oS p e below s₁ m 23 #[oi p0, oi v2, oi (v2 ||| (32 : Int32)), .unset] [] _
        refine XS.iloadN X0.here hx rfl (hb hby at_23) rfl ?_
        show oS p e below s₁ m 24 #[oi p0, oi v2, oi (v2 ||| (32 : Int32)), .unset] [(.int v2)] _
        refine XS.bipush X0.here hx rfl (hb hby at_24) ?_
        show oS p e below s₁ m 26 #[oi p0, oi v2, oi (v2 ||| (32 : Int32)), .unset] [(.int (95 : Int32)), (.int v2)] _
        refine XS.icmpYes X0.here hx rfl (pc0 := 26) (pc' := 33) rfl (hb hby at_26) rfl (feq c5).2 (by decide) (by decide) ?_
        show oS p e below s₁ m 33 #[oi p0, oi v2, oi (v2 ||| (32 : Int32)), .unset] [] _
        refine XS.iconst X0.here hx rfl (hb hby at_33) ?_
        exact k
    · skip
      by_cases c6 : (122 : Int32) < (v2 ||| (32 : Int32))
      · skip
        by_cases c7 : v2 = (95 : Int32)
        · skip
          rw [show v8 = (1 : Int32) from hv8.trans (by rw [if_neg c4, if_pos c6, if_pos c7])] at k
          refine pre3 t ?_
          show oS p e below s₁ m 14 #[oi p0, oi v2, oi (v2 ||| (32 : Int32)), .unset] [(.int (97 : Int32)), (.int (v2 ||| (32 : Int32)))] _
          refine XS.icmpNo X0.here hx rfl (hb hby at_14) rfl (flt c4).1 ?_
          show oS p e below s₁ m 17 #[oi p0, oi v2, oi (v2 ||| (32 : Int32)), .unset] [] _
          refine XS.iloadN X0.here hx rfl (hb hby at_17) rfl ?_
          show oS p e below s₁ m 18 #[oi p0, oi v2, oi (v2 ||| (32 : Int32)), .unset] [(.int (v2 ||| (32 : Int32)))] _
          refine XS.bipush X0.here hx rfl (hb hby at_18) ?_
          show oS p e below s₁ m 20 #[oi p0, oi v2, oi (v2 ||| (32 : Int32)), .unset] [(.int (122 : Int32)), (.int (v2 ||| (32 : Int32)))] _
          refine XS.icmpNo X0.here hx rfl (hb hby at_20) rfl (tlt c6).2.2.2 ?_
          show oS p e below s₁ m 23 #[oi p0, oi v2, oi (v2 ||| (32 : Int32)), .unset] [] _
          refine XS.iloadN X0.here hx rfl (hb hby at_23) rfl ?_
          show oS p e below s₁ m 24 #[oi p0, oi v2, oi (v2 ||| (32 : Int32)), .unset] [(.int v2)] _
          refine XS.bipush X0.here hx rfl (hb hby at_24) ?_
          show oS p e below s₁ m 26 #[oi p0, oi v2, oi (v2 ||| (32 : Int32)), .unset] [(.int (95 : Int32)), (.int v2)] _
          refine XS.icmpNo X0.here hx rfl (hb hby at_26) rfl (teq c7).2 ?_
          show oS p e below s₁ m 29 #[oi p0, oi v2, oi (v2 ||| (32 : Int32)), .unset] [] _
          refine XS.iconst X0.here hx rfl (hb hby at_29) ?_
          show oS p e below s₁ m 30 #[oi p0, oi v2, oi (v2 ||| (32 : Int32)), .unset] [(.int (1 : Int32))] _
          refine XS.goto X0.here hx rfl (pc0 := 30) (pc' := 34) rfl (hb hby at_30) (by decide) (by decide) ?_
          exact k
        · skip
          rw [show v8 = (0 : Int32) from hv8.trans (by rw [if_neg c4, if_pos c6, if_neg c7])] at k
          refine pre3 t ?_
          show oS p e below s₁ m 14 #[oi p0, oi v2, oi (v2 ||| (32 : Int32)), .unset] [(.int (97 : Int32)), (.int (v2 ||| (32 : Int32)))] _
          refine XS.icmpNo X0.here hx rfl (hb hby at_14) rfl (flt c4).1 ?_
          show oS p e below s₁ m 17 #[oi p0, oi v2, oi (v2 ||| (32 : Int32)), .unset] [] _
          refine XS.iloadN X0.here hx rfl (hb hby at_17) rfl ?_
          show oS p e below s₁ m 18 #[oi p0, oi v2, oi (v2 ||| (32 : Int32)), .unset] [(.int (v2 ||| (32 : Int32)))] _
          refine XS.bipush X0.here hx rfl (hb hby at_18) ?_
          show oS p e below s₁ m 20 #[oi p0, oi v2, oi (v2 ||| (32 : Int32)), .unset] [(.int (122 : Int32)), (.int (v2 ||| (32 : Int32)))] _
          refine XS.icmpNo X0.here hx rfl (hb hby at_20) rfl (tlt c6).2.2.2 ?_
          show oS p e below s₁ m 23 #[oi p0, oi v2, oi (v2 ||| (32 : Int32)), .unset] [] _
          refine XS.iloadN X0.here hx rfl (hb hby at_23) rfl ?_
          show oS p e below s₁ m 24 #[oi p0, oi v2, oi (v2 ||| (32 : Int32)), .unset] [(.int v2)] _
          refine XS.bipush X0.here hx rfl (hb hby at_24) ?_
          show oS p e below s₁ m 26 #[oi p0, oi v2, oi (v2 ||| (32 : Int32)), .unset] [(.int (95 : Int32)), (.int v2)] _
          refine XS.icmpYes X0.here hx rfl (pc0 := 26) (pc' := 33) rfl (hb hby at_26) rfl (feq c7).2 (by decide) (by decide) ?_
          show oS p e below s₁ m 33 #[oi p0, oi v2, oi (v2 ||| (32 : Int32)), .unset] [] _
          refine XS.iconst X0.here hx rfl (hb hby at_33) ?_
          exact k
      · skip
        rw [show v8 = (1 : Int32) from hv8.trans (by rw [if_neg c4, if_neg c6])] at k
        refine pre3 t ?_
        show oS p e below s₁ m 14 #[oi p0, oi v2, oi (v2 ||| (32 : Int32)), .unset] [(.int (97 : Int32)), (.int (v2 ||| (32 : Int32)))] _
        refine XS.icmpNo X0.here hx rfl (hb hby at_14) rfl (flt c4).1 ?_
        show oS p e below s₁ m 17 #[oi p0, oi v2, oi (v2 ||| (32 : Int32)), .unset] [] _
        refine XS.iloadN X0.here hx rfl (hb hby at_17) rfl ?_
        show oS p e below s₁ m 18 #[oi p0, oi v2, oi (v2 ||| (32 : Int32)), .unset] [(.int (v2 ||| (32 : Int32)))] _
        refine XS.bipush X0.here hx rfl (hb hby at_18) ?_
        show oS p e below s₁ m 20 #[oi p0, oi v2, oi (v2 ||| (32 : Int32)), .unset] [(.int (122 : Int32)), (.int (v2 ||| (32 : Int32)))] _
        refine XS.icmpYes X0.here hx rfl (pc0 := 20) (pc' := 29) rfl (hb hby at_20) rfl (flt c6).2.2.2 (by decide) (by decide) ?_
        show oS p e below s₁ m 29 #[oi p0, oi v2, oi (v2 ||| (32 : Int32)), .unset] [] _
        refine XS.iconst X0.here hx rfl (hb hby at_29) ?_
        show oS p e below s₁ m 30 #[oi p0, oi v2, oi (v2 ||| (32 : Int32)), .unset] [(.int (1 : Int32))] _
        refine XS.goto X0.here hx rfl (pc0 := 30) (pc' := 34) rfl (hb hby at_30) (by decide) (by decide) ?_
        exact k
  obtain ⟨_, _, ⟨T10, L10, k10, n10⟩, -, X10, ⟨Lc10, hQ10, l10, y10, z10⟩, st10⟩ := Jvm.LawKit.callS X0 hx (y := (⟨"com/example/typewright/typewright/declaration/Keyword", "isSpeltWith", "(C)Z"⟩ : MethodName)) hown (mvT hZ (hw _ (List.mem_of_getElem? (i := 1) rfl))) (mvT hZ (hw _ (List.mem_of_getElem? (i := 2) rfl))) (mvT hZ (hw _ (List.mem_of_getElem? (i := 3) rfl))) (mvT hZ (hw _ (List.mem_of_getElem? (i := 4) rfl))) (by decide) (backOf (W := 0) (own_rm1 l Z av hw [] v2 h0 n0 Z0 ) hZ (hw _ (List.mem_of_getElem? (i := 4) rfl)) (hw _ (List.mem_of_getElem? (i := 3) rfl)) (by decide) (by decide)) (g := (mkF m 36 #[oi p0, oi v2, oi (v2 ||| (32 : Int32)), oi v8] [(.int v2)])) rfl (by rw [hml]; rfl) (argsL := [(.int v2)]) (rest := []) (lenOf own_pd0 rfl) rfl (by show 2 * 0 + _ ≤ _; exact Nat.le_of_eq rfl) (hb hby at_36) (fun _ _ => ⟨rfl, e0, (by decide : 0 + 0 ≤ _), (by decide : 0 + 0 ≤ _)⟩)
  dsimp only [Pt.U, Pt.locs, Pt.cells, Pt.slots] at X10 l10 y10 z10 st10 hQ10
  subst l10 y10 z10
  obtain ⟨rfl, Nq10, eq10⟩ := hQ10
  have N10 := Fr.app N0 Nq10
  have b11 : (own_f1 v2) = v8 := by rw [hv8]; exact own_eq _
  obtain ⟨fs, hr, hrun, hended, hW, hsame⟩ := X10.leave (v := (some (.int (1 : Int32)))) (fun h => by rw [Bd.returns] at h; cases h)
  refine ⟨_, _, pre9 _ ?_, hrun, hended, _, _, rfl, ?_, ⟨_, rfl⟩, hW, hsame.mono (by decide) (by decide)⟩
  · show oS p e below s₁ m 34 #[oi p0, oi v2, oi (v2 ||| (32 : Int32)), .unset] [(.int v8)] _
    refine XS.istoreN X0.here hx rfl (hb hby at_34) rfl (l' := #[oi p0, oi v2, oi (v2 ||| (32 : Int32)), oi v8]) rfl ?_
    show oS p e below s₁ m 35 #[oi p0, oi v2, oi (v2 ||| (32 : Int32)), oi v8] [] _
    refine XS.iloadN X0.here hx rfl (hb hby at_35) rfl ?_
    show oS p e below s₁ m 36 #[oi p0, oi v2, oi (v2 ||| (32 : Int32)), oi v8] [(.int v2)] _
    refine st10 _ ?_
    show oS p e below T10 m 39 #[oi p0, oi v2, oi (v2 ||| (32 : Int32)), oi v8] [(.int (own_f1 v2))] _
    refine XS.iloadN X10.here hx rfl (hb hby at_39) rfl ?_
    show oS p e below T10 m 40 #[oi p0, oi v2, oi (v2 ||| (32 : Int32)), oi v8] [(.int v8), (.int (own_f1 v2))] _
    refine XS.icmpNo X10.here hx rfl (hb hby at_40) rfl (teq b11).2 ?_
    show oS p e below T10 m 43 #[oi p0, oi v2, oi (v2 ||| (32 : Int32)), oi v8] [] _
    refine XS.iconst X10.here hx rfl (hb hby at_43) ?_
    show oS p e below T10 m 44 #[oi p0, oi v2, oi (v2 ||| (32 : Int32)), oi v8] [(.int (1 : Int32))] _
    refine XS.goto X10.here hx rfl (pc0 := 44) (pc' := 48) rfl (hb hby at_44) (by decide) (by decide) ?_
    show oS p e below T10 m 48 #[oi p0, oi v2, oi (v2 ||| (32 : Int32)), oi v8] [(.int (1 : Int32))] _
    exact retN X10 hx (t := .boolean) Bd.returns (by simp) (hb hby at_48) hr
  · show own_Q0 Z p0 h0 n0 _ T10.heap _
    rw [eq10]
    exact ⟨rfl, N10⟩
set_option maxRecDepth 65536 in
set_option maxHeartbeats 40000000 in
theorem own_comes {Post : Tables → Env → Array Value → State → Outcome → State → Prop} (hpost : ∀ tb e args s v u, (limb_1_1.after args s (.returned v) u = true ∧ limb_1_2.after args s (.returned v) u = true ∧ True) → FrameEnd s (.returned v) u (Jvm.fieldLocs frame_1_writes args s ++ Jvm.arrayLocs frame_1_arrays args s ++ Jvm.staticLocs frame_1_statics s) 0 0 → Post tb e args s (.returned v) u) :
    ArmFor flags0 classFile x code maxLocals ret World_1 tables_1 room_1 Calls_1 rest_1 Pre_1 Post := by
  intro l hfl _ _ p e ha hc hk s m args below hf hA hF happ hP
  obtain ⟨hcalls, hrest, hpre⟩ := hP
  obtain ⟨-, -, -, hnamed, -, -, -, hat⟩ := (Spec.applies_iff hf).mp happ
  obtain ⟨hg, hn⟩ := and_e (Cond.before_iff.mp (show (Jvm.Cond.and given_1 narrow_1).before args s = true from hpre))
  obtain ⟨gv1, gv2⟩ := and_e hg
  obtain ⟨w0, rfl⟩ : ∃ w0 : Value, args = #[w0] := by
    have hs : args.size = 1 := by simpa [Cond.value, given_1] using gv1
    obtain ⟨L⟩ := args
    match L, hs with
    | [w0], _ => exact ⟨w0, rfl⟩
  have hw := fun d (hd : d ∈ tables_1) => atoms_spec (ws := Jvm.Cond.code x code maxLocals ret :: tables_1) hat d (List.mem_cons_of_mem _ hd)
  have hfit : Fit s := fun {y c} hc i hi => by
    obtain ⟨ha, rfl⟩ := Array.getElem?_eq_some_iff.mp hc
    have q := List.all_eq_true.mp ((Array.all_eq_true_iff_forall_mem.mp hF) _ (Array.getElem_mem ha)) i (List.mem_range.mpr hi)
    simpa [Array.getElem?_eq_getElem hi] using q
  obtain ⟨i0, ei0⟩ := is_v gv2
  obtain rfl : w0 = (.int i0) := Option.some.inj ei0
  obtain ⟨n, o, h1, h2, h3, _, L, rfl, ⟨rfl, N⟩, hq⟩ := own_rm0 l s _ hw tables_1 i0  s.heap s.heap.size (Nat.le_refl _)  p e ha hc hk s m _ below hf ((Spec.applies_iff_loose hf).mp happ).1 ⟨rfl, State.Warmed39.refl s, rfl⟩ trivial
  refine ⟨n, _, h1, h2, h3, hpost _ _ _ _ _ _ ⟨Cond.after_iff.mpr rfl, Cond.after_iff.mpr (eq_i res_at (Term.int_eval (1)) rfl), trivial⟩ ⟨hq.1, hq.2.1, (hq.2.2.sift fun y hy => Or.inr (N y hy)).mono (by decide) (by decide)⟩⟩
theorem main_1_1 : Claimed_1_1 := own_comes fun _ _ _ _ _ _ h hF => ⟨h.1, hF⟩
theorem main_1_2 : Claimed_1_2 := own_comes fun _ _ _ _ _ _ h hF => ⟨h.2.1, hF⟩
end Jvm.Pilot.@@N@@
namespace Jvm.Pilot.@@N@@
open Jvm Jvm.ClassFile Sem Op Lib Jvm.Free Jvm.Stand Jvm.Pilot.@@N@@.Jvm.D
/-! MADE BY PROGRAM (witnessworld.py) out of the Statement's table words and the real class files: 12 classes; the members and pool entries that the words name. The judged class is class 1, her method 1. -/
namespace start1
open Jvm.ClassFile
def u (s : String) : CpInfo := .utf8 (stringToUtf16 s)
/-- a pool by its gaps: so many unusable entries, then the entry; so many at the end -/
def gap : Nat → List CpInfo → List CpInfo
  | 0, r => r
  | n + 1, r => .unusable :: gap n r
def poolList (es : List (Nat × CpInfo)) (last : Nat) : List CpInfo := es.foldr (fun e r => gap e.1 (e.2 :: r)) (gap last [])
def pool (es : List (Nat × CpInfo)) (last : Nat) : Array CpInfo := ⟨poolList es last⟩
def fileOf (pool : Array CpInfo) (this : Nat) (attrs : Array Attribute := #[]) (ms : Array MethodInfo := #[]) (fl : Nat := 33) (sup : Nat := 0) (ifs : Array Nat := #[]) (fds : Array FieldInfo := #[]) : ClassFile where
  minorVersion := 0
  majorVersion := 65
  constantPool := pool
  accessFlags := fl
  thisClass := this
  superClass := sup
  interfaces := ifs
  fields := fds
  methods := ms
  attributes := attrs
def plain (name : String) (sup : Option ClassId) : Class where
  name := name
  kind := .ordinary
  loader := none
  accessFlags := 33
  super := sup
  interfaces := #[]
  cf := none
  fields := #[]
  methods := #[]
  instanceTypes := #[]
  staticTypes := #[]
  resolved := #[]
  callSites := []
  init := .initialized
  statics := none
  mirror := none

def pool0 : Array CpInfo := pool [(5, u "<init>"), (0, u "()V"), (1, .class_ 10), (1, u "java/lang/Object")] 113

def k0m0 : Method := { name := "<init>", desc := "()V", sig := { parameters := [], returnType := none }, accessFlags := 1, code := none }
/-- java/lang/Object -/
def k0 : Class := { plain "java/lang/Object" none with
  accessFlags := 33
  interfaces := #[]
  cf := some (fileOf pool0 8 #[] #[{ accessFlags := 1, nameIndex := 5, descriptorIndex := 6, attributes := #[] }] 33 0 #[] #[])
  fields := #[]
  methods := #[k0m0]
  instanceTypes := #[]
  staticTypes := #[]
  resolved := Array.replicate 124 none
  statics := none }

def pool1 : Array CpInfo := pool [(2, .class_ 4), (1, u "java/lang/Object"), (0, u "<init>"), (0, u "()V"), (0, .integer 65535), (0, .methodref 9 10), (0, .class_ 11), (0, .nameAndType 12 13), (0, u "com/example/typewright/typewright/declaration/Keyword"), (0, u "isSpeltWith"), (0, u "(C)Z"), (0, .class_ 15), (0, u "com/example/typewright/typewright/declaration/KeywordIsSpeltWithPinLaw"), (2, u "law"), (0, u "(I)Z")] 3

def k1m0 : Method := { name := "<init>", desc := "()V", sig := { parameters := [], returnType := none }, accessFlags := 1, code := none }
def k1c1 : Code := { maxStack := 2, maxLocals := 4, code := code, exceptionTable := #[], attributes := #[] }
def k1m1 : Method := { name := "law", desc := "(I)Z", sig := { parameters := [.int], returnType := some .boolean }, accessFlags := 9, code := some k1c1 }
/-- com/example/typewright/typewright/declaration/KeywordIsSpeltWithPinLaw -/
def k1 : Class := { plain "com/example/typewright/typewright/declaration/KeywordIsSpeltWithPinLaw" (some 0) with
  accessFlags := 49
  interfaces := #[]
  cf := some (fileOf pool1 14 #[] #[{ accessFlags := 1, nameIndex := 5, descriptorIndex := 6, attributes := #[] }, { accessFlags := 9, nameIndex := 18, descriptorIndex := 19, attributes := #[] }] 49 2 #[] #[])
  fields := #[]
  methods := #[k1m0, k1m1]
  instanceTypes := #[]
  staticTypes := #[]
  resolved := Array.replicate 23 none
  statics := none }

def pool2 : Array CpInfo := pool [(1, .class_ 2), (0, u "java/lang/constant/Constable"), (0, .class_ 4), (0, u "java/lang/Object")] 6

/-- java/lang/constant/Constable -/
def k2 : Class := { plain "java/lang/constant/Constable" (some 0) with
  accessFlags := 1537
  interfaces := #[]
  cf := some (fileOf pool2 1 #[] #[] 1537 3 #[] #[])
  fields := #[]
  methods := #[]
  instanceTypes := #[]
  staticTypes := #[]
  resolved := Array.replicate 11 none
  statics := none }

def pool3 : Array CpInfo := pool [(1, .class_ 2), (0, u "java/lang/Comparable"), (0, .class_ 4), (0, u "java/lang/Object")] 7

/-- java/lang/Comparable -/
def k3 : Class := { plain "java/lang/Comparable" (some 0) with
  accessFlags := 1537
  interfaces := #[]
  cf := some (fileOf pool3 1 #[] #[] 1537 3 #[] #[])
  fields := #[]
  methods := #[]
  instanceTypes := #[]
  staticTypes := #[]
  resolved := Array.replicate 12 none
  statics := none }

def pool4 : Array CpInfo := pool [(1, .class_ 2), (0, u "java/io/Serializable"), (0, .class_ 4), (0, u "java/lang/Object")] 2

/-- java/io/Serializable -/
def k4 : Class := { plain "java/io/Serializable" (some 0) with
  accessFlags := 1537
  interfaces := #[]
  cf := some (fileOf pool4 1 #[] #[] 1537 3 #[] #[])
  fields := #[]
  methods := #[]
  instanceTypes := #[]
  staticTypes := #[]
  resolved := Array.replicate 7 none
  statics := none }

def pool5 : Array CpInfo := pool [(2, .class_ 4), (1, u "java/lang/Enum"), (0, u "name"), (0, u "Ljava/lang/String;"), (2, u "ordinal"), (0, u "I"), (1, .class_ 14), (1, u "java/lang/Object"), (4, u "hash"), (86, .class_ 108), (1, u "java/lang/Enum$EnumDesc"), (2, .class_ 112), (0, u "java/lang/constant/Constable"), (0, .class_ 114), (0, u "java/lang/Comparable"), (0, .class_ 116), (0, u "java/io/Serializable")] 87

/-- java/lang/Enum -/
def k5 : Class := { plain "java/lang/Enum" (some 0) with
  accessFlags := 1057
  interfaces := #[2, 3, 4]
  cf := some (fileOf pool5 2 #[.nestMembers #[106]] #[] 1057 12 #[111, 113, 115] #[{ accessFlags := 18, nameIndex := 5, descriptorIndex := 6, attributes := #[] }, { accessFlags := 18, nameIndex := 9, descriptorIndex := 10, attributes := #[] }, { accessFlags := 2, nameIndex := 19, descriptorIndex := 10, attributes := #[] }])
  fields := #[{ name := "name", type := (.object "java/lang/String"), accessFlags := 18, slot := 0, constantValue := 0 }, { name := "ordinal", type := .int, accessFlags := 18, slot := 1, constantValue := 0 }, { name := "hash", type := .int, accessFlags := 2, slot := 2, constantValue := 0 }]
  methods := #[]
  instanceTypes := #[(.object "java/lang/String"), .int, .int]
  staticTypes := #[]
  resolved := Array.replicate 204 none
  statics := none }

def pool6 : Array CpInfo := pool [(1, .class_ 2), (0, u "com/example/typewright/typewright/declaration/Keyword"), (2, u "ARRAY"), (0, u "Lcom/example/typewright/typewright/declaration/Keyword;"), (2, u "BIGINT"), (2, u "BINARY"), (2, u "BITMAP"), (2, u "BOOLEAN"), (2, u "BYTES"), (2, u "CHAR"), (2, u "DATE"), (2, u "DAY"), (2, u "DEC"), (2, u "DECIMAL"), (2, u "DESCRIPTOR"), (2, u "DOUBLE"), (2, u "FLOAT"), (2, u "HOUR"), (2, u "INT"), (2, u "INTEGER"), (2, u "INTERVAL"), (2, u "LEGACY"), (2, u "LOCAL"), (2, u "MAP"), (2, u "MINUTE"), (2, u "MONTH"), (2, u "MULTISET"), (2, u "NOT"), (2, u "NULL"), (2, u "NUMERIC"), (2, u "PRECISION"), (2, u "RAW"), (2, u "ROW"), (2, u "SECOND"), (2, u "SMALLINT"), (2, u "STRING"), (2, u "STRUCTURED"), (2, u "TIME"), (2, u "TIMESTAMP"), (2, u "TIMESTAMP_LTZ"), (2, u "TIME_WITHOUT_TIME_ZONE"), (2, u "TINYINT"), (2, u "TO"), (2, u "VARBINARY"), (2, u "VARCHAR"), (2, u "VARIANT"), (2, u "WITH"), (2, u "WITHOUT"), (2, u "YEAR"), (2, u "ZONE"), (2, u "$VALUES"), (0, u "[Lcom/example/typewright/typewright/declaration/Keyword;"), (6, .class_ 157), (1, u "java/lang/Enum"), (17, u "length"), (11, u "tail"), (0, u "J"), (2, u "I"), (2, u "reserved"), (0, u "Z"), (10, u "BY_SLOT"), (67, u "SLOT_BITS"), (12, u "isSpeltWith"), (0, u "(C)Z")] 6

def k6c0 : Code := { maxStack := 2, maxLocals := 1, code := prog_20_method_6_code, exceptionTable := #[], attributes := #[] }
def k6m0 : Method := { name := "isSpeltWith", desc := "(C)Z", sig := { parameters := [.char], returnType := some .boolean }, accessFlags := 8, code := some k6c0 }
/-- com/example/typewright/typewright/declaration/Keyword -/
def k6 : Class := { plain "com/example/typewright/typewright/declaration/Keyword" (some 5) with
  accessFlags := 16432
  interfaces := #[]
  cf := some (fileOf pool6 1 #[] #[{ accessFlags := 8, nameIndex := 287, descriptorIndex := 288, attributes := #[] }] 16432 155 #[] #[{ accessFlags := 16409, nameIndex := 5, descriptorIndex := 6, attributes := #[] }, { accessFlags := 16409, nameIndex := 9, descriptorIndex := 6, attributes := #[] }, { accessFlags := 16409, nameIndex := 12, descriptorIndex := 6, attributes := #[] }, { accessFlags := 16409, nameIndex := 15, descriptorIndex := 6, attributes := #[] }, { accessFlags := 16409, nameIndex := 18, descriptorIndex := 6, attributes := #[] }, { accessFlags := 16409, nameIndex := 21, descriptorIndex := 6, attributes := #[] }, { accessFlags := 16409, nameIndex := 24, descriptorIndex := 6, attributes := #[] }, { accessFlags := 16409, nameIndex := 27, descriptorIndex := 6, attributes := #[] }, { accessFlags := 16409, nameIndex := 30, descriptorIndex := 6, attributes := #[] }, { accessFlags := 16409, nameIndex := 33, descriptorIndex := 6, attributes := #[] }, { accessFlags := 16409, nameIndex := 36, descriptorIndex := 6, attributes := #[] }, { accessFlags := 16409, nameIndex := 39, descriptorIndex := 6, attributes := #[] }, { accessFlags := 16409, nameIndex := 42, descriptorIndex := 6, attributes := #[] }, { accessFlags := 16409, nameIndex := 45, descriptorIndex := 6, attributes := #[] }, { accessFlags := 16409, nameIndex := 48, descriptorIndex := 6, attributes := #[] }, { accessFlags := 16409, nameIndex := 51, descriptorIndex := 6, attributes := #[] }, { accessFlags := 16409, nameIndex := 54, descriptorIndex := 6, attributes := #[] }, { accessFlags := 16409, nameIndex := 57, descriptorIndex := 6, attributes := #[] }, { accessFlags := 16409, nameIndex := 60, descriptorIndex := 6, attributes := #[] }, { accessFlags := 16409, nameIndex := 63, descriptorIndex := 6, attributes := #[] }, { accessFlags := 16409, nameIndex := 66, descriptorIndex := 6, attributes := #[] }, { accessFlags := 16409, nameIndex := 69, descriptorIndex := 6, attributes := #[] }, { accessFlags := 16409, nameIndex := 72, descriptorIndex := 6, attributes := #[] }, { accessFlags := 16409, nameIndex := 75, descriptorIndex := 6, attributes := #[] }, { accessFlags := 16409, nameIndex := 78, descriptorIndex := 6, attributes := #[] }, { accessFlags := 16409, nameIndex := 81, descriptorIndex := 6, attributes := #[] }, { accessFlags := 16409, nameIndex := 84, descriptorIndex := 6, attributes := #[] }, { accessFlags := 16409, nameIndex := 87, descriptorIndex := 6, attributes := #[] }, { accessFlags := 16409, nameIndex := 90, descriptorIndex := 6, attributes := #[] }, { accessFlags := 16409, nameIndex := 93, descriptorIndex := 6, attributes := #[] }, { accessFlags := 16409, nameIndex := 96, descriptorIndex := 6, attributes := #[] }, { accessFlags := 16409, nameIndex := 99, descriptorIndex := 6, attributes := #[] }, { accessFlags := 16409, nameIndex := 102, descriptorIndex := 6, attributes := #[] }, { accessFlags := 16409, nameIndex := 105, descriptorIndex := 6, attributes := #[] }, { accessFlags := 16409, nameIndex := 108, descriptorIndex := 6, attributes := #[] }, { accessFlags := 16409, nameIndex := 111, descriptorIndex := 6, attributes := #[] }, { accessFlags := 16409, nameIndex := 114, descriptorIndex := 6, attributes := #[] }, { accessFlags := 16409, nameIndex := 117, descriptorIndex := 6, attributes := #[] }, { accessFlags := 16409, nameIndex := 120, descriptorIndex := 6, attributes := #[] }, { accessFlags := 16409, nameIndex := 123, descriptorIndex := 6, attributes := #[] }, { accessFlags := 16409, nameIndex := 126, descriptorIndex := 6, attributes := #[] }, { accessFlags := 16409, nameIndex := 129, descriptorIndex := 6, attributes := #[] }, { accessFlags := 16409, nameIndex := 132, descriptorIndex := 6, attributes := #[] }, { accessFlags := 16409, nameIndex := 135, descriptorIndex := 6, attributes := #[] }, { accessFlags := 16409, nameIndex := 138, descriptorIndex := 6, attributes := #[] }, { accessFlags := 16409, nameIndex := 141, descriptorIndex := 6, attributes := #[] }, { accessFlags := 16409, nameIndex := 144, descriptorIndex := 6, attributes := #[] }, { accessFlags := 26, nameIndex := 274, descriptorIndex := 191, attributes := #[] }, { accessFlags := 26, nameIndex := 206, descriptorIndex := 148, attributes := #[] }, { accessFlags := 18, nameIndex := 187, descriptorIndex := 188, attributes := #[] }, { accessFlags := 18, nameIndex := 175, descriptorIndex := 191, attributes := #[] }, { accessFlags := 18, nameIndex := 194, descriptorIndex := 195, attributes := #[] }, { accessFlags := 4122, nameIndex := 147, descriptorIndex := 148, attributes := #[] }])
  fields := #[{ name := "ARRAY", type := (.object "com/example/typewright/typewright/declaration/Keyword"), accessFlags := 16409, slot := 0, constantValue := 0 }, { name := "BIGINT", type := (.object "com/example/typewright/typewright/declaration/Keyword"), accessFlags := 16409, slot := 1, constantValue := 0 }, { name := "BINARY", type := (.object "com/example/typewright/typewright/declaration/Keyword"), accessFlags := 16409, slot := 2, constantValue := 0 }, { name := "BITMAP", type := (.object "com/example/typewright/typewright/declaration/Keyword"), accessFlags := 16409, slot := 3, constantValue := 0 }, { name := "BOOLEAN", type := (.object "com/example/typewright/typewright/declaration/Keyword"), accessFlags := 16409, slot := 4, constantValue := 0 }, { name := "BYTES", type := (.object "com/example/typewright/typewright/declaration/Keyword"), accessFlags := 16409, slot := 5, constantValue := 0 }, { name := "CHAR", type := (.object "com/example/typewright/typewright/declaration/Keyword"), accessFlags := 16409, slot := 6, constantValue := 0 }, { name := "DATE", type := (.object "com/example/typewright/typewright/declaration/Keyword"), accessFlags := 16409, slot := 7, constantValue := 0 }, { name := "DAY", type := (.object "com/example/typewright/typewright/declaration/Keyword"), accessFlags := 16409, slot := 8, constantValue := 0 }, { name := "DEC", type := (.object "com/example/typewright/typewright/declaration/Keyword"), accessFlags := 16409, slot := 9, constantValue := 0 }, { name := "DECIMAL", type := (.object "com/example/typewright/typewright/declaration/Keyword"), accessFlags := 16409, slot := 10, constantValue := 0 }, { name := "DESCRIPTOR", type := (.object "com/example/typewright/typewright/declaration/Keyword"), accessFlags := 16409, slot := 11, constantValue := 0 }, { name := "DOUBLE", type := (.object "com/example/typewright/typewright/declaration/Keyword"), accessFlags := 16409, slot := 12, constantValue := 0 }, { name := "FLOAT", type := (.object "com/example/typewright/typewright/declaration/Keyword"), accessFlags := 16409, slot := 13, constantValue := 0 }, { name := "HOUR", type := (.object "com/example/typewright/typewright/declaration/Keyword"), accessFlags := 16409, slot := 14, constantValue := 0 }, { name := "INT", type := (.object "com/example/typewright/typewright/declaration/Keyword"), accessFlags := 16409, slot := 15, constantValue := 0 }, { name := "INTEGER", type := (.object "com/example/typewright/typewright/declaration/Keyword"), accessFlags := 16409, slot := 16, constantValue := 0 }, { name := "INTERVAL", type := (.object "com/example/typewright/typewright/declaration/Keyword"), accessFlags := 16409, slot := 17, constantValue := 0 }, { name := "LEGACY", type := (.object "com/example/typewright/typewright/declaration/Keyword"), accessFlags := 16409, slot := 18, constantValue := 0 }, { name := "LOCAL", type := (.object "com/example/typewright/typewright/declaration/Keyword"), accessFlags := 16409, slot := 19, constantValue := 0 }, { name := "MAP", type := (.object "com/example/typewright/typewright/declaration/Keyword"), accessFlags := 16409, slot := 20, constantValue := 0 }, { name := "MINUTE", type := (.object "com/example/typewright/typewright/declaration/Keyword"), accessFlags := 16409, slot := 21, constantValue := 0 }, { name := "MONTH", type := (.object "com/example/typewright/typewright/declaration/Keyword"), accessFlags := 16409, slot := 22, constantValue := 0 }, { name := "MULTISET", type := (.object "com/example/typewright/typewright/declaration/Keyword"), accessFlags := 16409, slot := 23, constantValue := 0 }, { name := "NOT", type := (.object "com/example/typewright/typewright/declaration/Keyword"), accessFlags := 16409, slot := 24, constantValue := 0 }, { name := "NULL", type := (.object "com/example/typewright/typewright/declaration/Keyword"), accessFlags := 16409, slot := 25, constantValue := 0 }, { name := "NUMERIC", type := (.object "com/example/typewright/typewright/declaration/Keyword"), accessFlags := 16409, slot := 26, constantValue := 0 }, { name := "PRECISION", type := (.object "com/example/typewright/typewright/declaration/Keyword"), accessFlags := 16409, slot := 27, constantValue := 0 }, { name := "RAW", type := (.object "com/example/typewright/typewright/declaration/Keyword"), accessFlags := 16409, slot := 28, constantValue := 0 }, { name := "ROW", type := (.object "com/example/typewright/typewright/declaration/Keyword"), accessFlags := 16409, slot := 29, constantValue := 0 }, { name := "SECOND", type := (.object "com/example/typewright/typewright/declaration/Keyword"), accessFlags := 16409, slot := 30, constantValue := 0 }, { name := "SMALLINT", type := (.object "com/example/typewright/typewright/declaration/Keyword"), accessFlags := 16409, slot := 31, constantValue := 0 }, { name := "STRING", type := (.object "com/example/typewright/typewright/declaration/Keyword"), accessFlags := 16409, slot := 32, constantValue := 0 }, { name := "STRUCTURED", type := (.object "com/example/typewright/typewright/declaration/Keyword"), accessFlags := 16409, slot := 33, constantValue := 0 }, { name := "TIME", type := (.object "com/example/typewright/typewright/declaration/Keyword"), accessFlags := 16409, slot := 34, constantValue := 0 }, { name := "TIMESTAMP", type := (.object "com/example/typewright/typewright/declaration/Keyword"), accessFlags := 16409, slot := 35, constantValue := 0 }, { name := "TIMESTAMP_LTZ", type := (.object "com/example/typewright/typewright/declaration/Keyword"), accessFlags := 16409, slot := 36, constantValue := 0 }, { name := "TIME_WITHOUT_TIME_ZONE", type := (.object "com/example/typewright/typewright/declaration/Keyword"), accessFlags := 16409, slot := 37, constantValue := 0 }, { name := "TINYINT", type := (.object "com/example/typewright/typewright/declaration/Keyword"), accessFlags := 16409, slot := 38, constantValue := 0 }, { name := "TO", type := (.object "com/example/typewright/typewright/declaration/Keyword"), accessFlags := 16409, slot := 39, constantValue := 0 }, { name := "VARBINARY", type := (.object "com/example/typewright/typewright/declaration/Keyword"), accessFlags := 16409, slot := 40, constantValue := 0 }, { name := "VARCHAR", type := (.object "com/example/typewright/typewright/declaration/Keyword"), accessFlags := 16409, slot := 41, constantValue := 0 }, { name := "VARIANT", type := (.object "com/example/typewright/typewright/declaration/Keyword"), accessFlags := 16409, slot := 42, constantValue := 0 }, { name := "WITH", type := (.object "com/example/typewright/typewright/declaration/Keyword"), accessFlags := 16409, slot := 43, constantValue := 0 }, { name := "WITHOUT", type := (.object "com/example/typewright/typewright/declaration/Keyword"), accessFlags := 16409, slot := 44, constantValue := 0 }, { name := "YEAR", type := (.object "com/example/typewright/typewright/declaration/Keyword"), accessFlags := 16409, slot := 45, constantValue := 0 }, { name := "ZONE", type := (.object "com/example/typewright/typewright/declaration/Keyword"), accessFlags := 16409, slot := 46, constantValue := 0 }, { name := "SLOT_BITS", type := .int, accessFlags := 26, slot := 47, constantValue := 0 }, { name := "BY_SLOT", type := (.array (.object "com/example/typewright/typewright/declaration/Keyword")), accessFlags := 26, slot := 48, constantValue := 0 }, { name := "tail", type := .long, accessFlags := 18, slot := 3, constantValue := 0 }, { name := "length", type := .int, accessFlags := 18, slot := 4, constantValue := 0 }, { name := "reserved", type := .boolean, accessFlags := 18, slot := 5, constantValue := 0 }, { name := "$VALUES", type := (.array (.object "com/example/typewright/typewright/declaration/Keyword")), accessFlags := 4122, slot := 49, constantValue := 0 }]
  methods := #[k6m0]
  instanceTypes := #[(.object "java/lang/String"), .int, .int, .long, .int, .boolean]
  staticTypes := #[(.object "com/example/typewright/typewright/declaration/Keyword"), (.object "com/example/typewright/typewright/declaration/Keyword"), (.object "com/example/typewright/typewright/declaration/Keyword"), (.object "com/example/typewright/typewright/declaration/Keyword"), (.object "com/example/typewright/typewright/declaration/Keyword"), (.object "com/example/typewright/typewright/declaration/Keyword"), (.object "com/example/typewright/typewright/declaration/Keyword"), (.object "com/example/typewright/typewright/declaration/Keyword"), (.object "com/example/typewright/typewright/declaration/Keyword"), (.object "com/example/typewright/typewright/declaration/Keyword"), (.object "com/example/typewright/typewright/declaration/Keyword"), (.object "com/example/typewright/typewright/declaration/Keyword"), (.object "com/example/typewright/typewright/declaration/Keyword"), (.object "com/example/typewright/typewright/declaration/Keyword"), (.object "com/example/typewright/typewright/declaration/Keyword"), (.object "com/example/typewright/typewright/declaration/Keyword"), (.object "com/example/typewright/typewright/declaration/Keyword"), (.object "com/example/typewright/typewright/declaration/Keyword"), (.object "com/example/typewright/typewright/declaration/Keyword"), (.object "com/example/typewright/typewright/declaration/Keyword"), (.object "com/example/typewright/typewright/declaration/Keyword"), (.object "com/example/typewright/typewright/declaration/Keyword"), (.object "com/example/typewright/typewright/declaration/Keyword"), (.object "com/example/typewright/typewright/declaration/Keyword"), (.object "com/example/typewright/typewright/declaration/Keyword"), (.object "com/example/typewright/typewright/declaration/Keyword"), (.object "com/example/typewright/typewright/declaration/Keyword"), (.object "com/example/typewright/typewright/declaration/Keyword"), (.object "com/example/typewright/typewright/declaration/Keyword"), (.object "com/example/typewright/typewright/declaration/Keyword"), (.object "com/example/typewright/typewright/declaration/Keyword"), (.object "com/example/typewright/typewright/declaration/Keyword"), (.object "com/example/typewright/typewright/declaration/Keyword"), (.object "com/example/typewright/typewright/declaration/Keyword"), (.object "com/example/typewright/typewright/declaration/Keyword"), (.object "com/example/typewright/typewright/declaration/Keyword"), (.object "com/example/typewright/typewright/declaration/Keyword"), (.object "com/example/typewright/typewright/declaration/Keyword"), (.object "com/example/typewright/typewright/declaration/Keyword"), (.object "com/example/typewright/typewright/declaration/Keyword"), (.object "com/example/typewright/typewright/declaration/Keyword"), (.object "com/example/typewright/typewright/declaration/Keyword"), (.object "com/example/typewright/typewright/declaration/Keyword"), (.object "com/example/typewright/typewright/declaration/Keyword"), (.object "com/example/typewright/typewright/declaration/Keyword"), (.object "com/example/typewright/typewright/declaration/Keyword"), (.object "com/example/typewright/typewright/declaration/Keyword"), .int, (.array (.object "com/example/typewright/typewright/declaration/Keyword")), (.array (.object "com/example/typewright/typewright/declaration/Keyword"))]
  resolved := Array.replicate 295 none
  statics := none }

def pool7 : Array CpInfo := pool [(1, u "java/lang/Cloneable"), (0, .class_ 1), (0, u "java/lang/Object"), (0, .class_ 3)] 3

/-- java/lang/Cloneable -/
def k7 : Class := { plain "java/lang/Cloneable" (some 0) with
  accessFlags := 1537
  interfaces := #[]
  cf := some (fileOf pool7 2 #[] #[] 1537 4 #[] #[])
  fields := #[]
  methods := #[]
  instanceTypes := #[]
  staticTypes := #[]
  resolved := Array.replicate 8 none
  statics := none }

/-- the primitive byte -/
def k8 : Class := { plain "byte" none with kind := .primitive 'B', accessFlags := 0x411 }
/-- [B -/
def k9 : Class := { plain "[B" (some 0) with kind := .array 8 .byte, interfaces := #[7, 4], accessFlags := 1041 }

/-- the primitive int -/
def k10 : Class := { plain "int" none with kind := .primitive 'I', accessFlags := 0x411 }
/-- [I -/
def k11 : Class := { plain "[I" (some 0) with kind := .array 10 .int, interfaces := #[7, 4], accessFlags := 1041 }

def heap : Heap := #[]
def classes : Array Class := #[k0, k1, k2, k3, k4, k5, k6, k7, k8, k9, k10, k11]
def interned : List (Array UInt16 × Addr) := []
def slotsUsed : Nat := 0
def theMethod : MethodId := ⟨1, 1⟩
def args0 : Array Value := #[.int 97]
def aboutOver (below : List Frame) : State where
  vm := { classes := classes, interned := interned.toArray }
  heap := heap
  slotsUsed := slotsUsed
  threads := #[{ frames := .invoking theMethod args0 :: below }]
def below0 : List Frame := [.native { method := ⟨0, 0⟩, args := #[] }]
def about1 : State := aboutOver below0
def p0 : Program := .bare "" "" ""
def e0 : Env := launch0.env 0 0 0
theorem w_frames : about1.frames = Frame.invoking theMethod args0 :: below0 := rfl
set_option maxRecDepth 65536 in
theorem w_args : argsFit about1.vm theMethod args0 = true := by decide +kernel
set_option maxRecDepth 65536 in
theorem w_heap : heapFits about1 = true := by decide +kernel
set_option maxRecDepth 65536 in
theorem w_runnable : about1.curStatus? = some .runnable := by decide +kernel
set_option maxRecDepth 65536 in
theorem w_alone : about1.alone = true := by decide +kernel
set_option maxRecDepth 65536 in
theorem w_named : about1.methodNamed? x = some theMethod := by decide +kernel
set_option maxRecDepth 65536 in
theorem w_hears : about1.hears theMethod below0 = true := by decide +kernel
set_option maxRecDepth 65536 in
theorem w_ripe : about1.ripe theMethod args0 below0 = true := by decide +kernel
theorem w_running : about1.status = .running := rfl
set_option maxRecDepth 65536 in
theorem w_room : about1.hasRoom e0.platform room_1 = true :=
  launch0.hasRoom_least _ room_1 (by decide +kernel) (by decide +kernel) (by decide +kernel) (by decide +kernel) (by decide +kernel) (by decide +kernel)
theorem allAtoms_all (ts : List Jvm.Cond) (a : Array Jvm.Value) (st : Jvm.State) : (allAtoms ts).before a st = ts.all (fun c => c.before a st) := by
  induction ts with
  | nil => rfl
  | cons c t ih =>
    show (Jvm.Cond.and c (allAtoms t)).before a st = _
    rw [Jvm.Cond.before_and, ih, List.all_cons]
def words1 : List Jvm.Cond := Jvm.Cond.code x code maxLocals ret :: tables_1
/-- a 'code' word, met by the world's own term for the bytes: nothing is compared byte by byte -/
theorem code_word {y : MethodName} {bytes : ByteArray} {mx : Nat} {rt : Option FieldType} {a : Array Value} {s : State} {m : MethodId} {meth : Method} {c : Code} (h1 : s.methodNamed? y = some m) (h2 : s.vm.method? m = some meth) (h3 : meth.code = some c) (h4 : c.code = bytes)
    (h5 : (c.maxLocals == mx && c.exceptionTable.isEmpty && decide (c.maxStack ≤ mostOperands) && decide (meth.sig.returnType = rt) && !meth.locks && decide (parseMethodDescriptor y.desc = some meth.sig)) = true) : (Jvm.Cond.code y bytes mx rt).before a s = true := by
  simp only [Bool.and_eq_true, beq_iff_eq, Bool.not_eq_true', decide_eq_true_eq] at h5
  obtain ⟨⟨⟨⟨⟨g1, g2⟩, g3⟩, g4⟩, g5⟩, g6⟩ := h5
  simp [Cond.before, Cond.holds, Cond.value, h1, h2, h3, h4, g1, g2, g3, g4, g5, g6]
def isCode : Jvm.Cond → Bool
  | .code _ _ _ _ => true
  | _ => false
theorem all_split {L : List Jvm.Cond} {P : Jvm.Cond → Bool} (h1 : L.all (fun c => isCode c || P c) = true) (h2 : ∀ c ∈ L.filter isCode, P c = true) : L.all P = true := by
  refine List.all_eq_true.mpr fun c hc => ?_
  have h := List.all_eq_true.mp h1 c hc
  rcases Bool.eq_false_or_eq_true (isCode c) with hi | hi
  · exact h2 c (List.mem_filter.mpr ⟨hc, hi⟩)
  · simpa [hi] using h
set_option maxRecDepth 65536 in
theorem w_c0 : (Jvm.Cond.code x code maxLocals ret).before args0 about1 = true := code_word (m := ⟨1, 1⟩) (meth := k1m1) (c := k1c1) (by decide +kernel) rfl rfl rfl (by decide +kernel)
set_option maxRecDepth 65536 in
theorem w_c1 : (Jvm.Cond.code ({ cls := "com/example/typewright/typewright/declaration/Keyword", name := "isSpeltWith", desc := "(C)Z" } : Jvm.MethodName) prog_20_method_6_code (1 : Nat) (Option.some Jvm.ClassFile.FieldType.boolean)).before args0 about1 = true := code_word (m := ⟨6, 0⟩) (meth := k6m0) (c := k6c0) (by decide +kernel) rfl rfl rfl (by decide +kernel)
def codes1 : List Jvm.Cond := [Jvm.Cond.code x code maxLocals ret, Jvm.Cond.code ({ cls := "com/example/typewright/typewright/declaration/Keyword", name := "isSpeltWith", desc := "(C)Z" } : Jvm.MethodName) prog_20_method_6_code (1 : Nat) (Option.some Jvm.ClassFile.FieldType.boolean)]
set_option maxRecDepth 65536 in
theorem codes_eq : words1.filter isCode = codes1 := rfl
theorem w_codes : ∀ c ∈ words1.filter isCode, c.before args0 about1 = true := by
  rw [codes_eq]
  intro c hc
  simp only [codes1, List.mem_cons, List.not_mem_nil, or_false] at hc
  rcases hc with rfl | rfl
  · exact w_c0
  · exact w_c1
set_option maxRecDepth 65536 in
theorem w_t1 : words1.all (fun c => isCode c || c.before args0 about1) = true := by decide +kernel
theorem w_tables : (allAtoms (Jvm.Cond.code x code maxLocals ret :: tables_1)).before args0 about1 = true := by
  rw [allAtoms_all]
  show words1.all (fun c => c.before args0 about1) = true
  refine all_split ?_ w_codes
  rw [w_t1]
set_option maxRecDepth 65536 in
theorem w_case : (Jvm.Cond.and given_1 narrow_1).before args0 about1 = true := by decide +kernel
theorem w_applies : (headSpec (Jvm.Cond.code x code maxLocals ret :: tables_1) room_1).applies x e0.platform about1 = true :=
  (Spec.applies_iff w_frames).mpr ⟨w_running, w_runnable, w_alone, w_named, w_hears, w_ripe, w_room, w_tables⟩
theorem atStart : AtStart classFile x code maxLocals ret World_1 tables_1 room_1 Calls_1 rest_1 Pre_1 launch0 p0 e0 about1 theMethod args0 below0 :=
  ⟨lists_1, trivial, launch0.admits_env _ _ _, launch0.least_env, fairChoices_fair.cas, fairChoices_fair.clock, w_frames, w_args, w_heap, w_applies, trivial, trivial, w_case⟩
end start1
theorem witness_1 : WitnessClaimed_1 := ⟨start1.p0, start1.e0, start1.about1, start1.theMethod, start1.args0, start1.below0, start1.atStart⟩
end Jvm.Pilot.@@N@@
