import JvmDerived
import JvmDerived.Pilot.@@N@@Statement
import JvmDerived.Pilot.@@N@@Code
set_option linter.unusedVariables false
set_option linter.unusedSimpArgs false
namespace Jvm.Pilot.@@N@@
open Jvm Jvm.ClassFile Sem Op Lib Jvm.Free Jvm.Stand Jvm.LawKit Jvm.RoadKit Bundle Jvm.Pilot.@@N@@.Jvm.D
section OwnKit
variable {p : Program} {l : Launch} {e : Env} {R : Room} {s : State} {m : MethodId} {args : Array Value} {below : List Frame} {meth : Method} {c : Code} {T : State} {locs : List Loc} {cells slots : Nat} {Z : State} {h : Heap} {a : Addr} {k : ClassId} {z : Int32} {vs : List Value} {dv : Value}
theorem oLen (X : Stand p l e R s m args below meth c T locs cells slots) (hx : p.tables.exec = Jvm.exec) (hZ : Z.Warmed39 s.vm) (eT : T.heap = h) {ty : FieldType} (F : Arv Z h a k ty z vs dv) {g : JFrame} (hg : g.method = m) {rest : List Value} (hs : g.stack = .ref a :: rest) (hd : decode c.code g.pc = .ok (.arraylength, 1)) (target : State)
    (hr : Steps p.tables e below (T.setTop { g with pc := g.pc + 1, stack := .int z :: rest }) target) : Steps p.tables e below (T.setTop g) target := by
  obtain ⟨cl, A, -, S, M, -, -⟩ := F
  refine X.arraylength hx (by rw [eT]; exact A.1) (State.isArrayOf_alike hZ.alike A.2.1) hg hs hd target ?_
  rw [len_of S M]
  exact hr
theorem oLdI (X : Stand p l e R s m args below meth c T locs cells slots) (hx : p.tables.exec = Jvm.exec) (hZ : Z.Warmed39 s.vm) (eT : T.heap = h) (F : Arv Z h a k .int z vs dv) {j : Int32} {v : Value} (hj : ¬ j < 0 ∧ j < z) (hv : vs.getD j.toNatClampNeg dv = v) {g : JFrame} (hg : g.method = m) {rest : List Value} (hs : g.stack = .int j :: .ref a :: rest) (hd : decode c.code g.pc = .ok (.iaload, 1)) (target : State)
    (hr : Steps p.tables e below (T.setTop { g with pc := g.pc + 1, stack := v :: rest }) target) : Steps p.tables e below (T.setTop g) target := by
  obtain ⟨cl, A, -, S, -, H, -⟩ := F
  have hin := inb_of S hj
  exact X.iaload hx (by rw [eT]; exact A.1) (State.isArrayOf_alike hZ.alike A.2.1) A.2.2 hin (Has.at H hin hv) hg hs hd target hr
theorem oLdB (X : Stand p l e R s m args below meth c T locs cells slots) (hx : p.tables.exec = Jvm.exec) (hZ : Z.Warmed39 s.vm) (eT : T.heap = h) (F : Arv Z h a k .byte z vs dv) {j : Int32} {v : Value} (hj : ¬ j < 0 ∧ j < z) (hv : vs.getD j.toNatClampNeg dv = v) {g : JFrame} (hg : g.method = m) {rest : List Value} (hs : g.stack = .int j :: .ref a :: rest) (hd : decode c.code g.pc = .ok (.baload, 1)) (target : State)
    (hr : Steps p.tables e below (T.setTop { g with pc := g.pc + 1, stack := v :: rest }) target) : Steps p.tables e below (T.setTop g) target := by
  obtain ⟨cl, A, -, S, -, H, -⟩ := F
  have hin := inb_of S hj
  exact X.baloadBytes hx (by rw [eT]; exact A.1) (State.isArrayOf_alike hZ.alike A.2.1) A.2.2 hin (Has.at H hin hv) hg hs hd target hr
theorem oLdJ (X : Stand p l e R s m args below meth c T locs cells slots) (hx : p.tables.exec = Jvm.exec) (hZ : Z.Warmed39 s.vm) (eT : T.heap = h) (F : Arv Z h a k .long z vs dv) {j : Int32} {v : Value} (hj : ¬ j < 0 ∧ j < z) (hv : vs.getD j.toNatClampNeg dv = v) {g : JFrame} (hg : g.method = m) {rest : List Value} (hs : g.stack = .int j :: .ref a :: rest) (hd : decode c.code g.pc = .ok (.laload, 1)) (target : State)
    (hr : Steps p.tables e below (T.setTop { g with pc := g.pc + 1, stack := v :: rest }) target) : Steps p.tables e below (T.setTop g) target := by
  obtain ⟨cl, A, -, S, -, H, -⟩ := F
  have hin := inb_of S hj
  exact X.laload hx (by rw [eT]; exact A.1) (State.isArrayOf_alike hZ.alike A.2.1) A.2.2 hin (Has.at H hin hv) hg hs hd target hr
theorem oLdD (X : Stand p l e R s m args below meth c T locs cells slots) (hx : p.tables.exec = Jvm.exec) (hZ : Z.Warmed39 s.vm) (eT : T.heap = h) (F : Arv Z h a k .double z vs dv) {j : Int32} {v : Value} (hj : ¬ j < 0 ∧ j < z) (hv : vs.getD j.toNatClampNeg dv = v) {g : JFrame} (hg : g.method = m) {rest : List Value} (hs : g.stack = .int j :: .ref a :: rest) (hd : decode c.code g.pc = .ok (.daload, 1)) (target : State)
    (hr : Steps p.tables e below (T.setTop { g with pc := g.pc + 1, stack := v :: rest }) target) : Steps p.tables e below (T.setTop g) target := by
  obtain ⟨cl, A, -, S, -, H, -⟩ := F
  have hin := inb_of S hj
  exact X.daload hx (by rw [eT]; exact A.1) (State.isArrayOf_alike hZ.alike A.2.1) A.2.2 hin (Has.at H hin hv) hg hs hd target hr
theorem oStI (X : Stand p l e R s m args below meth c T locs cells slots) (hx : p.tables.exec = Jvm.exec) (hZ : Z.Warmed39 s.vm) (eT : T.heap = h) (F : Arv Z h a k .int z vs dv) {j : Int32} {x : Int32} (hj : ¬ j < 0 ∧ j < z) (i : Nat) (hi : j.toNatClampNeg = i) (hl : i < vs.length) {g : JFrame} (hg : g.method = m) {rest : List Value} (hs : g.stack = .int x :: .int j :: .ref a :: rest) (hd : decode c.code g.pc = .ok (.iastore, 1)) :
    ∃ T' h', Stand p l e R s m args below meth c T' (locs ++ [⟨a, j.toNatClampNeg⟩]) cells slots ∧ T'.heap = h' ∧ Wr h h' a j.toNatClampNeg (.int x) ∧ Arv Z h' a k .int z (vs.set i (.int x)) dv ∧ ∀ target, Steps p.tables e below (T'.setTop { g with pc := g.pc + 1, stack := rest }) target → Steps p.tables e below (T.setTop g) target := by
  obtain ⟨cl, A, q1, S, M, H, G⟩ := F
  obtain ⟨T', h', X', e', W, st⟩ := stI X hx hZ eT A (j := j) (inb_of S hj) hg hs hd
  exact ⟨T', h', X', e', W, Arv.set A q1 S M H G rfl W i hi hl, st⟩
theorem oStB (X : Stand p l e R s m args below meth c T locs cells slots) (hx : p.tables.exec = Jvm.exec) (hZ : Z.Warmed39 s.vm) (eT : T.heap = h) (F : Arv Z h a k .byte z vs dv) {j : Int32} {x : Int32} (hj : ¬ j < 0 ∧ j < z) (i : Nat) (hi : j.toNatClampNeg = i) (hl : i < vs.length) {g : JFrame} (hg : g.method = m) {rest : List Value} (hs : g.stack = .int x :: .int j :: .ref a :: rest) (hd : decode c.code g.pc = .ok (.bastore, 1)) :
    ∃ T' h', Stand p l e R s m args below meth c T' (locs ++ [⟨a, j.toNatClampNeg⟩]) cells slots ∧ T'.heap = h' ∧ Wr h h' a j.toNatClampNeg (.int (nar .byte x)) ∧ Arv Z h' a k .byte z (vs.set i (.int (nar .byte x))) dv ∧ ∀ target, Steps p.tables e below (T'.setTop { g with pc := g.pc + 1, stack := rest }) target → Steps p.tables e below (T.setTop g) target := by
  obtain ⟨cl, A, q1, S, M, H, G⟩ := F
  obtain ⟨T', h', X', e', W, st⟩ := stB X hx hZ eT A (j := j) (inb_of S hj) hg hs hd
  exact ⟨T', h', X', e', W, Arv.set A q1 S M H G (fits_nar_byte x) W i hi hl, st⟩
theorem oStJ (X : Stand p l e R s m args below meth c T locs cells slots) (hx : p.tables.exec = Jvm.exec) (hZ : Z.Warmed39 s.vm) (eT : T.heap = h) (F : Arv Z h a k .long z vs dv) {j : Int32} {x : Int64} (hj : ¬ j < 0 ∧ j < z) (i : Nat) (hi : j.toNatClampNeg = i) (hl : i < vs.length) {g : JFrame} (hg : g.method = m) {rest : List Value} (hs : g.stack = .long x :: .int j :: .ref a :: rest) (hd : decode c.code g.pc = .ok (.lastore, 1)) :
    ∃ T' h', Stand p l e R s m args below meth c T' (locs ++ [⟨a, j.toNatClampNeg⟩]) cells slots ∧ T'.heap = h' ∧ Wr h h' a j.toNatClampNeg (.long x) ∧ Arv Z h' a k .long z (vs.set i (.long x)) dv ∧ ∀ target, Steps p.tables e below (T'.setTop { g with pc := g.pc + 1, stack := rest }) target → Steps p.tables e below (T.setTop g) target := by
  obtain ⟨cl, A, q1, S, M, H, G⟩ := F
  obtain ⟨T', h', X', e', W, st⟩ := stJ X hx hZ eT A (j := j) (inb_of S hj) hg hs hd
  exact ⟨T', h', X', e', W, Arv.set A q1 S M H G rfl W i hi hl, st⟩
theorem oStD (X : Stand p l e R s m args below meth c T locs cells slots) (hx : p.tables.exec = Jvm.exec) (hZ : Z.Warmed39 s.vm) (eT : T.heap = h) (F : Arv Z h a k .double z vs dv) {j : Int32} {x : UInt64} (hj : ¬ j < 0 ∧ j < z) (i : Nat) (hi : j.toNatClampNeg = i) (hl : i < vs.length) {g : JFrame} (hg : g.method = m) {rest : List Value} (hs : g.stack = .double x :: .int j :: .ref a :: rest) (hd : decode c.code g.pc = .ok (.dastore, 1)) :
    ∃ T' h', Stand p l e R s m args below meth c T' (locs ++ [⟨a, j.toNatClampNeg⟩]) cells slots ∧ T'.heap = h' ∧ Wr h h' a j.toNatClampNeg (.double x) ∧ Arv Z h' a k .double z (vs.set i (.double x)) dv ∧ ∀ target, Steps p.tables e below (T'.setTop { g with pc := g.pc + 1, stack := rest }) target → Steps p.tables e below (T.setTop g) target := by
  obtain ⟨cl, A, q1, S, M, H, G⟩ := F
  obtain ⟨T', h', X', e', W, st⟩ := stD X hx hZ eT A (j := j) (inb_of S hj) hg hs hd
  exact ⟨T', h', X', e', W, Arv.set A q1 S M H G rfl W i hi hl, st⟩
end OwnKit
abbrev oi (x : Int32) : Slot := .val (.int x)
abbrev oj (x : Int64) : Slot := .val (.long x)
abbrev oa (x : Addr) : Slot := .val (.ref x)
abbrev od (x : UInt64) : Slot := .val (.double x)
abbrev oS (p : Program) (e : Env) (below : List Frame) (T : State) (m : MethodId) (pc : Nat) (L : Array Slot) (S : List Value) (t : State) : Prop := Steps p.tables e below (T.setTop (mkF m pc L S)) t
theorem own_ltp (x k : Int32) : (x < k) = (x.toInt < k.toInt) := propext Int32.lt_iff_toInt_lt
theorem own_eqp (x k : Int32) : (x = k) = (x.toInt = k.toInt) := propext Int32.toInt_inj.symm
theorem own_ltpL (x k : Int64) : (x < k) = (x.toInt < k.toInt) := propext Int64.lt_iff_toInt_lt
theorem own_eqpL (x k : Int64) : (x = k) = (x.toInt = k.toInt) := propext Int64.toInt_inj.symm
theorem own_of_range {P : Int32 → Prop} (n : Nat) (h : ∀ i : Fin n, P (Int32.ofNat i.1)) (x : Int32) (h0 : 0 ≤ x.toInt) (h1 : x.toInt < (n : Int)) : P x := by
  have e : Int32.ofNat x.toInt.toNat = x := by
    rw [← Int32.ofInt_eq_ofNat, Int.toNat_of_nonneg h0, Int32.ofInt_toInt]
  have q := h ⟨x.toInt.toNat, by omega⟩
  rwa [e] at q
theorem own_getD (ws : List Int32) (n : Nat) : (ws.map Value.int).getD n (.int (0 : Int32)) = .int (ws.getD n 0) := by
  simp only [List.getD_eq_getElem?_getD, List.getElem?_map]
  cases ws[n]? <;> rfl

theorem own_pn0 : plainName "com/example/casement/casement/tree/Display" = true := by first | (simp [plainName, overriddenIn]; done) | decide +kernel
theorem own_d1_0 : decode prog_79_method_2_code 0 = .ok (.lload_n 0, 1) := by decide +kernel
theorem own_d1_1 : decode prog_79_method_2_code 1 = .ok (.lconst 1, 1) := by decide +kernel
theorem own_d1_2 : decode prog_79_method_2_code 2 = .ok (.lcmp, 1) := by decide +kernel
theorem own_d1_3 : decode prog_79_method_2_code 3 = .ok (.ifCond .lt 15, 3) := by decide +kernel
theorem own_d1_6 : decode prog_79_method_2_code 6 = .ok (.lload_n 0, 1) := by decide +kernel
theorem own_d1_7 : decode prog_79_method_2_code 7 = .ok (.ldc2_w 39, 3) := by decide +kernel
theorem own_d1_10 : decode prog_79_method_2_code 10 = .ok (.lcmp, 1) := by decide +kernel
theorem own_d1_11 : decode prog_79_method_2_code 11 = .ok (.ifCond .gt 7, 3) := by decide +kernel
theorem own_d1_14 : decode prog_79_method_2_code 14 = .ok (.iconst 1, 1) := by decide +kernel
theorem own_d1_15 : decode prog_79_method_2_code 15 = .ok (.goto 4, 3) := by decide +kernel
theorem own_d1_18 : decode prog_79_method_2_code 18 = .ok (.iconst 0, 1) := by decide +kernel
theorem own_d1_19 : decode prog_79_method_2_code 19 = .ok (.ireturn, 1) := by decide +kernel
theorem own_ef1 (m : MethodId) (q0 : Int64) : entryFrame m #[(.long q0)] 2 = mkF m 0 #[oj q0, .second] [] := by first | (simp [entryFrame, mkF, argsToLocals, Value.category]; done) | rfl
def own_f1 (q0 : Int64) : Int32 := (if q0 < (1 : Int64) then (0 : Int32) else (if (16384 : Int64) < q0 then (0 : Int32) else (1 : Int32)))
def own_Q1 (Z : State) (q0 : Int64) (h0 : Heap) (n0 : Nat) (v : Option Value) (h : Heap) (L : List Loc) : Prop := v = some (Value.int (own_f1 q0)) ∧ Fr n0 L ∧ h = h0
set_option maxRecDepth 65536 in
set_option maxHeartbeats 40000000 in
theorem own_rm1 (l : Launch) (Z : State) (av : Array Value) (hw : ∀ d ∈ tables_1, d.before av Z = true) (ws : List Jvm.Cond) (q0 : Int64) (h0 : Heap) (n0 : Nat) (Z0 : n0 ≤ h0.size) :
    MetFree l (⟨"com/example/casement/casement/tree/Display", "isSide", "(J)Z"⟩ : MethodName) (head1 (Jvm.Cond.code (⟨"com/example/casement/casement/tree/Display", "isSide", "(J)Z"⟩ : MethodName) prog_79_method_2_code 2 (some .boolean) :: ws) ({ frames := 0, cells := 0, slots := 0, locals := 0 } : Room)) (fun a U => a = #[(.long q0)] ∧ Z.Warmed39 U.vm ∧ U.heap = h0) (fun _ _ _ _ _ => True) (fun _ U o U' => ∃ v L, o = .returned v ∧ own_Q1 Z q0 h0 n0 v U'.heap L ∧ FrameEnd U o U' L ({ frames := 0, cells := 0, slots := 0, locals := 0 } : Room).cells ({ frames := 0, cells := 0, slots := 0, locals := 0 } : Room).slots) := by
  refine MetFree.of_bodySF (plainFor_of_name own_pn0) hisR ?_
  intro p e s m args below meth c s₁ Bd hml0 hP hK
  obtain ⟨rfl, hZ, hh⟩ := hP
  have hx := Bd.exec
  have hby := Bd.bytes
  have hml : c.maxLocals = 2 := hml0
  have hown : s.vm.findClass "com/example/casement/casement/tree/Display" = some m.cls := findClass_of_methodNamed Bd.named
  have hnm := (name_of_methodNamed Bd.named Bd.method).1
  have X0 : Stand p l e ({ frames := 0, cells := 0, slots := 0, locals := 0 } : Room) s m #[(.long q0)] below meth c s₁ [] 0 0 := Stand.of_body Bd
  have e0 : s₁.heap = h0 := by rw [← hh, Bd.state]; rfl
  have N0 := Fr.nil n0
  have pre0 : ∀ t, Steps p.tables e below (s₁.setTop (mkF m 0 #[oj q0, .second] [])) t → Steps p.tables e below (s₁.setTop (entryFrame m #[(.long q0)] 2)) t := fun t k => castTop (own_ef1 m q0) k
  have pre1 : ∀ t, Steps p.tables e below (s₁.setTop (mkF m 3 #[oj q0, .second] [(.int (lcmpW q0 (1 : Int64)))])) t → Steps p.tables e below (s₁.setTop (entryFrame m #[(.long q0)] 2)) t := by
    intro t k
    refine pre0 t ?_
    show oS p e below s₁ m 0 #[oj q0, .second] [] _
    refine XS.lloadN X0.here hx rfl (hb hby own_d1_0) rfl ?_
    show oS p e below s₁ m 1 #[oj q0, .second] [(.long q0)] _
    refine XS.lconst X0.here hx rfl (hb hby own_d1_1) ?_
    show oS p e below s₁ m 2 #[oj q0, .second] [(.long (1 : Int64)), (.long q0)] _
    refine XS.lcmp X0.here hx rfl (hb hby own_d1_2) rfl ?_
    exact k
  by_cases c2 : q0 < (1 : Int64)
  · skip
    obtain ⟨fs, hr, hrun, hended, hW, hsame⟩ := X0.leave (v := (some (.int (0 : Int32)))) (fun h => by rw [Bd.returns] at h; cases h)
    refine ⟨_, _, pre1 _ ?_, hrun, hended, _, _, rfl, ?_, ⟨_, rfl⟩, hW, hsame.mono (by decide) (by decide)⟩
    · show oS p e below s₁ m 3 #[oj q0, .second] [(.int (lcmpW q0 (1 : Int64)))] _
      refine XS.ifYes X0.here hx rfl (pc0 := 3) (pc' := 18) rfl (hb hby own_d1_3) rfl ((if0 _ _).trans (tlt ((lw_lt q0 (1 : Int64)).mpr c2)).1) (by decide) (by decide) ?_
      show oS p e below s₁ m 18 #[oj q0, .second] [] _
      refine XS.iconst X0.here hx rfl (hb hby own_d1_18) ?_
      show oS p e below s₁ m 19 #[oj q0, .second] [(.int (0 : Int32))] _
      exact retN X0 hx (t := .boolean) Bd.returns (by simp) (hb hby own_d1_19) hr
    · show own_Q1 Z q0 h0 n0 _ s₁.heap _
      rw [e0]
      exact ⟨congrArg (fun z => some (Value.int z)) (by rw [own_f1, if_pos c2]), N0, rfl⟩
  · skip
    have pre3 : ∀ t, Steps p.tables e below (s₁.setTop (mkF m 11 #[oj q0, .second] [(.int (lcmpW q0 (16384 : Int64)))])) t → Steps p.tables e below (s₁.setTop (entryFrame m #[(.long q0)] 2)) t := by
      intro t k
      refine pre1 t ?_
      show oS p e below s₁ m 3 #[oj q0, .second] [(.int (lcmpW q0 (1 : Int64)))] _
      refine XS.ifNo X0.here hx rfl (hb hby own_d1_3) rfl ((if0 _ _).trans (flt (fun q => c2 ((lw_lt q0 (1 : Int64)).mp q))).1) ?_
      show oS p e below s₁ m 6 #[oj q0, .second] [] _
      refine XS.lloadN X0.here hx rfl (hb hby own_d1_6) rfl ?_
      show oS p e below s₁ m 7 #[oj q0, .second] [(.long q0)] _
      refine X0.ldc2Long hx hown (mvT hZ (hw _ (List.mem_of_getElem? (i := 6) rfl))) (g := (mkF m 7 #[oj q0, .second] [(.long q0)])) rfl (hb hby own_d1_7) _ ?_
      show oS p e below s₁ m 10 #[oj q0, .second] [(.long (16384 : Int64)), (.long q0)] _
      refine XS.lcmp X0.here hx rfl (hb hby own_d1_10) rfl ?_
      exact k
    by_cases c4 : (16384 : Int64) < q0
    · skip
      obtain ⟨fs, hr, hrun, hended, hW, hsame⟩ := X0.leave (v := (some (.int (0 : Int32)))) (fun h => by rw [Bd.returns] at h; cases h)
      refine ⟨_, _, pre3 _ ?_, hrun, hended, _, _, rfl, ?_, ⟨_, rfl⟩, hW, hsame.mono (by decide) (by decide)⟩
      · show oS p e below s₁ m 11 #[oj q0, .second] [(.int (lcmpW q0 (16384 : Int64)))] _
        refine XS.ifYes X0.here hx rfl (pc0 := 11) (pc' := 18) rfl (hb hby own_d1_11) rfl ((if0 _ _).trans (tlt ((lw_gt q0 (16384 : Int64)).mpr c4)).2.2.1) (by decide) (by decide) ?_
        show oS p e below s₁ m 18 #[oj q0, .second] [] _
        refine XS.iconst X0.here hx rfl (hb hby own_d1_18) ?_
        show oS p e below s₁ m 19 #[oj q0, .second] [(.int (0 : Int32))] _
        exact retN X0 hx (t := .boolean) Bd.returns (by simp) (hb hby own_d1_19) hr
      · show own_Q1 Z q0 h0 n0 _ s₁.heap _
        rw [e0]
        exact ⟨congrArg (fun z => some (Value.int z)) (by rw [own_f1, if_neg c2, if_pos c4]), N0, rfl⟩
    · skip
      obtain ⟨fs, hr, hrun, hended, hW, hsame⟩ := X0.leave (v := (some (.int (1 : Int32)))) (fun h => by rw [Bd.returns] at h; cases h)
      refine ⟨_, _, pre3 _ ?_, hrun, hended, _, _, rfl, ?_, ⟨_, rfl⟩, hW, hsame.mono (by decide) (by decide)⟩
      · show oS p e below s₁ m 11 #[oj q0, .second] [(.int (lcmpW q0 (16384 : Int64)))] _
        refine XS.ifNo X0.here hx rfl (hb hby own_d1_11) rfl ((if0 _ _).trans (flt (fun q => c4 ((lw_gt q0 (16384 : Int64)).mp q))).2.2.1) ?_
        show oS p e below s₁ m 14 #[oj q0, .second] [] _
        refine XS.iconst X0.here hx rfl (hb hby own_d1_14) ?_
        show oS p e below s₁ m 15 #[oj q0, .second] [(.int (1 : Int32))] _
        refine XS.goto X0.here hx rfl (pc0 := 15) (pc' := 19) rfl (hb hby own_d1_15) (by decide) (by decide) ?_
        show oS p e below s₁ m 19 #[oj q0, .second] [(.int (1 : Int32))] _
        exact retN X0 hx (t := .boolean) Bd.returns (by simp) (hb hby own_d1_19) hr
      · show own_Q1 Z q0 h0 n0 _ s₁.heap _
        rw [e0]
        exact ⟨congrArg (fun z => some (Value.int z)) (by rw [own_f1, if_neg c2, if_neg c4]), N0, rfl⟩
theorem own_pn1 : plainName "com/example/casement/casement/tree/DisplayIsSidePinLaw" = true := by first | (simp [plainName, overriddenIn]; done) | decide +kernel
theorem own_d2_0 : decode method_2_code 0 = .ok (.lload_n 0, 1) := by decide +kernel
theorem own_d2_1 : decode method_2_code 1 = .ok (.lconst 1, 1) := by decide +kernel
theorem own_d2_2 : decode method_2_code 2 = .ok (.lsub, 1) := by decide +kernel
theorem own_d2_3 : decode method_2_code 3 = .ok (.bipush 14, 2) := by decide +kernel
theorem own_d2_5 : decode method_2_code 5 = .ok (.lushr, 1) := by decide +kernel
theorem own_d2_6 : decode method_2_code 6 = .ok (.lconst 0, 1) := by decide +kernel
theorem own_d2_7 : decode method_2_code 7 = .ok (.lcmp, 1) := by decide +kernel
theorem own_d2_8 : decode method_2_code 8 = .ok (.ifCond .ne 7, 3) := by decide +kernel
theorem own_d2_11 : decode method_2_code 11 = .ok (.iconst 1, 1) := by decide +kernel
theorem own_d2_12 : decode method_2_code 12 = .ok (.goto 4, 3) := by decide +kernel
theorem own_d2_15 : decode method_2_code 15 = .ok (.iconst 0, 1) := by decide +kernel
theorem own_d2_16 : decode method_2_code 16 = .ok (.ireturn, 1) := by decide +kernel
theorem own_ef2 (m : MethodId) (q0 : Int64) : entryFrame m #[(.long q0)] 2 = mkF m 0 #[oj q0, .second] [] := by first | (simp [entryFrame, mkF, argsToLocals, Value.category]; done) | rfl
def own_f2 (q0 : Int64) : Int32 := (if (((q0 - (1 : Int64)).toUInt64 >>> ((14 : Int32) &&& 0x3f).toInt64.toUInt64).toInt64) = (0 : Int64) then (1 : Int32) else (0 : Int32))
def own_Q2 (Z : State) (q0 : Int64) (h0 : Heap) (n0 : Nat) (v : Option Value) (h : Heap) (L : List Loc) : Prop := v = some (Value.int (own_f2 q0)) ∧ Fr n0 L ∧ h = h0
set_option maxRecDepth 65536 in
set_option maxHeartbeats 40000000 in
theorem own_rm2 (l : Launch) (Z : State) (av : Array Value) (hw : ∀ d ∈ tables_1, d.before av Z = true) (ws : List Jvm.Cond) (q0 : Int64) (h0 : Heap) (n0 : Nat) (Z0 : n0 ≤ h0.size) :
    MetFree l (⟨"com/example/casement/casement/tree/DisplayIsSidePinLaw", "reference", "(J)Z"⟩ : MethodName) (head1 (Jvm.Cond.code (⟨"com/example/casement/casement/tree/DisplayIsSidePinLaw", "reference", "(J)Z"⟩ : MethodName) method_2_code 2 (some .boolean) :: ws) ({ frames := 0, cells := 0, slots := 0, locals := 0 } : Room)) (fun a U => a = #[(.long q0)] ∧ Z.Warmed39 U.vm ∧ U.heap = h0) (fun _ _ _ _ _ => True) (fun _ U o U' => ∃ v L, o = .returned v ∧ own_Q2 Z q0 h0 n0 v U'.heap L ∧ FrameEnd U o U' L ({ frames := 0, cells := 0, slots := 0, locals := 0 } : Room).cells ({ frames := 0, cells := 0, slots := 0, locals := 0 } : Room).slots) := by
  refine MetFree.of_bodySF (plainFor_of_name own_pn1) hisR ?_
  intro p e s m args below meth c s₁ Bd hml0 hP hK
  obtain ⟨rfl, hZ, hh⟩ := hP
  have hx := Bd.exec
  have hby := Bd.bytes
  have hml : c.maxLocals = 2 := hml0
  have hown : s.vm.findClass "com/example/casement/casement/tree/DisplayIsSidePinLaw" = some m.cls := findClass_of_methodNamed Bd.named
  have hnm := (name_of_methodNamed Bd.named Bd.method).1
  have X0 : Stand p l e ({ frames := 0, cells := 0, slots := 0, locals := 0 } : Room) s m #[(.long q0)] below meth c s₁ [] 0 0 := Stand.of_body Bd
  have e0 : s₁.heap = h0 := by rw [← hh, Bd.state]; rfl
  have N0 := Fr.nil n0
  have pre0 : ∀ t, Steps p.tables e below (s₁.setTop (mkF m 0 #[oj q0, .second] [])) t → Steps p.tables e below (s₁.setTop (entryFrame m #[(.long q0)] 2)) t := fun t k => castTop (own_ef2 m q0) k
  have pre1 : ∀ t, Steps p.tables e below (s₁.setTop (mkF m 8 #[oj q0, .second] [(.int (lcmpW (((q0 - (1 : Int64)).toUInt64 >>> ((14 : Int32) &&& 0x3f).toInt64.toUInt64).toInt64) (0 : Int64)))])) t → Steps p.tables e below (s₁.setTop (entryFrame m #[(.long q0)] 2)) t := by
    intro t k
    refine pre0 t ?_
    show oS p e below s₁ m 0 #[oj q0, .second] [] _
    refine XS.lloadN X0.here hx rfl (hb hby own_d2_0) rfl ?_
    show oS p e below s₁ m 1 #[oj q0, .second] [(.long q0)] _
    refine XS.lconst X0.here hx rfl (hb hby own_d2_1) ?_
    show oS p e below s₁ m 2 #[oj q0, .second] [(.long (1 : Int64)), (.long q0)] _
    refine XS.lsub X0.here hx rfl (hb hby own_d2_2) rfl ?_
    show oS p e below s₁ m 3 #[oj q0, .second] [(.long (q0 - (1 : Int64)))] _
    refine XS.bipush X0.here hx rfl (hb hby own_d2_3) ?_
    show oS p e below s₁ m 5 #[oj q0, .second] [(.int (14 : Int32)), (.long (q0 - (1 : Int64)))] _
    refine XS.lushr X0.here hx rfl (hb hby own_d2_5) rfl ?_
    show oS p e below s₁ m 6 #[oj q0, .second] [(.long (((q0 - (1 : Int64)).toUInt64 >>> ((14 : Int32) &&& 0x3f).toInt64.toUInt64).toInt64))] _
    refine XS.lconst X0.here hx rfl (hb hby own_d2_6) ?_
    show oS p e below s₁ m 7 #[oj q0, .second] [(.long (0 : Int64)), (.long (((q0 - (1 : Int64)).toUInt64 >>> ((14 : Int32) &&& 0x3f).toInt64.toUInt64).toInt64))] _
    refine XS.lcmp X0.here hx rfl (hb hby own_d2_7) rfl ?_
    exact k
  by_cases c2 : (((q0 - (1 : Int64)).toUInt64 >>> ((14 : Int32) &&& 0x3f).toInt64.toUInt64).toInt64) = (0 : Int64)
  · skip
    obtain ⟨fs, hr, hrun, hended, hW, hsame⟩ := X0.leave (v := (some (.int (1 : Int32)))) (fun h => by rw [Bd.returns] at h; cases h)
    refine ⟨_, _, pre1 _ ?_, hrun, hended, _, _, rfl, ?_, ⟨_, rfl⟩, hW, hsame.mono (by decide) (by decide)⟩
    · show oS p e below s₁ m 8 #[oj q0, .second] [(.int (lcmpW (((q0 - (1 : Int64)).toUInt64 >>> ((14 : Int32) &&& 0x3f).toInt64.toUInt64).toInt64) (0 : Int64)))] _
      refine XS.ifNo X0.here hx rfl (hb hby own_d2_8) rfl ((if0 _ _).trans (teq ((lw_eq (((q0 - (1 : Int64)).toUInt64 >>> ((14 : Int32) &&& 0x3f).toInt64.toUInt64).toInt64) (0 : Int64)).mpr c2)).2) ?_
      show oS p e below s₁ m 11 #[oj q0, .second] [] _
      refine XS.iconst X0.here hx rfl (hb hby own_d2_11) ?_
      show oS p e below s₁ m 12 #[oj q0, .second] [(.int (1 : Int32))] _
      refine XS.goto X0.here hx rfl (pc0 := 12) (pc' := 16) rfl (hb hby own_d2_12) (by decide) (by decide) ?_
      show oS p e below s₁ m 16 #[oj q0, .second] [(.int (1 : Int32))] _
      exact retN X0 hx (t := .boolean) Bd.returns (by simp) (hb hby own_d2_16) hr
    · show own_Q2 Z q0 h0 n0 _ s₁.heap _
      rw [e0]
      exact ⟨congrArg (fun z => some (Value.int z)) (by rw [own_f2, if_pos c2]), N0, rfl⟩
  · skip
    obtain ⟨fs, hr, hrun, hended, hW, hsame⟩ := X0.leave (v := (some (.int (0 : Int32)))) (fun h => by rw [Bd.returns] at h; cases h)
    refine ⟨_, _, pre1 _ ?_, hrun, hended, _, _, rfl, ?_, ⟨_, rfl⟩, hW, hsame.mono (by decide) (by decide)⟩
    · show oS p e below s₁ m 8 #[oj q0, .second] [(.int (lcmpW (((q0 - (1 : Int64)).toUInt64 >>> ((14 : Int32) &&& 0x3f).toInt64.toUInt64).toInt64) (0 : Int64)))] _
      refine XS.ifYes X0.here hx rfl (pc0 := 8) (pc' := 15) rfl (hb hby own_d2_8) rfl ((if0 _ _).trans (feq (fun q => c2 ((lw_eq (((q0 - (1 : Int64)).toUInt64 >>> ((14 : Int32) &&& 0x3f).toInt64.toUInt64).toInt64) (0 : Int64)).mp q))).2) (by decide) (by decide) ?_
      show oS p e below s₁ m 15 #[oj q0, .second] [] _
      refine XS.iconst X0.here hx rfl (hb hby own_d2_15) ?_
      show oS p e below s₁ m 16 #[oj q0, .second] [(.int (0 : Int32))] _
      exact retN X0 hx (t := .boolean) Bd.returns (by simp) (hb hby own_d2_16) hr
    · show own_Q2 Z q0 h0 n0 _ s₁.heap _
      rw [e0]
      exact ⟨congrArg (fun z => some (Value.int z)) (by rw [own_f2, if_neg c2]), N0, rfl⟩
theorem own_eq (p : Int64) : own_f1 p = own_f2 p := by
  have h1 : (((p - (1 : Int64)).toUInt64 >>> ((14 : Int32) &&& 0x3f).toInt64.toUInt64).toInt64).toInt = ((p - (1 : Int64)).toInt % 18446744073709551616) / 16384 := c_lushr (p - 1) 14 14 (by decide) (by decide)
  have h2 := c_lsub p 1
  have h3 := rng64 p
  have h4 := rng64 (p - 1)
  unfold own_f1 own_f2
  simp only [own_ltpL, own_eqpL, Int64.reduceToInt, h1] at h2 ⊢
  repeat' split
  all_goals first | rfl | (exfalso; omega)
theorem own_pd0 : parseMethodDescriptor "(J)Z" = some ⟨[.long], some .boolean⟩ := by decide +kernel
theorem own_ef0 (m : MethodId) (q0 : Int64) (p1 : Int32) : entryFrame m #[(.long q0), (.int p1)] maxLocals = mkF m 0 #[oj q0, .second, oi p1, .unset, .unset, .unset, .unset, .unset] [] := by first | (simp [entryFrame, mkF, argsToLocals, Value.category, maxLocals]; done) | rfl
def own_Q0 (Z : State) (q0 : Int64) (p1 : Int32) (h0 : Heap) (n0 : Nat) (v : Option Value) (h : Heap) (L : List Loc) : Prop := v = some (Value.int (1 : Int32)) ∧ Fr n0 L
set_option maxRecDepth 65536 in
set_option maxHeartbeats 40000000 in
theorem own_rm0 (l : Launch) (Z : State) (av : Array Value) (hw : ∀ d ∈ tables_1, d.before av Z = true) (ws : List Jvm.Cond) (q0 : Int64) (p1 : Int32) (h0 : Heap) (n0 : Nat) (Z0 : n0 ≤ h0.size) :
    MetFree l x (head1 (Jvm.Cond.code x code maxLocals ret :: ws) room_1) (fun a U => a = #[(.long q0), (.int p1)] ∧ Z.Warmed39 U.vm ∧ U.heap = h0) (fun _ _ _ _ _ => True) (fun _ U o U' => ∃ v L, o = .returned v ∧ own_Q0 Z q0 p1 h0 n0 v U'.heap L ∧ FrameEnd U o U' L room_1.cells room_1.slots) := by
  refine MetFree.of_bodySF (plainFor_of_name own_pn1) hisR ?_
  intro p e s m args below meth c s₁ Bd hml0 hP hK
  obtain ⟨rfl, hZ, hh⟩ := hP
  have hx := Bd.exec
  have hby := Bd.bytes
  have hml : c.maxLocals = 8 := hml0
  have hown : s.vm.findClass "com/example/casement/casement/tree/DisplayIsSidePinLaw" = some m.cls := findClass_of_methodNamed Bd.named
  have hnm := (name_of_methodNamed Bd.named Bd.method).1
  have X0 : Stand p l e room_1 s m #[(.long q0), (.int p1)] below meth c s₁ [] 0 0 := Stand.of_body Bd
  have e0 : s₁.heap = h0 := by rw [← hh, Bd.state]; rfl
  have N0 := Fr.nil n0
  have pre0 : ∀ t, Steps p.tables e below (s₁.setTop (mkF m 0 #[oj q0, .second, oi p1, .unset, .unset, .unset, .unset, .unset] [])) t → Steps p.tables e below (s₁.setTop (entryFrame m #[(.long q0), (.int p1)] maxLocals)) t := fun t k => castTop (own_ef0 m q0 p1) k
  have pre1 : ∀ t, Steps p.tables e below (s₁.setTop (mkF m 19 #[oj q0, .second, oi p1, oi (p1 &&& (3 : Int32)), oj (((((p1.toUInt32 >>> ((2 : Int32) &&& 31).toUInt32).toInt32) &&& (7 : Int32)).toInt64) - (4 : Int64)), .second, .unset, .unset] [(.int (1 : Int32)), (.int (p1 &&& (3 : Int32)))])) t → Steps p.tables e below (s₁.setTop (entryFrame m #[(.long q0), (.int p1)] maxLocals)) t := by
    intro t k
    refine pre0 t ?_
    show oS p e below s₁ m 0 #[oj q0, .second, oi p1, .unset, .unset, .unset, .unset, .unset] [] _
    refine XS.iloadN X0.here hx rfl (hb hby at_0) rfl ?_
    show oS p e below s₁ m 1 #[oj q0, .second, oi p1, .unset, .unset, .unset, .unset, .unset] [(.int p1)] _
    refine XS.iconst X0.here hx rfl (hb hby at_1) ?_
    show oS p e below s₁ m 2 #[oj q0, .second, oi p1, .unset, .unset, .unset, .unset, .unset] [(.int (3 : Int32)), (.int p1)] _
    refine XS.iand X0.here hx rfl (hb hby at_2) rfl ?_
    show oS p e below s₁ m 3 #[oj q0, .second, oi p1, .unset, .unset, .unset, .unset, .unset] [(.int (p1 &&& (3 : Int32)))] _
    refine XS.istoreN X0.here hx rfl (hb hby at_3) rfl (l' := #[oj q0, .second, oi p1, oi (p1 &&& (3 : Int32)), .unset, .unset, .unset, .unset]) rfl ?_
    show oS p e below s₁ m 4 #[oj q0, .second, oi p1, oi (p1 &&& (3 : Int32)), .unset, .unset, .unset, .unset] [] _
    refine XS.iloadN X0.here hx rfl (hb hby at_4) rfl ?_
    show oS p e below s₁ m 5 #[oj q0, .second, oi p1, oi (p1 &&& (3 : Int32)), .unset, .unset, .unset, .unset] [(.int p1)] _
    refine XS.iconst X0.here hx rfl (hb hby at_5) ?_
    show oS p e below s₁ m 6 #[oj q0, .second, oi p1, oi (p1 &&& (3 : Int32)), .unset, .unset, .unset, .unset] [(.int (2 : Int32)), (.int p1)] _
    refine XS.iushr X0.here hx rfl (hb hby at_6) rfl ?_
    show oS p e below s₁ m 7 #[oj q0, .second, oi p1, oi (p1 &&& (3 : Int32)), .unset, .unset, .unset, .unset] [(.int ((p1.toUInt32 >>> ((2 : Int32) &&& 31).toUInt32).toInt32))] _
    refine XS.bipush X0.here hx rfl (hb hby at_7) ?_
    show oS p e below s₁ m 9 #[oj q0, .second, oi p1, oi (p1 &&& (3 : Int32)), .unset, .unset, .unset, .unset] [(.int (7 : Int32)), (.int ((p1.toUInt32 >>> ((2 : Int32) &&& 31).toUInt32).toInt32))] _
    refine XS.iand X0.here hx rfl (hb hby at_9) rfl ?_
    show oS p e below s₁ m 10 #[oj q0, .second, oi p1, oi (p1 &&& (3 : Int32)), .unset, .unset, .unset, .unset] [(.int (((p1.toUInt32 >>> ((2 : Int32) &&& 31).toUInt32).toInt32) &&& (7 : Int32)))] _
    refine XS.i2l X0.here hx rfl (hb hby at_10) rfl ?_
    show oS p e below s₁ m 11 #[oj q0, .second, oi p1, oi (p1 &&& (3 : Int32)), .unset, .unset, .unset, .unset] [(.long ((((p1.toUInt32 >>> ((2 : Int32) &&& 31).toUInt32).toInt32) &&& (7 : Int32)).toInt64))] _
    refine X0.ldc2Long hx hown (mvT hZ (hw _ (List.mem_of_getElem? (i := 0) rfl))) (g := (mkF m 11 #[oj q0, .second, oi p1, oi (p1 &&& (3 : Int32)), .unset, .unset, .unset, .unset] [(.long ((((p1.toUInt32 >>> ((2 : Int32) &&& 31).toUInt32).toInt32) &&& (7 : Int32)).toInt64))])) rfl (hb hby at_11) _ ?_
    show oS p e below s₁ m 14 #[oj q0, .second, oi p1, oi (p1 &&& (3 : Int32)), .unset, .unset, .unset, .unset] [(.long (4 : Int64)), (.long ((((p1.toUInt32 >>> ((2 : Int32) &&& 31).toUInt32).toInt32) &&& (7 : Int32)).toInt64))] _
    refine XS.lsub X0.here hx rfl (hb hby at_14) rfl ?_
    show oS p e below s₁ m 15 #[oj q0, .second, oi p1, oi (p1 &&& (3 : Int32)), .unset, .unset, .unset, .unset] [(.long (((((p1.toUInt32 >>> ((2 : Int32) &&& 31).toUInt32).toInt32) &&& (7 : Int32)).toInt64) - (4 : Int64)))] _
    refine XS.lstore X0.here hx rfl (hb hby at_15) rfl (l' := #[oj q0, .second, oi p1, oi (p1 &&& (3 : Int32)), oj (((((p1.toUInt32 >>> ((2 : Int32) &&& 31).toUInt32).toInt32) &&& (7 : Int32)).toInt64) - (4 : Int64)), .second, .unset, .unset]) rfl ?_
    show oS p e below s₁ m 17 #[oj q0, .second, oi p1, oi (p1 &&& (3 : Int32)), oj (((((p1.toUInt32 >>> ((2 : Int32) &&& 31).toUInt32).toInt32) &&& (7 : Int32)).toInt64) - (4 : Int64)), .second, .unset, .unset] [] _
    refine XS.iloadN X0.here hx rfl (hb hby at_17) rfl ?_
    show oS p e below s₁ m 18 #[oj q0, .second, oi p1, oi (p1 &&& (3 : Int32)), oj (((((p1.toUInt32 >>> ((2 : Int32) &&& 31).toUInt32).toInt32) &&& (7 : Int32)).toInt64) - (4 : Int64)), .second, .unset, .unset] [(.int (p1 &&& (3 : Int32)))] _
    refine XS.iconst X0.here hx rfl (hb hby at_18) ?_
    exact k
  obtain ⟨v4, hv4⟩ : ∃ z : Int64, z = (if (p1 &&& (3 : Int32)) = (1 : Int32) then ((1 : Int64) + (((((p1.toUInt32 >>> ((2 : Int32) &&& 31).toUInt32).toInt32) &&& (7 : Int32)).toInt64) - (4 : Int64))) else (if (p1 &&& (3 : Int32)) = (2 : Int32) then ((16384 : Int64) + (((((p1.toUInt32 >>> ((2 : Int32) &&& 31).toUInt32).toInt32) &&& (7 : Int32)).toInt64) - (4 : Int64))) else q0)) := ⟨_, rfl⟩
  have pre5 : ∀ t, Steps p.tables e below (s₁.setTop (mkF m 50 #[oj q0, .second, oi p1, oi (p1 &&& (3 : Int32)), oj (((((p1.toUInt32 >>> ((2 : Int32) &&& 31).toUInt32).toInt32) &&& (7 : Int32)).toInt64) - (4 : Int64)), .second, oj v4, .second] [])) t → Steps p.tables e below (s₁.setTop (entryFrame m #[(.long q0), (.int p1)] maxLocals)) t := by
    intro t k
    by_cases c2 : (p1 &&& (3 : Int32)) = (1 : Int32)
    · skip
      rw [show v4 = ((1 : Int64) + (((((p1.toUInt32 >>> ((2 : Int32) &&& 31).toUInt32).toInt32) &&& (7 : Int32)).toInt64) - (4 : Int64))) from hv4.trans (by rw [if_pos c2])] at k
      refine pre1 t ?_
      show oS p e below s₁ m 19 #[oj q0, .second, oi p1, oi (p1 &&& (3 : Int32)), oj (((((p1.toUInt32 >>> ((2 : Int32) &&& 31).toUInt32).toInt32) &&& (7 : Int32)).toInt64) - (4 : Int64)), .second, .unset, .unset] [(.int (1 : Int32)), (.int (p1 &&& (3 : Int32)))] _
      refine XS.icmpNo X0.here hx rfl (hb hby at_19) rfl (teq c2).2 ?_
      show oS p e below s₁ m 22 #[oj q0, .second, oi p1, oi (p1 &&& (3 : Int32)), oj (((((p1.toUInt32 >>> ((2 : Int32) &&& 31).toUInt32).toInt32) &&& (7 : Int32)).toInt64) - (4 : Int64)), .second, .unset, .unset] [] _
      refine XS.lconst X0.here hx rfl (hb hby at_22) ?_
      show oS p e below s₁ m 23 #[oj q0, .second, oi p1, oi (p1 &&& (3 : Int32)), oj (((((p1.toUInt32 >>> ((2 : Int32) &&& 31).toUInt32).toInt32) &&& (7 : Int32)).toInt64) - (4 : Int64)), .second, .unset, .unset] [(.long (1 : Int64))] _
      refine XS.lload X0.here hx rfl (hb hby at_23) rfl ?_
      show oS p e below s₁ m 25 #[oj q0, .second, oi p1, oi (p1 &&& (3 : Int32)), oj (((((p1.toUInt32 >>> ((2 : Int32) &&& 31).toUInt32).toInt32) &&& (7 : Int32)).toInt64) - (4 : Int64)), .second, .unset, .unset] [(.long (((((p1.toUInt32 >>> ((2 : Int32) &&& 31).toUInt32).toInt32) &&& (7 : Int32)).toInt64) - (4 : Int64))), (.long (1 : Int64))] _
      refine XS.ladd X0.here hx rfl (hb hby at_25) rfl ?_
      show oS p e below s₁ m 26 #[oj q0, .second, oi p1, oi (p1 &&& (3 : Int32)), oj (((((p1.toUInt32 >>> ((2 : Int32) &&& 31).toUInt32).toInt32) &&& (7 : Int32)).toInt64) - (4 : Int64)), .second, .unset, .unset] [(.long ((1 : Int64) + (((((p1.toUInt32 >>> ((2 : Int32) &&& 31).toUInt32).toInt32) &&& (7 : Int32)).toInt64) - (4 : Int64))))] _
      refine XS.lstore X0.here hx rfl (hb hby at_26) rfl (l' := #[oj q0, .second, oi p1, oi (p1 &&& (3 : Int32)), oj (((((p1.toUInt32 >>> ((2 : Int32) &&& 31).toUInt32).toInt32) &&& (7 : Int32)).toInt64) - (4 : Int64)), .second, oj ((1 : Int64) + (((((p1.toUInt32 >>> ((2 : Int32) &&& 31).toUInt32).toInt32) &&& (7 : Int32)).toInt64) - (4 : Int64))), .second]) rfl ?_
      show oS p e below s₁ m 28 #[oj q0, .second, oi p1, oi (p1 &&& (3 : Int32)), oj (((((p1.toUInt32 >>> ((2 : Int32) &&& 31).toUInt32).toInt32) &&& (7 : Int32)).toInt64) - (4 : Int64)), .second, oj ((1 : Int64) + (((((p1.toUInt32 >>> ((2 : Int32) &&& 31).toUInt32).toInt32) &&& (7 : Int32)).toInt64) - (4 : Int64))), .second] [] _
      refine XS.goto X0.here hx rfl (pc0 := 28) (pc' := 50) rfl (hb hby at_28) (by decide) (by decide) ?_
      exact k
    · skip
      by_cases c3 : (p1 &&& (3 : Int32)) = (2 : Int32)
      · skip
        rw [show v4 = ((16384 : Int64) + (((((p1.toUInt32 >>> ((2 : Int32) &&& 31).toUInt32).toInt32) &&& (7 : Int32)).toInt64) - (4 : Int64))) from hv4.trans (by rw [if_neg c2, if_pos c3])] at k
        refine pre1 t ?_
        show oS p e below s₁ m 19 #[oj q0, .second, oi p1, oi (p1 &&& (3 : Int32)), oj (((((p1.toUInt32 >>> ((2 : Int32) &&& 31).toUInt32).toInt32) &&& (7 : Int32)).toInt64) - (4 : Int64)), .second, .unset, .unset] [(.int (1 : Int32)), (.int (p1 &&& (3 : Int32)))] _
        refine XS.icmpYes X0.here hx rfl (pc0 := 19) (pc' := 31) rfl (hb hby at_19) rfl (feq c2).2 (by decide) (by decide) ?_
        show oS p e below s₁ m 31 #[oj q0, .second, oi p1, oi (p1 &&& (3 : Int32)), oj (((((p1.toUInt32 >>> ((2 : Int32) &&& 31).toUInt32).toInt32) &&& (7 : Int32)).toInt64) - (4 : Int64)), .second, .unset, .unset] [] _
        refine XS.iloadN X0.here hx rfl (hb hby at_31) rfl ?_
        show oS p e below s₁ m 32 #[oj q0, .second, oi p1, oi (p1 &&& (3 : Int32)), oj (((((p1.toUInt32 >>> ((2 : Int32) &&& 31).toUInt32).toInt32) &&& (7 : Int32)).toInt64) - (4 : Int64)), .second, .unset, .unset] [(.int (p1 &&& (3 : Int32)))] _
        refine XS.iconst X0.here hx rfl (hb hby at_32) ?_
        show oS p e below s₁ m 33 #[oj q0, .second, oi p1, oi (p1 &&& (3 : Int32)), oj (((((p1.toUInt32 >>> ((2 : Int32) &&& 31).toUInt32).toInt32) &&& (7 : Int32)).toInt64) - (4 : Int64)), .second, .unset, .unset] [(.int (2 : Int32)), (.int (p1 &&& (3 : Int32)))] _
        refine XS.icmpNo X0.here hx rfl (hb hby at_33) rfl (teq c3).2 ?_
        show oS p e below s₁ m 36 #[oj q0, .second, oi p1, oi (p1 &&& (3 : Int32)), oj (((((p1.toUInt32 >>> ((2 : Int32) &&& 31).toUInt32).toInt32) &&& (7 : Int32)).toInt64) - (4 : Int64)), .second, .unset, .unset] [] _
        refine X0.ldc2Long hx hown (mvT hZ (hw _ (List.mem_of_getElem? (i := 1) rfl))) (g := (mkF m 36 #[oj q0, .second, oi p1, oi (p1 &&& (3 : Int32)), oj (((((p1.toUInt32 >>> ((2 : Int32) &&& 31).toUInt32).toInt32) &&& (7 : Int32)).toInt64) - (4 : Int64)), .second, .unset, .unset] [])) rfl (hb hby at_36) _ ?_
        show oS p e below s₁ m 39 #[oj q0, .second, oi p1, oi (p1 &&& (3 : Int32)), oj (((((p1.toUInt32 >>> ((2 : Int32) &&& 31).toUInt32).toInt32) &&& (7 : Int32)).toInt64) - (4 : Int64)), .second, .unset, .unset] [(.long (16384 : Int64))] _
        refine XS.lload X0.here hx rfl (hb hby at_39) rfl ?_
        show oS p e below s₁ m 41 #[oj q0, .second, oi p1, oi (p1 &&& (3 : Int32)), oj (((((p1.toUInt32 >>> ((2 : Int32) &&& 31).toUInt32).toInt32) &&& (7 : Int32)).toInt64) - (4 : Int64)), .second, .unset, .unset] [(.long (((((p1.toUInt32 >>> ((2 : Int32) &&& 31).toUInt32).toInt32) &&& (7 : Int32)).toInt64) - (4 : Int64))), (.long (16384 : Int64))] _
        refine XS.ladd X0.here hx rfl (hb hby at_41) rfl ?_
        show oS p e below s₁ m 42 #[oj q0, .second, oi p1, oi (p1 &&& (3 : Int32)), oj (((((p1.toUInt32 >>> ((2 : Int32) &&& 31).toUInt32).toInt32) &&& (7 : Int32)).toInt64) - (4 : Int64)), .second, .unset, .unset] [(.long ((16384 : Int64) + (((((p1.toUInt32 >>> ((2 : Int32) &&& 31).toUInt32).toInt32) &&& (7 : Int32)).toInt64) - (4 : Int64))))] _
        refine XS.lstore X0.here hx rfl (hb hby at_42) rfl (l' := #[oj q0, .second, oi p1, oi (p1 &&& (3 : Int32)), oj (((((p1.toUInt32 >>> ((2 : Int32) &&& 31).toUInt32).toInt32) &&& (7 : Int32)).toInt64) - (4 : Int64)), .second, oj ((16384 : Int64) + (((((p1.toUInt32 >>> ((2 : Int32) &&& 31).toUInt32).toInt32) &&& (7 : Int32)).toInt64) - (4 : Int64))), .second]) rfl ?_
        show oS p e below s₁ m 44 #[oj q0, .second, oi p1, oi (p1 &&& (3 : Int32)), oj (((((p1.toUInt32 >>> ((2 : Int32) &&& 31).toUInt32).toInt32) &&& (7 : Int32)).toInt64) - (4 : Int64)), .second, oj ((16384 : Int64) + (((((p1.toUInt32 >>> ((2 : Int32) &&& 31).toUInt32).toInt32) &&& (7 : Int32)).toInt64) - (4 : Int64))), .second] [] _
        refine XS.goto X0.here hx rfl (pc0 := 44) (pc' := 50) rfl (hb hby at_44) (by decide) (by decide) ?_
        exact k
      · skip
        rw [show v4 = q0 from hv4.trans (by rw [if_neg c2, if_neg c3])] at k
        refine pre1 t ?_
        show oS p e below s₁ m 19 #[oj q0, .second, oi p1, oi (p1 &&& (3 : Int32)), oj (((((p1.toUInt32 >>> ((2 : Int32) &&& 31).toUInt32).toInt32) &&& (7 : Int32)).toInt64) - (4 : Int64)), .second, .unset, .unset] [(.int (1 : Int32)), (.int (p1 &&& (3 : Int32)))] _
        refine XS.icmpYes X0.here hx rfl (pc0 := 19) (pc' := 31) rfl (hb hby at_19) rfl (feq c2).2 (by decide) (by decide) ?_
        show oS p e below s₁ m 31 #[oj q0, .second, oi p1, oi (p1 &&& (3 : Int32)), oj (((((p1.toUInt32 >>> ((2 : Int32) &&& 31).toUInt32).toInt32) &&& (7 : Int32)).toInt64) - (4 : Int64)), .second, .unset, .unset] [] _
        refine XS.iloadN X0.here hx rfl (hb hby at_31) rfl ?_
        show oS p e below s₁ m 32 #[oj q0, .second, oi p1, oi (p1 &&& (3 : Int32)), oj (((((p1.toUInt32 >>> ((2 : Int32) &&& 31).toUInt32).toInt32) &&& (7 : Int32)).toInt64) - (4 : Int64)), .second, .unset, .unset] [(.int (p1 &&& (3 : Int32)))] _
        refine XS.iconst X0.here hx rfl (hb hby at_32) ?_
        show oS p e below s₁ m 33 #[oj q0, .second, oi p1, oi (p1 &&& (3 : Int32)), oj (((((p1.toUInt32 >>> ((2 : Int32) &&& 31).toUInt32).toInt32) &&& (7 : Int32)).toInt64) - (4 : Int64)), .second, .unset, .unset] [(.int (2 : Int32)), (.int (p1 &&& (3 : Int32)))] _
        refine XS.icmpYes X0.here hx rfl (pc0 := 33) (pc' := 47) rfl (hb hby at_33) rfl (feq c3).2 (by decide) (by decide) ?_
        show oS p e below s₁ m 47 #[oj q0, .second, oi p1, oi (p1 &&& (3 : Int32)), oj (((((p1.toUInt32 >>> ((2 : Int32) &&& 31).toUInt32).toInt32) &&& (7 : Int32)).toInt64) - (4 : Int64)), .second, .unset, .unset] [] _
        refine XS.lloadN X0.here hx rfl (hb hby at_47) rfl ?_
        show oS p e below s₁ m 48 #[oj q0, .second, oi p1, oi (p1 &&& (3 : Int32)), oj (((((p1.toUInt32 >>> ((2 : Int32) &&& 31).toUInt32).toInt32) &&& (7 : Int32)).toInt64) - (4 : Int64)), .second, .unset, .unset] [(.long q0)] _
        refine XS.lstore X0.here hx rfl (hb hby at_48) rfl (l' := #[oj q0, .second, oi p1, oi (p1 &&& (3 : Int32)), oj (((((p1.toUInt32 >>> ((2 : Int32) &&& 31).toUInt32).toInt32) &&& (7 : Int32)).toInt64) - (4 : Int64)), .second, oj q0, .second]) rfl ?_
        exact k
  obtain ⟨_, _, ⟨T6, L6, k6, n6⟩, -, X6, ⟨Lc6, hQ6, l6, y6, z6⟩, st6⟩ := Jvm.LawKit.callS X0 hx (y := (⟨"com/example/casement/casement/tree/Display", "isSide", "(J)Z"⟩ : MethodName)) hown (mvT hZ (hw _ (List.mem_of_getElem? (i := 2) rfl))) (mvT hZ (hw _ (List.mem_of_getElem? (i := 3) rfl))) (mvT hZ (hw _ (List.mem_of_getElem? (i := 4) rfl))) (mvT hZ (hw _ (List.mem_of_getElem? (i := 5) rfl))) (by decide) (backOf (W := 0) (own_rm1 l Z av hw [] v4 h0 n0 Z0 ) hZ (hw _ (List.mem_of_getElem? (i := 5) rfl)) (hw _ (List.mem_of_getElem? (i := 4) rfl)) (by decide) (by decide)) (g := (mkF m 52 #[oj q0, .second, oi p1, oi (p1 &&& (3 : Int32)), oj (((((p1.toUInt32 >>> ((2 : Int32) &&& 31).toUInt32).toInt32) &&& (7 : Int32)).toInt64) - (4 : Int64)), .second, oj v4, .second] [(.long v4)])) rfl (by rw [hml]; rfl) (argsL := [(.long v4)]) (rest := []) (lenOf own_pd0 rfl) rfl (by show 2 * 0 + _ ≤ _; exact Nat.le_of_eq rfl) (hb hby at_52) (fun _ _ => ⟨rfl, e0, (by decide : 0 + 0 ≤ _), (by decide : 0 + 0 ≤ _)⟩)
  dsimp only [Pt.U, Pt.locs, Pt.cells, Pt.slots] at X6 l6 y6 z6 st6 hQ6
  subst l6 y6 z6
  obtain ⟨rfl, Nq6, eq6⟩ := hQ6
  have N6 := Fr.app N0 Nq6
  obtain ⟨_, _, ⟨T7, L7, k7, n7⟩, -, X7, ⟨Lc7, hQ7, l7, y7, z7⟩, st7⟩ := Jvm.LawKit.callS X6 hx (y := (⟨"com/example/casement/casement/tree/DisplayIsSidePinLaw", "reference", "(J)Z"⟩ : MethodName)) hown (mvT hZ (hw _ (List.mem_of_getElem? (i := 7) rfl))) (mvT hZ (hw _ (List.mem_of_getElem? (i := 8) rfl))) (mvT hZ (hw _ (List.mem_of_getElem? (i := 9) rfl))) (mvT hZ (hw _ (List.mem_of_getElem? (i := 10) rfl))) (by decide) (backOf (W := 1) (own_rm2 l Z av hw [] v4 h0 n0 Z0 ) hZ (hw _ (List.mem_of_getElem? (i := 10) rfl)) (hw _ (List.mem_of_getElem? (i := 9) rfl)) (by decide) (by decide)) (g := (mkF m 57 #[oj q0, .second, oi p1, oi (p1 &&& (3 : Int32)), oj (((((p1.toUInt32 >>> ((2 : Int32) &&& 31).toUInt32).toInt32) &&& (7 : Int32)).toInt64) - (4 : Int64)), .second, oj v4, .second] [(.long v4), (.int (own_f1 v4))])) rfl (by rw [hml]; rfl) (argsL := [(.long v4)]) (rest := [(.int (own_f1 v4))]) (lenOf own_pd0 rfl) rfl (by show 2 * 0 + _ ≤ _; exact Nat.le_of_eq rfl) (hb hby at_57) (fun _ _ => ⟨rfl, eq6, (by decide : 0 + 0 ≤ _), (by decide : 0 + 0 ≤ _)⟩)
  dsimp only [Pt.U, Pt.locs, Pt.cells, Pt.slots] at X7 l7 y7 z7 st7 hQ7
  subst l7 y7 z7
  obtain ⟨rfl, Nq7, eq7⟩ := hQ7
  have N7 := Fr.app N6 Nq7
  have b8 : (own_f1 v4) = (own_f2 v4) := own_eq _
  obtain ⟨fs, hr, hrun, hended, hW, hsame⟩ := X7.leave (v := (some (.int (1 : Int32)))) (fun h => by rw [Bd.returns] at h; cases h)
  refine ⟨_, _, pre5 _ ?_, hrun, hended, _, _, rfl, ?_, ⟨_, rfl⟩, hW, hsame.mono (by decide) (by decide)⟩
  · show oS p e below s₁ m 50 #[oj q0, .second, oi p1, oi (p1 &&& (3 : Int32)), oj (((((p1.toUInt32 >>> ((2 : Int32) &&& 31).toUInt32).toInt32) &&& (7 : Int32)).toInt64) - (4 : Int64)), .second, oj v4, .second] [] _
    refine XS.lload X0.here hx rfl (hb hby at_50) rfl ?_
    show oS p e below s₁ m 52 #[oj q0, .second, oi p1, oi (p1 &&& (3 : Int32)), oj (((((p1.toUInt32 >>> ((2 : Int32) &&& 31).toUInt32).toInt32) &&& (7 : Int32)).toInt64) - (4 : Int64)), .second, oj v4, .second] [(.long v4)] _
    refine st6 _ ?_
    show oS p e below T6 m 55 #[oj q0, .second, oi p1, oi (p1 &&& (3 : Int32)), oj (((((p1.toUInt32 >>> ((2 : Int32) &&& 31).toUInt32).toInt32) &&& (7 : Int32)).toInt64) - (4 : Int64)), .second, oj v4, .second] [(.int (own_f1 v4))] _
    refine XS.lload X6.here hx rfl (hb hby at_55) rfl ?_
    show oS p e below T6 m 57 #[oj q0, .second, oi p1, oi (p1 &&& (3 : Int32)), oj (((((p1.toUInt32 >>> ((2 : Int32) &&& 31).toUInt32).toInt32) &&& (7 : Int32)).toInt64) - (4 : Int64)), .second, oj v4, .second] [(.long v4), (.int (own_f1 v4))] _
    refine st7 _ ?_
    show oS p e below T7 m 60 #[oj q0, .second, oi p1, oi (p1 &&& (3 : Int32)), oj (((((p1.toUInt32 >>> ((2 : Int32) &&& 31).toUInt32).toInt32) &&& (7 : Int32)).toInt64) - (4 : Int64)), .second, oj v4, .second] [(.int (own_f2 v4)), (.int (own_f1 v4))] _
    refine XS.icmpNo X7.here hx rfl (hb hby at_60) rfl (teq b8).2 ?_
    show oS p e below T7 m 63 #[oj q0, .second, oi p1, oi (p1 &&& (3 : Int32)), oj (((((p1.toUInt32 >>> ((2 : Int32) &&& 31).toUInt32).toInt32) &&& (7 : Int32)).toInt64) - (4 : Int64)), .second, oj v4, .second] [] _
    refine XS.iconst X7.here hx rfl (hb hby at_63) ?_
    show oS p e below T7 m 64 #[oj q0, .second, oi p1, oi (p1 &&& (3 : Int32)), oj (((((p1.toUInt32 >>> ((2 : Int32) &&& 31).toUInt32).toInt32) &&& (7 : Int32)).toInt64) - (4 : Int64)), .second, oj v4, .second] [(.int (1 : Int32))] _
    refine XS.goto X7.here hx rfl (pc0 := 64) (pc' := 68) rfl (hb hby at_64) (by decide) (by decide) ?_
    show oS p e below T7 m 68 #[oj q0, .second, oi p1, oi (p1 &&& (3 : Int32)), oj (((((p1.toUInt32 >>> ((2 : Int32) &&& 31).toUInt32).toInt32) &&& (7 : Int32)).toInt64) - (4 : Int64)), .second, oj v4, .second] [(.int (1 : Int32))] _
    exact retN X7 hx (t := .boolean) Bd.returns (by simp) (hb hby at_68) hr
  · show own_Q0 Z q0 p1 h0 n0 _ T7.heap _
    rw [eq7]
    exact ⟨rfl, N7⟩
set_option maxRecDepth 65536 in
set_option maxHeartbeats 40000000 in
theorem own_comes {Post : Tables → Env → Array Value → State → Outcome → State → Prop} (hpost : ∀ tb e args s v u, (limb_1_1.after args s (.returned v) u = true ∧ limb_1_2.after args s (.returned v) u = true ∧ True) → FrameEnd s (.returned v) u (Jvm.fieldLocs frame_1_writes args s ++ Jvm.arrayLocs frame_1_arrays args s ++ Jvm.staticLocs frame_1_statics s) 0 0 → Post tb e args s (.returned v) u) :
    ArmFor flags0 classFile x code maxLocals ret World_1 tables_1 room_1 Calls_1 rest_1 Pre_1 Post := by
  intro l hfl _ _ p e ha hc hk s m args below hf hA hF happ hP
  obtain ⟨hcalls, hrest, hpre⟩ := hP
  obtain ⟨-, -, -, hnamed, -, -, -, hat⟩ := (Spec.applies_iff hf).mp happ
  obtain ⟨hg, hn⟩ := and_e (Cond.before_iff.mp (show (Jvm.Cond.and given_1 narrow_1).before args s = true from hpre))
  obtain ⟨gv1, gv2⟩ := and_e hg
  obtain ⟨gv3, gv4⟩ := and_e gv2
  obtain ⟨w0, w1, rfl⟩ : ∃ w0 w1 : Value, args = #[w0, w1] := by
    have hs : args.size = 2 := by simpa [Cond.value, given_1] using gv1
    obtain ⟨L⟩ := args
    match L, hs with
    | [w0, w1], _ => exact ⟨w0, w1, rfl⟩
  have hw := fun d (hd : d ∈ tables_1) => atoms_spec (ws := Jvm.Cond.code x code maxLocals ret :: tables_1) hat d (List.mem_cons_of_mem _ hd)
  have hfit : Fit s := fun {y c} hc i hi => by
    obtain ⟨ha, rfl⟩ := Array.getElem?_eq_some_iff.mp hc
    have q := List.all_eq_true.mp ((Array.all_eq_true_iff_forall_mem.mp hF) _ (Array.getElem_mem ha)) i (List.mem_range.mpr hi)
    simpa [Array.getElem?_eq_getElem hi] using q
  obtain ⟨i0, ei0⟩ := isL_v gv3
  obtain rfl : w0 = (.long i0) := Option.some.inj ei0
  obtain ⟨i1, ei1⟩ := is_v gv4
  obtain rfl : w1 = (.int i1) := Option.some.inj ei1
  obtain ⟨n, o, h1, h2, h3, _, L, rfl, ⟨rfl, N⟩, hq⟩ := own_rm0 l s _ hw tables_1 i0 i1  s.heap s.heap.size (Nat.le_refl _)  p e ha hc hk s m _ below hf ((Spec.applies_iff_loose hf).mp happ).1 ⟨rfl, State.Warmed39.refl s, rfl⟩ trivial
  refine ⟨n, _, h1, h2, h3, hpost _ _ _ _ _ _ ⟨Cond.after_iff.mpr rfl, Cond.after_iff.mpr (eq_i res_at (Term.int_eval (1)) rfl), trivial⟩ ⟨hq.1, hq.2.1, (hq.2.2.sift fun y hy => Or.inr (N y hy)).mono (by decide) (by decide)⟩⟩
theorem main_1_1 : Claimed_1_1 := own_comes fun _ _ _ _ _ _ h hF => ⟨h.1, hF⟩
theorem main_1_2 : Claimed_1_2 := own_comes fun _ _ _ _ _ _ h hF => ⟨h.2.1, hF⟩
end Jvm.Pilot.@@N@@
namespace Jvm.Pilot.@@N@@
open Jvm Jvm.ClassFile Sem Op Lib Jvm.Free Jvm.Stand Jvm.Pilot.@@N@@.Jvm.D
/-! MADE BY PROGRAM (witnessworld.py) out of the Statement's table words and the real class files: 10 classes; the members and pool entries that the words name. The judged class is class 1, her method 2. -/
namespace start1
open Jvm.ClassFile
def u (s : String) : CpInfo := .utf8 (stringToUtf16 s)
/-- a pool by its gaps: so many unusable entries, then the entry; so many at the end -/
def gap : Nat → List CpInfo → List CpInfo
  | 0, r => r
  | n + 1, r => .unusable :: gap n r
def poolList (es : List (Nat × CpInfo)) (last : Nat) : List CpInfo := es.foldr (fun e r => gap e.1 (e.2 :: r)) (gap last [])
def pool (es : List (Nat × CpInfo)) (last : Nat) : Array CpInfo := ⟨poolList es last⟩
def fileOf (pool : Array CpInfo) (this : Nat) (attrs : Array Attribute := #[]) (ms : Array MethodInfo := #[]) (fl : Nat := 33) (sup : Nat := 0) (ifs : Array Nat := #[]) (fds : Array FieldInfo := #[]) : ClassFile where
  minorVersion := 0
  majorVersion := 65
  constantPool := pool
  accessFlags := fl
  thisClass := this
  superClass := sup
  interfaces := ifs
  fields := fds
  methods := ms
  attributes := attrs
def plain (name : String) (sup : Option ClassId) : Class where
  name := name
  kind := .ordinary
  loader := none
  accessFlags := 33
  super := sup
  interfaces := #[]
  cf := none
  fields := #[]
  methods := #[]
  instanceTypes := #[]
  staticTypes := #[]
  resolved := #[]
  callSites := []
  init := .initialized
  statics := none
  mirror := none

def pool0 : Array CpInfo := pool [(5, u "<init>"), (0, u "()V"), (1, .class_ 10), (1, u "java/lang/Object")] 113

def k0m0 : Method := { name := "<init>", desc := "()V", sig := { parameters := [], returnType := none }, accessFlags := 1, code := none }
/-- java/lang/Object -/
def k0 : Class := { plain "java/lang/Object" none with
  accessFlags := 33
  interfaces := #[]
  cf := some (fileOf pool0 8 #[] #[{ accessFlags := 1, nameIndex := 5, descriptorIndex := 6, attributes := #[] }] 33 0 #[] #[])
  fields := #[]
  methods := #[k0m0]
  instanceTypes := #[]
  staticTypes := #[]
  resolved := Array.replicate 124 none
  statics := none }

def pool1 : Array CpInfo := pool [(2, .class_ 4), (1, u "java/lang/Object"), (0, u "<init>"), (0, u "()V"), (0, .long 4), (1, .long 16384), (1, .methodref 12 13), (0, .class_ 14), (0, .nameAndType 15 16), (0, u "com/example/casement/casement/tree/Display"), (0, u "isSide"), (0, u "(J)Z"), (0, .methodref 18 19), (0, .class_ 20), (0, .nameAndType 21 16), (0, u "com/example/casement/casement/tree/DisplayIsSidePinLaw"), (0, u "reference"), (3, u "law"), (0, u "(JI)Z")] 2

def k1m0 : Method := { name := "<init>", desc := "()V", sig := { parameters := [], returnType := none }, accessFlags := 2, code := none }
def k1c1 : Code := { maxStack := 4, maxLocals := 2, code := method_2_code, exceptionTable := #[], attributes := #[] }
def k1m1 : Method := { name := "reference", desc := "(J)Z", sig := { parameters := [.long], returnType := some .boolean }, accessFlags := 10, code := some k1c1 }
def k1c2 : Code := { maxStack := 4, maxLocals := 8, code := code, exceptionTable := #[], attributes := #[] }
def k1m2 : Method := { name := "law", desc := "(JI)Z", sig := { parameters := [.long, .int], returnType := some .boolean }, accessFlags := 9, code := some k1c2 }
/-- com/example/casement/casement/tree/DisplayIsSidePinLaw -/
def k1 : Class := { plain "com/example/casement/casement/tree/DisplayIsSidePinLaw" (some 0) with
  accessFlags := 49
  interfaces := #[]
  cf := some (fileOf pool1 18 #[] #[{ accessFlags := 2, nameIndex := 5, descriptorIndex := 6, attributes := #[] }, { accessFlags := 10, nameIndex := 21, descriptorIndex := 16, attributes := #[] }, { accessFlags := 9, nameIndex := 25, descriptorIndex := 26, attributes := #[] }] 49 2 #[] #[])
  fields := #[]
  methods := #[k1m0, k1m1, k1m2]
  instanceTypes := #[]
  staticTypes := #[]
  resolved := Array.replicate 29 none
  statics := none }

def pool2 : Array CpInfo := pool [(2, .class_ 4), (1, u "java/lang/Object"), (0, u "<init>"), (0, u "()V"), (0, .class_ 8), (0, u "java/lang/Record")] 13

def k2m0 : Method := { name := "<init>", desc := "()V", sig := { parameters := [], returnType := none }, accessFlags := 4, code := none }
/-- java/lang/Record -/
def k2 : Class := { plain "java/lang/Record" (some 0) with
  accessFlags := 1057
  interfaces := #[]
  cf := some (fileOf pool2 7 #[] #[{ accessFlags := 4, nameIndex := 5, descriptorIndex := 6, attributes := #[] }] 1057 2 #[] #[])
  fields := #[]
  methods := #[k2m0]
  instanceTypes := #[]
  staticTypes := #[]
  resolved := Array.replicate 22 none
  statics := none }

def pool3 : Array CpInfo := pool [(2, .class_ 4), (1, u "java/lang/Record"), (9, .class_ 16), (1, u "com/example/casement/casement/tree/Display"), (0, u "isSide"), (0, u "(J)Z"), (14, u "id"), (0, u "I"), (2, u "bounds"), (0, u "Lcom/example/casement/casement/geometry/Rect;"), (0, .long 16384), (13, u "MIN_SIDE"), (2, u "MAX_SIDE")] 39

def k3c0 : Code := { maxStack := 4, maxLocals := 2, code := prog_79_method_2_code, exceptionTable := #[], attributes := #[] }
def k3m0 : Method := { name := "isSide", desc := "(J)Z", sig := { parameters := [.long], returnType := some .boolean }, accessFlags := 9, code := some k3c0 }
/-- com/example/casement/casement/tree/Display -/
def k3 : Class := { plain "com/example/casement/casement/tree/Display" (some 2) with
  accessFlags := 49
  interfaces := #[]
  cf := some (fileOf pool3 14 #[] #[{ accessFlags := 9, nameIndex := 17, descriptorIndex := 18, attributes := #[] }] 49 2 #[] #[{ accessFlags := 18, nameIndex := 33, descriptorIndex := 34, attributes := #[] }, { accessFlags := 18, nameIndex := 37, descriptorIndex := 38, attributes := #[] }, { accessFlags := 25, nameIndex := 53, descriptorIndex := 34, attributes := #[] }, { accessFlags := 25, nameIndex := 56, descriptorIndex := 34, attributes := #[] }])
  fields := #[{ name := "id", type := .int, accessFlags := 18, slot := 0, constantValue := 0 }, { name := "bounds", type := (.object "com/example/casement/casement/geometry/Rect"), accessFlags := 18, slot := 1, constantValue := 0 }, { name := "MIN_SIDE", type := .int, accessFlags := 25, slot := 0, constantValue := 0 }, { name := "MAX_SIDE", type := .int, accessFlags := 25, slot := 1, constantValue := 0 }]
  methods := #[k3m0]
  instanceTypes := #[.int, (.object "com/example/casement/casement/geometry/Rect")]
  staticTypes := #[.int, .int]
  resolved := Array.replicate 96 none
  statics := none }

def pool4 : Array CpInfo := pool [(1, u "java/lang/Cloneable"), (0, .class_ 1), (0, u "java/lang/Object"), (0, .class_ 3)] 3

/-- java/lang/Cloneable -/
def k4 : Class := { plain "java/lang/Cloneable" (some 0) with
  accessFlags := 1537
  interfaces := #[]
  cf := some (fileOf pool4 2 #[] #[] 1537 4 #[] #[])
  fields := #[]
  methods := #[]
  instanceTypes := #[]
  staticTypes := #[]
  resolved := Array.replicate 8 none
  statics := none }

def pool5 : Array CpInfo := pool [(1, u "java/io/Serializable"), (0, .class_ 1), (0, u "java/lang/Object"), (0, .class_ 3)] 3

/-- java/io/Serializable -/
def k5 : Class := { plain "java/io/Serializable" (some 0) with
  accessFlags := 1537
  interfaces := #[]
  cf := some (fileOf pool5 2 #[] #[] 1537 4 #[] #[])
  fields := #[]
  methods := #[]
  instanceTypes := #[]
  staticTypes := #[]
  resolved := Array.replicate 8 none
  statics := none }

/-- the primitive byte -/
def k6 : Class := { plain "byte" none with kind := .primitive 'B', accessFlags := 0x411 }
/-- [B -/
def k7 : Class := { plain "[B" (some 0) with kind := .array 6 .byte, interfaces := #[4, 5], accessFlags := 1041 }

/-- the primitive int -/
def k8 : Class := { plain "int" none with kind := .primitive 'I', accessFlags := 0x411 }
/-- [I -/
def k9 : Class := { plain "[I" (some 0) with kind := .array 8 .int, interfaces := #[4, 5], accessFlags := 1041 }

def heap : Heap := #[]
def classes : Array Class := #[k0, k1, k2, k3, k4, k5, k6, k7, k8, k9]
def interned : List (Array UInt16 × Addr) := []
def slotsUsed : Nat := 0
def theMethod : MethodId := ⟨1, 2⟩
def args0 : Array Value := #[.long 5, .int 6]
def aboutOver (below : List Frame) : State where
  vm := { classes := classes, interned := interned.toArray }
  heap := heap
  slotsUsed := slotsUsed
  threads := #[{ frames := .invoking theMethod args0 :: below }]
def below0 : List Frame := [.native { method := ⟨0, 0⟩, args := #[] }]
def about1 : State := aboutOver below0
def p0 : Program := .bare "" "" ""
def e0 : Env := launch0.env 0 0 0
theorem w_frames : about1.frames = Frame.invoking theMethod args0 :: below0 := rfl
set_option maxRecDepth 65536 in
theorem w_args : argsFit about1.vm theMethod args0 = true := by decide +kernel
set_option maxRecDepth 65536 in
theorem w_heap : heapFits about1 = true := by decide +kernel
set_option maxRecDepth 65536 in
theorem w_runnable : about1.curStatus? = some .runnable := by decide +kernel
set_option maxRecDepth 65536 in
theorem w_alone : about1.alone = true := by decide +kernel
set_option maxRecDepth 65536 in
theorem w_named : about1.methodNamed? x = some theMethod := by decide +kernel
set_option maxRecDepth 65536 in
theorem w_hears : about1.hears theMethod below0 = true := by decide +kernel
set_option maxRecDepth 65536 in
theorem w_ripe : about1.ripe theMethod args0 below0 = true := by decide +kernel
theorem w_running : about1.status = .running := rfl
set_option maxRecDepth 65536 in
theorem w_room : about1.hasRoom e0.platform room_1 = true :=
  launch0.hasRoom_least _ room_1 (by decide +kernel) (by decide +kernel) (by decide +kernel) (by decide +kernel) (by decide +kernel) (by decide +kernel)
theorem allAtoms_all (ts : List Jvm.Cond) (a : Array Jvm.Value) (st : Jvm.State) : (allAtoms ts).before a st = ts.all (fun c => c.before a st) := by
  induction ts with
  | nil => rfl
  | cons c t ih =>
    show (Jvm.Cond.and c (allAtoms t)).before a st = _
    rw [Jvm.Cond.before_and, ih, List.all_cons]
def words1 : List Jvm.Cond := Jvm.Cond.code x code maxLocals ret :: tables_1
/-- a 'code' word, met by the world's own term for the bytes: nothing is compared byte by byte -/
theorem code_word {y : MethodName} {bytes : ByteArray} {mx : Nat} {rt : Option FieldType} {a : Array Value} {s : State} {m : MethodId} {meth : Method} {c : Code} (h1 : s.methodNamed? y = some m) (h2 : s.vm.method? m = some meth) (h3 : meth.code = some c) (h4 : c.code = bytes)
    (h5 : (c.maxLocals == mx && c.exceptionTable.isEmpty && decide (c.maxStack ≤ mostOperands) && decide (meth.sig.returnType = rt) && !meth.locks && decide (parseMethodDescriptor y.desc = some meth.sig)) = true) : (Jvm.Cond.code y bytes mx rt).before a s = true := by
  simp only [Bool.and_eq_true, beq_iff_eq, Bool.not_eq_true', decide_eq_true_eq] at h5
  obtain ⟨⟨⟨⟨⟨g1, g2⟩, g3⟩, g4⟩, g5⟩, g6⟩ := h5
  simp [Cond.before, Cond.holds, Cond.value, h1, h2, h3, h4, g1, g2, g3, g4, g5, g6]
def isCode : Jvm.Cond → Bool
  | .code _ _ _ _ => true
  | _ => false
theorem all_split {L : List Jvm.Cond} {P : Jvm.Cond → Bool} (h1 : L.all (fun c => isCode c || P c) = true) (h2 : ∀ c ∈ L.filter isCode, P c = true) : L.all P = true := by
  refine List.all_eq_true.mpr fun c hc => ?_
  have h := List.all_eq_true.mp h1 c hc
  rcases Bool.eq_false_or_eq_true (isCode c) with hi | hi
  · exact h2 c (List.mem_filter.mpr ⟨hc, hi⟩)
  · simpa [hi] using h
set_option maxRecDepth 65536 in
theorem w_c0 : (Jvm.Cond.code x code maxLocals ret).before args0 about1 = true := code_word (m := ⟨1, 2⟩) (meth := k1m2) (c := k1c2) (by decide +kernel) rfl rfl rfl (by decide +kernel)
set_option maxRecDepth 65536 in
theorem w_c1 : (Jvm.Cond.code ({ cls := "com/example/casement/casement/tree/Display", name := "isSide", desc := "(J)Z" } : Jvm.MethodName) prog_79_method_2_code (2 : Nat) (Option.some Jvm.ClassFile.FieldType.boolean)).before args0 about1 = true := code_word (m := ⟨3, 0⟩) (meth := k3m0) (c := k3c0) (by decide +kernel) rfl rfl rfl (by decide +kernel)
set_option maxRecDepth 65536 in
theorem w_c2 : (Jvm.Cond.code ({ cls := "com/example/casement/casement/tree/DisplayIsSidePinLaw", name := "reference", desc := "(J)Z" } : Jvm.MethodName) method_2_code (2 : Nat) (Option.some Jvm.ClassFile.FieldType.boolean)).before args0 about1 = true := code_word (m := ⟨1, 1⟩) (meth := k1m1) (c := k1c1) (by decide +kernel) rfl rfl rfl (by decide +kernel)
def codes1 : List Jvm.Cond := [Jvm.Cond.code x code maxLocals ret, Jvm.Cond.code ({ cls := "com/example/casement/casement/tree/Display", name := "isSide", desc := "(J)Z" } : Jvm.MethodName) prog_79_method_2_code (2 : Nat) (Option.some Jvm.ClassFile.FieldType.boolean), Jvm.Cond.code ({ cls := "com/example/casement/casement/tree/DisplayIsSidePinLaw", name := "reference", desc := "(J)Z" } : Jvm.MethodName) method_2_code (2 : Nat) (Option.some Jvm.ClassFile.FieldType.boolean)]
set_option maxRecDepth 65536 in
theorem codes_eq : words1.filter isCode = codes1 := rfl
theorem w_codes : ∀ c ∈ words1.filter isCode, c.before args0 about1 = true := by
  rw [codes_eq]
  intro c hc
  simp only [codes1, List.mem_cons, List.not_mem_nil, or_false] at hc
  rcases hc with rfl | rfl | rfl
  · exact w_c0
  · exact w_c1
  · exact w_c2
set_option maxRecDepth 65536 in
theorem w_t1 : words1.all (fun c => isCode c || c.before args0 about1) = true := by decide +kernel
theorem w_tables : (allAtoms (Jvm.Cond.code x code maxLocals ret :: tables_1)).before args0 about1 = true := by
  rw [allAtoms_all]
  show words1.all (fun c => c.before args0 about1) = true
  refine all_split ?_ w_codes
  rw [w_t1]
set_option maxRecDepth 65536 in
theorem w_case : (Jvm.Cond.and given_1 narrow_1).before args0 about1 = true := by decide +kernel
theorem w_applies : (headSpec (Jvm.Cond.code x code maxLocals ret :: tables_1) room_1).applies x e0.platform about1 = true :=
  (Spec.applies_iff w_frames).mpr ⟨w_running, w_runnable, w_alone, w_named, w_hears, w_ripe, w_room, w_tables⟩
theorem atStart : AtStart classFile x code maxLocals ret World_1 tables_1 room_1 Calls_1 rest_1 Pre_1 launch0 p0 e0 about1 theMethod args0 below0 :=
  ⟨lists_1, trivial, launch0.admits_env _ _ _, launch0.least_env, fairChoices_fair.cas, fairChoices_fair.clock, w_frames, w_args, w_heap, w_applies, trivial, trivial, w_case⟩
end start1
theorem witness_1 : WitnessClaimed_1 := ⟨start1.p0, start1.e0, start1.about1, start1.theMethod, start1.args0, start1.below0, start1.atStart⟩
end Jvm.Pilot.@@N@@
