import JvmDerived
import JvmDerived.Pilot.@@N@@Statement
import JvmDerived.Pilot.@@N@@Code
set_option linter.unusedVariables false
set_option linter.unusedSimpArgs false
namespace Jvm.Pilot.@@N@@
open Jvm Jvm.ClassFile Sem Op Lib Jvm.Free Jvm.Stand Jvm.LawKit Jvm.RoadKit Bundle Jvm.Pilot.@@N@@.Jvm.D
section OwnKit
variable {p : Program} {l : Launch} {e : Env} {R : Room} {s : State} {m : MethodId} {args : Array Value} {below : List Frame} {meth : Method} {c : Code} {T : State} {locs : List Loc} {cells slots : Nat} {Z : State} {h : Heap} {a : Addr} {k : ClassId} {z : Int32} {vs : List Value} {dv : Value}
theorem oLen (X : Stand p l e R s m args below meth c T locs cells slots) (hx : p.tables.exec = Jvm.exec) (hZ : Z.Warmed39 s.vm) (eT : T.heap = h) {ty : FieldType} (F : Arv Z h a k ty z vs dv) {pc : Nat} {Ls : Array Slot} {rest : List Value} (hd : decode c.code pc = .ok (.arraylength, 1)) {target : State}
    (hr : Steps p.tables e below (T.setTop (mkF m (pc + 1) Ls (.int z :: rest))) target) : Steps p.tables e below (T.setTop (mkF m pc Ls (.ref a :: rest))) target := by
  obtain ⟨cl, A, -, S, M, -, -⟩ := F
  refine X.arraylength hx (by rw [eT]; exact A.1) (State.isArrayOf_alike hZ.alike A.2.1) (g := mkF m pc Ls (.ref a :: rest)) rfl rfl hd target ?_
  rw [len_of S M]
  exact hr
theorem oLdI (X : Stand p l e R s m args below meth c T locs cells slots) (hx : p.tables.exec = Jvm.exec) (hZ : Z.Warmed39 s.vm) (eT : T.heap = h) (F : Arv Z h a k .int z vs dv) {j : Int32} {v : Value} (hj : ¬ j < 0 ∧ j < z) (hv : vs.getD j.toNatClampNeg dv = v) {pc : Nat} {Ls : Array Slot} {rest : List Value} (hd : decode c.code pc = .ok (.iaload, 1)) {target : State}
    (hr : Steps p.tables e below (T.setTop (mkF m (pc + 1) Ls (v :: rest))) target) : Steps p.tables e below (T.setTop (mkF m pc Ls (.int j :: .ref a :: rest))) target := by
  obtain ⟨cl, A, -, S, -, H, -⟩ := F
  have hin := inb_of S hj
  exact X.iaload hx (by rw [eT]; exact A.1) (State.isArrayOf_alike hZ.alike A.2.1) A.2.2 hin (Has.at H hin hv) (g := mkF m pc Ls (.int j :: .ref a :: rest)) rfl rfl hd target hr
theorem oLdB (X : Stand p l e R s m args below meth c T locs cells slots) (hx : p.tables.exec = Jvm.exec) (hZ : Z.Warmed39 s.vm) (eT : T.heap = h) (F : Arv Z h a k .byte z vs dv) {j : Int32} {v : Value} (hj : ¬ j < 0 ∧ j < z) (hv : vs.getD j.toNatClampNeg dv = v) {pc : Nat} {Ls : Array Slot} {rest : List Value} (hd : decode c.code pc = .ok (.baload, 1)) {target : State}
    (hr : Steps p.tables e below (T.setTop (mkF m (pc + 1) Ls (v :: rest))) target) : Steps p.tables e below (T.setTop (mkF m pc Ls (.int j :: .ref a :: rest))) target := by
  obtain ⟨cl, A, -, S, -, H, -⟩ := F
  have hin := inb_of S hj
  exact X.baloadBytes hx (by rw [eT]; exact A.1) (State.isArrayOf_alike hZ.alike A.2.1) A.2.2 hin (Has.at H hin hv) (g := mkF m pc Ls (.int j :: .ref a :: rest)) rfl rfl hd target hr
theorem oLdJ (X : Stand p l e R s m args below meth c T locs cells slots) (hx : p.tables.exec = Jvm.exec) (hZ : Z.Warmed39 s.vm) (eT : T.heap = h) (F : Arv Z h a k .long z vs dv) {j : Int32} {v : Value} (hj : ¬ j < 0 ∧ j < z) (hv : vs.getD j.toNatClampNeg dv = v) {pc : Nat} {Ls : Array Slot} {rest : List Value} (hd : decode c.code pc = .ok (.laload, 1)) {target : State}
    (hr : Steps p.tables e below (T.setTop (mkF m (pc + 1) Ls (v :: rest))) target) : Steps p.tables e below (T.setTop (mkF m pc Ls (.int j :: .ref a :: rest))) target := by
  obtain ⟨cl, A, -, S, -, H, -⟩ := F
  have hin := inb_of S hj
  exact X.laload hx (by rw [eT]; exact A.1) (State.isArrayOf_alike hZ.alike A.2.1) A.2.2 hin (Has.at H hin hv) (g := mkF m pc Ls (.int j :: .ref a :: rest)) rfl rfl hd target hr
theorem oLdD (X : Stand p l e R s m args below meth c T locs cells slots) (hx : p.tables.exec = Jvm.exec) (hZ : Z.Warmed39 s.vm) (eT : T.heap = h) (F : Arv Z h a k .double z vs dv) {j : Int32} {v : Value} (hj : ¬ j < 0 ∧ j < z) (hv : vs.getD j.toNatClampNeg dv = v) {pc : Nat} {Ls : Array Slot} {rest : List Value} (hd : decode c.code pc = .ok (.daload, 1)) {target : State}
    (hr : Steps p.tables e below (T.setTop (mkF m (pc + 1) Ls (v :: rest))) target) : Steps p.tables e below (T.setTop (mkF m pc Ls (.int j :: .ref a :: rest))) target := by
  obtain ⟨cl, A, -, S, -, H, -⟩ := F
  have hin := inb_of S hj
  exact X.daload hx (by rw [eT]; exact A.1) (State.isArrayOf_alike hZ.alike A.2.1) A.2.2 hin (Has.at H hin hv) (g := mkF m pc Ls (.int j :: .ref a :: rest)) rfl rfl hd target hr
theorem oStI (X : Stand p l e R s m args below meth c T locs cells slots) (hx : p.tables.exec = Jvm.exec) (hZ : Z.Warmed39 s.vm) (eT : T.heap = h) (F : Arv Z h a k .int z vs dv) {j : Int32} {x : Int32} (hj : ¬ j < 0 ∧ j < z) (i : Nat) (hi : j.toNatClampNeg = i) (hl : i < vs.length) {g : JFrame} (hg : g.method = m) {rest : List Value} (hs : g.stack = .int x :: .int j :: .ref a :: rest) (hd : decode c.code g.pc = .ok (.iastore, 1)) :
    ∃ T' h', Stand p l e R s m args below meth c T' (locs ++ [⟨a, j.toNatClampNeg⟩]) cells slots ∧ T'.heap = h' ∧ Wr h h' a j.toNatClampNeg (.int x) ∧ Arv Z h' a k .int z (vs.set i (.int x)) dv ∧ ∀ target, Steps p.tables e below (T'.setTop { g with pc := g.pc + 1, stack := rest }) target → Steps p.tables e below (T.setTop g) target := by
  obtain ⟨cl, A, q1, S, M, H, G⟩ := F
  obtain ⟨T', h', X', e', W, st⟩ := stI X hx hZ eT A (j := j) (inb_of S hj) hg hs hd
  exact ⟨T', h', X', e', W, Arv.set A q1 S M H G rfl W i hi hl, st⟩
theorem oStB (X : Stand p l e R s m args below meth c T locs cells slots) (hx : p.tables.exec = Jvm.exec) (hZ : Z.Warmed39 s.vm) (eT : T.heap = h) (F : Arv Z h a k .byte z vs dv) {j : Int32} {x : Int32} (hj : ¬ j < 0 ∧ j < z) (i : Nat) (hi : j.toNatClampNeg = i) (hl : i < vs.length) {g : JFrame} (hg : g.method = m) {rest : List Value} (hs : g.stack = .int x :: .int j :: .ref a :: rest) (hd : decode c.code g.pc = .ok (.bastore, 1)) :
    ∃ T' h', Stand p l e R s m args below meth c T' (locs ++ [⟨a, j.toNatClampNeg⟩]) cells slots ∧ T'.heap = h' ∧ Wr h h' a j.toNatClampNeg (.int (nar .byte x)) ∧ Arv Z h' a k .byte z (vs.set i (.int (nar .byte x))) dv ∧ ∀ target, Steps p.tables e below (T'.setTop { g with pc := g.pc + 1, stack := rest }) target → Steps p.tables e below (T.setTop g) target := by
  obtain ⟨cl, A, q1, S, M, H, G⟩ := F
  obtain ⟨T', h', X', e', W, st⟩ := stB X hx hZ eT A (j := j) (inb_of S hj) hg hs hd
  exact ⟨T', h', X', e', W, Arv.set A q1 S M H G (fits_nar_byte x) W i hi hl, st⟩
theorem oStJ (X : Stand p l e R s m args below meth c T locs cells slots) (hx : p.tables.exec = Jvm.exec) (hZ : Z.Warmed39 s.vm) (eT : T.heap = h) (F : Arv Z h a k .long z vs dv) {j : Int32} {x : Int64} (hj : ¬ j < 0 ∧ j < z) (i : Nat) (hi : j.toNatClampNeg = i) (hl : i < vs.length) {g : JFrame} (hg : g.method = m) {rest : List Value} (hs : g.stack = .long x :: .int j :: .ref a :: rest) (hd : decode c.code g.pc = .ok (.lastore, 1)) :
    ∃ T' h', Stand p l e R s m args below meth c T' (locs ++ [⟨a, j.toNatClampNeg⟩]) cells slots ∧ T'.heap = h' ∧ Wr h h' a j.toNatClampNeg (.long x) ∧ Arv Z h' a k .long z (vs.set i (.long x)) dv ∧ ∀ target, Steps p.tables e below (T'.setTop { g with pc := g.pc + 1, stack := rest }) target → Steps p.tables e below (T.setTop g) target := by
  obtain ⟨cl, A, q1, S, M, H, G⟩ := F
  obtain ⟨T', h', X', e', W, st⟩ := stJ X hx hZ eT A (j := j) (inb_of S hj) hg hs hd
  exact ⟨T', h', X', e', W, Arv.set A q1 S M H G rfl W i hi hl, st⟩
theorem oStD (X : Stand p l e R s m args below meth c T locs cells slots) (hx : p.tables.exec = Jvm.exec) (hZ : Z.Warmed39 s.vm) (eT : T.heap = h) (F : Arv Z h a k .double z vs dv) {j : Int32} {x : UInt64} (hj : ¬ j < 0 ∧ j < z) (i : Nat) (hi : j.toNatClampNeg = i) (hl : i < vs.length) {g : JFrame} (hg : g.method = m) {rest : List Value} (hs : g.stack = .double x :: .int j :: .ref a :: rest) (hd : decode c.code g.pc = .ok (.dastore, 1)) :
    ∃ T' h', Stand p l e R s m args below meth c T' (locs ++ [⟨a, j.toNatClampNeg⟩]) cells slots ∧ T'.heap = h' ∧ Wr h h' a j.toNatClampNeg (.double x) ∧ Arv Z h' a k .double z (vs.set i (.double x)) dv ∧ ∀ target, Steps p.tables e below (T'.setTop { g with pc := g.pc + 1, stack := rest }) target → Steps p.tables e below (T.setTop g) target := by
  obtain ⟨cl, A, q1, S, M, H, G⟩ := F
  obtain ⟨T', h', X', e', W, st⟩ := stD X hx hZ eT A (j := j) (inb_of S hj) hg hs hd
  exact ⟨T', h', X', e', W, Arv.set A q1 S M H G rfl W i hi hl, st⟩
theorem oOpq {n0 : Nat} (X : Stand p l e R s m args below meth c T locs cells slots) (N : Fr n0 locs) : ∃ L, Stand p l e R s m args below meth c T L cells slots ∧ Fr n0 L := ⟨_, X, N⟩
end OwnKit
abbrev oi (x : Int32) : Slot := .val (.int x)
abbrev oj (x : Int64) : Slot := .val (.long x)
abbrev oa (x : Addr) : Slot := .val (.ref x)
abbrev od (x : UInt64) : Slot := .val (.double x)
abbrev oS (p : Program) (e : Env) (below : List Frame) (T : State) (m : MethodId) (pc : Nat) (L : Array Slot) (S : List Value) (t : State) : Prop := Steps p.tables e below (T.setTop (mkF m pc L S)) t
theorem own_ltp (x k : Int32) : (x < k) = (x.toInt < k.toInt) := propext Int32.lt_iff_toInt_lt
theorem own_eqp (x k : Int32) : (x = k) = (x.toInt = k.toInt) := propext Int32.toInt_inj.symm
theorem own_ltpL (x k : Int64) : (x < k) = (x.toInt < k.toInt) := propext Int64.lt_iff_toInt_lt
theorem own_eqpL (x k : Int64) : (x = k) = (x.toInt = k.toInt) := propext Int64.toInt_inj.symm
theorem own_of_range {P : Int32 → Prop} (n : Nat) (h : ∀ i : Fin n, P (Int32.ofNat i.1)) (x : Int32) (h0 : 0 ≤ x.toInt) (h1 : x.toInt < (n : Int)) : P x := by
  have e : Int32.ofNat x.toInt.toNat = x := by
    rw [← Int32.ofInt_eq_ofNat, Int.toNat_of_nonneg h0, Int32.ofInt_toInt]
  have q := h ⟨x.toInt.toNat, by omega⟩
  rwa [e] at q
theorem own_getD (ws : List Int32) (n : Nat) : (ws.map Value.int).getD n (.int (0 : Int32)) = .int (ws.getD n 0) := by
  simp only [List.getD_eq_getElem?_getD, List.getElem?_map]
  cases ws[n]? <;> rfl

theorem own_d1_0 : decode jdk_29_method_70_code 0 = .ok (.lload_n 0, 1) := by decide +kernel
theorem own_d1_1 : decode jdk_29_method_70_code 1 = .ok (.lload_n 2, 1) := by decide +kernel
theorem own_d1_2 : decode jdk_29_method_70_code 2 = .ok (.lcmp, 1) := by decide +kernel
theorem own_d1_3 : decode jdk_29_method_70_code 3 = .ok (.ifCond .gt 7, 3) := by decide +kernel
theorem own_d1_6 : decode jdk_29_method_70_code 6 = .ok (.lload_n 0, 1) := by decide +kernel
theorem own_d1_7 : decode jdk_29_method_70_code 7 = .ok (.goto 4, 3) := by decide +kernel
theorem own_d1_10 : decode jdk_29_method_70_code 10 = .ok (.lload_n 2, 1) := by decide +kernel
theorem own_d1_11 : decode jdk_29_method_70_code 11 = .ok (.lreturn, 1) := by decide +kernel
theorem own_ef1 (m : MethodId) (q0 : Int64) (q1 : Int64) : entryFrame m #[(.long q0), (.long q1)] 4 = mkF m 0 #[oj q0, .second, oj q1, .second] [] := by first | (simp [entryFrame, mkF, argsToLocals, Value.category]; done) | rfl
def own_f1 (q0 : Int64) (q1 : Int64) : Int64 := (if q1 < q0 then q1 else q0)
def own_Q1 (Z : State) (q0 : Int64) (q1 : Int64) (h0 : Heap) (n0 : Nat) (v : Option Value) (h : Heap) (L : List Loc) : Prop := v = some (Value.long (own_f1 q0 q1)) ∧ Fr n0 L ∧ h = h0
set_option maxRecDepth 65536 in
set_option maxHeartbeats 40000000 in
theorem own_rm1 (l : Launch) (Z : State) (av : Array Value) (hw : ∀ d ∈ tables_1, d.before av Z = true) (ws : List Jvm.Cond) (q0 : Int64) (q1 : Int64) (h0 : Heap) (n0 : Nat) (Z0 : n0 ≤ h0.size) :
    MetFree l (⟨"java/lang/Math", "min", "(JJ)J"⟩ : MethodName) (head1 (Jvm.Cond.code (⟨"java/lang/Math", "min", "(JJ)J"⟩ : MethodName) jdk_29_method_70_code 4 (some .long) :: ws) ({ frames := 0, cells := 0, slots := 0, locals := 0 } : Room)) (fun a U => a = #[(.long q0), (.long q1)] ∧ Z.Warmed39 U.vm ∧ U.heap = h0) (fun _ _ _ _ _ => True) (fun _ U o U' => ∃ v L, o = .returned v ∧ own_Q1 Z q0 q1 h0 n0 v U'.heap L ∧ FrameEnd U o U' L ({ frames := 0, cells := 0, slots := 0, locals := 0 } : Room).cells ({ frames := 0, cells := 0, slots := 0, locals := 0 } : Room).slots) := by
  refine MetFree.of_bodySF (Jvm.Free.JP.mathPlain rfl (by decide +kernel)) hisR ?_
  intro p e s m args below meth c s₁ Bd hml0 hP hK
  obtain ⟨rfl, hZ, hh⟩ := hP
  have hx := Bd.exec
  have hby := Bd.bytes
  have hml : c.maxLocals = 4 := hml0
  have hown : s.vm.findClass "java/lang/Math" = some m.cls := findClass_of_methodNamed Bd.named
  have hnm := (name_of_methodNamed Bd.named Bd.method).1
  have X0 : Stand p l e ({ frames := 0, cells := 0, slots := 0, locals := 0 } : Room) s m #[(.long q0), (.long q1)] below meth c s₁ [] 0 0 := Stand.of_body Bd
  have e0 : s₁.heap = h0 := by rw [← hh, Bd.state]; rfl
  have N0 := Fr.nil n0
  have pre0 : ∀ t, Steps p.tables e below (s₁.setTop (mkF m 0 #[oj q0, .second, oj q1, .second] [])) t → Steps p.tables e below (s₁.setTop (entryFrame m #[(.long q0), (.long q1)] 4)) t := fun t k => castTop (own_ef1 m q0 q1) k
  have pre1 : ∀ t, Steps p.tables e below (s₁.setTop (mkF m 3 #[oj q0, .second, oj q1, .second] [(.int (lcmpW q0 q1))])) t → Steps p.tables e below (s₁.setTop (entryFrame m #[(.long q0), (.long q1)] 4)) t := by
    intro t k
    refine pre0 t ?_
    show oS p e below s₁ m 0 #[oj q0, .second, oj q1, .second] [] _
    refine XS.lloadN X0.here hx rfl (hb hby own_d1_0) rfl ?_
    show oS p e below s₁ m 1 #[oj q0, .second, oj q1, .second] [(.long q0)] _
    refine XS.lloadN X0.here hx rfl (hb hby own_d1_1) rfl ?_
    show oS p e below s₁ m 2 #[oj q0, .second, oj q1, .second] [(.long q1), (.long q0)] _
    refine XS.lcmp X0.here hx rfl (hb hby own_d1_2) rfl ?_
    exact k
  by_cases c2 : q1 < q0
  · skip
    obtain ⟨fs, hr, hrun, hended, hW, hsame⟩ := X0.leave (v := (some (.long q1))) (fun h => by rw [Bd.returns] at h; cases h)
    refine ⟨_, _, pre1 _ ?_, hrun, hended, _, _, rfl, ?_, ⟨_, rfl⟩, hW, hsame.mono (by decide) (by decide)⟩
    · show oS p e below s₁ m 3 #[oj q0, .second, oj q1, .second] [(.int (lcmpW q0 q1))] _
      refine XS.ifYes X0.here hx rfl (pc0 := 3) (pc' := 10) rfl (hb hby own_d1_3) rfl ((if0 _ _).trans (tlt ((lw_gt q0 q1).mpr c2)).2.2.1) (by decide) (by decide) ?_
      show oS p e below s₁ m 10 #[oj q0, .second, oj q1, .second] [] _
      refine XS.lloadN X0.here hx rfl (hb hby own_d1_10) rfl ?_
      show oS p e below s₁ m 11 #[oj q0, .second, oj q1, .second] [(.long q1)] _
      exact retOut X0 hx Bd.returns rfl (Or.inr (Or.inl ⟨rfl, rfl, _, rfl⟩)) (hb hby own_d1_11) hr
    · show own_Q1 Z q0 q1 h0 n0 _ s₁.heap _
      rw [e0]
      exact ⟨congrArg (fun z => some (Value.long z)) (by rw [own_f1, if_pos c2]), N0, rfl⟩
  · skip
    obtain ⟨fs, hr, hrun, hended, hW, hsame⟩ := X0.leave (v := (some (.long q0))) (fun h => by rw [Bd.returns] at h; cases h)
    refine ⟨_, _, pre1 _ ?_, hrun, hended, _, _, rfl, ?_, ⟨_, rfl⟩, hW, hsame.mono (by decide) (by decide)⟩
    · show oS p e below s₁ m 3 #[oj q0, .second, oj q1, .second] [(.int (lcmpW q0 q1))] _
      refine XS.ifNo X0.here hx rfl (hb hby own_d1_3) rfl ((if0 _ _).trans (flt (fun q => c2 ((lw_gt q0 q1).mp q))).2.2.1) ?_
      show oS p e below s₁ m 6 #[oj q0, .second, oj q1, .second] [] _
      refine XS.lloadN X0.here hx rfl (hb hby own_d1_6) rfl ?_
      show oS p e below s₁ m 7 #[oj q0, .second, oj q1, .second] [(.long q0)] _
      refine XS.goto X0.here hx rfl (pc0 := 7) (pc' := 11) rfl (hb hby own_d1_7) (by decide) (by decide) ?_
      show oS p e below s₁ m 11 #[oj q0, .second, oj q1, .second] [(.long q0)] _
      exact retOut X0 hx Bd.returns rfl (Or.inr (Or.inl ⟨rfl, rfl, _, rfl⟩)) (hb hby own_d1_11) hr
    · show own_Q1 Z q0 q1 h0 n0 _ s₁.heap _
      rw [e0]
      exact ⟨congrArg (fun z => some (Value.long z)) (by rw [own_f1, if_neg c2]), N0, rfl⟩
theorem own_d6_0 : decode jdk_29_method_69_code 0 = .ok (.iload_n 0, 1) := by decide +kernel
theorem own_d6_1 : decode jdk_29_method_69_code 1 = .ok (.iload_n 1, 1) := by decide +kernel
theorem own_d6_2 : decode jdk_29_method_69_code 2 = .ok (.if_icmp .gt 7, 3) := by decide +kernel
theorem own_d6_5 : decode jdk_29_method_69_code 5 = .ok (.iload_n 0, 1) := by decide +kernel
theorem own_d6_6 : decode jdk_29_method_69_code 6 = .ok (.goto 4, 3) := by decide +kernel
theorem own_d6_9 : decode jdk_29_method_69_code 9 = .ok (.iload_n 1, 1) := by decide +kernel
theorem own_d6_10 : decode jdk_29_method_69_code 10 = .ok (.ireturn, 1) := by decide +kernel
theorem own_ef6 (m : MethodId) (p0 : Int32) (p1 : Int32) : entryFrame m #[(.int p0), (.int p1)] 2 = mkF m 0 #[oi p0, oi p1] [] := by first | (simp [entryFrame, mkF, argsToLocals, Value.category]; done) | rfl
def own_f6 (p0 : Int32) (p1 : Int32) : Int32 := (if p1 < p0 then p1 else p0)
def own_Q6 (Z : State) (p0 : Int32) (p1 : Int32) (h0 : Heap) (n0 : Nat) (v : Option Value) (h : Heap) (L : List Loc) : Prop := v = some (Value.int (own_f6 p0 p1)) ∧ Fr n0 L ∧ h = h0
set_option maxRecDepth 65536 in
set_option maxHeartbeats 40000000 in
theorem own_rm6 (l : Launch) (Z : State) (av : Array Value) (hw : ∀ d ∈ tables_1, d.before av Z = true) (ws : List Jvm.Cond) (p0 : Int32) (p1 : Int32) (h0 : Heap) (n0 : Nat) (Z0 : n0 ≤ h0.size) :
    MetFree l (⟨"java/lang/Math", "min", "(II)I"⟩ : MethodName) (head1 (Jvm.Cond.code (⟨"java/lang/Math", "min", "(II)I"⟩ : MethodName) jdk_29_method_69_code 2 (some .int) :: ws) ({ frames := 0, cells := 0, slots := 0, locals := 0 } : Room)) (fun a U => a = #[(.int p0), (.int p1)] ∧ Z.Warmed39 U.vm ∧ U.heap = h0) (fun _ _ _ _ _ => True) (fun _ U o U' => ∃ v L, o = .returned v ∧ own_Q6 Z p0 p1 h0 n0 v U'.heap L ∧ FrameEnd U o U' L ({ frames := 0, cells := 0, slots := 0, locals := 0 } : Room).cells ({ frames := 0, cells := 0, slots := 0, locals := 0 } : Room).slots) := by
  refine MetFree.of_bodySF (Jvm.Free.JP.mathPlain rfl (by decide +kernel)) hisR ?_
  intro p e s m args below meth c s₁ Bd hml0 hP hK
  obtain ⟨rfl, hZ, hh⟩ := hP
  have hx := Bd.exec
  have hby := Bd.bytes
  have hml : c.maxLocals = 2 := hml0
  have hown : s.vm.findClass "java/lang/Math" = some m.cls := findClass_of_methodNamed Bd.named
  have hnm := (name_of_methodNamed Bd.named Bd.method).1
  have X0 : Stand p l e ({ frames := 0, cells := 0, slots := 0, locals := 0 } : Room) s m #[(.int p0), (.int p1)] below meth c s₁ [] 0 0 := Stand.of_body Bd
  have e0 : s₁.heap = h0 := by rw [← hh, Bd.state]; rfl
  have N0 := Fr.nil n0
  have pre0 : ∀ t, Steps p.tables e below (s₁.setTop (mkF m 0 #[oi p0, oi p1] [])) t → Steps p.tables e below (s₁.setTop (entryFrame m #[(.int p0), (.int p1)] 2)) t := fun t k => castTop (own_ef6 m p0 p1) k
  have pre1 : ∀ t, Steps p.tables e below (s₁.setTop (mkF m 2 #[oi p0, oi p1] [(.int p1), (.int p0)])) t → Steps p.tables e below (s₁.setTop (entryFrame m #[(.int p0), (.int p1)] 2)) t := by
    intro t k
    refine pre0 t ?_
    show oS p e below s₁ m 0 #[oi p0, oi p1] [] _
    refine XS.iloadN X0.here hx rfl (hb hby own_d6_0) rfl ?_
    show oS p e below s₁ m 1 #[oi p0, oi p1] [(.int p0)] _
    refine XS.iloadN X0.here hx rfl (hb hby own_d6_1) rfl ?_
    exact k
  by_cases c2 : p1 < p0
  · skip
    obtain ⟨fs, hr, hrun, hended, hW, hsame⟩ := X0.leave (v := (some (.int p1))) (fun h => by rw [Bd.returns] at h; cases h)
    refine ⟨_, _, pre1 _ ?_, hrun, hended, _, _, rfl, ?_, ⟨_, rfl⟩, hW, hsame.mono (by decide) (by decide)⟩
    · show oS p e below s₁ m 2 #[oi p0, oi p1] [(.int p1), (.int p0)] _
      refine XS.icmpYes X0.here hx rfl (pc0 := 2) (pc' := 9) rfl (hb hby own_d6_2) rfl (tlt c2).2.2.1 (by decide) (by decide) ?_
      show oS p e below s₁ m 9 #[oi p0, oi p1] [] _
      refine XS.iloadN X0.here hx rfl (hb hby own_d6_9) rfl ?_
      show oS p e below s₁ m 10 #[oi p0, oi p1] [(.int p1)] _
      exact retOut X0 hx Bd.returns rfl (Or.inl ⟨rfl, Or.inl rfl, _, rfl⟩) (hb hby own_d6_10) hr
    · show own_Q6 Z p0 p1 h0 n0 _ s₁.heap _
      rw [e0]
      exact ⟨congrArg (fun z => some (Value.int z)) (by rw [own_f6, if_pos c2]), N0, rfl⟩
  · skip
    obtain ⟨fs, hr, hrun, hended, hW, hsame⟩ := X0.leave (v := (some (.int p0))) (fun h => by rw [Bd.returns] at h; cases h)
    refine ⟨_, _, pre1 _ ?_, hrun, hended, _, _, rfl, ?_, ⟨_, rfl⟩, hW, hsame.mono (by decide) (by decide)⟩
    · show oS p e below s₁ m 2 #[oi p0, oi p1] [(.int p1), (.int p0)] _
      refine XS.icmpNo X0.here hx rfl (hb hby own_d6_2) rfl (flt c2).2.2.1 ?_
      show oS p e below s₁ m 5 #[oi p0, oi p1] [] _
      refine XS.iloadN X0.here hx rfl (hb hby own_d6_5) rfl ?_
      show oS p e below s₁ m 6 #[oi p0, oi p1] [(.int p0)] _
      refine XS.goto X0.here hx rfl (pc0 := 6) (pc' := 10) rfl (hb hby own_d6_6) (by decide) (by decide) ?_
      show oS p e below s₁ m 10 #[oi p0, oi p1] [(.int p0)] _
      exact retOut X0 hx Bd.returns rfl (Or.inl ⟨rfl, Or.inl rfl, _, rfl⟩) (hb hby own_d6_10) hr
    · show own_Q6 Z p0 p1 h0 n0 _ s₁.heap _
      rw [e0]
      exact ⟨congrArg (fun z => some (Value.int z)) (by rw [own_f6, if_neg c2]), N0, rfl⟩
def own_idx (q : Int32) : List Nat := (if q &&& 1 = 0 then [] else [0]) ++ ((if q &&& 2 = 0 then [] else [1]) ++ ((if q &&& 4 = 0 then [] else [2]) ++ ((if q &&& 8 = 0 then [] else [3]) ++ (if q &&& 16 = 0 then [] else [4]))))
def own_u (u0 u1 u2 u3 u4 : Int32) : Nat → Int32
  | 0 => u0
  | 1 => u1
  | 2 => u2
  | 3 => u3
  | _ => u4
def own_pk (u0 u1 u2 u3 u4 q : Int32) : List Int32 := (own_idx q).map (own_u u0 u1 u2 u3 u4)
def own_z (q : Int32) : Int32 := Int32.ofNat (own_idx q).length
theorem own_zl (u0 u1 u2 u3 u4 q : Int32) : own_z q = Int32.ofNat (own_pk u0 u1 u2 u3 u4 q).length := by
  unfold own_z own_pk; rw [List.length_map]
theorem own_l5t : ∀ i : Fin 32, (own_idx (Int32.ofNat i.1)).length ≤ 5 := by decide +kernel
theorem own_l5 {q : Int32} (h : 0 ≤ q.toInt ∧ q.toInt < 32) (u0 u1 u2 u3 u4 : Int32) : (own_pk u0 u1 u2 u3 u4 q).length ≤ 5 := by
  unfold own_pk; rw [List.length_map]
  exact own_of_range (P := fun q => (own_idx q).length ≤ 5) 32 own_l5t q h.1 h.2
theorem own_m32 {q : Int32} (h : 0 ≤ q.toInt ∧ q.toInt < 32) : q = (0 : Int32) ∨ q = (1 : Int32) ∨ q = (2 : Int32) ∨ q = (3 : Int32) ∨ q = (4 : Int32) ∨ q = (5 : Int32) ∨ q = (6 : Int32) ∨ q = (7 : Int32) ∨ q = (8 : Int32) ∨ q = (9 : Int32) ∨ q = (10 : Int32) ∨ q = (11 : Int32) ∨ q = (12 : Int32) ∨ q = (13 : Int32) ∨ q = (14 : Int32) ∨ q = (15 : Int32) ∨ q = (16 : Int32) ∨ q = (17 : Int32) ∨ q = (18 : Int32) ∨ q = (19 : Int32) ∨ q = (20 : Int32) ∨ q = (21 : Int32) ∨ q = (22 : Int32) ∨ q = (23 : Int32) ∨ q = (24 : Int32) ∨ q = (25 : Int32) ∨ q = (26 : Int32) ∨ q = (27 : Int32) ∨ q = (28 : Int32) ∨ q = (29 : Int32) ∨ q = (30 : Int32) ∨ q = (31 : Int32) := by
  simp only [own_eqp, Int32.reduceToInt]
  omega
def own_adv {α : Type} (lt : α → α → Bool) : List α → α → List α
  | [], _ => []
  | r :: rs, x => if lt r x = true then own_adv lt rs x else r :: rs
def own_dif {α : Type} [DecidableEq α] (lt : α → α → Bool) : List α → List α → List α
  | [], _ => []
  | x :: xs, R => match own_adv lt R x with
    | [] => x :: own_dif lt xs []
    | r :: rs => if r = x then own_dif lt xs (r :: rs) else x :: own_dif lt xs (r :: rs)
def own_lt (a b : Int32) : Bool := decide (a < b)
def own_ltN (a b : Nat) : Bool := decide (a < b)
theorem own_adv_map {f : Nat → Int32} (hf : ∀ a b, a < 5 → b < 5 → own_lt (f a) (f b) = own_ltN a b) : ∀ (R : List Nat) (x : Nat), x < 5 → (∀ r ∈ R, r < 5) → own_adv own_lt (R.map f) (f x) = (own_adv own_ltN R x).map f
  | [], _, _, _ => rfl
  | r :: rs, x, hx, hR => by
    have h := hf r x (hR r List.mem_cons_self) hx
    simp only [List.map_cons, own_adv, h]
    split
    · exact own_adv_map hf rs x hx fun q hq => hR q (List.mem_cons_of_mem _ hq)
    · rfl
theorem own_adv_sub (x : Nat) : ∀ (R : List Nat), ∀ q ∈ own_adv own_ltN R x, q ∈ R
  | [], q, h => h
  | r :: rs, q, h => by
    simp only [own_adv] at h
    split at h
    · exact List.mem_cons_of_mem _ (own_adv_sub x rs q h)
    · exact h
theorem own_dif_map {f : Nat → Int32} (hf : ∀ a b, a < 5 → b < 5 → own_lt (f a) (f b) = own_ltN a b) (hi : ∀ a b, a < 5 → b < 5 → f a = f b → a = b) : ∀ (A R : List Nat), (∀ r ∈ A, r < 5) → (∀ r ∈ R, r < 5) → own_dif own_lt (A.map f) (R.map f) = (own_dif own_ltN A R).map f
  | [], _, _, _ => rfl
  | x :: xs, R, hA, hR => by
    have hx : x < 5 := hA x List.mem_cons_self
    have hxs : ∀ r ∈ xs, r < 5 := fun q hq => hA q (List.mem_cons_of_mem _ hq)
    have ea := own_adv_map hf R x hx hR
    have es : ∀ q ∈ own_adv own_ltN R x, q < 5 := fun q hq => hR q (own_adv_sub x R q hq)
    simp only [List.map_cons, own_dif, ea]
    cases hq : own_adv own_ltN R x with
    | nil =>
      simp only [List.map_nil, List.map_cons]
      have := own_dif_map hf hi xs [] hxs (fun q h => nomatch h)
      simp only [List.map_nil] at this
      rw [this]
    | cons r rs =>
      rw [hq] at es
      have hr : r < 5 := es r List.mem_cons_self
      have ih := own_dif_map hf hi xs (r :: rs) hxs es
      simp only [List.map_cons] at ih ⊢
      by_cases e : r = x
      · subst e
        simp only [if_true]
        exact ih
      · have e' : ¬ f r = f x := fun q => e (hi r x hr hx q)
        simp only [if_neg e, if_neg e', List.map_cons]
        rw [ih]
theorem own_tab : ∀ i j : Fin 32, own_dif own_ltN (own_idx (Int32.ofNat i.1)) (own_idx (Int32.ofNat j.1)) = own_idx (Int32.ofNat i.1 &&& (Int32.ofNat j.1 ^^^ (-1 : Int32))) := by decide +kernel
theorem own_idx5 (q : Int32) : ∀ r ∈ own_idx q, r < 5 := by
  intro r h
  unfold own_idx at h
  simp only [List.mem_append] at h
  rcases h with h | h | h | h | h
  all_goals
    split at h
    · simp at h
    · simp only [List.mem_singleton] at h; omega
theorem own_key {u0 u1 u2 u3 u4 : Int32} (h1 : u0.toInt < u1.toInt) (h2 : u1.toInt < u2.toInt) (h3 : u2.toInt < u3.toInt) (h4 : u3.toInt < u4.toInt) {a b : Int32} (ha : 0 ≤ a.toInt ∧ a.toInt < 32) (hb : 0 ≤ b.toInt ∧ b.toInt < 32) :
    own_dif own_lt (own_pk u0 u1 u2 u3 u4 a) (own_pk u0 u1 u2 u3 u4 b) = own_pk u0 u1 u2 u3 u4 (a &&& (b ^^^ (-1 : Int32))) := by
  have hlt : ∀ i j, i < 5 → j < 5 → own_lt (own_u u0 u1 u2 u3 u4 i) (own_u u0 u1 u2 u3 u4 j) = own_ltN i j := by
    intro i j hi hj
    have hi' : i = 0 ∨ i = 1 ∨ i = 2 ∨ i = 3 ∨ i = 4 := by omega
    have hj' : j = 0 ∨ j = 1 ∨ j = 2 ∨ j = 3 ∨ j = 4 := by omega
    unfold own_lt own_ltN
    rcases hi' with rfl | rfl | rfl | rfl | rfl <;> rcases hj' with rfl | rfl | rfl | rfl | rfl <;> simp only [own_u, own_ltp] <;> (apply decide_eq_decide.mpr; omega)
  have hinj : ∀ i j, i < 5 → j < 5 → own_u u0 u1 u2 u3 u4 i = own_u u0 u1 u2 u3 u4 j → i = j := by
    intro i j hi hj e
    have hi' : i = 0 ∨ i = 1 ∨ i = 2 ∨ i = 3 ∨ i = 4 := by omega
    have hj' : j = 0 ∨ j = 1 ∨ j = 2 ∨ j = 3 ∨ j = 4 := by omega
    rcases hi' with rfl | rfl | rfl | rfl | rfl <;> rcases hj' with rfl | rfl | rfl | rfl | rfl <;> simp only [own_u, own_eqp] at e <;> omega
  unfold own_pk
  rw [own_dif_map hlt hinj _ _ (own_idx5 a) (own_idx5 b)]
  congr 1
  have := own_tab ⟨a.toInt.toNat, by omega⟩ ⟨b.toInt.toNat, by omega⟩
  have ea : Int32.ofNat a.toInt.toNat = a := by rw [← Int32.ofInt_eq_ofNat, Int.toNat_of_nonneg ha.1, Int32.ofInt_toInt]
  have eb : Int32.ofNat b.toInt.toNat = b := by rw [← Int32.ofInt_eq_ofNat, Int.toNat_of_nonneg hb.1, Int32.ofInt_toInt]
  simp only [ea, eb] at this
  exact this
theorem own_nat {v : Int32} {j : Nat} (h : v.toInt = (j : Int)) : v.toNatClampNeg = j := by
  simp only [Int32.toNatClampNeg, h]; rfl
theorem own_ofN {n : Nat} (h : n ≤ 5) : (Int32.ofNat n).toInt = (n : Int) := by
  rcases (show n = 0 ∨ n = 1 ∨ n = 2 ∨ n = 3 ∨ n = 4 ∨ n = 5 by omega) with rfl | rfl | rfl | rfl | rfl | rfl <;> decide
theorem own_inc {v : Int32} {j : Nat} (h : v.toInt = (j : Int)) (h5 : j ≤ 5) : (v + (1 : Int32)).toInt = ((j + 1 : Nat) : Int) := by
  have e := c_iadd v 1
  have r := rng32 (v + 1)
  simp only [Int32.reduceToInt] at e
  omega
theorem own_atD {R : List Int32} {j : Nat} {y : Int32} {ys : List Int32} (h : R.drop j = y :: ys) : R.getD j 0 = y ∧ j < R.length ∧ R.drop (j + 1) = ys := by
  have hl : j < R.length := by
    by_cases q : j < R.length
    · exact q
    · rw [List.drop_eq_nil_of_le (by omega)] at h; cases h
  rw [List.drop_eq_getElem_cons hl] at h
  injection h with h1 h2
  refine ⟨?_, hl, h2⟩
  rw [List.getD_eq_getElem?_getD, List.getElem?_eq_getElem hl, h1]; rfl
theorem own_pn0 : plainName "com/example/strict_anon/strictanon/service/RecordSetsDifferencePinLaw" = true := by first | (simp [plainName, overriddenIn]; done) | decide +kernel
theorem own_d2_0 : decode method_3_code 0 = .ok (.iload_n 1, 1) := by decide +kernel
theorem own_d2_1 : decode method_3_code 1 = .ok (.iconst 1, 1) := by decide +kernel
theorem own_d2_2 : decode method_3_code 2 = .ok (.iand, 1) := by decide +kernel
theorem own_d2_3 : decode method_3_code 3 = .ok (.iload_n 1, 1) := by decide +kernel
theorem own_d2_4 : decode method_3_code 4 = .ok (.iconst 1, 1) := by decide +kernel
theorem own_d2_5 : decode method_3_code 5 = .ok (.iushr, 1) := by decide +kernel
theorem own_d2_6 : decode method_3_code 6 = .ok (.iconst 1, 1) := by decide +kernel
theorem own_d2_7 : decode method_3_code 7 = .ok (.iand, 1) := by decide +kernel
theorem own_d2_8 : decode method_3_code 8 = .ok (.iadd, 1) := by decide +kernel
theorem own_d2_9 : decode method_3_code 9 = .ok (.iload_n 1, 1) := by decide +kernel
theorem own_d2_10 : decode method_3_code 10 = .ok (.iconst 2, 1) := by decide +kernel
theorem own_d2_11 : decode method_3_code 11 = .ok (.iushr, 1) := by decide +kernel
theorem own_d2_12 : decode method_3_code 12 = .ok (.iconst 1, 1) := by decide +kernel
theorem own_d2_13 : decode method_3_code 13 = .ok (.iand, 1) := by decide +kernel
theorem own_d2_14 : decode method_3_code 14 = .ok (.iadd, 1) := by decide +kernel
theorem own_d2_15 : decode method_3_code 15 = .ok (.iload_n 1, 1) := by decide +kernel
theorem own_d2_16 : decode method_3_code 16 = .ok (.iconst 3, 1) := by decide +kernel
theorem own_d2_17 : decode method_3_code 17 = .ok (.iushr, 1) := by decide +kernel
theorem own_d2_18 : decode method_3_code 18 = .ok (.iconst 1, 1) := by decide +kernel
theorem own_d2_19 : decode method_3_code 19 = .ok (.iand, 1) := by decide +kernel
theorem own_d2_20 : decode method_3_code 20 = .ok (.iadd, 1) := by decide +kernel
theorem own_d2_21 : decode method_3_code 21 = .ok (.iload_n 1, 1) := by decide +kernel
theorem own_d2_22 : decode method_3_code 22 = .ok (.iconst 4, 1) := by decide +kernel
theorem own_d2_23 : decode method_3_code 23 = .ok (.iushr, 1) := by decide +kernel
theorem own_d2_24 : decode method_3_code 24 = .ok (.iconst 1, 1) := by decide +kernel
theorem own_d2_25 : decode method_3_code 25 = .ok (.iand, 1) := by decide +kernel
theorem own_d2_26 : decode method_3_code 26 = .ok (.iadd, 1) := by decide +kernel
theorem own_d2_27 : decode method_3_code 27 = .ok (.istore_n 2, 1) := by decide +kernel
theorem own_d2_28 : decode method_3_code 28 = .ok (.iload_n 2, 1) := by decide +kernel
theorem own_d2_29 : decode method_3_code 29 = .ok (.newarray .int, 2) := by decide +kernel
theorem own_d2_31 : decode method_3_code 31 = .ok (.astore_n 3, 1) := by decide +kernel
theorem own_d2_32 : decode method_3_code 32 = .ok (.iconst 0, 1) := by decide +kernel
theorem own_d2_33 : decode method_3_code 33 = .ok (.istore 4, 2) := by decide +kernel
theorem own_d2_35 : decode method_3_code 35 = .ok (.iload_n 1, 1) := by decide +kernel
theorem own_d2_36 : decode method_3_code 36 = .ok (.iconst 1, 1) := by decide +kernel
theorem own_d2_37 : decode method_3_code 37 = .ok (.iand, 1) := by decide +kernel
theorem own_d2_38 : decode method_3_code 38 = .ok (.ifCond .eq 13, 3) := by decide +kernel
theorem own_d2_51 : decode method_3_code 51 = .ok (.iload_n 1, 1) := by decide +kernel
theorem own_d2_52 : decode method_3_code 52 = .ok (.iconst 2, 1) := by decide +kernel
theorem own_d2_53 : decode method_3_code 53 = .ok (.iand, 1) := by decide +kernel
theorem own_d2_54 : decode method_3_code 54 = .ok (.ifCond .eq 13, 3) := by decide +kernel
theorem own_d2_67 : decode method_3_code 67 = .ok (.iload_n 1, 1) := by decide +kernel
theorem own_d2_68 : decode method_3_code 68 = .ok (.iconst 4, 1) := by decide +kernel
theorem own_d2_69 : decode method_3_code 69 = .ok (.iand, 1) := by decide +kernel
theorem own_d2_70 : decode method_3_code 70 = .ok (.ifCond .eq 13, 3) := by decide +kernel
theorem own_d2_83 : decode method_3_code 83 = .ok (.iload_n 1, 1) := by decide +kernel
theorem own_d2_84 : decode method_3_code 84 = .ok (.bipush 8, 2) := by decide +kernel
theorem own_d2_86 : decode method_3_code 86 = .ok (.iand, 1) := by decide +kernel
theorem own_d2_87 : decode method_3_code 87 = .ok (.ifCond .eq 13, 3) := by decide +kernel
theorem own_d2_100 : decode method_3_code 100 = .ok (.iload_n 1, 1) := by decide +kernel
theorem own_d2_101 : decode method_3_code 101 = .ok (.bipush 16, 2) := by decide +kernel
theorem own_d2_103 : decode method_3_code 103 = .ok (.iand, 1) := by decide +kernel
theorem own_d2_104 : decode method_3_code 104 = .ok (.ifCond .eq 13, 3) := by decide +kernel
theorem own_d2_117 : decode method_3_code 117 = .ok (.aload_n 3, 1) := by decide +kernel
theorem own_d2_118 : decode method_3_code 118 = .ok (.areturn, 1) := by decide +kernel
theorem own_ef2 (m : MethodId) (a0 : Addr) (p1 : Int32) : entryFrame m #[(.ref a0), (.int p1)] 5 = mkF m 0 #[oa a0, oi p1, .unset, .unset, .unset] [] := by first | (simp [entryFrame, mkF, argsToLocals, Value.category]; done) | rfl
def own_Q2 (Z : State) (a0 : Addr) (p1 : Int32) (k_a0 : ClassId) (u0 : Int32) (u1 : Int32) (u2 : Int32) (u3 : Int32) (u4 : Int32) (h0 : Heap) (n0 : Nat) (v : Option Value) (h : Heap) (L : List Loc) : Prop := ∃ (r : Addr) (k_r : ClassId), v = some (.ref r) ∧ Fr n0 L ∧ Keep h0 h [] ∧ h0.size ≤ r ∧ Arv Z h r k_r .int (own_z p1) ((own_pk u0 u1 u2 u3 u4 p1).map Value.int) (.int (0 : Int32))
set_option maxRecDepth 65536 in
set_option maxHeartbeats 40000000 in
theorem own_rm2_0 (l : Launch) (Z : State) (av : Array Value) (hw : ∀ d ∈ tables_1, d.before av Z = true) (ws : List Jvm.Cond) (a0 : Addr) (p1 : Int32) (k_a0 : ClassId) (u0 : Int32) (u1 : Int32) (u2 : Int32) (u3 : Int32) (u4 : Int32) (h0 : Heap) (n0 : Nat) (Z0 : n0 ≤ h0.size) (V_a0 : Arv Z h0 a0 k_a0 .int (5 : Int32) [(.int u0), (.int u1), (.int u2), (.int u3), (.int u4)] (.int (0 : Int32))) (km : p1 = (0 : Int32)) :
    MetFree l (⟨"com/example/strict_anon/strictanon/service/RecordSetsDifferencePinLaw", "pick", "([II)[I"⟩ : MethodName) (head1 (Jvm.Cond.code (⟨"com/example/strict_anon/strictanon/service/RecordSetsDifferencePinLaw", "pick", "([II)[I"⟩ : MethodName) method_3_code 5 (some (.array .int)) :: ws) ({ frames := 0, cells := 1, slots := 5, locals := 0 } : Room)) (fun a U => a = #[(.ref a0), (.int p1)] ∧ Z.Warmed39 U.vm ∧ U.heap = h0) (fun _ _ _ _ _ => True) (fun _ U o U' => ∃ v L, o = .returned v ∧ own_Q2 Z a0 p1 k_a0 u0 u1 u2 u3 u4 h0 n0 v U'.heap L ∧ FrameEnd U o U' L ({ frames := 0, cells := 1, slots := 5, locals := 0 } : Room).cells ({ frames := 0, cells := 1, slots := 5, locals := 0 } : Room).slots) := by
  refine MetFree.of_bodySF (plainFor_of_name own_pn0) hisR ?_
  intro p e s m args below meth c s₁ Bd hml0 hP hK
  obtain ⟨rfl, hZ, hh⟩ := hP
  have hx := Bd.exec
  have hby := Bd.bytes
  have hml : c.maxLocals = 5 := hml0
  have hown : s.vm.findClass "com/example/strict_anon/strictanon/service/RecordSetsDifferencePinLaw" = some m.cls := findClass_of_methodNamed Bd.named
  have hnm := (name_of_methodNamed Bd.named Bd.method).1
  have X0 : Stand p l e ({ frames := 0, cells := 1, slots := 5, locals := 0 } : Room) s m #[(.ref a0), (.int p1)] below meth c s₁ [] 0 0 := Stand.of_body Bd
  have e0 : s₁.heap = h0 := by rw [← hh, Bd.state]; rfl
  have N0 := Fr.nil n0
  have pre0 : ∀ t, Steps p.tables e below (s₁.setTop (mkF m 0 #[oa a0, oi p1, .unset, .unset, .unset] [])) t → Steps p.tables e below (s₁.setTop (entryFrame m #[(.ref a0), (.int p1)] 5)) t := fun t k => castTop (own_ef2 m a0 p1) k
  have pre1 : ∀ t, Steps p.tables e below (s₁.setTop (mkF m 0 #[oa a0, oi (0 : Int32), .unset, .unset, .unset] [])) t → Steps p.tables e below (s₁.setTop (entryFrame m #[(.ref a0), (.int p1)] 5)) t := by
    intro t k
    refine pre0 t ?_
    rw [km]
    exact k
  obtain ⟨T2, h2, k2, X2, e2, E2, A2, B2, st2⟩ := newPE X0 hx hZ (hw _ (List.mem_of_getElem? (i := 6) rfl)) e0 (g := (mkF m 29 #[oa a0, oi (0 : Int32), oi (0 : Int32), .unset, .unset] [(.int (0 : Int32))])) rfl (hb hby own_d2_29) rfl (by decide) (cap := 0) (by decide) (by decide) (by decide) (by decide) (ad := "[I") rfl
  obtain ⟨b2, g2⟩ : ∃ z, z = h0.size := ⟨_, rfl⟩
  rw [← g2] at A2 st2 B2
  have g_b2 : n0 ≤ b2 := Nat.le_trans Z0 (Nat.le_of_eq g2.symm)
  have ne3 : a0 ≠ b2 := Nat.ne_of_lt (Nat.lt_of_lt_of_le V_a0.lt (Nat.le_of_eq g2.symm))
  have Z2 : n0 ≤ h2.size := Nat.le_trans Z0 E2.1
  have sz_b2 : h0.size ≤ b2 := Nat.le_trans (Keep.refl h0 []).1 (Nat.le_of_eq g2.symm)
  have K_4 : Keep h0 h2 [] := (Keep.refl h0 []).ext E2
  have F5 := V_a0.ext E2
  have V_6 : Arv Z h2 b2 k2 .int (0 : Int32) [] (.int (0 : Int32)) := (Arv.new A2 (by decide))
  have b7 : (0 : Int32) = (0 : Int32) := (by decide)
  have b8 : (0 : Int32) = (0 : Int32) := (by decide)
  have b9 : (0 : Int32) = (0 : Int32) := (by decide)
  have b10 : (0 : Int32) = (0 : Int32) := (by decide)
  have b11 : (0 : Int32) = (0 : Int32) := (by decide)
  obtain ⟨fs, hr, hrun, hended, hW, hsame⟩ := X2.leave (v := (some (.ref b2))) (fun h => by rw [Bd.returns] at h; cases h)
  refine ⟨_, _, pre1 _ ?_, hrun, hended, _, _, rfl, ?_, ⟨_, rfl⟩, hW, hsame.mono (by decide) (by decide)⟩
  · show oS p e below s₁ m 0 #[oa a0, oi (0 : Int32), .unset, .unset, .unset] [] _
    refine XS.iloadN X0.here hx rfl (hb hby own_d2_0) rfl ?_
    refine XS.iconst X0.here hx rfl (hb hby own_d2_1) ?_
    refine XS.iand X0.here hx rfl (hb hby own_d2_2) rfl ?_
    refine XS.iloadN X0.here hx rfl (hb hby own_d2_3) rfl ?_
    show oS p e below s₁ m 4 #[oa a0, oi (0 : Int32), .unset, .unset, .unset] [(.int (0 : Int32)), (.int (0 : Int32))] _
    refine XS.iconst X0.here hx rfl (hb hby own_d2_4) ?_
    show oS p e below s₁ m 5 #[oa a0, oi (0 : Int32), .unset, .unset, .unset] [(.int (1 : Int32)), (.int (0 : Int32)), (.int (0 : Int32))] _
    refine XS.iushr X0.here hx rfl (hb hby own_d2_5) rfl ?_
    refine XS.iconst X0.here hx rfl (hb hby own_d2_6) ?_
    refine XS.iand X0.here hx rfl (hb hby own_d2_7) rfl ?_
    refine XS.iadd X0.here hx rfl (hb hby own_d2_8) rfl ?_
    show oS p e below s₁ m 9 #[oa a0, oi (0 : Int32), .unset, .unset, .unset] [(.int (0 : Int32))] _
    refine XS.iloadN X0.here hx rfl (hb hby own_d2_9) rfl ?_
    refine XS.iconst X0.here hx rfl (hb hby own_d2_10) ?_
    show oS p e below s₁ m 11 #[oa a0, oi (0 : Int32), .unset, .unset, .unset] [(.int (2 : Int32)), (.int (0 : Int32)), (.int (0 : Int32))] _
    refine XS.iushr X0.here hx rfl (hb hby own_d2_11) rfl ?_
    refine XS.iconst X0.here hx rfl (hb hby own_d2_12) ?_
    refine XS.iand X0.here hx rfl (hb hby own_d2_13) rfl ?_
    refine XS.iadd X0.here hx rfl (hb hby own_d2_14) rfl ?_
    show oS p e below s₁ m 15 #[oa a0, oi (0 : Int32), .unset, .unset, .unset] [(.int (0 : Int32))] _
    refine XS.iloadN X0.here hx rfl (hb hby own_d2_15) rfl ?_
    refine XS.iconst X0.here hx rfl (hb hby own_d2_16) ?_
    show oS p e below s₁ m 17 #[oa a0, oi (0 : Int32), .unset, .unset, .unset] [(.int (3 : Int32)), (.int (0 : Int32)), (.int (0 : Int32))] _
    refine XS.iushr X0.here hx rfl (hb hby own_d2_17) rfl ?_
    refine XS.iconst X0.here hx rfl (hb hby own_d2_18) ?_
    refine XS.iand X0.here hx rfl (hb hby own_d2_19) rfl ?_
    refine XS.iadd X0.here hx rfl (hb hby own_d2_20) rfl ?_
    show oS p e below s₁ m 21 #[oa a0, oi (0 : Int32), .unset, .unset, .unset] [(.int (0 : Int32))] _
    refine XS.iloadN X0.here hx rfl (hb hby own_d2_21) rfl ?_
    refine XS.iconst X0.here hx rfl (hb hby own_d2_22) ?_
    show oS p e below s₁ m 23 #[oa a0, oi (0 : Int32), .unset, .unset, .unset] [(.int (4 : Int32)), (.int (0 : Int32)), (.int (0 : Int32))] _
    refine XS.iushr X0.here hx rfl (hb hby own_d2_23) rfl ?_
    refine XS.iconst X0.here hx rfl (hb hby own_d2_24) ?_
    refine XS.iand X0.here hx rfl (hb hby own_d2_25) rfl ?_
    refine XS.iadd X0.here hx rfl (hb hby own_d2_26) rfl ?_
    show oS p e below s₁ m 27 #[oa a0, oi (0 : Int32), .unset, .unset, .unset] [(.int (0 : Int32))] _
    refine XS.istoreN X0.here hx rfl (hb hby own_d2_27) rfl (l' := #[oa a0, oi (0 : Int32), oi (0 : Int32), .unset, .unset]) rfl ?_
    refine XS.iloadN X0.here hx rfl (hb hby own_d2_28) rfl ?_
    show oS p e below s₁ m 29 #[oa a0, oi (0 : Int32), oi (0 : Int32), .unset, .unset] [(.int (0 : Int32))] _
    refine st2 _ ?_
    show oS p e below T2 m 31 #[oa a0, oi (0 : Int32), oi (0 : Int32), .unset, .unset] [(.ref b2)] _
    refine XS.astoreN X2.here hx rfl (hb hby own_d2_31) rfl rfl (l' := #[oa a0, oi (0 : Int32), oi (0 : Int32), oa b2, .unset]) rfl ?_
    refine XS.iconst X2.here hx rfl (hb hby own_d2_32) ?_
    refine XS.istore X2.here hx rfl (hb hby own_d2_33) rfl (l' := #[oa a0, oi (0 : Int32), oi (0 : Int32), oa b2, oi (0 : Int32)]) rfl ?_
    refine XS.iloadN X2.here hx rfl (hb hby own_d2_35) rfl ?_
    show oS p e below T2 m 36 #[oa a0, oi (0 : Int32), oi (0 : Int32), oa b2, oi (0 : Int32)] [(.int (0 : Int32))] _
    refine XS.iconst X2.here hx rfl (hb hby own_d2_36) ?_
    refine XS.iand X2.here hx rfl (hb hby own_d2_37) rfl ?_
    show oS p e below T2 m 38 #[oa a0, oi (0 : Int32), oi (0 : Int32), oa b2, oi (0 : Int32)] [(.int (0 : Int32))] _
    refine XS.ifYes X2.here hx rfl (pc0 := 38) (pc' := 51) rfl (hb hby own_d2_38) rfl ((if0 _ _).trans (teq b7).1) (by decide) (by decide) ?_
    refine XS.iloadN X2.here hx rfl (hb hby own_d2_51) rfl ?_
    refine XS.iconst X2.here hx rfl (hb hby own_d2_52) ?_
    refine XS.iand X2.here hx rfl (hb hby own_d2_53) rfl ?_
    show oS p e below T2 m 54 #[oa a0, oi (0 : Int32), oi (0 : Int32), oa b2, oi (0 : Int32)] [(.int (0 : Int32))] _
    refine XS.ifYes X2.here hx rfl (pc0 := 54) (pc' := 67) rfl (hb hby own_d2_54) rfl ((if0 _ _).trans (teq b8).1) (by decide) (by decide) ?_
    refine XS.iloadN X2.here hx rfl (hb hby own_d2_67) rfl ?_
    refine XS.iconst X2.here hx rfl (hb hby own_d2_68) ?_
    refine XS.iand X2.here hx rfl (hb hby own_d2_69) rfl ?_
    show oS p e below T2 m 70 #[oa a0, oi (0 : Int32), oi (0 : Int32), oa b2, oi (0 : Int32)] [(.int (0 : Int32))] _
    refine XS.ifYes X2.here hx rfl (pc0 := 70) (pc' := 83) rfl (hb hby own_d2_70) rfl ((if0 _ _).trans (teq b9).1) (by decide) (by decide) ?_
    refine XS.iloadN X2.here hx rfl (hb hby own_d2_83) rfl ?_
    refine XS.bipush X2.here hx rfl (hb hby own_d2_84) ?_
    refine XS.iand X2.here hx rfl (hb hby own_d2_86) rfl ?_
    show oS p e below T2 m 87 #[oa a0, oi (0 : Int32), oi (0 : Int32), oa b2, oi (0 : Int32)] [(.int (0 : Int32))] _
    refine XS.ifYes X2.here hx rfl (pc0 := 87) (pc' := 100) rfl (hb hby own_d2_87) rfl ((if0 _ _).trans (teq b10).1) (by decide) (by decide) ?_
    refine XS.iloadN X2.here hx rfl (hb hby own_d2_100) rfl ?_
    refine XS.bipush X2.here hx rfl (hb hby own_d2_101) ?_
    refine XS.iand X2.here hx rfl (hb hby own_d2_103) rfl ?_
    show oS p e below T2 m 104 #[oa a0, oi (0 : Int32), oi (0 : Int32), oa b2, oi (0 : Int32)] [(.int (0 : Int32))] _
    refine XS.ifYes X2.here hx rfl (pc0 := 104) (pc' := 117) rfl (hb hby own_d2_104) rfl ((if0 _ _).trans (teq b11).1) (by decide) (by decide) ?_
    refine XS.aloadN X2.here hx rfl (hb hby own_d2_117) rfl rfl ?_
    show oS p e below T2 m 118 #[oa a0, oi (0 : Int32), oi (0 : Int32), oa b2, oi (0 : Int32)] [(.ref b2)] _
    exact retOut X2 hx Bd.returns rfl (Or.inr (Or.inr (Or.inr (Or.inr ⟨rfl, rfl, rfl⟩)))) (hb hby own_d2_118) hr
  · show own_Q2 Z a0 p1 k_a0 u0 u1 u2 u3 u4 h0 n0 _ T2.heap _
    rw [e2]
    refine ⟨b2, k2, rfl, N0, K_4, sz_b2, ?_⟩
    rw [km, show own_z (0 : Int32) = (0 : Int32) by decide +kernel, own_pk, show own_idx (0 : Int32) = [] by decide +kernel]
    exact V_6
theorem own_d2_41 : decode method_3_code 41 = .ok (.aload_n 3, 1) := by decide +kernel
theorem own_d2_42 : decode method_3_code 42 = .ok (.iload 4, 2) := by decide +kernel
theorem own_d2_44 : decode method_3_code 44 = .ok (.aload_n 0, 1) := by decide +kernel
theorem own_d2_45 : decode method_3_code 45 = .ok (.iconst 0, 1) := by decide +kernel
theorem own_d2_46 : decode method_3_code 46 = .ok (.iaload, 1) := by decide +kernel
theorem own_d2_47 : decode method_3_code 47 = .ok (.iastore, 1) := by decide +kernel
theorem own_d2_48 : decode method_3_code 48 = .ok (.iinc 4 1, 3) := by decide +kernel
set_option maxRecDepth 65536 in
set_option maxHeartbeats 40000000 in
theorem own_rm2_1 (l : Launch) (Z : State) (av : Array Value) (hw : ∀ d ∈ tables_1, d.before av Z = true) (ws : List Jvm.Cond) (a0 : Addr) (p1 : Int32) (k_a0 : ClassId) (u0 : Int32) (u1 : Int32) (u2 : Int32) (u3 : Int32) (u4 : Int32) (h0 : Heap) (n0 : Nat) (Z0 : n0 ≤ h0.size) (V_a0 : Arv Z h0 a0 k_a0 .int (5 : Int32) [(.int u0), (.int u1), (.int u2), (.int u3), (.int u4)] (.int (0 : Int32))) (km : p1 = (1 : Int32)) :
    MetFree l (⟨"com/example/strict_anon/strictanon/service/RecordSetsDifferencePinLaw", "pick", "([II)[I"⟩ : MethodName) (head1 (Jvm.Cond.code (⟨"com/example/strict_anon/strictanon/service/RecordSetsDifferencePinLaw", "pick", "([II)[I"⟩ : MethodName) method_3_code 5 (some (.array .int)) :: ws) ({ frames := 0, cells := 1, slots := 5, locals := 0 } : Room)) (fun a U => a = #[(.ref a0), (.int p1)] ∧ Z.Warmed39 U.vm ∧ U.heap = h0) (fun _ _ _ _ _ => True) (fun _ U o U' => ∃ v L, o = .returned v ∧ own_Q2 Z a0 p1 k_a0 u0 u1 u2 u3 u4 h0 n0 v U'.heap L ∧ FrameEnd U o U' L ({ frames := 0, cells := 1, slots := 5, locals := 0 } : Room).cells ({ frames := 0, cells := 1, slots := 5, locals := 0 } : Room).slots) := by
  refine MetFree.of_bodySF (plainFor_of_name own_pn0) hisR ?_
  intro p e s m args below meth c s₁ Bd hml0 hP hK
  obtain ⟨rfl, hZ, hh⟩ := hP
  have hx := Bd.exec
  have hby := Bd.bytes
  have hml : c.maxLocals = 5 := hml0
  have hown : s.vm.findClass "com/example/strict_anon/strictanon/service/RecordSetsDifferencePinLaw" = some m.cls := findClass_of_methodNamed Bd.named
  have hnm := (name_of_methodNamed Bd.named Bd.method).1
  have X0 : Stand p l e ({ frames := 0, cells := 1, slots := 5, locals := 0 } : Room) s m #[(.ref a0), (.int p1)] below meth c s₁ [] 0 0 := Stand.of_body Bd
  have e0 : s₁.heap = h0 := by rw [← hh, Bd.state]; rfl
  have N0 := Fr.nil n0
  have pre0 : ∀ t, Steps p.tables e below (s₁.setTop (mkF m 0 #[oa a0, oi p1, .unset, .unset, .unset] [])) t → Steps p.tables e below (s₁.setTop (entryFrame m #[(.ref a0), (.int p1)] 5)) t := fun t k => castTop (own_ef2 m a0 p1) k
  have pre1 : ∀ t, Steps p.tables e below (s₁.setTop (mkF m 0 #[oa a0, oi (1 : Int32), .unset, .unset, .unset] [])) t → Steps p.tables e below (s₁.setTop (entryFrame m #[(.ref a0), (.int p1)] 5)) t := by
    intro t k
    refine pre0 t ?_
    rw [km]
    exact k
  obtain ⟨T2, h2, k2, X2, e2, E2, A2, B2, st2⟩ := newPE X0 hx hZ (hw _ (List.mem_of_getElem? (i := 6) rfl)) e0 (g := (mkF m 29 #[oa a0, oi (1 : Int32), oi (1 : Int32), .unset, .unset] [(.int (1 : Int32))])) rfl (hb hby own_d2_29) rfl (by decide) (cap := 1) (by decide) (by decide) (by decide) (by decide) (ad := "[I") rfl
  obtain ⟨b2, g2⟩ : ∃ z, z = h0.size := ⟨_, rfl⟩
  rw [← g2] at A2 st2 B2
  have g_b2 : n0 ≤ b2 := Nat.le_trans Z0 (Nat.le_of_eq g2.symm)
  have ne3 : a0 ≠ b2 := Nat.ne_of_lt (Nat.lt_of_lt_of_le V_a0.lt (Nat.le_of_eq g2.symm))
  have Z2 : n0 ≤ h2.size := Nat.le_trans Z0 E2.1
  have sz_b2 : h0.size ≤ b2 := Nat.le_trans (Keep.refl h0 []).1 (Nat.le_of_eq g2.symm)
  have K_4 : Keep h0 h2 [] := (Keep.refl h0 []).ext E2
  have F5 := V_a0.ext E2
  have V_6 : Arv Z h2 b2 k2 .int (1 : Int32) [(.int (0 : Int32))] (.int (0 : Int32)) := (Arv.new A2 (by decide)).pad (pad_rep [] (.int (0 : Int32)) 1)
  have b7 : ¬ ((1 : Int32) = (0 : Int32)) := (by decide)
  obtain ⟨T8, h8, X8, e8, W8, V8, st8⟩ := oStI X2 hx hZ e2 V_6 (j := (0 : Int32)) ⟨by decide, by decide⟩ 0 rfl (Nat.le_of_ble_eq_true rfl) (g := (mkF m 47 #[oa a0, oi (1 : Int32), oi (1 : Int32), oa b2, oi (0 : Int32)] [(.int u0), (.int (0 : Int32)), (.ref b2)])) rfl rfl (hb hby own_d2_47)
  obtain ⟨Lo8, X8, N8⟩ := oOpq X8 (Fr.snoc X8 N0 g_b2)
  have Z8 := Nat.le_trans Z2 (Keep.of_wr W8).1
  have F9 := F5.other W8 ne3
  have F10 := B2.wr W8
  have V_11 : Arv Z h8 b2 k2 .int (1 : Int32) [(.int u0)] (.int (0 : Int32)) := V8
  have K_12 : Keep h0 h8 [] := K_4.wr W8 (Or.inr sz_b2)
  have b13 : (0 : Int32) = (0 : Int32) := (by decide)
  have b14 : (0 : Int32) = (0 : Int32) := (by decide)
  have b15 : (0 : Int32) = (0 : Int32) := (by decide)
  have b16 : (0 : Int32) = (0 : Int32) := (by decide)
  obtain ⟨fs, hr, hrun, hended, hW, hsame⟩ := X8.leave (v := (some (.ref b2))) (fun h => by rw [Bd.returns] at h; cases h)
  refine ⟨_, _, pre1 _ ?_, hrun, hended, _, _, rfl, ?_, ⟨_, rfl⟩, hW, hsame.mono (by decide) (by decide)⟩
  · show oS p e below s₁ m 0 #[oa a0, oi (1 : Int32), .unset, .unset, .unset] [] _
    refine XS.iloadN X0.here hx rfl (hb hby own_d2_0) rfl ?_
    refine XS.iconst X0.here hx rfl (hb hby own_d2_1) ?_
    refine XS.iand X0.here hx rfl (hb hby own_d2_2) rfl ?_
    refine XS.iloadN X0.here hx rfl (hb hby own_d2_3) rfl ?_
    show oS p e below s₁ m 4 #[oa a0, oi (1 : Int32), .unset, .unset, .unset] [(.int (1 : Int32)), (.int (1 : Int32))] _
    refine XS.iconst X0.here hx rfl (hb hby own_d2_4) ?_
    show oS p e below s₁ m 5 #[oa a0, oi (1 : Int32), .unset, .unset, .unset] [(.int (1 : Int32)), (.int (1 : Int32)), (.int (1 : Int32))] _
    refine XS.iushr X0.here hx rfl (hb hby own_d2_5) rfl ?_
    refine XS.iconst X0.here hx rfl (hb hby own_d2_6) ?_
    refine XS.iand X0.here hx rfl (hb hby own_d2_7) rfl ?_
    refine XS.iadd X0.here hx rfl (hb hby own_d2_8) rfl ?_
    show oS p e below s₁ m 9 #[oa a0, oi (1 : Int32), .unset, .unset, .unset] [(.int (1 : Int32))] _
    refine XS.iloadN X0.here hx rfl (hb hby own_d2_9) rfl ?_
    refine XS.iconst X0.here hx rfl (hb hby own_d2_10) ?_
    show oS p e below s₁ m 11 #[oa a0, oi (1 : Int32), .unset, .unset, .unset] [(.int (2 : Int32)), (.int (1 : Int32)), (.int (1 : Int32))] _
    refine XS.iushr X0.here hx rfl (hb hby own_d2_11) rfl ?_
    refine XS.iconst X0.here hx rfl (hb hby own_d2_12) ?_
    refine XS.iand X0.here hx rfl (hb hby own_d2_13) rfl ?_
    refine XS.iadd X0.here hx rfl (hb hby own_d2_14) rfl ?_
    show oS p e below s₁ m 15 #[oa a0, oi (1 : Int32), .unset, .unset, .unset] [(.int (1 : Int32))] _
    refine XS.iloadN X0.here hx rfl (hb hby own_d2_15) rfl ?_
    refine XS.iconst X0.here hx rfl (hb hby own_d2_16) ?_
    show oS p e below s₁ m 17 #[oa a0, oi (1 : Int32), .unset, .unset, .unset] [(.int (3 : Int32)), (.int (1 : Int32)), (.int (1 : Int32))] _
    refine XS.iushr X0.here hx rfl (hb hby own_d2_17) rfl ?_
    refine XS.iconst X0.here hx rfl (hb hby own_d2_18) ?_
    refine XS.iand X0.here hx rfl (hb hby own_d2_19) rfl ?_
    refine XS.iadd X0.here hx rfl (hb hby own_d2_20) rfl ?_
    show oS p e below s₁ m 21 #[oa a0, oi (1 : Int32), .unset, .unset, .unset] [(.int (1 : Int32))] _
    refine XS.iloadN X0.here hx rfl (hb hby own_d2_21) rfl ?_
    refine XS.iconst X0.here hx rfl (hb hby own_d2_22) ?_
    show oS p e below s₁ m 23 #[oa a0, oi (1 : Int32), .unset, .unset, .unset] [(.int (4 : Int32)), (.int (1 : Int32)), (.int (1 : Int32))] _
    refine XS.iushr X0.here hx rfl (hb hby own_d2_23) rfl ?_
    refine XS.iconst X0.here hx rfl (hb hby own_d2_24) ?_
    refine XS.iand X0.here hx rfl (hb hby own_d2_25) rfl ?_
    refine XS.iadd X0.here hx rfl (hb hby own_d2_26) rfl ?_
    show oS p e below s₁ m 27 #[oa a0, oi (1 : Int32), .unset, .unset, .unset] [(.int (1 : Int32))] _
    refine XS.istoreN X0.here hx rfl (hb hby own_d2_27) rfl (l' := #[oa a0, oi (1 : Int32), oi (1 : Int32), .unset, .unset]) rfl ?_
    refine XS.iloadN X0.here hx rfl (hb hby own_d2_28) rfl ?_
    show oS p e below s₁ m 29 #[oa a0, oi (1 : Int32), oi (1 : Int32), .unset, .unset] [(.int (1 : Int32))] _
    refine st2 _ ?_
    show oS p e below T2 m 31 #[oa a0, oi (1 : Int32), oi (1 : Int32), .unset, .unset] [(.ref b2)] _
    refine XS.astoreN X2.here hx rfl (hb hby own_d2_31) rfl rfl (l' := #[oa a0, oi (1 : Int32), oi (1 : Int32), oa b2, .unset]) rfl ?_
    refine XS.iconst X2.here hx rfl (hb hby own_d2_32) ?_
    refine XS.istore X2.here hx rfl (hb hby own_d2_33) rfl (l' := #[oa a0, oi (1 : Int32), oi (1 : Int32), oa b2, oi (0 : Int32)]) rfl ?_
    refine XS.iloadN X2.here hx rfl (hb hby own_d2_35) rfl ?_
    show oS p e below T2 m 36 #[oa a0, oi (1 : Int32), oi (1 : Int32), oa b2, oi (0 : Int32)] [(.int (1 : Int32))] _
    refine XS.iconst X2.here hx rfl (hb hby own_d2_36) ?_
    refine XS.iand X2.here hx rfl (hb hby own_d2_37) rfl ?_
    show oS p e below T2 m 38 #[oa a0, oi (1 : Int32), oi (1 : Int32), oa b2, oi (0 : Int32)] [(.int (1 : Int32))] _
    refine XS.ifNo X2.here hx rfl (hb hby own_d2_38) rfl ((if0 _ _).trans (feq b7).1) ?_
    refine XS.aloadN X2.here hx rfl (hb hby own_d2_41) rfl rfl ?_
    refine XS.iload X2.here hx rfl (hb hby own_d2_42) rfl ?_
    refine XS.aloadN X2.here hx rfl (hb hby own_d2_44) rfl rfl ?_
    show oS p e below T2 m 45 #[oa a0, oi (1 : Int32), oi (1 : Int32), oa b2, oi (0 : Int32)] [(.ref a0), (.int (0 : Int32)), (.ref b2)] _
    refine XS.iconst X2.here hx rfl (hb hby own_d2_45) ?_
    show oS p e below T2 m 46 #[oa a0, oi (1 : Int32), oi (1 : Int32), oa b2, oi (0 : Int32)] [(.int (0 : Int32)), (.ref a0), (.int (0 : Int32)), (.ref b2)] _
    refine oLdI X2 hx hZ e2 F5 (v := (.int u0)) ⟨by decide, by decide⟩ rfl (hb hby own_d2_46) ?_
    show oS p e below T2 m 47 #[oa a0, oi (1 : Int32), oi (1 : Int32), oa b2, oi (0 : Int32)] [(.int u0), (.int (0 : Int32)), (.ref b2)] _
    refine st8 _ ?_
    show oS p e below T8 m 48 #[oa a0, oi (1 : Int32), oi (1 : Int32), oa b2, oi (0 : Int32)] [] _
    refine XS.iinc X8.here hx rfl (hb hby own_d2_48) rfl (l' := #[oa a0, oi (1 : Int32), oi (1 : Int32), oa b2, oi (1 : Int32)]) rfl ?_
    refine XS.iloadN X8.here hx rfl (hb hby own_d2_51) rfl ?_
    refine XS.iconst X8.here hx rfl (hb hby own_d2_52) ?_
    refine XS.iand X8.here hx rfl (hb hby own_d2_53) rfl ?_
    show oS p e below T8 m 54 #[oa a0, oi (1 : Int32), oi (1 : Int32), oa b2, oi (1 : Int32)] [(.int (0 : Int32))] _
    refine XS.ifYes X8.here hx rfl (pc0 := 54) (pc' := 67) rfl (hb hby own_d2_54) rfl ((if0 _ _).trans (teq b13).1) (by decide) (by decide) ?_
    refine XS.iloadN X8.here hx rfl (hb hby own_d2_67) rfl ?_
    refine XS.iconst X8.here hx rfl (hb hby own_d2_68) ?_
    refine XS.iand X8.here hx rfl (hb hby own_d2_69) rfl ?_
    show oS p e below T8 m 70 #[oa a0, oi (1 : Int32), oi (1 : Int32), oa b2, oi (1 : Int32)] [(.int (0 : Int32))] _
    refine XS.ifYes X8.here hx rfl (pc0 := 70) (pc' := 83) rfl (hb hby own_d2_70) rfl ((if0 _ _).trans (teq b14).1) (by decide) (by decide) ?_
    refine XS.iloadN X8.here hx rfl (hb hby own_d2_83) rfl ?_
    refine XS.bipush X8.here hx rfl (hb hby own_d2_84) ?_
    refine XS.iand X8.here hx rfl (hb hby own_d2_86) rfl ?_
    show oS p e below T8 m 87 #[oa a0, oi (1 : Int32), oi (1 : Int32), oa b2, oi (1 : Int32)] [(.int (0 : Int32))] _
    refine XS.ifYes X8.here hx rfl (pc0 := 87) (pc' := 100) rfl (hb hby own_d2_87) rfl ((if0 _ _).trans (teq b15).1) (by decide) (by decide) ?_
    refine XS.iloadN X8.here hx rfl (hb hby own_d2_100) rfl ?_
    refine XS.bipush X8.here hx rfl (hb hby own_d2_101) ?_
    refine XS.iand X8.here hx rfl (hb hby own_d2_103) rfl ?_
    show oS p e below T8 m 104 #[oa a0, oi (1 : Int32), oi (1 : Int32), oa b2, oi (1 : Int32)] [(.int (0 : Int32))] _
    refine XS.ifYes X8.here hx rfl (pc0 := 104) (pc' := 117) rfl (hb hby own_d2_104) rfl ((if0 _ _).trans (teq b16).1) (by decide) (by decide) ?_
    refine XS.aloadN X8.here hx rfl (hb hby own_d2_117) rfl rfl ?_
    show oS p e below T8 m 118 #[oa a0, oi (1 : Int32), oi (1 : Int32), oa b2, oi (1 : Int32)] [(.ref b2)] _
    exact retOut X8 hx Bd.returns rfl (Or.inr (Or.inr (Or.inr (Or.inr ⟨rfl, rfl, rfl⟩)))) (hb hby own_d2_118) hr
  · show own_Q2 Z a0 p1 k_a0 u0 u1 u2 u3 u4 h0 n0 _ T8.heap _
    rw [e8]
    refine ⟨b2, k2, rfl, N8, K_12, sz_b2, ?_⟩
    rw [km, show own_z (1 : Int32) = (1 : Int32) by decide +kernel, own_pk, show own_idx (1 : Int32) = [0] by decide +kernel]
    exact V_11
theorem own_d2_57 : decode method_3_code 57 = .ok (.aload_n 3, 1) := by decide +kernel
theorem own_d2_58 : decode method_3_code 58 = .ok (.iload 4, 2) := by decide +kernel
theorem own_d2_60 : decode method_3_code 60 = .ok (.aload_n 0, 1) := by decide +kernel
theorem own_d2_61 : decode method_3_code 61 = .ok (.iconst 1, 1) := by decide +kernel
theorem own_d2_62 : decode method_3_code 62 = .ok (.iaload, 1) := by decide +kernel
theorem own_d2_63 : decode method_3_code 63 = .ok (.iastore, 1) := by decide +kernel
theorem own_d2_64 : decode method_3_code 64 = .ok (.iinc 4 1, 3) := by decide +kernel
set_option maxRecDepth 65536 in
set_option maxHeartbeats 40000000 in
theorem own_rm2_2 (l : Launch) (Z : State) (av : Array Value) (hw : ∀ d ∈ tables_1, d.before av Z = true) (ws : List Jvm.Cond) (a0 : Addr) (p1 : Int32) (k_a0 : ClassId) (u0 : Int32) (u1 : Int32) (u2 : Int32) (u3 : Int32) (u4 : Int32) (h0 : Heap) (n0 : Nat) (Z0 : n0 ≤ h0.size) (V_a0 : Arv Z h0 a0 k_a0 .int (5 : Int32) [(.int u0), (.int u1), (.int u2), (.int u3), (.int u4)] (.int (0 : Int32))) (km : p1 = (2 : Int32)) :
    MetFree l (⟨"com/example/strict_anon/strictanon/service/RecordSetsDifferencePinLaw", "pick", "([II)[I"⟩ : MethodName) (head1 (Jvm.Cond.code (⟨"com/example/strict_anon/strictanon/service/RecordSetsDifferencePinLaw", "pick", "([II)[I"⟩ : MethodName) method_3_code 5 (some (.array .int)) :: ws) ({ frames := 0, cells := 1, slots := 5, locals := 0 } : Room)) (fun a U => a = #[(.ref a0), (.int p1)] ∧ Z.Warmed39 U.vm ∧ U.heap = h0) (fun _ _ _ _ _ => True) (fun _ U o U' => ∃ v L, o = .returned v ∧ own_Q2 Z a0 p1 k_a0 u0 u1 u2 u3 u4 h0 n0 v U'.heap L ∧ FrameEnd U o U' L ({ frames := 0, cells := 1, slots := 5, locals := 0 } : Room).cells ({ frames := 0, cells := 1, slots := 5, locals := 0 } : Room).slots) := by
  refine MetFree.of_bodySF (plainFor_of_name own_pn0) hisR ?_
  intro p e s m args below meth c s₁ Bd hml0 hP hK
  obtain ⟨rfl, hZ, hh⟩ := hP
  have hx := Bd.exec
  have hby := Bd.bytes
  have hml : c.maxLocals = 5 := hml0
  have hown : s.vm.findClass "com/example/strict_anon/strictanon/service/RecordSetsDifferencePinLaw" = some m.cls := findClass_of_methodNamed Bd.named
  have hnm := (name_of_methodNamed Bd.named Bd.method).1
  have X0 : Stand p l e ({ frames := 0, cells := 1, slots := 5, locals := 0 } : Room) s m #[(.ref a0), (.int p1)] below meth c s₁ [] 0 0 := Stand.of_body Bd
  have e0 : s₁.heap = h0 := by rw [← hh, Bd.state]; rfl
  have N0 := Fr.nil n0
  have pre0 : ∀ t, Steps p.tables e below (s₁.setTop (mkF m 0 #[oa a0, oi p1, .unset, .unset, .unset] [])) t → Steps p.tables e below (s₁.setTop (entryFrame m #[(.ref a0), (.int p1)] 5)) t := fun t k => castTop (own_ef2 m a0 p1) k
  have pre1 : ∀ t, Steps p.tables e below (s₁.setTop (mkF m 0 #[oa a0, oi (2 : Int32), .unset, .unset, .unset] [])) t → Steps p.tables e below (s₁.setTop (entryFrame m #[(.ref a0), (.int p1)] 5)) t := by
    intro t k
    refine pre0 t ?_
    rw [km]
    exact k
  obtain ⟨T2, h2, k2, X2, e2, E2, A2, B2, st2⟩ := newPE X0 hx hZ (hw _ (List.mem_of_getElem? (i := 6) rfl)) e0 (g := (mkF m 29 #[oa a0, oi (2 : Int32), oi (1 : Int32), .unset, .unset] [(.int (1 : Int32))])) rfl (hb hby own_d2_29) rfl (by decide) (cap := 1) (by decide) (by decide) (by decide) (by decide) (ad := "[I") rfl
  obtain ⟨b2, g2⟩ : ∃ z, z = h0.size := ⟨_, rfl⟩
  rw [← g2] at A2 st2 B2
  have g_b2 : n0 ≤ b2 := Nat.le_trans Z0 (Nat.le_of_eq g2.symm)
  have ne3 : a0 ≠ b2 := Nat.ne_of_lt (Nat.lt_of_lt_of_le V_a0.lt (Nat.le_of_eq g2.symm))
  have Z2 : n0 ≤ h2.size := Nat.le_trans Z0 E2.1
  have sz_b2 : h0.size ≤ b2 := Nat.le_trans (Keep.refl h0 []).1 (Nat.le_of_eq g2.symm)
  have K_4 : Keep h0 h2 [] := (Keep.refl h0 []).ext E2
  have F5 := V_a0.ext E2
  have V_6 : Arv Z h2 b2 k2 .int (1 : Int32) [(.int (0 : Int32))] (.int (0 : Int32)) := (Arv.new A2 (by decide)).pad (pad_rep [] (.int (0 : Int32)) 1)
  have b7 : (0 : Int32) = (0 : Int32) := (by decide)
  have b8 : ¬ ((2 : Int32) = (0 : Int32)) := (by decide)
  obtain ⟨T9, h9, X9, e9, W9, V9, st9⟩ := oStI X2 hx hZ e2 V_6 (j := (0 : Int32)) ⟨by decide, by decide⟩ 0 rfl (Nat.le_of_ble_eq_true rfl) (g := (mkF m 63 #[oa a0, oi (2 : Int32), oi (1 : Int32), oa b2, oi (0 : Int32)] [(.int u1), (.int (0 : Int32)), (.ref b2)])) rfl rfl (hb hby own_d2_63)
  obtain ⟨Lo9, X9, N9⟩ := oOpq X9 (Fr.snoc X9 N0 g_b2)
  have Z9 := Nat.le_trans Z2 (Keep.of_wr W9).1
  have F10 := F5.other W9 ne3
  have F11 := B2.wr W9
  have V_12 : Arv Z h9 b2 k2 .int (1 : Int32) [(.int u1)] (.int (0 : Int32)) := V9
  have K_13 : Keep h0 h9 [] := K_4.wr W9 (Or.inr sz_b2)
  have b14 : (0 : Int32) = (0 : Int32) := (by decide)
  have b15 : (0 : Int32) = (0 : Int32) := (by decide)
  have b16 : (0 : Int32) = (0 : Int32) := (by decide)
  obtain ⟨fs, hr, hrun, hended, hW, hsame⟩ := X9.leave (v := (some (.ref b2))) (fun h => by rw [Bd.returns] at h; cases h)
  refine ⟨_, _, pre1 _ ?_, hrun, hended, _, _, rfl, ?_, ⟨_, rfl⟩, hW, hsame.mono (by decide) (by decide)⟩
  · show oS p e below s₁ m 0 #[oa a0, oi (2 : Int32), .unset, .unset, .unset] [] _
    refine XS.iloadN X0.here hx rfl (hb hby own_d2_0) rfl ?_
    refine XS.iconst X0.here hx rfl (hb hby own_d2_1) ?_
    refine XS.iand X0.here hx rfl (hb hby own_d2_2) rfl ?_
    refine XS.iloadN X0.here hx rfl (hb hby own_d2_3) rfl ?_
    show oS p e below s₁ m 4 #[oa a0, oi (2 : Int32), .unset, .unset, .unset] [(.int (2 : Int32)), (.int (0 : Int32))] _
    refine XS.iconst X0.here hx rfl (hb hby own_d2_4) ?_
    show oS p e below s₁ m 5 #[oa a0, oi (2 : Int32), .unset, .unset, .unset] [(.int (1 : Int32)), (.int (2 : Int32)), (.int (0 : Int32))] _
    refine XS.iushr X0.here hx rfl (hb hby own_d2_5) rfl ?_
    refine XS.iconst X0.here hx rfl (hb hby own_d2_6) ?_
    refine XS.iand X0.here hx rfl (hb hby own_d2_7) rfl ?_
    refine XS.iadd X0.here hx rfl (hb hby own_d2_8) rfl ?_
    show oS p e below s₁ m 9 #[oa a0, oi (2 : Int32), .unset, .unset, .unset] [(.int (1 : Int32))] _
    refine XS.iloadN X0.here hx rfl (hb hby own_d2_9) rfl ?_
    refine XS.iconst X0.here hx rfl (hb hby own_d2_10) ?_
    show oS p e below s₁ m 11 #[oa a0, oi (2 : Int32), .unset, .unset, .unset] [(.int (2 : Int32)), (.int (2 : Int32)), (.int (1 : Int32))] _
    refine XS.iushr X0.here hx rfl (hb hby own_d2_11) rfl ?_
    refine XS.iconst X0.here hx rfl (hb hby own_d2_12) ?_
    refine XS.iand X0.here hx rfl (hb hby own_d2_13) rfl ?_
    refine XS.iadd X0.here hx rfl (hb hby own_d2_14) rfl ?_
    show oS p e below s₁ m 15 #[oa a0, oi (2 : Int32), .unset, .unset, .unset] [(.int (1 : Int32))] _
    refine XS.iloadN X0.here hx rfl (hb hby own_d2_15) rfl ?_
    refine XS.iconst X0.here hx rfl (hb hby own_d2_16) ?_
    show oS p e below s₁ m 17 #[oa a0, oi (2 : Int32), .unset, .unset, .unset] [(.int (3 : Int32)), (.int (2 : Int32)), (.int (1 : Int32))] _
    refine XS.iushr X0.here hx rfl (hb hby own_d2_17) rfl ?_
    refine XS.iconst X0.here hx rfl (hb hby own_d2_18) ?_
    refine XS.iand X0.here hx rfl (hb hby own_d2_19) rfl ?_
    refine XS.iadd X0.here hx rfl (hb hby own_d2_20) rfl ?_
    show oS p e below s₁ m 21 #[oa a0, oi (2 : Int32), .unset, .unset, .unset] [(.int (1 : Int32))] _
    refine XS.iloadN X0.here hx rfl (hb hby own_d2_21) rfl ?_
    refine XS.iconst X0.here hx rfl (hb hby own_d2_22) ?_
    show oS p e below s₁ m 23 #[oa a0, oi (2 : Int32), .unset, .unset, .unset] [(.int (4 : Int32)), (.int (2 : Int32)), (.int (1 : Int32))] _
    refine XS.iushr X0.here hx rfl (hb hby own_d2_23) rfl ?_
    refine XS.iconst X0.here hx rfl (hb hby own_d2_24) ?_
    refine XS.iand X0.here hx rfl (hb hby own_d2_25) rfl ?_
    refine XS.iadd X0.here hx rfl (hb hby own_d2_26) rfl ?_
    show oS p e below s₁ m 27 #[oa a0, oi (2 : Int32), .unset, .unset, .unset] [(.int (1 : Int32))] _
    refine XS.istoreN X0.here hx rfl (hb hby own_d2_27) rfl (l' := #[oa a0, oi (2 : Int32), oi (1 : Int32), .unset, .unset]) rfl ?_
    refine XS.iloadN X0.here hx rfl (hb hby own_d2_28) rfl ?_
    show oS p e below s₁ m 29 #[oa a0, oi (2 : Int32), oi (1 : Int32), .unset, .unset] [(.int (1 : Int32))] _
    refine st2 _ ?_
    show oS p e below T2 m 31 #[oa a0, oi (2 : Int32), oi (1 : Int32), .unset, .unset] [(.ref b2)] _
    refine XS.astoreN X2.here hx rfl (hb hby own_d2_31) rfl rfl (l' := #[oa a0, oi (2 : Int32), oi (1 : Int32), oa b2, .unset]) rfl ?_
    refine XS.iconst X2.here hx rfl (hb hby own_d2_32) ?_
    refine XS.istore X2.here hx rfl (hb hby own_d2_33) rfl (l' := #[oa a0, oi (2 : Int32), oi (1 : Int32), oa b2, oi (0 : Int32)]) rfl ?_
    refine XS.iloadN X2.here hx rfl (hb hby own_d2_35) rfl ?_
    show oS p e below T2 m 36 #[oa a0, oi (2 : Int32), oi (1 : Int32), oa b2, oi (0 : Int32)] [(.int (2 : Int32))] _
    refine XS.iconst X2.here hx rfl (hb hby own_d2_36) ?_
    refine XS.iand X2.here hx rfl (hb hby own_d2_37) rfl ?_
    show oS p e below T2 m 38 #[oa a0, oi (2 : Int32), oi (1 : Int32), oa b2, oi (0 : Int32)] [(.int (0 : Int32))] _
    refine XS.ifYes X2.here hx rfl (pc0 := 38) (pc' := 51) rfl (hb hby own_d2_38) rfl ((if0 _ _).trans (teq b7).1) (by decide) (by decide) ?_
    refine XS.iloadN X2.here hx rfl (hb hby own_d2_51) rfl ?_
    refine XS.iconst X2.here hx rfl (hb hby own_d2_52) ?_
    refine XS.iand X2.here hx rfl (hb hby own_d2_53) rfl ?_
    show oS p e below T2 m 54 #[oa a0, oi (2 : Int32), oi (1 : Int32), oa b2, oi (0 : Int32)] [(.int (2 : Int32))] _
    refine XS.ifNo X2.here hx rfl (hb hby own_d2_54) rfl ((if0 _ _).trans (feq b8).1) ?_
    refine XS.aloadN X2.here hx rfl (hb hby own_d2_57) rfl rfl ?_
    refine XS.iload X2.here hx rfl (hb hby own_d2_58) rfl ?_
    refine XS.aloadN X2.here hx rfl (hb hby own_d2_60) rfl rfl ?_
    show oS p e below T2 m 61 #[oa a0, oi (2 : Int32), oi (1 : Int32), oa b2, oi (0 : Int32)] [(.ref a0), (.int (0 : Int32)), (.ref b2)] _
    refine XS.iconst X2.here hx rfl (hb hby own_d2_61) ?_
    show oS p e below T2 m 62 #[oa a0, oi (2 : Int32), oi (1 : Int32), oa b2, oi (0 : Int32)] [(.int (1 : Int32)), (.ref a0), (.int (0 : Int32)), (.ref b2)] _
    refine oLdI X2 hx hZ e2 F5 (v := (.int u1)) ⟨by decide, by decide⟩ rfl (hb hby own_d2_62) ?_
    show oS p e below T2 m 63 #[oa a0, oi (2 : Int32), oi (1 : Int32), oa b2, oi (0 : Int32)] [(.int u1), (.int (0 : Int32)), (.ref b2)] _
    refine st9 _ ?_
    show oS p e below T9 m 64 #[oa a0, oi (2 : Int32), oi (1 : Int32), oa b2, oi (0 : Int32)] [] _
    refine XS.iinc X9.here hx rfl (hb hby own_d2_64) rfl (l' := #[oa a0, oi (2 : Int32), oi (1 : Int32), oa b2, oi (1 : Int32)]) rfl ?_
    refine XS.iloadN X9.here hx rfl (hb hby own_d2_67) rfl ?_
    refine XS.iconst X9.here hx rfl (hb hby own_d2_68) ?_
    refine XS.iand X9.here hx rfl (hb hby own_d2_69) rfl ?_
    show oS p e below T9 m 70 #[oa a0, oi (2 : Int32), oi (1 : Int32), oa b2, oi (1 : Int32)] [(.int (0 : Int32))] _
    refine XS.ifYes X9.here hx rfl (pc0 := 70) (pc' := 83) rfl (hb hby own_d2_70) rfl ((if0 _ _).trans (teq b14).1) (by decide) (by decide) ?_
    refine XS.iloadN X9.here hx rfl (hb hby own_d2_83) rfl ?_
    refine XS.bipush X9.here hx rfl (hb hby own_d2_84) ?_
    refine XS.iand X9.here hx rfl (hb hby own_d2_86) rfl ?_
    show oS p e below T9 m 87 #[oa a0, oi (2 : Int32), oi (1 : Int32), oa b2, oi (1 : Int32)] [(.int (0 : Int32))] _
    refine XS.ifYes X9.here hx rfl (pc0 := 87) (pc' := 100) rfl (hb hby own_d2_87) rfl ((if0 _ _).trans (teq b15).1) (by decide) (by decide) ?_
    refine XS.iloadN X9.here hx rfl (hb hby own_d2_100) rfl ?_
    refine XS.bipush X9.here hx rfl (hb hby own_d2_101) ?_
    refine XS.iand X9.here hx rfl (hb hby own_d2_103) rfl ?_
    show oS p e below T9 m 104 #[oa a0, oi (2 : Int32), oi (1 : Int32), oa b2, oi (1 : Int32)] [(.int (0 : Int32))] _
    refine XS.ifYes X9.here hx rfl (pc0 := 104) (pc' := 117) rfl (hb hby own_d2_104) rfl ((if0 _ _).trans (teq b16).1) (by decide) (by decide) ?_
    refine XS.aloadN X9.here hx rfl (hb hby own_d2_117) rfl rfl ?_
    show oS p e below T9 m 118 #[oa a0, oi (2 : Int32), oi (1 : Int32), oa b2, oi (1 : Int32)] [(.ref b2)] _
    exact retOut X9 hx Bd.returns rfl (Or.inr (Or.inr (Or.inr (Or.inr ⟨rfl, rfl, rfl⟩)))) (hb hby own_d2_118) hr
  · show own_Q2 Z a0 p1 k_a0 u0 u1 u2 u3 u4 h0 n0 _ T9.heap _
    rw [e9]
    refine ⟨b2, k2, rfl, N9, K_13, sz_b2, ?_⟩
    rw [km, show own_z (2 : Int32) = (1 : Int32) by decide +kernel, own_pk, show own_idx (2 : Int32) = [1] by decide +kernel]
    exact V_12
set_option maxRecDepth 65536 in
set_option maxHeartbeats 40000000 in
theorem own_rm2_3 (l : Launch) (Z : State) (av : Array Value) (hw : ∀ d ∈ tables_1, d.before av Z = true) (ws : List Jvm.Cond) (a0 : Addr) (p1 : Int32) (k_a0 : ClassId) (u0 : Int32) (u1 : Int32) (u2 : Int32) (u3 : Int32) (u4 : Int32) (h0 : Heap) (n0 : Nat) (Z0 : n0 ≤ h0.size) (V_a0 : Arv Z h0 a0 k_a0 .int (5 : Int32) [(.int u0), (.int u1), (.int u2), (.int u3), (.int u4)] (.int (0 : Int32))) (km : p1 = (3 : Int32)) :
    MetFree l (⟨"com/example/strict_anon/strictanon/service/RecordSetsDifferencePinLaw", "pick", "([II)[I"⟩ : MethodName) (head1 (Jvm.Cond.code (⟨"com/example/strict_anon/strictanon/service/RecordSetsDifferencePinLaw", "pick", "([II)[I"⟩ : MethodName) method_3_code 5 (some (.array .int)) :: ws) ({ frames := 0, cells := 1, slots := 5, locals := 0 } : Room)) (fun a U => a = #[(.ref a0), (.int p1)] ∧ Z.Warmed39 U.vm ∧ U.heap = h0) (fun _ _ _ _ _ => True) (fun _ U o U' => ∃ v L, o = .returned v ∧ own_Q2 Z a0 p1 k_a0 u0 u1 u2 u3 u4 h0 n0 v U'.heap L ∧ FrameEnd U o U' L ({ frames := 0, cells := 1, slots := 5, locals := 0 } : Room).cells ({ frames := 0, cells := 1, slots := 5, locals := 0 } : Room).slots) := by
  refine MetFree.of_bodySF (plainFor_of_name own_pn0) hisR ?_
  intro p e s m args below meth c s₁ Bd hml0 hP hK
  obtain ⟨rfl, hZ, hh⟩ := hP
  have hx := Bd.exec
  have hby := Bd.bytes
  have hml : c.maxLocals = 5 := hml0
  have hown : s.vm.findClass "com/example/strict_anon/strictanon/service/RecordSetsDifferencePinLaw" = some m.cls := findClass_of_methodNamed Bd.named
  have hnm := (name_of_methodNamed Bd.named Bd.method).1
  have X0 : Stand p l e ({ frames := 0, cells := 1, slots := 5, locals := 0 } : Room) s m #[(.ref a0), (.int p1)] below meth c s₁ [] 0 0 := Stand.of_body Bd
  have e0 : s₁.heap = h0 := by rw [← hh, Bd.state]; rfl
  have N0 := Fr.nil n0
  have pre0 : ∀ t, Steps p.tables e below (s₁.setTop (mkF m 0 #[oa a0, oi p1, .unset, .unset, .unset] [])) t → Steps p.tables e below (s₁.setTop (entryFrame m #[(.ref a0), (.int p1)] 5)) t := fun t k => castTop (own_ef2 m a0 p1) k
  have pre1 : ∀ t, Steps p.tables e below (s₁.setTop (mkF m 0 #[oa a0, oi (3 : Int32), .unset, .unset, .unset] [])) t → Steps p.tables e below (s₁.setTop (entryFrame m #[(.ref a0), (.int p1)] 5)) t := by
    intro t k
    refine pre0 t ?_
    rw [km]
    exact k
  obtain ⟨T2, h2, k2, X2, e2, E2, A2, B2, st2⟩ := newPE X0 hx hZ (hw _ (List.mem_of_getElem? (i := 6) rfl)) e0 (g := (mkF m 29 #[oa a0, oi (3 : Int32), oi (2 : Int32), .unset, .unset] [(.int (2 : Int32))])) rfl (hb hby own_d2_29) rfl (by decide) (cap := 2) (by decide) (by decide) (by decide) (by decide) (ad := "[I") rfl
  obtain ⟨b2, g2⟩ : ∃ z, z = h0.size := ⟨_, rfl⟩
  rw [← g2] at A2 st2 B2
  have g_b2 : n0 ≤ b2 := Nat.le_trans Z0 (Nat.le_of_eq g2.symm)
  have ne3 : a0 ≠ b2 := Nat.ne_of_lt (Nat.lt_of_lt_of_le V_a0.lt (Nat.le_of_eq g2.symm))
  have Z2 : n0 ≤ h2.size := Nat.le_trans Z0 E2.1
  have sz_b2 : h0.size ≤ b2 := Nat.le_trans (Keep.refl h0 []).1 (Nat.le_of_eq g2.symm)
  have K_4 : Keep h0 h2 [] := (Keep.refl h0 []).ext E2
  have F5 := V_a0.ext E2
  have V_6 : Arv Z h2 b2 k2 .int (2 : Int32) [(.int (0 : Int32)), (.int (0 : Int32))] (.int (0 : Int32)) := (Arv.new A2 (by decide)).pad (pad_rep [] (.int (0 : Int32)) 2)
  have b7 : ¬ ((1 : Int32) = (0 : Int32)) := (by decide)
  obtain ⟨T8, h8, X8, e8, W8, V8, st8⟩ := oStI X2 hx hZ e2 V_6 (j := (0 : Int32)) ⟨by decide, by decide⟩ 0 rfl (Nat.le_of_ble_eq_true rfl) (g := (mkF m 47 #[oa a0, oi (3 : Int32), oi (2 : Int32), oa b2, oi (0 : Int32)] [(.int u0), (.int (0 : Int32)), (.ref b2)])) rfl rfl (hb hby own_d2_47)
  obtain ⟨Lo8, X8, N8⟩ := oOpq X8 (Fr.snoc X8 N0 g_b2)
  have Z8 := Nat.le_trans Z2 (Keep.of_wr W8).1
  have F9 := F5.other W8 ne3
  have F10 := B2.wr W8
  have V_11 : Arv Z h8 b2 k2 .int (2 : Int32) [(.int u0), (.int (0 : Int32))] (.int (0 : Int32)) := V8
  have K_12 : Keep h0 h8 [] := K_4.wr W8 (Or.inr sz_b2)
  have b13 : ¬ ((2 : Int32) = (0 : Int32)) := (by decide)
  obtain ⟨T14, h14, X14, e14, W14, V14, st14⟩ := oStI X8 hx hZ e8 V_11 (j := (1 : Int32)) ⟨by decide, by decide⟩ 1 rfl (Nat.le_of_ble_eq_true rfl) (g := (mkF m 63 #[oa a0, oi (3 : Int32), oi (2 : Int32), oa b2, oi (1 : Int32)] [(.int u1), (.int (1 : Int32)), (.ref b2)])) rfl rfl (hb hby own_d2_63)
  obtain ⟨Lo14, X14, N14⟩ := oOpq X14 (Fr.snoc X14 N8 g_b2)
  have Z14 := Nat.le_trans Z8 (Keep.of_wr W14).1
  have F15 := F9.other W14 ne3
  have F16 := F10.wr W14
  have V_17 : Arv Z h14 b2 k2 .int (2 : Int32) [(.int u0), (.int u1)] (.int (0 : Int32)) := V14
  have K_18 : Keep h0 h14 [] := K_12.wr W14 (Or.inr sz_b2)
  have b19 : (0 : Int32) = (0 : Int32) := (by decide)
  have b20 : (0 : Int32) = (0 : Int32) := (by decide)
  have b21 : (0 : Int32) = (0 : Int32) := (by decide)
  obtain ⟨fs, hr, hrun, hended, hW, hsame⟩ := X14.leave (v := (some (.ref b2))) (fun h => by rw [Bd.returns] at h; cases h)
  refine ⟨_, _, pre1 _ ?_, hrun, hended, _, _, rfl, ?_, ⟨_, rfl⟩, hW, hsame.mono (by decide) (by decide)⟩
  · show oS p e below s₁ m 0 #[oa a0, oi (3 : Int32), .unset, .unset, .unset] [] _
    refine XS.iloadN X0.here hx rfl (hb hby own_d2_0) rfl ?_
    refine XS.iconst X0.here hx rfl (hb hby own_d2_1) ?_
    refine XS.iand X0.here hx rfl (hb hby own_d2_2) rfl ?_
    refine XS.iloadN X0.here hx rfl (hb hby own_d2_3) rfl ?_
    show oS p e below s₁ m 4 #[oa a0, oi (3 : Int32), .unset, .unset, .unset] [(.int (3 : Int32)), (.int (1 : Int32))] _
    refine XS.iconst X0.here hx rfl (hb hby own_d2_4) ?_
    show oS p e below s₁ m 5 #[oa a0, oi (3 : Int32), .unset, .unset, .unset] [(.int (1 : Int32)), (.int (3 : Int32)), (.int (1 : Int32))] _
    refine XS.iushr X0.here hx rfl (hb hby own_d2_5) rfl ?_
    refine XS.iconst X0.here hx rfl (hb hby own_d2_6) ?_
    refine XS.iand X0.here hx rfl (hb hby own_d2_7) rfl ?_
    refine XS.iadd X0.here hx rfl (hb hby own_d2_8) rfl ?_
    show oS p e below s₁ m 9 #[oa a0, oi (3 : Int32), .unset, .unset, .unset] [(.int (2 : Int32))] _
    refine XS.iloadN X0.here hx rfl (hb hby own_d2_9) rfl ?_
    refine XS.iconst X0.here hx rfl (hb hby own_d2_10) ?_
    show oS p e below s₁ m 11 #[oa a0, oi (3 : Int32), .unset, .unset, .unset] [(.int (2 : Int32)), (.int (3 : Int32)), (.int (2 : Int32))] _
    refine XS.iushr X0.here hx rfl (hb hby own_d2_11) rfl ?_
    refine XS.iconst X0.here hx rfl (hb hby own_d2_12) ?_
    refine XS.iand X0.here hx rfl (hb hby own_d2_13) rfl ?_
    refine XS.iadd X0.here hx rfl (hb hby own_d2_14) rfl ?_
    show oS p e below s₁ m 15 #[oa a0, oi (3 : Int32), .unset, .unset, .unset] [(.int (2 : Int32))] _
    refine XS.iloadN X0.here hx rfl (hb hby own_d2_15) rfl ?_
    refine XS.iconst X0.here hx rfl (hb hby own_d2_16) ?_
    show oS p e below s₁ m 17 #[oa a0, oi (3 : Int32), .unset, .unset, .unset] [(.int (3 : Int32)), (.int (3 : Int32)), (.int (2 : Int32))] _
    refine XS.iushr X0.here hx rfl (hb hby own_d2_17) rfl ?_
    refine XS.iconst X0.here hx rfl (hb hby own_d2_18) ?_
    refine XS.iand X0.here hx rfl (hb hby own_d2_19) rfl ?_
    refine XS.iadd X0.here hx rfl (hb hby own_d2_20) rfl ?_
    show oS p e below s₁ m 21 #[oa a0, oi (3 : Int32), .unset, .unset, .unset] [(.int (2 : Int32))] _
    refine XS.iloadN X0.here hx rfl (hb hby own_d2_21) rfl ?_
    refine XS.iconst X0.here hx rfl (hb hby own_d2_22) ?_
    show oS p e below s₁ m 23 #[oa a0, oi (3 : Int32), .unset, .unset, .unset] [(.int (4 : Int32)), (.int (3 : Int32)), (.int (2 : Int32))] _
    refine XS.iushr X0.here hx rfl (hb hby own_d2_23) rfl ?_
    refine XS.iconst X0.here hx rfl (hb hby own_d2_24) ?_
    refine XS.iand X0.here hx rfl (hb hby own_d2_25) rfl ?_
    refine XS.iadd X0.here hx rfl (hb hby own_d2_26) rfl ?_
    show oS p e below s₁ m 27 #[oa a0, oi (3 : Int32), .unset, .unset, .unset] [(.int (2 : Int32))] _
    refine XS.istoreN X0.here hx rfl (hb hby own_d2_27) rfl (l' := #[oa a0, oi (3 : Int32), oi (2 : Int32), .unset, .unset]) rfl ?_
    refine XS.iloadN X0.here hx rfl (hb hby own_d2_28) rfl ?_
    show oS p e below s₁ m 29 #[oa a0, oi (3 : Int32), oi (2 : Int32), .unset, .unset] [(.int (2 : Int32))] _
    refine st2 _ ?_
    show oS p e below T2 m 31 #[oa a0, oi (3 : Int32), oi (2 : Int32), .unset, .unset] [(.ref b2)] _
    refine XS.astoreN X2.here hx rfl (hb hby own_d2_31) rfl rfl (l' := #[oa a0, oi (3 : Int32), oi (2 : Int32), oa b2, .unset]) rfl ?_
    refine XS.iconst X2.here hx rfl (hb hby own_d2_32) ?_
    refine XS.istore X2.here hx rfl (hb hby own_d2_33) rfl (l' := #[oa a0, oi (3 : Int32), oi (2 : Int32), oa b2, oi (0 : Int32)]) rfl ?_
    refine XS.iloadN X2.here hx rfl (hb hby own_d2_35) rfl ?_
    show oS p e below T2 m 36 #[oa a0, oi (3 : Int32), oi (2 : Int32), oa b2, oi (0 : Int32)] [(.int (3 : Int32))] _
    refine XS.iconst X2.here hx rfl (hb hby own_d2_36) ?_
    refine XS.iand X2.here hx rfl (hb hby own_d2_37) rfl ?_
    show oS p e below T2 m 38 #[oa a0, oi (3 : Int32), oi (2 : Int32), oa b2, oi (0 : Int32)] [(.int (1 : Int32))] _
    refine XS.ifNo X2.here hx rfl (hb hby own_d2_38) rfl ((if0 _ _).trans (feq b7).1) ?_
    refine XS.aloadN X2.here hx rfl (hb hby own_d2_41) rfl rfl ?_
    refine XS.iload X2.here hx rfl (hb hby own_d2_42) rfl ?_
    refine XS.aloadN X2.here hx rfl (hb hby own_d2_44) rfl rfl ?_
    show oS p e below T2 m 45 #[oa a0, oi (3 : Int32), oi (2 : Int32), oa b2, oi (0 : Int32)] [(.ref a0), (.int (0 : Int32)), (.ref b2)] _
    refine XS.iconst X2.here hx rfl (hb hby own_d2_45) ?_
    show oS p e below T2 m 46 #[oa a0, oi (3 : Int32), oi (2 : Int32), oa b2, oi (0 : Int32)] [(.int (0 : Int32)), (.ref a0), (.int (0 : Int32)), (.ref b2)] _
    refine oLdI X2 hx hZ e2 F5 (v := (.int u0)) ⟨by decide, by decide⟩ rfl (hb hby own_d2_46) ?_
    show oS p e below T2 m 47 #[oa a0, oi (3 : Int32), oi (2 : Int32), oa b2, oi (0 : Int32)] [(.int u0), (.int (0 : Int32)), (.ref b2)] _
    refine st8 _ ?_
    show oS p e below T8 m 48 #[oa a0, oi (3 : Int32), oi (2 : Int32), oa b2, oi (0 : Int32)] [] _
    refine XS.iinc X8.here hx rfl (hb hby own_d2_48) rfl (l' := #[oa a0, oi (3 : Int32), oi (2 : Int32), oa b2, oi (1 : Int32)]) rfl ?_
    refine XS.iloadN X8.here hx rfl (hb hby own_d2_51) rfl ?_
    refine XS.iconst X8.here hx rfl (hb hby own_d2_52) ?_
    refine XS.iand X8.here hx rfl (hb hby own_d2_53) rfl ?_
    show oS p e below T8 m 54 #[oa a0, oi (3 : Int32), oi (2 : Int32), oa b2, oi (1 : Int32)] [(.int (2 : Int32))] _
    refine XS.ifNo X8.here hx rfl (hb hby own_d2_54) rfl ((if0 _ _).trans (feq b13).1) ?_
    refine XS.aloadN X8.here hx rfl (hb hby own_d2_57) rfl rfl ?_
    refine XS.iload X8.here hx rfl (hb hby own_d2_58) rfl ?_
    refine XS.aloadN X8.here hx rfl (hb hby own_d2_60) rfl rfl ?_
    show oS p e below T8 m 61 #[oa a0, oi (3 : Int32), oi (2 : Int32), oa b2, oi (1 : Int32)] [(.ref a0), (.int (1 : Int32)), (.ref b2)] _
    refine XS.iconst X8.here hx rfl (hb hby own_d2_61) ?_
    show oS p e below T8 m 62 #[oa a0, oi (3 : Int32), oi (2 : Int32), oa b2, oi (1 : Int32)] [(.int (1 : Int32)), (.ref a0), (.int (1 : Int32)), (.ref b2)] _
    refine oLdI X8 hx hZ e8 F9 (v := (.int u1)) ⟨by decide, by decide⟩ rfl (hb hby own_d2_62) ?_
    show oS p e below T8 m 63 #[oa a0, oi (3 : Int32), oi (2 : Int32), oa b2, oi (1 : Int32)] [(.int u1), (.int (1 : Int32)), (.ref b2)] _
    refine st14 _ ?_
    show oS p e below T14 m 64 #[oa a0, oi (3 : Int32), oi (2 : Int32), oa b2, oi (1 : Int32)] [] _
    refine XS.iinc X14.here hx rfl (hb hby own_d2_64) rfl (l' := #[oa a0, oi (3 : Int32), oi (2 : Int32), oa b2, oi (2 : Int32)]) rfl ?_
    refine XS.iloadN X14.here hx rfl (hb hby own_d2_67) rfl ?_
    refine XS.iconst X14.here hx rfl (hb hby own_d2_68) ?_
    refine XS.iand X14.here hx rfl (hb hby own_d2_69) rfl ?_
    show oS p e below T14 m 70 #[oa a0, oi (3 : Int32), oi (2 : Int32), oa b2, oi (2 : Int32)] [(.int (0 : Int32))] _
    refine XS.ifYes X14.here hx rfl (pc0 := 70) (pc' := 83) rfl (hb hby own_d2_70) rfl ((if0 _ _).trans (teq b19).1) (by decide) (by decide) ?_
    refine XS.iloadN X14.here hx rfl (hb hby own_d2_83) rfl ?_
    refine XS.bipush X14.here hx rfl (hb hby own_d2_84) ?_
    refine XS.iand X14.here hx rfl (hb hby own_d2_86) rfl ?_
    show oS p e below T14 m 87 #[oa a0, oi (3 : Int32), oi (2 : Int32), oa b2, oi (2 : Int32)] [(.int (0 : Int32))] _
    refine XS.ifYes X14.here hx rfl (pc0 := 87) (pc' := 100) rfl (hb hby own_d2_87) rfl ((if0 _ _).trans (teq b20).1) (by decide) (by decide) ?_
    refine XS.iloadN X14.here hx rfl (hb hby own_d2_100) rfl ?_
    refine XS.bipush X14.here hx rfl (hb hby own_d2_101) ?_
    refine XS.iand X14.here hx rfl (hb hby own_d2_103) rfl ?_
    show oS p e below T14 m 104 #[oa a0, oi (3 : Int32), oi (2 : Int32), oa b2, oi (2 : Int32)] [(.int (0 : Int32))] _
    refine XS.ifYes X14.here hx rfl (pc0 := 104) (pc' := 117) rfl (hb hby own_d2_104) rfl ((if0 _ _).trans (teq b21).1) (by decide) (by decide) ?_
    refine XS.aloadN X14.here hx rfl (hb hby own_d2_117) rfl rfl ?_
    show oS p e below T14 m 118 #[oa a0, oi (3 : Int32), oi (2 : Int32), oa b2, oi (2 : Int32)] [(.ref b2)] _
    exact retOut X14 hx Bd.returns rfl (Or.inr (Or.inr (Or.inr (Or.inr ⟨rfl, rfl, rfl⟩)))) (hb hby own_d2_118) hr
  · show own_Q2 Z a0 p1 k_a0 u0 u1 u2 u3 u4 h0 n0 _ T14.heap _
    rw [e14]
    refine ⟨b2, k2, rfl, N14, K_18, sz_b2, ?_⟩
    rw [km, show own_z (3 : Int32) = (2 : Int32) by decide +kernel, own_pk, show own_idx (3 : Int32) = [0, 1] by decide +kernel]
    exact V_17
theorem own_d2_73 : decode method_3_code 73 = .ok (.aload_n 3, 1) := by decide +kernel
theorem own_d2_74 : decode method_3_code 74 = .ok (.iload 4, 2) := by decide +kernel
theorem own_d2_76 : decode method_3_code 76 = .ok (.aload_n 0, 1) := by decide +kernel
theorem own_d2_77 : decode method_3_code 77 = .ok (.iconst 2, 1) := by decide +kernel
theorem own_d2_78 : decode method_3_code 78 = .ok (.iaload, 1) := by decide +kernel
theorem own_d2_79 : decode method_3_code 79 = .ok (.iastore, 1) := by decide +kernel
theorem own_d2_80 : decode method_3_code 80 = .ok (.iinc 4 1, 3) := by decide +kernel
set_option maxRecDepth 65536 in
set_option maxHeartbeats 40000000 in
theorem own_rm2_4 (l : Launch) (Z : State) (av : Array Value) (hw : ∀ d ∈ tables_1, d.before av Z = true) (ws : List Jvm.Cond) (a0 : Addr) (p1 : Int32) (k_a0 : ClassId) (u0 : Int32) (u1 : Int32) (u2 : Int32) (u3 : Int32) (u4 : Int32) (h0 : Heap) (n0 : Nat) (Z0 : n0 ≤ h0.size) (V_a0 : Arv Z h0 a0 k_a0 .int (5 : Int32) [(.int u0), (.int u1), (.int u2), (.int u3), (.int u4)] (.int (0 : Int32))) (km : p1 = (4 : Int32)) :
    MetFree l (⟨"com/example/strict_anon/strictanon/service/RecordSetsDifferencePinLaw", "pick", "([II)[I"⟩ : MethodName) (head1 (Jvm.Cond.code (⟨"com/example/strict_anon/strictanon/service/RecordSetsDifferencePinLaw", "pick", "([II)[I"⟩ : MethodName) method_3_code 5 (some (.array .int)) :: ws) ({ frames := 0, cells := 1, slots := 5, locals := 0 } : Room)) (fun a U => a = #[(.ref a0), (.int p1)] ∧ Z.Warmed39 U.vm ∧ U.heap = h0) (fun _ _ _ _ _ => True) (fun _ U o U' => ∃ v L, o = .returned v ∧ own_Q2 Z a0 p1 k_a0 u0 u1 u2 u3 u4 h0 n0 v U'.heap L ∧ FrameEnd U o U' L ({ frames := 0, cells := 1, slots := 5, locals := 0 } : Room).cells ({ frames := 0, cells := 1, slots := 5, locals := 0 } : Room).slots) := by
  refine MetFree.of_bodySF (plainFor_of_name own_pn0) hisR ?_
  intro p e s m args below meth c s₁ Bd hml0 hP hK
  obtain ⟨rfl, hZ, hh⟩ := hP
  have hx := Bd.exec
  have hby := Bd.bytes
  have hml : c.maxLocals = 5 := hml0
  have hown : s.vm.findClass "com/example/strict_anon/strictanon/service/RecordSetsDifferencePinLaw" = some m.cls := findClass_of_methodNamed Bd.named
  have hnm := (name_of_methodNamed Bd.named Bd.method).1
  have X0 : Stand p l e ({ frames := 0, cells := 1, slots := 5, locals := 0 } : Room) s m #[(.ref a0), (.int p1)] below meth c s₁ [] 0 0 := Stand.of_body Bd
  have e0 : s₁.heap = h0 := by rw [← hh, Bd.state]; rfl
  have N0 := Fr.nil n0
  have pre0 : ∀ t, Steps p.tables e below (s₁.setTop (mkF m 0 #[oa a0, oi p1, .unset, .unset, .unset] [])) t → Steps p.tables e below (s₁.setTop (entryFrame m #[(.ref a0), (.int p1)] 5)) t := fun t k => castTop (own_ef2 m a0 p1) k
  have pre1 : ∀ t, Steps p.tables e below (s₁.setTop (mkF m 0 #[oa a0, oi (4 : Int32), .unset, .unset, .unset] [])) t → Steps p.tables e below (s₁.setTop (entryFrame m #[(.ref a0), (.int p1)] 5)) t := by
    intro t k
    refine pre0 t ?_
    rw [km]
    exact k
  obtain ⟨T2, h2, k2, X2, e2, E2, A2, B2, st2⟩ := newPE X0 hx hZ (hw _ (List.mem_of_getElem? (i := 6) rfl)) e0 (g := (mkF m 29 #[oa a0, oi (4 : Int32), oi (1 : Int32), .unset, .unset] [(.int (1 : Int32))])) rfl (hb hby own_d2_29) rfl (by decide) (cap := 1) (by decide) (by decide) (by decide) (by decide) (ad := "[I") rfl
  obtain ⟨b2, g2⟩ : ∃ z, z = h0.size := ⟨_, rfl⟩
  rw [← g2] at A2 st2 B2
  have g_b2 : n0 ≤ b2 := Nat.le_trans Z0 (Nat.le_of_eq g2.symm)
  have ne3 : a0 ≠ b2 := Nat.ne_of_lt (Nat.lt_of_lt_of_le V_a0.lt (Nat.le_of_eq g2.symm))
  have Z2 : n0 ≤ h2.size := Nat.le_trans Z0 E2.1
  have sz_b2 : h0.size ≤ b2 := Nat.le_trans (Keep.refl h0 []).1 (Nat.le_of_eq g2.symm)
  have K_4 : Keep h0 h2 [] := (Keep.refl h0 []).ext E2
  have F5 := V_a0.ext E2
  have V_6 : Arv Z h2 b2 k2 .int (1 : Int32) [(.int (0 : Int32))] (.int (0 : Int32)) := (Arv.new A2 (by decide)).pad (pad_rep [] (.int (0 : Int32)) 1)
  have b7 : (0 : Int32) = (0 : Int32) := (by decide)
  have b8 : (0 : Int32) = (0 : Int32) := (by decide)
  have b9 : ¬ ((4 : Int32) = (0 : Int32)) := (by decide)
  obtain ⟨T10, h10, X10, e10, W10, V10, st10⟩ := oStI X2 hx hZ e2 V_6 (j := (0 : Int32)) ⟨by decide, by decide⟩ 0 rfl (Nat.le_of_ble_eq_true rfl) (g := (mkF m 79 #[oa a0, oi (4 : Int32), oi (1 : Int32), oa b2, oi (0 : Int32)] [(.int u2), (.int (0 : Int32)), (.ref b2)])) rfl rfl (hb hby own_d2_79)
  obtain ⟨Lo10, X10, N10⟩ := oOpq X10 (Fr.snoc X10 N0 g_b2)
  have Z10 := Nat.le_trans Z2 (Keep.of_wr W10).1
  have F11 := F5.other W10 ne3
  have F12 := B2.wr W10
  have V_13 : Arv Z h10 b2 k2 .int (1 : Int32) [(.int u2)] (.int (0 : Int32)) := V10
  have K_14 : Keep h0 h10 [] := K_4.wr W10 (Or.inr sz_b2)
  have b15 : (0 : Int32) = (0 : Int32) := (by decide)
  have b16 : (0 : Int32) = (0 : Int32) := (by decide)
  obtain ⟨fs, hr, hrun, hended, hW, hsame⟩ := X10.leave (v := (some (.ref b2))) (fun h => by rw [Bd.returns] at h; cases h)
  refine ⟨_, _, pre1 _ ?_, hrun, hended, _, _, rfl, ?_, ⟨_, rfl⟩, hW, hsame.mono (by decide) (by decide)⟩
  · show oS p e below s₁ m 0 #[oa a0, oi (4 : Int32), .unset, .unset, .unset] [] _
    refine XS.iloadN X0.here hx rfl (hb hby own_d2_0) rfl ?_
    refine XS.iconst X0.here hx rfl (hb hby own_d2_1) ?_
    refine XS.iand X0.here hx rfl (hb hby own_d2_2) rfl ?_
    refine XS.iloadN X0.here hx rfl (hb hby own_d2_3) rfl ?_
    show oS p e below s₁ m 4 #[oa a0, oi (4 : Int32), .unset, .unset, .unset] [(.int (4 : Int32)), (.int (0 : Int32))] _
    refine XS.iconst X0.here hx rfl (hb hby own_d2_4) ?_
    show oS p e below s₁ m 5 #[oa a0, oi (4 : Int32), .unset, .unset, .unset] [(.int (1 : Int32)), (.int (4 : Int32)), (.int (0 : Int32))] _
    refine XS.iushr X0.here hx rfl (hb hby own_d2_5) rfl ?_
    refine XS.iconst X0.here hx rfl (hb hby own_d2_6) ?_
    refine XS.iand X0.here hx rfl (hb hby own_d2_7) rfl ?_
    refine XS.iadd X0.here hx rfl (hb hby own_d2_8) rfl ?_
    show oS p e below s₁ m 9 #[oa a0, oi (4 : Int32), .unset, .unset, .unset] [(.int (0 : Int32))] _
    refine XS.iloadN X0.here hx rfl (hb hby own_d2_9) rfl ?_
    refine XS.iconst X0.here hx rfl (hb hby own_d2_10) ?_
    show oS p e below s₁ m 11 #[oa a0, oi (4 : Int32), .unset, .unset, .unset] [(.int (2 : Int32)), (.int (4 : Int32)), (.int (0 : Int32))] _
    refine XS.iushr X0.here hx rfl (hb hby own_d2_11) rfl ?_
    refine XS.iconst X0.here hx rfl (hb hby own_d2_12) ?_
    refine XS.iand X0.here hx rfl (hb hby own_d2_13) rfl ?_
    refine XS.iadd X0.here hx rfl (hb hby own_d2_14) rfl ?_
    show oS p e below s₁ m 15 #[oa a0, oi (4 : Int32), .unset, .unset, .unset] [(.int (1 : Int32))] _
    refine XS.iloadN X0.here hx rfl (hb hby own_d2_15) rfl ?_
    refine XS.iconst X0.here hx rfl (hb hby own_d2_16) ?_
    show oS p e below s₁ m 17 #[oa a0, oi (4 : Int32), .unset, .unset, .unset] [(.int (3 : Int32)), (.int (4 : Int32)), (.int (1 : Int32))] _
    refine XS.iushr X0.here hx rfl (hb hby own_d2_17) rfl ?_
    refine XS.iconst X0.here hx rfl (hb hby own_d2_18) ?_
    refine XS.iand X0.here hx rfl (hb hby own_d2_19) rfl ?_
    refine XS.iadd X0.here hx rfl (hb hby own_d2_20) rfl ?_
    show oS p e below s₁ m 21 #[oa a0, oi (4 : Int32), .unset, .unset, .unset] [(.int (1 : Int32))] _
    refine XS.iloadN X0.here hx rfl (hb hby own_d2_21) rfl ?_
    refine XS.iconst X0.here hx rfl (hb hby own_d2_22) ?_
    show oS p e below s₁ m 23 #[oa a0, oi (4 : Int32), .unset, .unset, .unset] [(.int (4 : Int32)), (.int (4 : Int32)), (.int (1 : Int32))] _
    refine XS.iushr X0.here hx rfl (hb hby own_d2_23) rfl ?_
    refine XS.iconst X0.here hx rfl (hb hby own_d2_24) ?_
    refine XS.iand X0.here hx rfl (hb hby own_d2_25) rfl ?_
    refine XS.iadd X0.here hx rfl (hb hby own_d2_26) rfl ?_
    show oS p e below s₁ m 27 #[oa a0, oi (4 : Int32), .unset, .unset, .unset] [(.int (1 : Int32))] _
    refine XS.istoreN X0.here hx rfl (hb hby own_d2_27) rfl (l' := #[oa a0, oi (4 : Int32), oi (1 : Int32), .unset, .unset]) rfl ?_
    refine XS.iloadN X0.here hx rfl (hb hby own_d2_28) rfl ?_
    show oS p e below s₁ m 29 #[oa a0, oi (4 : Int32), oi (1 : Int32), .unset, .unset] [(.int (1 : Int32))] _
    refine st2 _ ?_
    show oS p e below T2 m 31 #[oa a0, oi (4 : Int32), oi (1 : Int32), .unset, .unset] [(.ref b2)] _
    refine XS.astoreN X2.here hx rfl (hb hby own_d2_31) rfl rfl (l' := #[oa a0, oi (4 : Int32), oi (1 : Int32), oa b2, .unset]) rfl ?_
    refine XS.iconst X2.here hx rfl (hb hby own_d2_32) ?_
    refine XS.istore X2.here hx rfl (hb hby own_d2_33) rfl (l' := #[oa a0, oi (4 : Int32), oi (1 : Int32), oa b2, oi (0 : Int32)]) rfl ?_
    refine XS.iloadN X2.here hx rfl (hb hby own_d2_35) rfl ?_
    show oS p e below T2 m 36 #[oa a0, oi (4 : Int32), oi (1 : Int32), oa b2, oi (0 : Int32)] [(.int (4 : Int32))] _
    refine XS.iconst X2.here hx rfl (hb hby own_d2_36) ?_
    refine XS.iand X2.here hx rfl (hb hby own_d2_37) rfl ?_
    show oS p e below T2 m 38 #[oa a0, oi (4 : Int32), oi (1 : Int32), oa b2, oi (0 : Int32)] [(.int (0 : Int32))] _
    refine XS.ifYes X2.here hx rfl (pc0 := 38) (pc' := 51) rfl (hb hby own_d2_38) rfl ((if0 _ _).trans (teq b7).1) (by decide) (by decide) ?_
    refine XS.iloadN X2.here hx rfl (hb hby own_d2_51) rfl ?_
    refine XS.iconst X2.here hx rfl (hb hby own_d2_52) ?_
    refine XS.iand X2.here hx rfl (hb hby own_d2_53) rfl ?_
    show oS p e below T2 m 54 #[oa a0, oi (4 : Int32), oi (1 : Int32), oa b2, oi (0 : Int32)] [(.int (0 : Int32))] _
    refine XS.ifYes X2.here hx rfl (pc0 := 54) (pc' := 67) rfl (hb hby own_d2_54) rfl ((if0 _ _).trans (teq b8).1) (by decide) (by decide) ?_
    refine XS.iloadN X2.here hx rfl (hb hby own_d2_67) rfl ?_
    refine XS.iconst X2.here hx rfl (hb hby own_d2_68) ?_
    refine XS.iand X2.here hx rfl (hb hby own_d2_69) rfl ?_
    show oS p e below T2 m 70 #[oa a0, oi (4 : Int32), oi (1 : Int32), oa b2, oi (0 : Int32)] [(.int (4 : Int32))] _
    refine XS.ifNo X2.here hx rfl (hb hby own_d2_70) rfl ((if0 _ _).trans (feq b9).1) ?_
    refine XS.aloadN X2.here hx rfl (hb hby own_d2_73) rfl rfl ?_
    refine XS.iload X2.here hx rfl (hb hby own_d2_74) rfl ?_
    refine XS.aloadN X2.here hx rfl (hb hby own_d2_76) rfl rfl ?_
    show oS p e below T2 m 77 #[oa a0, oi (4 : Int32), oi (1 : Int32), oa b2, oi (0 : Int32)] [(.ref a0), (.int (0 : Int32)), (.ref b2)] _
    refine XS.iconst X2.here hx rfl (hb hby own_d2_77) ?_
    show oS p e below T2 m 78 #[oa a0, oi (4 : Int32), oi (1 : Int32), oa b2, oi (0 : Int32)] [(.int (2 : Int32)), (.ref a0), (.int (0 : Int32)), (.ref b2)] _
    refine oLdI X2 hx hZ e2 F5 (v := (.int u2)) ⟨by decide, by decide⟩ rfl (hb hby own_d2_78) ?_
    show oS p e below T2 m 79 #[oa a0, oi (4 : Int32), oi (1 : Int32), oa b2, oi (0 : Int32)] [(.int u2), (.int (0 : Int32)), (.ref b2)] _
    refine st10 _ ?_
    show oS p e below T10 m 80 #[oa a0, oi (4 : Int32), oi (1 : Int32), oa b2, oi (0 : Int32)] [] _
    refine XS.iinc X10.here hx rfl (hb hby own_d2_80) rfl (l' := #[oa a0, oi (4 : Int32), oi (1 : Int32), oa b2, oi (1 : Int32)]) rfl ?_
    refine XS.iloadN X10.here hx rfl (hb hby own_d2_83) rfl ?_
    refine XS.bipush X10.here hx rfl (hb hby own_d2_84) ?_
    refine XS.iand X10.here hx rfl (hb hby own_d2_86) rfl ?_
    show oS p e below T10 m 87 #[oa a0, oi (4 : Int32), oi (1 : Int32), oa b2, oi (1 : Int32)] [(.int (0 : Int32))] _
    refine XS.ifYes X10.here hx rfl (pc0 := 87) (pc' := 100) rfl (hb hby own_d2_87) rfl ((if0 _ _).trans (teq b15).1) (by decide) (by decide) ?_
    refine XS.iloadN X10.here hx rfl (hb hby own_d2_100) rfl ?_
    refine XS.bipush X10.here hx rfl (hb hby own_d2_101) ?_
    refine XS.iand X10.here hx rfl (hb hby own_d2_103) rfl ?_
    show oS p e below T10 m 104 #[oa a0, oi (4 : Int32), oi (1 : Int32), oa b2, oi (1 : Int32)] [(.int (0 : Int32))] _
    refine XS.ifYes X10.here hx rfl (pc0 := 104) (pc' := 117) rfl (hb hby own_d2_104) rfl ((if0 _ _).trans (teq b16).1) (by decide) (by decide) ?_
    refine XS.aloadN X10.here hx rfl (hb hby own_d2_117) rfl rfl ?_
    show oS p e below T10 m 118 #[oa a0, oi (4 : Int32), oi (1 : Int32), oa b2, oi (1 : Int32)] [(.ref b2)] _
    exact retOut X10 hx Bd.returns rfl (Or.inr (Or.inr (Or.inr (Or.inr ⟨rfl, rfl, rfl⟩)))) (hb hby own_d2_118) hr
  · show own_Q2 Z a0 p1 k_a0 u0 u1 u2 u3 u4 h0 n0 _ T10.heap _
    rw [e10]
    refine ⟨b2, k2, rfl, N10, K_14, sz_b2, ?_⟩
    rw [km, show own_z (4 : Int32) = (1 : Int32) by decide +kernel, own_pk, show own_idx (4 : Int32) = [2] by decide +kernel]
    exact V_13
set_option maxRecDepth 65536 in
set_option maxHeartbeats 40000000 in
theorem own_rm2_5 (l : Launch) (Z : State) (av : Array Value) (hw : ∀ d ∈ tables_1, d.before av Z = true) (ws : List Jvm.Cond) (a0 : Addr) (p1 : Int32) (k_a0 : ClassId) (u0 : Int32) (u1 : Int32) (u2 : Int32) (u3 : Int32) (u4 : Int32) (h0 : Heap) (n0 : Nat) (Z0 : n0 ≤ h0.size) (V_a0 : Arv Z h0 a0 k_a0 .int (5 : Int32) [(.int u0), (.int u1), (.int u2), (.int u3), (.int u4)] (.int (0 : Int32))) (km : p1 = (5 : Int32)) :
    MetFree l (⟨"com/example/strict_anon/strictanon/service/RecordSetsDifferencePinLaw", "pick", "([II)[I"⟩ : MethodName) (head1 (Jvm.Cond.code (⟨"com/example/strict_anon/strictanon/service/RecordSetsDifferencePinLaw", "pick", "([II)[I"⟩ : MethodName) method_3_code 5 (some (.array .int)) :: ws) ({ frames := 0, cells := 1, slots := 5, locals := 0 } : Room)) (fun a U => a = #[(.ref a0), (.int p1)] ∧ Z.Warmed39 U.vm ∧ U.heap = h0) (fun _ _ _ _ _ => True) (fun _ U o U' => ∃ v L, o = .returned v ∧ own_Q2 Z a0 p1 k_a0 u0 u1 u2 u3 u4 h0 n0 v U'.heap L ∧ FrameEnd U o U' L ({ frames := 0, cells := 1, slots := 5, locals := 0 } : Room).cells ({ frames := 0, cells := 1, slots := 5, locals := 0 } : Room).slots) := by
  refine MetFree.of_bodySF (plainFor_of_name own_pn0) hisR ?_
  intro p e s m args below meth c s₁ Bd hml0 hP hK
  obtain ⟨rfl, hZ, hh⟩ := hP
  have hx := Bd.exec
  have hby := Bd.bytes
  have hml : c.maxLocals = 5 := hml0
  have hown : s.vm.findClass "com/example/strict_anon/strictanon/service/RecordSetsDifferencePinLaw" = some m.cls := findClass_of_methodNamed Bd.named
  have hnm := (name_of_methodNamed Bd.named Bd.method).1
  have X0 : Stand p l e ({ frames := 0, cells := 1, slots := 5, locals := 0 } : Room) s m #[(.ref a0), (.int p1)] below meth c s₁ [] 0 0 := Stand.of_body Bd
  have e0 : s₁.heap = h0 := by rw [← hh, Bd.state]; rfl
  have N0 := Fr.nil n0
  have pre0 : ∀ t, Steps p.tables e below (s₁.setTop (mkF m 0 #[oa a0, oi p1, .unset, .unset, .unset] [])) t → Steps p.tables e below (s₁.setTop (entryFrame m #[(.ref a0), (.int p1)] 5)) t := fun t k => castTop (own_ef2 m a0 p1) k
  have pre1 : ∀ t, Steps p.tables e below (s₁.setTop (mkF m 0 #[oa a0, oi (5 : Int32), .unset, .unset, .unset] [])) t → Steps p.tables e below (s₁.setTop (entryFrame m #[(.ref a0), (.int p1)] 5)) t := by
    intro t k
    refine pre0 t ?_
    rw [km]
    exact k
  obtain ⟨T2, h2, k2, X2, e2, E2, A2, B2, st2⟩ := newPE X0 hx hZ (hw _ (List.mem_of_getElem? (i := 6) rfl)) e0 (g := (mkF m 29 #[oa a0, oi (5 : Int32), oi (2 : Int32), .unset, .unset] [(.int (2 : Int32))])) rfl (hb hby own_d2_29) rfl (by decide) (cap := 2) (by decide) (by decide) (by decide) (by decide) (ad := "[I") rfl
  obtain ⟨b2, g2⟩ : ∃ z, z = h0.size := ⟨_, rfl⟩
  rw [← g2] at A2 st2 B2
  have g_b2 : n0 ≤ b2 := Nat.le_trans Z0 (Nat.le_of_eq g2.symm)
  have ne3 : a0 ≠ b2 := Nat.ne_of_lt (Nat.lt_of_lt_of_le V_a0.lt (Nat.le_of_eq g2.symm))
  have Z2 : n0 ≤ h2.size := Nat.le_trans Z0 E2.1
  have sz_b2 : h0.size ≤ b2 := Nat.le_trans (Keep.refl h0 []).1 (Nat.le_of_eq g2.symm)
  have K_4 : Keep h0 h2 [] := (Keep.refl h0 []).ext E2
  have F5 := V_a0.ext E2
  have V_6 : Arv Z h2 b2 k2 .int (2 : Int32) [(.int (0 : Int32)), (.int (0 : Int32))] (.int (0 : Int32)) := (Arv.new A2 (by decide)).pad (pad_rep [] (.int (0 : Int32)) 2)
  have b7 : ¬ ((1 : Int32) = (0 : Int32)) := (by decide)
  obtain ⟨T8, h8, X8, e8, W8, V8, st8⟩ := oStI X2 hx hZ e2 V_6 (j := (0 : Int32)) ⟨by decide, by decide⟩ 0 rfl (Nat.le_of_ble_eq_true rfl) (g := (mkF m 47 #[oa a0, oi (5 : Int32), oi (2 : Int32), oa b2, oi (0 : Int32)] [(.int u0), (.int (0 : Int32)), (.ref b2)])) rfl rfl (hb hby own_d2_47)
  obtain ⟨Lo8, X8, N8⟩ := oOpq X8 (Fr.snoc X8 N0 g_b2)
  have Z8 := Nat.le_trans Z2 (Keep.of_wr W8).1
  have F9 := F5.other W8 ne3
  have F10 := B2.wr W8
  have V_11 : Arv Z h8 b2 k2 .int (2 : Int32) [(.int u0), (.int (0 : Int32))] (.int (0 : Int32)) := V8
  have K_12 : Keep h0 h8 [] := K_4.wr W8 (Or.inr sz_b2)
  have b13 : (0 : Int32) = (0 : Int32) := (by decide)
  have b14 : ¬ ((4 : Int32) = (0 : Int32)) := (by decide)
  obtain ⟨T15, h15, X15, e15, W15, V15, st15⟩ := oStI X8 hx hZ e8 V_11 (j := (1 : Int32)) ⟨by decide, by decide⟩ 1 rfl (Nat.le_of_ble_eq_true rfl) (g := (mkF m 79 #[oa a0, oi (5 : Int32), oi (2 : Int32), oa b2, oi (1 : Int32)] [(.int u2), (.int (1 : Int32)), (.ref b2)])) rfl rfl (hb hby own_d2_79)
  obtain ⟨Lo15, X15, N15⟩ := oOpq X15 (Fr.snoc X15 N8 g_b2)
  have Z15 := Nat.le_trans Z8 (Keep.of_wr W15).1
  have F16 := F9.other W15 ne3
  have F17 := F10.wr W15
  have V_18 : Arv Z h15 b2 k2 .int (2 : Int32) [(.int u0), (.int u2)] (.int (0 : Int32)) := V15
  have K_19 : Keep h0 h15 [] := K_12.wr W15 (Or.inr sz_b2)
  have b20 : (0 : Int32) = (0 : Int32) := (by decide)
  have b21 : (0 : Int32) = (0 : Int32) := (by decide)
  obtain ⟨fs, hr, hrun, hended, hW, hsame⟩ := X15.leave (v := (some (.ref b2))) (fun h => by rw [Bd.returns] at h; cases h)
  refine ⟨_, _, pre1 _ ?_, hrun, hended, _, _, rfl, ?_, ⟨_, rfl⟩, hW, hsame.mono (by decide) (by decide)⟩
  · show oS p e below s₁ m 0 #[oa a0, oi (5 : Int32), .unset, .unset, .unset] [] _
    refine XS.iloadN X0.here hx rfl (hb hby own_d2_0) rfl ?_
    refine XS.iconst X0.here hx rfl (hb hby own_d2_1) ?_
    refine XS.iand X0.here hx rfl (hb hby own_d2_2) rfl ?_
    refine XS.iloadN X0.here hx rfl (hb hby own_d2_3) rfl ?_
    show oS p e below s₁ m 4 #[oa a0, oi (5 : Int32), .unset, .unset, .unset] [(.int (5 : Int32)), (.int (1 : Int32))] _
    refine XS.iconst X0.here hx rfl (hb hby own_d2_4) ?_
    show oS p e below s₁ m 5 #[oa a0, oi (5 : Int32), .unset, .unset, .unset] [(.int (1 : Int32)), (.int (5 : Int32)), (.int (1 : Int32))] _
    refine XS.iushr X0.here hx rfl (hb hby own_d2_5) rfl ?_
    refine XS.iconst X0.here hx rfl (hb hby own_d2_6) ?_
    refine XS.iand X0.here hx rfl (hb hby own_d2_7) rfl ?_
    refine XS.iadd X0.here hx rfl (hb hby own_d2_8) rfl ?_
    show oS p e below s₁ m 9 #[oa a0, oi (5 : Int32), .unset, .unset, .unset] [(.int (1 : Int32))] _
    refine XS.iloadN X0.here hx rfl (hb hby own_d2_9) rfl ?_
    refine XS.iconst X0.here hx rfl (hb hby own_d2_10) ?_
    show oS p e below s₁ m 11 #[oa a0, oi (5 : Int32), .unset, .unset, .unset] [(.int (2 : Int32)), (.int (5 : Int32)), (.int (1 : Int32))] _
    refine XS.iushr X0.here hx rfl (hb hby own_d2_11) rfl ?_
    refine XS.iconst X0.here hx rfl (hb hby own_d2_12) ?_
    refine XS.iand X0.here hx rfl (hb hby own_d2_13) rfl ?_
    refine XS.iadd X0.here hx rfl (hb hby own_d2_14) rfl ?_
    show oS p e below s₁ m 15 #[oa a0, oi (5 : Int32), .unset, .unset, .unset] [(.int (2 : Int32))] _
    refine XS.iloadN X0.here hx rfl (hb hby own_d2_15) rfl ?_
    refine XS.iconst X0.here hx rfl (hb hby own_d2_16) ?_
    show oS p e below s₁ m 17 #[oa a0, oi (5 : Int32), .unset, .unset, .unset] [(.int (3 : Int32)), (.int (5 : Int32)), (.int (2 : Int32))] _
    refine XS.iushr X0.here hx rfl (hb hby own_d2_17) rfl ?_
    refine XS.iconst X0.here hx rfl (hb hby own_d2_18) ?_
    refine XS.iand X0.here hx rfl (hb hby own_d2_19) rfl ?_
    refine XS.iadd X0.here hx rfl (hb hby own_d2_20) rfl ?_
    show oS p e below s₁ m 21 #[oa a0, oi (5 : Int32), .unset, .unset, .unset] [(.int (2 : Int32))] _
    refine XS.iloadN X0.here hx rfl (hb hby own_d2_21) rfl ?_
    refine XS.iconst X0.here hx rfl (hb hby own_d2_22) ?_
    show oS p e below s₁ m 23 #[oa a0, oi (5 : Int32), .unset, .unset, .unset] [(.int (4 : Int32)), (.int (5 : Int32)), (.int (2 : Int32))] _
    refine XS.iushr X0.here hx rfl (hb hby own_d2_23) rfl ?_
    refine XS.iconst X0.here hx rfl (hb hby own_d2_24) ?_
    refine XS.iand X0.here hx rfl (hb hby own_d2_25) rfl ?_
    refine XS.iadd X0.here hx rfl (hb hby own_d2_26) rfl ?_
    show oS p e below s₁ m 27 #[oa a0, oi (5 : Int32), .unset, .unset, .unset] [(.int (2 : Int32))] _
    refine XS.istoreN X0.here hx rfl (hb hby own_d2_27) rfl (l' := #[oa a0, oi (5 : Int32), oi (2 : Int32), .unset, .unset]) rfl ?_
    refine XS.iloadN X0.here hx rfl (hb hby own_d2_28) rfl ?_
    show oS p e below s₁ m 29 #[oa a0, oi (5 : Int32), oi (2 : Int32), .unset, .unset] [(.int (2 : Int32))] _
    refine st2 _ ?_
    show oS p e below T2 m 31 #[oa a0, oi (5 : Int32), oi (2 : Int32), .unset, .unset] [(.ref b2)] _
    refine XS.astoreN X2.here hx rfl (hb hby own_d2_31) rfl rfl (l' := #[oa a0, oi (5 : Int32), oi (2 : Int32), oa b2, .unset]) rfl ?_
    refine XS.iconst X2.here hx rfl (hb hby own_d2_32) ?_
    refine XS.istore X2.here hx rfl (hb hby own_d2_33) rfl (l' := #[oa a0, oi (5 : Int32), oi (2 : Int32), oa b2, oi (0 : Int32)]) rfl ?_
    refine XS.iloadN X2.here hx rfl (hb hby own_d2_35) rfl ?_
    show oS p e below T2 m 36 #[oa a0, oi (5 : Int32), oi (2 : Int32), oa b2, oi (0 : Int32)] [(.int (5 : Int32))] _
    refine XS.iconst X2.here hx rfl (hb hby own_d2_36) ?_
    refine XS.iand X2.here hx rfl (hb hby own_d2_37) rfl ?_
    show oS p e below T2 m 38 #[oa a0, oi (5 : Int32), oi (2 : Int32), oa b2, oi (0 : Int32)] [(.int (1 : Int32))] _
    refine XS.ifNo X2.here hx rfl (hb hby own_d2_38) rfl ((if0 _ _).trans (feq b7).1) ?_
    refine XS.aloadN X2.here hx rfl (hb hby own_d2_41) rfl rfl ?_
    refine XS.iload X2.here hx rfl (hb hby own_d2_42) rfl ?_
    refine XS.aloadN X2.here hx rfl (hb hby own_d2_44) rfl rfl ?_
    show oS p e below T2 m 45 #[oa a0, oi (5 : Int32), oi (2 : Int32), oa b2, oi (0 : Int32)] [(.ref a0), (.int (0 : Int32)), (.ref b2)] _
    refine XS.iconst X2.here hx rfl (hb hby own_d2_45) ?_
    show oS p e below T2 m 46 #[oa a0, oi (5 : Int32), oi (2 : Int32), oa b2, oi (0 : Int32)] [(.int (0 : Int32)), (.ref a0), (.int (0 : Int32)), (.ref b2)] _
    refine oLdI X2 hx hZ e2 F5 (v := (.int u0)) ⟨by decide, by decide⟩ rfl (hb hby own_d2_46) ?_
    show oS p e below T2 m 47 #[oa a0, oi (5 : Int32), oi (2 : Int32), oa b2, oi (0 : Int32)] [(.int u0), (.int (0 : Int32)), (.ref b2)] _
    refine st8 _ ?_
    show oS p e below T8 m 48 #[oa a0, oi (5 : Int32), oi (2 : Int32), oa b2, oi (0 : Int32)] [] _
    refine XS.iinc X8.here hx rfl (hb hby own_d2_48) rfl (l' := #[oa a0, oi (5 : Int32), oi (2 : Int32), oa b2, oi (1 : Int32)]) rfl ?_
    refine XS.iloadN X8.here hx rfl (hb hby own_d2_51) rfl ?_
    refine XS.iconst X8.here hx rfl (hb hby own_d2_52) ?_
    refine XS.iand X8.here hx rfl (hb hby own_d2_53) rfl ?_
    show oS p e below T8 m 54 #[oa a0, oi (5 : Int32), oi (2 : Int32), oa b2, oi (1 : Int32)] [(.int (0 : Int32))] _
    refine XS.ifYes X8.here hx rfl (pc0 := 54) (pc' := 67) rfl (hb hby own_d2_54) rfl ((if0 _ _).trans (teq b13).1) (by decide) (by decide) ?_
    refine XS.iloadN X8.here hx rfl (hb hby own_d2_67) rfl ?_
    refine XS.iconst X8.here hx rfl (hb hby own_d2_68) ?_
    refine XS.iand X8.here hx rfl (hb hby own_d2_69) rfl ?_
    show oS p e below T8 m 70 #[oa a0, oi (5 : Int32), oi (2 : Int32), oa b2, oi (1 : Int32)] [(.int (4 : Int32))] _
    refine XS.ifNo X8.here hx rfl (hb hby own_d2_70) rfl ((if0 _ _).trans (feq b14).1) ?_
    refine XS.aloadN X8.here hx rfl (hb hby own_d2_73) rfl rfl ?_
    refine XS.iload X8.here hx rfl (hb hby own_d2_74) rfl ?_
    refine XS.aloadN X8.here hx rfl (hb hby own_d2_76) rfl rfl ?_
    show oS p e below T8 m 77 #[oa a0, oi (5 : Int32), oi (2 : Int32), oa b2, oi (1 : Int32)] [(.ref a0), (.int (1 : Int32)), (.ref b2)] _
    refine XS.iconst X8.here hx rfl (hb hby own_d2_77) ?_
    show oS p e below T8 m 78 #[oa a0, oi (5 : Int32), oi (2 : Int32), oa b2, oi (1 : Int32)] [(.int (2 : Int32)), (.ref a0), (.int (1 : Int32)), (.ref b2)] _
    refine oLdI X8 hx hZ e8 F9 (v := (.int u2)) ⟨by decide, by decide⟩ rfl (hb hby own_d2_78) ?_
    show oS p e below T8 m 79 #[oa a0, oi (5 : Int32), oi (2 : Int32), oa b2, oi (1 : Int32)] [(.int u2), (.int (1 : Int32)), (.ref b2)] _
    refine st15 _ ?_
    show oS p e below T15 m 80 #[oa a0, oi (5 : Int32), oi (2 : Int32), oa b2, oi (1 : Int32)] [] _
    refine XS.iinc X15.here hx rfl (hb hby own_d2_80) rfl (l' := #[oa a0, oi (5 : Int32), oi (2 : Int32), oa b2, oi (2 : Int32)]) rfl ?_
    refine XS.iloadN X15.here hx rfl (hb hby own_d2_83) rfl ?_
    refine XS.bipush X15.here hx rfl (hb hby own_d2_84) ?_
    refine XS.iand X15.here hx rfl (hb hby own_d2_86) rfl ?_
    show oS p e below T15 m 87 #[oa a0, oi (5 : Int32), oi (2 : Int32), oa b2, oi (2 : Int32)] [(.int (0 : Int32))] _
    refine XS.ifYes X15.here hx rfl (pc0 := 87) (pc' := 100) rfl (hb hby own_d2_87) rfl ((if0 _ _).trans (teq b20).1) (by decide) (by decide) ?_
    refine XS.iloadN X15.here hx rfl (hb hby own_d2_100) rfl ?_
    refine XS.bipush X15.here hx rfl (hb hby own_d2_101) ?_
    refine XS.iand X15.here hx rfl (hb hby own_d2_103) rfl ?_
    show oS p e below T15 m 104 #[oa a0, oi (5 : Int32), oi (2 : Int32), oa b2, oi (2 : Int32)] [(.int (0 : Int32))] _
    refine XS.ifYes X15.here hx rfl (pc0 := 104) (pc' := 117) rfl (hb hby own_d2_104) rfl ((if0 _ _).trans (teq b21).1) (by decide) (by decide) ?_
    refine XS.aloadN X15.here hx rfl (hb hby own_d2_117) rfl rfl ?_
    show oS p e below T15 m 118 #[oa a0, oi (5 : Int32), oi (2 : Int32), oa b2, oi (2 : Int32)] [(.ref b2)] _
    exact retOut X15 hx Bd.returns rfl (Or.inr (Or.inr (Or.inr (Or.inr ⟨rfl, rfl, rfl⟩)))) (hb hby own_d2_118) hr
  · show own_Q2 Z a0 p1 k_a0 u0 u1 u2 u3 u4 h0 n0 _ T15.heap _
    rw [e15]
    refine ⟨b2, k2, rfl, N15, K_19, sz_b2, ?_⟩
    rw [km, show own_z (5 : Int32) = (2 : Int32) by decide +kernel, own_pk, show own_idx (5 : Int32) = [0, 2] by decide +kernel]
    exact V_18
set_option maxRecDepth 65536 in
set_option maxHeartbeats 40000000 in
theorem own_rm2_6 (l : Launch) (Z : State) (av : Array Value) (hw : ∀ d ∈ tables_1, d.before av Z = true) (ws : List Jvm.Cond) (a0 : Addr) (p1 : Int32) (k_a0 : ClassId) (u0 : Int32) (u1 : Int32) (u2 : Int32) (u3 : Int32) (u4 : Int32) (h0 : Heap) (n0 : Nat) (Z0 : n0 ≤ h0.size) (V_a0 : Arv Z h0 a0 k_a0 .int (5 : Int32) [(.int u0), (.int u1), (.int u2), (.int u3), (.int u4)] (.int (0 : Int32))) (km : p1 = (6 : Int32)) :
    MetFree l (⟨"com/example/strict_anon/strictanon/service/RecordSetsDifferencePinLaw", "pick", "([II)[I"⟩ : MethodName) (head1 (Jvm.Cond.code (⟨"com/example/strict_anon/strictanon/service/RecordSetsDifferencePinLaw", "pick", "([II)[I"⟩ : MethodName) method_3_code 5 (some (.array .int)) :: ws) ({ frames := 0, cells := 1, slots := 5, locals := 0 } : Room)) (fun a U => a = #[(.ref a0), (.int p1)] ∧ Z.Warmed39 U.vm ∧ U.heap = h0) (fun _ _ _ _ _ => True) (fun _ U o U' => ∃ v L, o = .returned v ∧ own_Q2 Z a0 p1 k_a0 u0 u1 u2 u3 u4 h0 n0 v U'.heap L ∧ FrameEnd U o U' L ({ frames := 0, cells := 1, slots := 5, locals := 0 } : Room).cells ({ frames := 0, cells := 1, slots := 5, locals := 0 } : Room).slots) := by
  refine MetFree.of_bodySF (plainFor_of_name own_pn0) hisR ?_
  intro p e s m args below meth c s₁ Bd hml0 hP hK
  obtain ⟨rfl, hZ, hh⟩ := hP
  have hx := Bd.exec
  have hby := Bd.bytes
  have hml : c.maxLocals = 5 := hml0
  have hown : s.vm.findClass "com/example/strict_anon/strictanon/service/RecordSetsDifferencePinLaw" = some m.cls := findClass_of_methodNamed Bd.named
  have hnm := (name_of_methodNamed Bd.named Bd.method).1
  have X0 : Stand p l e ({ frames := 0, cells := 1, slots := 5, locals := 0 } : Room) s m #[(.ref a0), (.int p1)] below meth c s₁ [] 0 0 := Stand.of_body Bd
  have e0 : s₁.heap = h0 := by rw [← hh, Bd.state]; rfl
  have N0 := Fr.nil n0
  have pre0 : ∀ t, Steps p.tables e below (s₁.setTop (mkF m 0 #[oa a0, oi p1, .unset, .unset, .unset] [])) t → Steps p.tables e below (s₁.setTop (entryFrame m #[(.ref a0), (.int p1)] 5)) t := fun t k => castTop (own_ef2 m a0 p1) k
  have pre1 : ∀ t, Steps p.tables e below (s₁.setTop (mkF m 0 #[oa a0, oi (6 : Int32), .unset, .unset, .unset] [])) t → Steps p.tables e below (s₁.setTop (entryFrame m #[(.ref a0), (.int p1)] 5)) t := by
    intro t k
    refine pre0 t ?_
    rw [km]
    exact k
  obtain ⟨T2, h2, k2, X2, e2, E2, A2, B2, st2⟩ := newPE X0 hx hZ (hw _ (List.mem_of_getElem? (i := 6) rfl)) e0 (g := (mkF m 29 #[oa a0, oi (6 : Int32), oi (2 : Int32), .unset, .unset] [(.int (2 : Int32))])) rfl (hb hby own_d2_29) rfl (by decide) (cap := 2) (by decide) (by decide) (by decide) (by decide) (ad := "[I") rfl
  obtain ⟨b2, g2⟩ : ∃ z, z = h0.size := ⟨_, rfl⟩
  rw [← g2] at A2 st2 B2
  have g_b2 : n0 ≤ b2 := Nat.le_trans Z0 (Nat.le_of_eq g2.symm)
  have ne3 : a0 ≠ b2 := Nat.ne_of_lt (Nat.lt_of_lt_of_le V_a0.lt (Nat.le_of_eq g2.symm))
  have Z2 : n0 ≤ h2.size := Nat.le_trans Z0 E2.1
  have sz_b2 : h0.size ≤ b2 := Nat.le_trans (Keep.refl h0 []).1 (Nat.le_of_eq g2.symm)
  have K_4 : Keep h0 h2 [] := (Keep.refl h0 []).ext E2
  have F5 := V_a0.ext E2
  have V_6 : Arv Z h2 b2 k2 .int (2 : Int32) [(.int (0 : Int32)), (.int (0 : Int32))] (.int (0 : Int32)) := (Arv.new A2 (by decide)).pad (pad_rep [] (.int (0 : Int32)) 2)
  have b7 : (0 : Int32) = (0 : Int32) := (by decide)
  have b8 : ¬ ((2 : Int32) = (0 : Int32)) := (by decide)
  obtain ⟨T9, h9, X9, e9, W9, V9, st9⟩ := oStI X2 hx hZ e2 V_6 (j := (0 : Int32)) ⟨by decide, by decide⟩ 0 rfl (Nat.le_of_ble_eq_true rfl) (g := (mkF m 63 #[oa a0, oi (6 : Int32), oi (2 : Int32), oa b2, oi (0 : Int32)] [(.int u1), (.int (0 : Int32)), (.ref b2)])) rfl rfl (hb hby own_d2_63)
  obtain ⟨Lo9, X9, N9⟩ := oOpq X9 (Fr.snoc X9 N0 g_b2)
  have Z9 := Nat.le_trans Z2 (Keep.of_wr W9).1
  have F10 := F5.other W9 ne3
  have F11 := B2.wr W9
  have V_12 : Arv Z h9 b2 k2 .int (2 : Int32) [(.int u1), (.int (0 : Int32))] (.int (0 : Int32)) := V9
  have K_13 : Keep h0 h9 [] := K_4.wr W9 (Or.inr sz_b2)
  have b14 : ¬ ((4 : Int32) = (0 : Int32)) := (by decide)
  obtain ⟨T15, h15, X15, e15, W15, V15, st15⟩ := oStI X9 hx hZ e9 V_12 (j := (1 : Int32)) ⟨by decide, by decide⟩ 1 rfl (Nat.le_of_ble_eq_true rfl) (g := (mkF m 79 #[oa a0, oi (6 : Int32), oi (2 : Int32), oa b2, oi (1 : Int32)] [(.int u2), (.int (1 : Int32)), (.ref b2)])) rfl rfl (hb hby own_d2_79)
  obtain ⟨Lo15, X15, N15⟩ := oOpq X15 (Fr.snoc X15 N9 g_b2)
  have Z15 := Nat.le_trans Z9 (Keep.of_wr W15).1
  have F16 := F10.other W15 ne3
  have F17 := F11.wr W15
  have V_18 : Arv Z h15 b2 k2 .int (2 : Int32) [(.int u1), (.int u2)] (.int (0 : Int32)) := V15
  have K_19 : Keep h0 h15 [] := K_13.wr W15 (Or.inr sz_b2)
  have b20 : (0 : Int32) = (0 : Int32) := (by decide)
  have b21 : (0 : Int32) = (0 : Int32) := (by decide)
  obtain ⟨fs, hr, hrun, hended, hW, hsame⟩ := X15.leave (v := (some (.ref b2))) (fun h => by rw [Bd.returns] at h; cases h)
  refine ⟨_, _, pre1 _ ?_, hrun, hended, _, _, rfl, ?_, ⟨_, rfl⟩, hW, hsame.mono (by decide) (by decide)⟩
  · show oS p e below s₁ m 0 #[oa a0, oi (6 : Int32), .unset, .unset, .unset] [] _
    refine XS.iloadN X0.here hx rfl (hb hby own_d2_0) rfl ?_
    refine XS.iconst X0.here hx rfl (hb hby own_d2_1) ?_
    refine XS.iand X0.here hx rfl (hb hby own_d2_2) rfl ?_
    refine XS.iloadN X0.here hx rfl (hb hby own_d2_3) rfl ?_
    show oS p e below s₁ m 4 #[oa a0, oi (6 : Int32), .unset, .unset, .unset] [(.int (6 : Int32)), (.int (0 : Int32))] _
    refine XS.iconst X0.here hx rfl (hb hby own_d2_4) ?_
    show oS p e below s₁ m 5 #[oa a0, oi (6 : Int32), .unset, .unset, .unset] [(.int (1 : Int32)), (.int (6 : Int32)), (.int (0 : Int32))] _
    refine XS.iushr X0.here hx rfl (hb hby own_d2_5) rfl ?_
    refine XS.iconst X0.here hx rfl (hb hby own_d2_6) ?_
    refine XS.iand X0.here hx rfl (hb hby own_d2_7) rfl ?_
    refine XS.iadd X0.here hx rfl (hb hby own_d2_8) rfl ?_
    show oS p e below s₁ m 9 #[oa a0, oi (6 : Int32), .unset, .unset, .unset] [(.int (1 : Int32))] _
    refine XS.iloadN X0.here hx rfl (hb hby own_d2_9) rfl ?_
    refine XS.iconst X0.here hx rfl (hb hby own_d2_10) ?_
    show oS p e below s₁ m 11 #[oa a0, oi (6 : Int32), .unset, .unset, .unset] [(.int (2 : Int32)), (.int (6 : Int32)), (.int (1 : Int32))] _
    refine XS.iushr X0.here hx rfl (hb hby own_d2_11) rfl ?_
    refine XS.iconst X0.here hx rfl (hb hby own_d2_12) ?_
    refine XS.iand X0.here hx rfl (hb hby own_d2_13) rfl ?_
    refine XS.iadd X0.here hx rfl (hb hby own_d2_14) rfl ?_
    show oS p e below s₁ m 15 #[oa a0, oi (6 : Int32), .unset, .unset, .unset] [(.int (2 : Int32))] _
    refine XS.iloadN X0.here hx rfl (hb hby own_d2_15) rfl ?_
    refine XS.iconst X0.here hx rfl (hb hby own_d2_16) ?_
    show oS p e below s₁ m 17 #[oa a0, oi (6 : Int32), .unset, .unset, .unset] [(.int (3 : Int32)), (.int (6 : Int32)), (.int (2 : Int32))] _
    refine XS.iushr X0.here hx rfl (hb hby own_d2_17) rfl ?_
    refine XS.iconst X0.here hx rfl (hb hby own_d2_18) ?_
    refine XS.iand X0.here hx rfl (hb hby own_d2_19) rfl ?_
    refine XS.iadd X0.here hx rfl (hb hby own_d2_20) rfl ?_
    show oS p e below s₁ m 21 #[oa a0, oi (6 : Int32), .unset, .unset, .unset] [(.int (2 : Int32))] _
    refine XS.iloadN X0.here hx rfl (hb hby own_d2_21) rfl ?_
    refine XS.iconst X0.here hx rfl (hb hby own_d2_22) ?_
    show oS p e below s₁ m 23 #[oa a0, oi (6 : Int32), .unset, .unset, .unset] [(.int (4 : Int32)), (.int (6 : Int32)), (.int (2 : Int32))] _
    refine XS.iushr X0.here hx rfl (hb hby own_d2_23) rfl ?_
    refine XS.iconst X0.here hx rfl (hb hby own_d2_24) ?_
    refine XS.iand X0.here hx rfl (hb hby own_d2_25) rfl ?_
    refine XS.iadd X0.here hx rfl (hb hby own_d2_26) rfl ?_
    show oS p e below s₁ m 27 #[oa a0, oi (6 : Int32), .unset, .unset, .unset] [(.int (2 : Int32))] _
    refine XS.istoreN X0.here hx rfl (hb hby own_d2_27) rfl (l' := #[oa a0, oi (6 : Int32), oi (2 : Int32), .unset, .unset]) rfl ?_
    refine XS.iloadN X0.here hx rfl (hb hby own_d2_28) rfl ?_
    show oS p e below s₁ m 29 #[oa a0, oi (6 : Int32), oi (2 : Int32), .unset, .unset] [(.int (2 : Int32))] _
    refine st2 _ ?_
    show oS p e below T2 m 31 #[oa a0, oi (6 : Int32), oi (2 : Int32), .unset, .unset] [(.ref b2)] _
    refine XS.astoreN X2.here hx rfl (hb hby own_d2_31) rfl rfl (l' := #[oa a0, oi (6 : Int32), oi (2 : Int32), oa b2, .unset]) rfl ?_
    refine XS.iconst X2.here hx rfl (hb hby own_d2_32) ?_
    refine XS.istore X2.here hx rfl (hb hby own_d2_33) rfl (l' := #[oa a0, oi (6 : Int32), oi (2 : Int32), oa b2, oi (0 : Int32)]) rfl ?_
    refine XS.iloadN X2.here hx rfl (hb hby own_d2_35) rfl ?_
    show oS p e below T2 m 36 #[oa a0, oi (6 : Int32), oi (2 : Int32), oa b2, oi (0 : Int32)] [(.int (6 : Int32))] _
    refine XS.iconst X2.here hx rfl (hb hby own_d2_36) ?_
    refine XS.iand X2.here hx rfl (hb hby own_d2_37) rfl ?_
    show oS p e below T2 m 38 #[oa a0, oi (6 : Int32), oi (2 : Int32), oa b2, oi (0 : Int32)] [(.int (0 : Int32))] _
    refine XS.ifYes X2.here hx rfl (pc0 := 38) (pc' := 51) rfl (hb hby own_d2_38) rfl ((if0 _ _).trans (teq b7).1) (by decide) (by decide) ?_
    refine XS.iloadN X2.here hx rfl (hb hby own_d2_51) rfl ?_
    refine XS.iconst X2.here hx rfl (hb hby own_d2_52) ?_
    refine XS.iand X2.here hx rfl (hb hby own_d2_53) rfl ?_
    show oS p e below T2 m 54 #[oa a0, oi (6 : Int32), oi (2 : Int32), oa b2, oi (0 : Int32)] [(.int (2 : Int32))] _
    refine XS.ifNo X2.here hx rfl (hb hby own_d2_54) rfl ((if0 _ _).trans (feq b8).1) ?_
    refine XS.aloadN X2.here hx rfl (hb hby own_d2_57) rfl rfl ?_
    refine XS.iload X2.here hx rfl (hb hby own_d2_58) rfl ?_
    refine XS.aloadN X2.here hx rfl (hb hby own_d2_60) rfl rfl ?_
    show oS p e below T2 m 61 #[oa a0, oi (6 : Int32), oi (2 : Int32), oa b2, oi (0 : Int32)] [(.ref a0), (.int (0 : Int32)), (.ref b2)] _
    refine XS.iconst X2.here hx rfl (hb hby own_d2_61) ?_
    show oS p e below T2 m 62 #[oa a0, oi (6 : Int32), oi (2 : Int32), oa b2, oi (0 : Int32)] [(.int (1 : Int32)), (.ref a0), (.int (0 : Int32)), (.ref b2)] _
    refine oLdI X2 hx hZ e2 F5 (v := (.int u1)) ⟨by decide, by decide⟩ rfl (hb hby own_d2_62) ?_
    show oS p e below T2 m 63 #[oa a0, oi (6 : Int32), oi (2 : Int32), oa b2, oi (0 : Int32)] [(.int u1), (.int (0 : Int32)), (.ref b2)] _
    refine st9 _ ?_
    show oS p e below T9 m 64 #[oa a0, oi (6 : Int32), oi (2 : Int32), oa b2, oi (0 : Int32)] [] _
    refine XS.iinc X9.here hx rfl (hb hby own_d2_64) rfl (l' := #[oa a0, oi (6 : Int32), oi (2 : Int32), oa b2, oi (1 : Int32)]) rfl ?_
    refine XS.iloadN X9.here hx rfl (hb hby own_d2_67) rfl ?_
    refine XS.iconst X9.here hx rfl (hb hby own_d2_68) ?_
    refine XS.iand X9.here hx rfl (hb hby own_d2_69) rfl ?_
    show oS p e below T9 m 70 #[oa a0, oi (6 : Int32), oi (2 : Int32), oa b2, oi (1 : Int32)] [(.int (4 : Int32))] _
    refine XS.ifNo X9.here hx rfl (hb hby own_d2_70) rfl ((if0 _ _).trans (feq b14).1) ?_
    refine XS.aloadN X9.here hx rfl (hb hby own_d2_73) rfl rfl ?_
    refine XS.iload X9.here hx rfl (hb hby own_d2_74) rfl ?_
    refine XS.aloadN X9.here hx rfl (hb hby own_d2_76) rfl rfl ?_
    show oS p e below T9 m 77 #[oa a0, oi (6 : Int32), oi (2 : Int32), oa b2, oi (1 : Int32)] [(.ref a0), (.int (1 : Int32)), (.ref b2)] _
    refine XS.iconst X9.here hx rfl (hb hby own_d2_77) ?_
    show oS p e below T9 m 78 #[oa a0, oi (6 : Int32), oi (2 : Int32), oa b2, oi (1 : Int32)] [(.int (2 : Int32)), (.ref a0), (.int (1 : Int32)), (.ref b2)] _
    refine oLdI X9 hx hZ e9 F10 (v := (.int u2)) ⟨by decide, by decide⟩ rfl (hb hby own_d2_78) ?_
    show oS p e below T9 m 79 #[oa a0, oi (6 : Int32), oi (2 : Int32), oa b2, oi (1 : Int32)] [(.int u2), (.int (1 : Int32)), (.ref b2)] _
    refine st15 _ ?_
    show oS p e below T15 m 80 #[oa a0, oi (6 : Int32), oi (2 : Int32), oa b2, oi (1 : Int32)] [] _
    refine XS.iinc X15.here hx rfl (hb hby own_d2_80) rfl (l' := #[oa a0, oi (6 : Int32), oi (2 : Int32), oa b2, oi (2 : Int32)]) rfl ?_
    refine XS.iloadN X15.here hx rfl (hb hby own_d2_83) rfl ?_
    refine XS.bipush X15.here hx rfl (hb hby own_d2_84) ?_
    refine XS.iand X15.here hx rfl (hb hby own_d2_86) rfl ?_
    show oS p e below T15 m 87 #[oa a0, oi (6 : Int32), oi (2 : Int32), oa b2, oi (2 : Int32)] [(.int (0 : Int32))] _
    refine XS.ifYes X15.here hx rfl (pc0 := 87) (pc' := 100) rfl (hb hby own_d2_87) rfl ((if0 _ _).trans (teq b20).1) (by decide) (by decide) ?_
    refine XS.iloadN X15.here hx rfl (hb hby own_d2_100) rfl ?_
    refine XS.bipush X15.here hx rfl (hb hby own_d2_101) ?_
    refine XS.iand X15.here hx rfl (hb hby own_d2_103) rfl ?_
    show oS p e below T15 m 104 #[oa a0, oi (6 : Int32), oi (2 : Int32), oa b2, oi (2 : Int32)] [(.int (0 : Int32))] _
    refine XS.ifYes X15.here hx rfl (pc0 := 104) (pc' := 117) rfl (hb hby own_d2_104) rfl ((if0 _ _).trans (teq b21).1) (by decide) (by decide) ?_
    refine XS.aloadN X15.here hx rfl (hb hby own_d2_117) rfl rfl ?_
    show oS p e below T15 m 118 #[oa a0, oi (6 : Int32), oi (2 : Int32), oa b2, oi (2 : Int32)] [(.ref b2)] _
    exact retOut X15 hx Bd.returns rfl (Or.inr (Or.inr (Or.inr (Or.inr ⟨rfl, rfl, rfl⟩)))) (hb hby own_d2_118) hr
  · show own_Q2 Z a0 p1 k_a0 u0 u1 u2 u3 u4 h0 n0 _ T15.heap _
    rw [e15]
    refine ⟨b2, k2, rfl, N15, K_19, sz_b2, ?_⟩
    rw [km, show own_z (6 : Int32) = (2 : Int32) by decide +kernel, own_pk, show own_idx (6 : Int32) = [1, 2] by decide +kernel]
    exact V_18
set_option maxRecDepth 65536 in
set_option maxHeartbeats 40000000 in
theorem own_rm2_7 (l : Launch) (Z : State) (av : Array Value) (hw : ∀ d ∈ tables_1, d.before av Z = true) (ws : List Jvm.Cond) (a0 : Addr) (p1 : Int32) (k_a0 : ClassId) (u0 : Int32) (u1 : Int32) (u2 : Int32) (u3 : Int32) (u4 : Int32) (h0 : Heap) (n0 : Nat) (Z0 : n0 ≤ h0.size) (V_a0 : Arv Z h0 a0 k_a0 .int (5 : Int32) [(.int u0), (.int u1), (.int u2), (.int u3), (.int u4)] (.int (0 : Int32))) (km : p1 = (7 : Int32)) :
    MetFree l (⟨"com/example/strict_anon/strictanon/service/RecordSetsDifferencePinLaw", "pick", "([II)[I"⟩ : MethodName) (head1 (Jvm.Cond.code (⟨"com/example/strict_anon/strictanon/service/RecordSetsDifferencePinLaw", "pick", "([II)[I"⟩ : MethodName) method_3_code 5 (some (.array .int)) :: ws) ({ frames := 0, cells := 1, slots := 5, locals := 0 } : Room)) (fun a U => a = #[(.ref a0), (.int p1)] ∧ Z.Warmed39 U.vm ∧ U.heap = h0) (fun _ _ _ _ _ => True) (fun _ U o U' => ∃ v L, o = .returned v ∧ own_Q2 Z a0 p1 k_a0 u0 u1 u2 u3 u4 h0 n0 v U'.heap L ∧ FrameEnd U o U' L ({ frames := 0, cells := 1, slots := 5, locals := 0 } : Room).cells ({ frames := 0, cells := 1, slots := 5, locals := 0 } : Room).slots) := by
  refine MetFree.of_bodySF (plainFor_of_name own_pn0) hisR ?_
  intro p e s m args below meth c s₁ Bd hml0 hP hK
  obtain ⟨rfl, hZ, hh⟩ := hP
  have hx := Bd.exec
  have hby := Bd.bytes
  have hml : c.maxLocals = 5 := hml0
  have hown : s.vm.findClass "com/example/strict_anon/strictanon/service/RecordSetsDifferencePinLaw" = some m.cls := findClass_of_methodNamed Bd.named
  have hnm := (name_of_methodNamed Bd.named Bd.method).1
  have X0 : Stand p l e ({ frames := 0, cells := 1, slots := 5, locals := 0 } : Room) s m #[(.ref a0), (.int p1)] below meth c s₁ [] 0 0 := Stand.of_body Bd
  have e0 : s₁.heap = h0 := by rw [← hh, Bd.state]; rfl
  have N0 := Fr.nil n0
  have pre0 : ∀ t, Steps p.tables e below (s₁.setTop (mkF m 0 #[oa a0, oi p1, .unset, .unset, .unset] [])) t → Steps p.tables e below (s₁.setTop (entryFrame m #[(.ref a0), (.int p1)] 5)) t := fun t k => castTop (own_ef2 m a0 p1) k
  have pre1 : ∀ t, Steps p.tables e below (s₁.setTop (mkF m 0 #[oa a0, oi (7 : Int32), .unset, .unset, .unset] [])) t → Steps p.tables e below (s₁.setTop (entryFrame m #[(.ref a0), (.int p1)] 5)) t := by
    intro t k
    refine pre0 t ?_
    rw [km]
    exact k
  obtain ⟨T2, h2, k2, X2, e2, E2, A2, B2, st2⟩ := newPE X0 hx hZ (hw _ (List.mem_of_getElem? (i := 6) rfl)) e0 (g := (mkF m 29 #[oa a0, oi (7 : Int32), oi (3 : Int32), .unset, .unset] [(.int (3 : Int32))])) rfl (hb hby own_d2_29) rfl (by decide) (cap := 3) (by decide) (by decide) (by decide) (by decide) (ad := "[I") rfl
  obtain ⟨b2, g2⟩ : ∃ z, z = h0.size := ⟨_, rfl⟩
  rw [← g2] at A2 st2 B2
  have g_b2 : n0 ≤ b2 := Nat.le_trans Z0 (Nat.le_of_eq g2.symm)
  have ne3 : a0 ≠ b2 := Nat.ne_of_lt (Nat.lt_of_lt_of_le V_a0.lt (Nat.le_of_eq g2.symm))
  have Z2 : n0 ≤ h2.size := Nat.le_trans Z0 E2.1
  have sz_b2 : h0.size ≤ b2 := Nat.le_trans (Keep.refl h0 []).1 (Nat.le_of_eq g2.symm)
  have K_4 : Keep h0 h2 [] := (Keep.refl h0 []).ext E2
  have F5 := V_a0.ext E2
  have V_6 : Arv Z h2 b2 k2 .int (3 : Int32) [(.int (0 : Int32)), (.int (0 : Int32)), (.int (0 : Int32))] (.int (0 : Int32)) := (Arv.new A2 (by decide)).pad (pad_rep [] (.int (0 : Int32)) 3)
  have b7 : ¬ ((1 : Int32) = (0 : Int32)) := (by decide)
  obtain ⟨T8, h8, X8, e8, W8, V8, st8⟩ := oStI X2 hx hZ e2 V_6 (j := (0 : Int32)) ⟨by decide, by decide⟩ 0 rfl (Nat.le_of_ble_eq_true rfl) (g := (mkF m 47 #[oa a0, oi (7 : Int32), oi (3 : Int32), oa b2, oi (0 : Int32)] [(.int u0), (.int (0 : Int32)), (.ref b2)])) rfl rfl (hb hby own_d2_47)
  obtain ⟨Lo8, X8, N8⟩ := oOpq X8 (Fr.snoc X8 N0 g_b2)
  have Z8 := Nat.le_trans Z2 (Keep.of_wr W8).1
  have F9 := F5.other W8 ne3
  have F10 := B2.wr W8
  have V_11 : Arv Z h8 b2 k2 .int (3 : Int32) [(.int u0), (.int (0 : Int32)), (.int (0 : Int32))] (.int (0 : Int32)) := V8
  have K_12 : Keep h0 h8 [] := K_4.wr W8 (Or.inr sz_b2)
  have b13 : ¬ ((2 : Int32) = (0 : Int32)) := (by decide)
  obtain ⟨T14, h14, X14, e14, W14, V14, st14⟩ := oStI X8 hx hZ e8 V_11 (j := (1 : Int32)) ⟨by decide, by decide⟩ 1 rfl (Nat.le_of_ble_eq_true rfl) (g := (mkF m 63 #[oa a0, oi (7 : Int32), oi (3 : Int32), oa b2, oi (1 : Int32)] [(.int u1), (.int (1 : Int32)), (.ref b2)])) rfl rfl (hb hby own_d2_63)
  obtain ⟨Lo14, X14, N14⟩ := oOpq X14 (Fr.snoc X14 N8 g_b2)
  have Z14 := Nat.le_trans Z8 (Keep.of_wr W14).1
  have F15 := F9.other W14 ne3
  have F16 := F10.wr W14
  have V_17 : Arv Z h14 b2 k2 .int (3 : Int32) [(.int u0), (.int u1), (.int (0 : Int32))] (.int (0 : Int32)) := V14
  have K_18 : Keep h0 h14 [] := K_12.wr W14 (Or.inr sz_b2)
  have b19 : ¬ ((4 : Int32) = (0 : Int32)) := (by decide)
  obtain ⟨T20, h20, X20, e20, W20, V20, st20⟩ := oStI X14 hx hZ e14 V_17 (j := (2 : Int32)) ⟨by decide, by decide⟩ 2 rfl (Nat.le_of_ble_eq_true rfl) (g := (mkF m 79 #[oa a0, oi (7 : Int32), oi (3 : Int32), oa b2, oi (2 : Int32)] [(.int u2), (.int (2 : Int32)), (.ref b2)])) rfl rfl (hb hby own_d2_79)
  obtain ⟨Lo20, X20, N20⟩ := oOpq X20 (Fr.snoc X20 N14 g_b2)
  have Z20 := Nat.le_trans Z14 (Keep.of_wr W20).1
  have F21 := F15.other W20 ne3
  have F22 := F16.wr W20
  have V_23 : Arv Z h20 b2 k2 .int (3 : Int32) [(.int u0), (.int u1), (.int u2)] (.int (0 : Int32)) := V20
  have K_24 : Keep h0 h20 [] := K_18.wr W20 (Or.inr sz_b2)
  have b25 : (0 : Int32) = (0 : Int32) := (by decide)
  have b26 : (0 : Int32) = (0 : Int32) := (by decide)
  obtain ⟨fs, hr, hrun, hended, hW, hsame⟩ := X20.leave (v := (some (.ref b2))) (fun h => by rw [Bd.returns] at h; cases h)
  refine ⟨_, _, pre1 _ ?_, hrun, hended, _, _, rfl, ?_, ⟨_, rfl⟩, hW, hsame.mono (by decide) (by decide)⟩
  · show oS p e below s₁ m 0 #[oa a0, oi (7 : Int32), .unset, .unset, .unset] [] _
    refine XS.iloadN X0.here hx rfl (hb hby own_d2_0) rfl ?_
    refine XS.iconst X0.here hx rfl (hb hby own_d2_1) ?_
    refine XS.iand X0.here hx rfl (hb hby own_d2_2) rfl ?_
    refine XS.iloadN X0.here hx rfl (hb hby own_d2_3) rfl ?_
    show oS p e below s₁ m 4 #[oa a0, oi (7 : Int32), .unset, .unset, .unset] [(.int (7 : Int32)), (.int (1 : Int32))] _
    refine XS.iconst X0.here hx rfl (hb hby own_d2_4) ?_
    show oS p e below s₁ m 5 #[oa a0, oi (7 : Int32), .unset, .unset, .unset] [(.int (1 : Int32)), (.int (7 : Int32)), (.int (1 : Int32))] _
    refine XS.iushr X0.here hx rfl (hb hby own_d2_5) rfl ?_
    refine XS.iconst X0.here hx rfl (hb hby own_d2_6) ?_
    refine XS.iand X0.here hx rfl (hb hby own_d2_7) rfl ?_
    refine XS.iadd X0.here hx rfl (hb hby own_d2_8) rfl ?_
    show oS p e below s₁ m 9 #[oa a0, oi (7 : Int32), .unset, .unset, .unset] [(.int (2 : Int32))] _
    refine XS.iloadN X0.here hx rfl (hb hby own_d2_9) rfl ?_
    refine XS.iconst X0.here hx rfl (hb hby own_d2_10) ?_
    show oS p e below s₁ m 11 #[oa a0, oi (7 : Int32), .unset, .unset, .unset] [(.int (2 : Int32)), (.int (7 : Int32)), (.int (2 : Int32))] _
    refine XS.iushr X0.here hx rfl (hb hby own_d2_11) rfl ?_
    refine XS.iconst X0.here hx rfl (hb hby own_d2_12) ?_
    refine XS.iand X0.here hx rfl (hb hby own_d2_13) rfl ?_
    refine XS.iadd X0.here hx rfl (hb hby own_d2_14) rfl ?_
    show oS p e below s₁ m 15 #[oa a0, oi (7 : Int32), .unset, .unset, .unset] [(.int (3 : Int32))] _
    refine XS.iloadN X0.here hx rfl (hb hby own_d2_15) rfl ?_
    refine XS.iconst X0.here hx rfl (hb hby own_d2_16) ?_
    show oS p e below s₁ m 17 #[oa a0, oi (7 : Int32), .unset, .unset, .unset] [(.int (3 : Int32)), (.int (7 : Int32)), (.int (3 : Int32))] _
    refine XS.iushr X0.here hx rfl (hb hby own_d2_17) rfl ?_
    refine XS.iconst X0.here hx rfl (hb hby own_d2_18) ?_
    refine XS.iand X0.here hx rfl (hb hby own_d2_19) rfl ?_
    refine XS.iadd X0.here hx rfl (hb hby own_d2_20) rfl ?_
    show oS p e below s₁ m 21 #[oa a0, oi (7 : Int32), .unset, .unset, .unset] [(.int (3 : Int32))] _
    refine XS.iloadN X0.here hx rfl (hb hby own_d2_21) rfl ?_
    refine XS.iconst X0.here hx rfl (hb hby own_d2_22) ?_
    show oS p e below s₁ m 23 #[oa a0, oi (7 : Int32), .unset, .unset, .unset] [(.int (4 : Int32)), (.int (7 : Int32)), (.int (3 : Int32))] _
    refine XS.iushr X0.here hx rfl (hb hby own_d2_23) rfl ?_
    refine XS.iconst X0.here hx rfl (hb hby own_d2_24) ?_
    refine XS.iand X0.here hx rfl (hb hby own_d2_25) rfl ?_
    refine XS.iadd X0.here hx rfl (hb hby own_d2_26) rfl ?_
    show oS p e below s₁ m 27 #[oa a0, oi (7 : Int32), .unset, .unset, .unset] [(.int (3 : Int32))] _
    refine XS.istoreN X0.here hx rfl (hb hby own_d2_27) rfl (l' := #[oa a0, oi (7 : Int32), oi (3 : Int32), .unset, .unset]) rfl ?_
    refine XS.iloadN X0.here hx rfl (hb hby own_d2_28) rfl ?_
    show oS p e below s₁ m 29 #[oa a0, oi (7 : Int32), oi (3 : Int32), .unset, .unset] [(.int (3 : Int32))] _
    refine st2 _ ?_
    show oS p e below T2 m 31 #[oa a0, oi (7 : Int32), oi (3 : Int32), .unset, .unset] [(.ref b2)] _
    refine XS.astoreN X2.here hx rfl (hb hby own_d2_31) rfl rfl (l' := #[oa a0, oi (7 : Int32), oi (3 : Int32), oa b2, .unset]) rfl ?_
    refine XS.iconst X2.here hx rfl (hb hby own_d2_32) ?_
    refine XS.istore X2.here hx rfl (hb hby own_d2_33) rfl (l' := #[oa a0, oi (7 : Int32), oi (3 : Int32), oa b2, oi (0 : Int32)]) rfl ?_
    refine XS.iloadN X2.here hx rfl (hb hby own_d2_35) rfl ?_
    show oS p e below T2 m 36 #[oa a0, oi (7 : Int32), oi (3 : Int32), oa b2, oi (0 : Int32)] [(.int (7 : Int32))] _
    refine XS.iconst X2.here hx rfl (hb hby own_d2_36) ?_
    refine XS.iand X2.here hx rfl (hb hby own_d2_37) rfl ?_
    show oS p e below T2 m 38 #[oa a0, oi (7 : Int32), oi (3 : Int32), oa b2, oi (0 : Int32)] [(.int (1 : Int32))] _
    refine XS.ifNo X2.here hx rfl (hb hby own_d2_38) rfl ((if0 _ _).trans (feq b7).1) ?_
    refine XS.aloadN X2.here hx rfl (hb hby own_d2_41) rfl rfl ?_
    refine XS.iload X2.here hx rfl (hb hby own_d2_42) rfl ?_
    refine XS.aloadN X2.here hx rfl (hb hby own_d2_44) rfl rfl ?_
    show oS p e below T2 m 45 #[oa a0, oi (7 : Int32), oi (3 : Int32), oa b2, oi (0 : Int32)] [(.ref a0), (.int (0 : Int32)), (.ref b2)] _
    refine XS.iconst X2.here hx rfl (hb hby own_d2_45) ?_
    show oS p e below T2 m 46 #[oa a0, oi (7 : Int32), oi (3 : Int32), oa b2, oi (0 : Int32)] [(.int (0 : Int32)), (.ref a0), (.int (0 : Int32)), (.ref b2)] _
    refine oLdI X2 hx hZ e2 F5 (v := (.int u0)) ⟨by decide, by decide⟩ rfl (hb hby own_d2_46) ?_
    show oS p e below T2 m 47 #[oa a0, oi (7 : Int32), oi (3 : Int32), oa b2, oi (0 : Int32)] [(.int u0), (.int (0 : Int32)), (.ref b2)] _
    refine st8 _ ?_
    show oS p e below T8 m 48 #[oa a0, oi (7 : Int32), oi (3 : Int32), oa b2, oi (0 : Int32)] [] _
    refine XS.iinc X8.here hx rfl (hb hby own_d2_48) rfl (l' := #[oa a0, oi (7 : Int32), oi (3 : Int32), oa b2, oi (1 : Int32)]) rfl ?_
    refine XS.iloadN X8.here hx rfl (hb hby own_d2_51) rfl ?_
    refine XS.iconst X8.here hx rfl (hb hby own_d2_52) ?_
    refine XS.iand X8.here hx rfl (hb hby own_d2_53) rfl ?_
    show oS p e below T8 m 54 #[oa a0, oi (7 : Int32), oi (3 : Int32), oa b2, oi (1 : Int32)] [(.int (2 : Int32))] _
    refine XS.ifNo X8.here hx rfl (hb hby own_d2_54) rfl ((if0 _ _).trans (feq b13).1) ?_
    refine XS.aloadN X8.here hx rfl (hb hby own_d2_57) rfl rfl ?_
    refine XS.iload X8.here hx rfl (hb hby own_d2_58) rfl ?_
    refine XS.aloadN X8.here hx rfl (hb hby own_d2_60) rfl rfl ?_
    show oS p e below T8 m 61 #[oa a0, oi (7 : Int32), oi (3 : Int32), oa b2, oi (1 : Int32)] [(.ref a0), (.int (1 : Int32)), (.ref b2)] _
    refine XS.iconst X8.here hx rfl (hb hby own_d2_61) ?_
    show oS p e below T8 m 62 #[oa a0, oi (7 : Int32), oi (3 : Int32), oa b2, oi (1 : Int32)] [(.int (1 : Int32)), (.ref a0), (.int (1 : Int32)), (.ref b2)] _
    refine oLdI X8 hx hZ e8 F9 (v := (.int u1)) ⟨by decide, by decide⟩ rfl (hb hby own_d2_62) ?_
    show oS p e below T8 m 63 #[oa a0, oi (7 : Int32), oi (3 : Int32), oa b2, oi (1 : Int32)] [(.int u1), (.int (1 : Int32)), (.ref b2)] _
    refine st14 _ ?_
    show oS p e below T14 m 64 #[oa a0, oi (7 : Int32), oi (3 : Int32), oa b2, oi (1 : Int32)] [] _
    refine XS.iinc X14.here hx rfl (hb hby own_d2_64) rfl (l' := #[oa a0, oi (7 : Int32), oi (3 : Int32), oa b2, oi (2 : Int32)]) rfl ?_
    refine XS.iloadN X14.here hx rfl (hb hby own_d2_67) rfl ?_
    refine XS.iconst X14.here hx rfl (hb hby own_d2_68) ?_
    refine XS.iand X14.here hx rfl (hb hby own_d2_69) rfl ?_
    show oS p e below T14 m 70 #[oa a0, oi (7 : Int32), oi (3 : Int32), oa b2, oi (2 : Int32)] [(.int (4 : Int32))] _
    refine XS.ifNo X14.here hx rfl (hb hby own_d2_70) rfl ((if0 _ _).trans (feq b19).1) ?_
    refine XS.aloadN X14.here hx rfl (hb hby own_d2_73) rfl rfl ?_
    refine XS.iload X14.here hx rfl (hb hby own_d2_74) rfl ?_
    refine XS.aloadN X14.here hx rfl (hb hby own_d2_76) rfl rfl ?_
    show oS p e below T14 m 77 #[oa a0, oi (7 : Int32), oi (3 : Int32), oa b2, oi (2 : Int32)] [(.ref a0), (.int (2 : Int32)), (.ref b2)] _
    refine XS.iconst X14.here hx rfl (hb hby own_d2_77) ?_
    show oS p e below T14 m 78 #[oa a0, oi (7 : Int32), oi (3 : Int32), oa b2, oi (2 : Int32)] [(.int (2 : Int32)), (.ref a0), (.int (2 : Int32)), (.ref b2)] _
    refine oLdI X14 hx hZ e14 F15 (v := (.int u2)) ⟨by decide, by decide⟩ rfl (hb hby own_d2_78) ?_
    show oS p e below T14 m 79 #[oa a0, oi (7 : Int32), oi (3 : Int32), oa b2, oi (2 : Int32)] [(.int u2), (.int (2 : Int32)), (.ref b2)] _
    refine st20 _ ?_
    show oS p e below T20 m 80 #[oa a0, oi (7 : Int32), oi (3 : Int32), oa b2, oi (2 : Int32)] [] _
    refine XS.iinc X20.here hx rfl (hb hby own_d2_80) rfl (l' := #[oa a0, oi (7 : Int32), oi (3 : Int32), oa b2, oi (3 : Int32)]) rfl ?_
    refine XS.iloadN X20.here hx rfl (hb hby own_d2_83) rfl ?_
    refine XS.bipush X20.here hx rfl (hb hby own_d2_84) ?_
    refine XS.iand X20.here hx rfl (hb hby own_d2_86) rfl ?_
    show oS p e below T20 m 87 #[oa a0, oi (7 : Int32), oi (3 : Int32), oa b2, oi (3 : Int32)] [(.int (0 : Int32))] _
    refine XS.ifYes X20.here hx rfl (pc0 := 87) (pc' := 100) rfl (hb hby own_d2_87) rfl ((if0 _ _).trans (teq b25).1) (by decide) (by decide) ?_
    refine XS.iloadN X20.here hx rfl (hb hby own_d2_100) rfl ?_
    refine XS.bipush X20.here hx rfl (hb hby own_d2_101) ?_
    refine XS.iand X20.here hx rfl (hb hby own_d2_103) rfl ?_
    show oS p e below T20 m 104 #[oa a0, oi (7 : Int32), oi (3 : Int32), oa b2, oi (3 : Int32)] [(.int (0 : Int32))] _
    refine XS.ifYes X20.here hx rfl (pc0 := 104) (pc' := 117) rfl (hb hby own_d2_104) rfl ((if0 _ _).trans (teq b26).1) (by decide) (by decide) ?_
    refine XS.aloadN X20.here hx rfl (hb hby own_d2_117) rfl rfl ?_
    show oS p e below T20 m 118 #[oa a0, oi (7 : Int32), oi (3 : Int32), oa b2, oi (3 : Int32)] [(.ref b2)] _
    exact retOut X20 hx Bd.returns rfl (Or.inr (Or.inr (Or.inr (Or.inr ⟨rfl, rfl, rfl⟩)))) (hb hby own_d2_118) hr
  · show own_Q2 Z a0 p1 k_a0 u0 u1 u2 u3 u4 h0 n0 _ T20.heap _
    rw [e20]
    refine ⟨b2, k2, rfl, N20, K_24, sz_b2, ?_⟩
    rw [km, show own_z (7 : Int32) = (3 : Int32) by decide +kernel, own_pk, show own_idx (7 : Int32) = [0, 1, 2] by decide +kernel]
    exact V_23
theorem own_d2_90 : decode method_3_code 90 = .ok (.aload_n 3, 1) := by decide +kernel
theorem own_d2_91 : decode method_3_code 91 = .ok (.iload 4, 2) := by decide +kernel
theorem own_d2_93 : decode method_3_code 93 = .ok (.aload_n 0, 1) := by decide +kernel
theorem own_d2_94 : decode method_3_code 94 = .ok (.iconst 3, 1) := by decide +kernel
theorem own_d2_95 : decode method_3_code 95 = .ok (.iaload, 1) := by decide +kernel
theorem own_d2_96 : decode method_3_code 96 = .ok (.iastore, 1) := by decide +kernel
theorem own_d2_97 : decode method_3_code 97 = .ok (.iinc 4 1, 3) := by decide +kernel
set_option maxRecDepth 65536 in
set_option maxHeartbeats 40000000 in
theorem own_rm2_8 (l : Launch) (Z : State) (av : Array Value) (hw : ∀ d ∈ tables_1, d.before av Z = true) (ws : List Jvm.Cond) (a0 : Addr) (p1 : Int32) (k_a0 : ClassId) (u0 : Int32) (u1 : Int32) (u2 : Int32) (u3 : Int32) (u4 : Int32) (h0 : Heap) (n0 : Nat) (Z0 : n0 ≤ h0.size) (V_a0 : Arv Z h0 a0 k_a0 .int (5 : Int32) [(.int u0), (.int u1), (.int u2), (.int u3), (.int u4)] (.int (0 : Int32))) (km : p1 = (8 : Int32)) :
    MetFree l (⟨"com/example/strict_anon/strictanon/service/RecordSetsDifferencePinLaw", "pick", "([II)[I"⟩ : MethodName) (head1 (Jvm.Cond.code (⟨"com/example/strict_anon/strictanon/service/RecordSetsDifferencePinLaw", "pick", "([II)[I"⟩ : MethodName) method_3_code 5 (some (.array .int)) :: ws) ({ frames := 0, cells := 1, slots := 5, locals := 0 } : Room)) (fun a U => a = #[(.ref a0), (.int p1)] ∧ Z.Warmed39 U.vm ∧ U.heap = h0) (fun _ _ _ _ _ => True) (fun _ U o U' => ∃ v L, o = .returned v ∧ own_Q2 Z a0 p1 k_a0 u0 u1 u2 u3 u4 h0 n0 v U'.heap L ∧ FrameEnd U o U' L ({ frames := 0, cells := 1, slots := 5, locals := 0 } : Room).cells ({ frames := 0, cells := 1, slots := 5, locals := 0 } : Room).slots) := by
  refine MetFree.of_bodySF (plainFor_of_name own_pn0) hisR ?_
  intro p e s m args below meth c s₁ Bd hml0 hP hK
  obtain ⟨rfl, hZ, hh⟩ := hP
  have hx := Bd.exec
  have hby := Bd.bytes
  have hml : c.maxLocals = 5 := hml0
  have hown : s.vm.findClass "com/example/strict_anon/strictanon/service/RecordSetsDifferencePinLaw" = some m.cls := findClass_of_methodNamed Bd.named
  have hnm := (name_of_methodNamed Bd.named Bd.method).1
  have X0 : Stand p l e ({ frames := 0, cells := 1, slots := 5, locals := 0 } : Room) s m #[(.ref a0), (.int p1)] below meth c s₁ [] 0 0 := Stand.of_body Bd
  have e0 : s₁.heap = h0 := by rw [← hh, Bd.state]; rfl
  have N0 := Fr.nil n0
  have pre0 : ∀ t, Steps p.tables e below (s₁.setTop (mkF m 0 #[oa a0, oi p1, .unset, .unset, .unset] [])) t → Steps p.tables e below (s₁.setTop (entryFrame m #[(.ref a0), (.int p1)] 5)) t := fun t k => castTop (own_ef2 m a0 p1) k
  have pre1 : ∀ t, Steps p.tables e below (s₁.setTop (mkF m 0 #[oa a0, oi (8 : Int32), .unset, .unset, .unset] [])) t → Steps p.tables e below (s₁.setTop (entryFrame m #[(.ref a0), (.int p1)] 5)) t := by
    intro t k
    refine pre0 t ?_
    rw [km]
    exact k
  obtain ⟨T2, h2, k2, X2, e2, E2, A2, B2, st2⟩ := newPE X0 hx hZ (hw _ (List.mem_of_getElem? (i := 6) rfl)) e0 (g := (mkF m 29 #[oa a0, oi (8 : Int32), oi (1 : Int32), .unset, .unset] [(.int (1 : Int32))])) rfl (hb hby own_d2_29) rfl (by decide) (cap := 1) (by decide) (by decide) (by decide) (by decide) (ad := "[I") rfl
  obtain ⟨b2, g2⟩ : ∃ z, z = h0.size := ⟨_, rfl⟩
  rw [← g2] at A2 st2 B2
  have g_b2 : n0 ≤ b2 := Nat.le_trans Z0 (Nat.le_of_eq g2.symm)
  have ne3 : a0 ≠ b2 := Nat.ne_of_lt (Nat.lt_of_lt_of_le V_a0.lt (Nat.le_of_eq g2.symm))
  have Z2 : n0 ≤ h2.size := Nat.le_trans Z0 E2.1
  have sz_b2 : h0.size ≤ b2 := Nat.le_trans (Keep.refl h0 []).1 (Nat.le_of_eq g2.symm)
  have K_4 : Keep h0 h2 [] := (Keep.refl h0 []).ext E2
  have F5 := V_a0.ext E2
  have V_6 : Arv Z h2 b2 k2 .int (1 : Int32) [(.int (0 : Int32))] (.int (0 : Int32)) := (Arv.new A2 (by decide)).pad (pad_rep [] (.int (0 : Int32)) 1)
  have b7 : (0 : Int32) = (0 : Int32) := (by decide)
  have b8 : (0 : Int32) = (0 : Int32) := (by decide)
  have b9 : (0 : Int32) = (0 : Int32) := (by decide)
  have b10 : ¬ ((8 : Int32) = (0 : Int32)) := (by decide)
  obtain ⟨T11, h11, X11, e11, W11, V11, st11⟩ := oStI X2 hx hZ e2 V_6 (j := (0 : Int32)) ⟨by decide, by decide⟩ 0 rfl (Nat.le_of_ble_eq_true rfl) (g := (mkF m 96 #[oa a0, oi (8 : Int32), oi (1 : Int32), oa b2, oi (0 : Int32)] [(.int u3), (.int (0 : Int32)), (.ref b2)])) rfl rfl (hb hby own_d2_96)
  obtain ⟨Lo11, X11, N11⟩ := oOpq X11 (Fr.snoc X11 N0 g_b2)
  have Z11 := Nat.le_trans Z2 (Keep.of_wr W11).1
  have F12 := F5.other W11 ne3
  have F13 := B2.wr W11
  have V_14 : Arv Z h11 b2 k2 .int (1 : Int32) [(.int u3)] (.int (0 : Int32)) := V11
  have K_15 : Keep h0 h11 [] := K_4.wr W11 (Or.inr sz_b2)
  have b16 : (0 : Int32) = (0 : Int32) := (by decide)
  obtain ⟨fs, hr, hrun, hended, hW, hsame⟩ := X11.leave (v := (some (.ref b2))) (fun h => by rw [Bd.returns] at h; cases h)
  refine ⟨_, _, pre1 _ ?_, hrun, hended, _, _, rfl, ?_, ⟨_, rfl⟩, hW, hsame.mono (by decide) (by decide)⟩
  · show oS p e below s₁ m 0 #[oa a0, oi (8 : Int32), .unset, .unset, .unset] [] _
    refine XS.iloadN X0.here hx rfl (hb hby own_d2_0) rfl ?_
    refine XS.iconst X0.here hx rfl (hb hby own_d2_1) ?_
    refine XS.iand X0.here hx rfl (hb hby own_d2_2) rfl ?_
    refine XS.iloadN X0.here hx rfl (hb hby own_d2_3) rfl ?_
    show oS p e below s₁ m 4 #[oa a0, oi (8 : Int32), .unset, .unset, .unset] [(.int (8 : Int32)), (.int (0 : Int32))] _
    refine XS.iconst X0.here hx rfl (hb hby own_d2_4) ?_
    show oS p e below s₁ m 5 #[oa a0, oi (8 : Int32), .unset, .unset, .unset] [(.int (1 : Int32)), (.int (8 : Int32)), (.int (0 : Int32))] _
    refine XS.iushr X0.here hx rfl (hb hby own_d2_5) rfl ?_
    refine XS.iconst X0.here hx rfl (hb hby own_d2_6) ?_
    refine XS.iand X0.here hx rfl (hb hby own_d2_7) rfl ?_
    refine XS.iadd X0.here hx rfl (hb hby own_d2_8) rfl ?_
    show oS p e below s₁ m 9 #[oa a0, oi (8 : Int32), .unset, .unset, .unset] [(.int (0 : Int32))] _
    refine XS.iloadN X0.here hx rfl (hb hby own_d2_9) rfl ?_
    refine XS.iconst X0.here hx rfl (hb hby own_d2_10) ?_
    show oS p e below s₁ m 11 #[oa a0, oi (8 : Int32), .unset, .unset, .unset] [(.int (2 : Int32)), (.int (8 : Int32)), (.int (0 : Int32))] _
    refine XS.iushr X0.here hx rfl (hb hby own_d2_11) rfl ?_
    refine XS.iconst X0.here hx rfl (hb hby own_d2_12) ?_
    refine XS.iand X0.here hx rfl (hb hby own_d2_13) rfl ?_
    refine XS.iadd X0.here hx rfl (hb hby own_d2_14) rfl ?_
    show oS p e below s₁ m 15 #[oa a0, oi (8 : Int32), .unset, .unset, .unset] [(.int (0 : Int32))] _
    refine XS.iloadN X0.here hx rfl (hb hby own_d2_15) rfl ?_
    refine XS.iconst X0.here hx rfl (hb hby own_d2_16) ?_
    show oS p e below s₁ m 17 #[oa a0, oi (8 : Int32), .unset, .unset, .unset] [(.int (3 : Int32)), (.int (8 : Int32)), (.int (0 : Int32))] _
    refine XS.iushr X0.here hx rfl (hb hby own_d2_17) rfl ?_
    refine XS.iconst X0.here hx rfl (hb hby own_d2_18) ?_
    refine XS.iand X0.here hx rfl (hb hby own_d2_19) rfl ?_
    refine XS.iadd X0.here hx rfl (hb hby own_d2_20) rfl ?_
    show oS p e below s₁ m 21 #[oa a0, oi (8 : Int32), .unset, .unset, .unset] [(.int (1 : Int32))] _
    refine XS.iloadN X0.here hx rfl (hb hby own_d2_21) rfl ?_
    refine XS.iconst X0.here hx rfl (hb hby own_d2_22) ?_
    show oS p e below s₁ m 23 #[oa a0, oi (8 : Int32), .unset, .unset, .unset] [(.int (4 : Int32)), (.int (8 : Int32)), (.int (1 : Int32))] _
    refine XS.iushr X0.here hx rfl (hb hby own_d2_23) rfl ?_
    refine XS.iconst X0.here hx rfl (hb hby own_d2_24) ?_
    refine XS.iand X0.here hx rfl (hb hby own_d2_25) rfl ?_
    refine XS.iadd X0.here hx rfl (hb hby own_d2_26) rfl ?_
    show oS p e below s₁ m 27 #[oa a0, oi (8 : Int32), .unset, .unset, .unset] [(.int (1 : Int32))] _
    refine XS.istoreN X0.here hx rfl (hb hby own_d2_27) rfl (l' := #[oa a0, oi (8 : Int32), oi (1 : Int32), .unset, .unset]) rfl ?_
    refine XS.iloadN X0.here hx rfl (hb hby own_d2_28) rfl ?_
    show oS p e below s₁ m 29 #[oa a0, oi (8 : Int32), oi (1 : Int32), .unset, .unset] [(.int (1 : Int32))] _
    refine st2 _ ?_
    show oS p e below T2 m 31 #[oa a0, oi (8 : Int32), oi (1 : Int32), .unset, .unset] [(.ref b2)] _
    refine XS.astoreN X2.here hx rfl (hb hby own_d2_31) rfl rfl (l' := #[oa a0, oi (8 : Int32), oi (1 : Int32), oa b2, .unset]) rfl ?_
    refine XS.iconst X2.here hx rfl (hb hby own_d2_32) ?_
    refine XS.istore X2.here hx rfl (hb hby own_d2_33) rfl (l' := #[oa a0, oi (8 : Int32), oi (1 : Int32), oa b2, oi (0 : Int32)]) rfl ?_
    refine XS.iloadN X2.here hx rfl (hb hby own_d2_35) rfl ?_
    show oS p e below T2 m 36 #[oa a0, oi (8 : Int32), oi (1 : Int32), oa b2, oi (0 : Int32)] [(.int (8 : Int32))] _
    refine XS.iconst X2.here hx rfl (hb hby own_d2_36) ?_
    refine XS.iand X2.here hx rfl (hb hby own_d2_37) rfl ?_
    show oS p e below T2 m 38 #[oa a0, oi (8 : Int32), oi (1 : Int32), oa b2, oi (0 : Int32)] [(.int (0 : Int32))] _
    refine XS.ifYes X2.here hx rfl (pc0 := 38) (pc' := 51) rfl (hb hby own_d2_38) rfl ((if0 _ _).trans (teq b7).1) (by decide) (by decide) ?_
    refine XS.iloadN X2.here hx rfl (hb hby own_d2_51) rfl ?_
    refine XS.iconst X2.here hx rfl (hb hby own_d2_52) ?_
    refine XS.iand X2.here hx rfl (hb hby own_d2_53) rfl ?_
    show oS p e below T2 m 54 #[oa a0, oi (8 : Int32), oi (1 : Int32), oa b2, oi (0 : Int32)] [(.int (0 : Int32))] _
    refine XS.ifYes X2.here hx rfl (pc0 := 54) (pc' := 67) rfl (hb hby own_d2_54) rfl ((if0 _ _).trans (teq b8).1) (by decide) (by decide) ?_
    refine XS.iloadN X2.here hx rfl (hb hby own_d2_67) rfl ?_
    refine XS.iconst X2.here hx rfl (hb hby own_d2_68) ?_
    refine XS.iand X2.here hx rfl (hb hby own_d2_69) rfl ?_
    show oS p e below T2 m 70 #[oa a0, oi (8 : Int32), oi (1 : Int32), oa b2, oi (0 : Int32)] [(.int (0 : Int32))] _
    refine XS.ifYes X2.here hx rfl (pc0 := 70) (pc' := 83) rfl (hb hby own_d2_70) rfl ((if0 _ _).trans (teq b9).1) (by decide) (by decide) ?_
    refine XS.iloadN X2.here hx rfl (hb hby own_d2_83) rfl ?_
    refine XS.bipush X2.here hx rfl (hb hby own_d2_84) ?_
    refine XS.iand X2.here hx rfl (hb hby own_d2_86) rfl ?_
    show oS p e below T2 m 87 #[oa a0, oi (8 : Int32), oi (1 : Int32), oa b2, oi (0 : Int32)] [(.int (8 : Int32))] _
    refine XS.ifNo X2.here hx rfl (hb hby own_d2_87) rfl ((if0 _ _).trans (feq b10).1) ?_
    refine XS.aloadN X2.here hx rfl (hb hby own_d2_90) rfl rfl ?_
    refine XS.iload X2.here hx rfl (hb hby own_d2_91) rfl ?_
    refine XS.aloadN X2.here hx rfl (hb hby own_d2_93) rfl rfl ?_
    show oS p e below T2 m 94 #[oa a0, oi (8 : Int32), oi (1 : Int32), oa b2, oi (0 : Int32)] [(.ref a0), (.int (0 : Int32)), (.ref b2)] _
    refine XS.iconst X2.here hx rfl (hb hby own_d2_94) ?_
    show oS p e below T2 m 95 #[oa a0, oi (8 : Int32), oi (1 : Int32), oa b2, oi (0 : Int32)] [(.int (3 : Int32)), (.ref a0), (.int (0 : Int32)), (.ref b2)] _
    refine oLdI X2 hx hZ e2 F5 (v := (.int u3)) ⟨by decide, by decide⟩ rfl (hb hby own_d2_95) ?_
    show oS p e below T2 m 96 #[oa a0, oi (8 : Int32), oi (1 : Int32), oa b2, oi (0 : Int32)] [(.int u3), (.int (0 : Int32)), (.ref b2)] _
    refine st11 _ ?_
    show oS p e below T11 m 97 #[oa a0, oi (8 : Int32), oi (1 : Int32), oa b2, oi (0 : Int32)] [] _
    refine XS.iinc X11.here hx rfl (hb hby own_d2_97) rfl (l' := #[oa a0, oi (8 : Int32), oi (1 : Int32), oa b2, oi (1 : Int32)]) rfl ?_
    refine XS.iloadN X11.here hx rfl (hb hby own_d2_100) rfl ?_
    refine XS.bipush X11.here hx rfl (hb hby own_d2_101) ?_
    refine XS.iand X11.here hx rfl (hb hby own_d2_103) rfl ?_
    show oS p e below T11 m 104 #[oa a0, oi (8 : Int32), oi (1 : Int32), oa b2, oi (1 : Int32)] [(.int (0 : Int32))] _
    refine XS.ifYes X11.here hx rfl (pc0 := 104) (pc' := 117) rfl (hb hby own_d2_104) rfl ((if0 _ _).trans (teq b16).1) (by decide) (by decide) ?_
    refine XS.aloadN X11.here hx rfl (hb hby own_d2_117) rfl rfl ?_
    show oS p e below T11 m 118 #[oa a0, oi (8 : Int32), oi (1 : Int32), oa b2, oi (1 : Int32)] [(.ref b2)] _
    exact retOut X11 hx Bd.returns rfl (Or.inr (Or.inr (Or.inr (Or.inr ⟨rfl, rfl, rfl⟩)))) (hb hby own_d2_118) hr
  · show own_Q2 Z a0 p1 k_a0 u0 u1 u2 u3 u4 h0 n0 _ T11.heap _
    rw [e11]
    refine ⟨b2, k2, rfl, N11, K_15, sz_b2, ?_⟩
    rw [km, show own_z (8 : Int32) = (1 : Int32) by decide +kernel, own_pk, show own_idx (8 : Int32) = [3] by decide +kernel]
    exact V_14
set_option maxRecDepth 65536 in
set_option maxHeartbeats 40000000 in
theorem own_rm2_9 (l : Launch) (Z : State) (av : Array Value) (hw : ∀ d ∈ tables_1, d.before av Z = true) (ws : List Jvm.Cond) (a0 : Addr) (p1 : Int32) (k_a0 : ClassId) (u0 : Int32) (u1 : Int32) (u2 : Int32) (u3 : Int32) (u4 : Int32) (h0 : Heap) (n0 : Nat) (Z0 : n0 ≤ h0.size) (V_a0 : Arv Z h0 a0 k_a0 .int (5 : Int32) [(.int u0), (.int u1), (.int u2), (.int u3), (.int u4)] (.int (0 : Int32))) (km : p1 = (9 : Int32)) :
    MetFree l (⟨"com/example/strict_anon/strictanon/service/RecordSetsDifferencePinLaw", "pick", "([II)[I"⟩ : MethodName) (head1 (Jvm.Cond.code (⟨"com/example/strict_anon/strictanon/service/RecordSetsDifferencePinLaw", "pick", "([II)[I"⟩ : MethodName) method_3_code 5 (some (.array .int)) :: ws) ({ frames := 0, cells := 1, slots := 5, locals := 0 } : Room)) (fun a U => a = #[(.ref a0), (.int p1)] ∧ Z.Warmed39 U.vm ∧ U.heap = h0) (fun _ _ _ _ _ => True) (fun _ U o U' => ∃ v L, o = .returned v ∧ own_Q2 Z a0 p1 k_a0 u0 u1 u2 u3 u4 h0 n0 v U'.heap L ∧ FrameEnd U o U' L ({ frames := 0, cells := 1, slots := 5, locals := 0 } : Room).cells ({ frames := 0, cells := 1, slots := 5, locals := 0 } : Room).slots) := by
  refine MetFree.of_bodySF (plainFor_of_name own_pn0) hisR ?_
  intro p e s m args below meth c s₁ Bd hml0 hP hK
  obtain ⟨rfl, hZ, hh⟩ := hP
  have hx := Bd.exec
  have hby := Bd.bytes
  have hml : c.maxLocals = 5 := hml0
  have hown : s.vm.findClass "com/example/strict_anon/strictanon/service/RecordSetsDifferencePinLaw" = some m.cls := findClass_of_methodNamed Bd.named
  have hnm := (name_of_methodNamed Bd.named Bd.method).1
  have X0 : Stand p l e ({ frames := 0, cells := 1, slots := 5, locals := 0 } : Room) s m #[(.ref a0), (.int p1)] below meth c s₁ [] 0 0 := Stand.of_body Bd
  have e0 : s₁.heap = h0 := by rw [← hh, Bd.state]; rfl
  have N0 := Fr.nil n0
  have pre0 : ∀ t, Steps p.tables e below (s₁.setTop (mkF m 0 #[oa a0, oi p1, .unset, .unset, .unset] [])) t → Steps p.tables e below (s₁.setTop (entryFrame m #[(.ref a0), (.int p1)] 5)) t := fun t k => castTop (own_ef2 m a0 p1) k
  have pre1 : ∀ t, Steps p.tables e below (s₁.setTop (mkF m 0 #[oa a0, oi (9 : Int32), .unset, .unset, .unset] [])) t → Steps p.tables e below (s₁.setTop (entryFrame m #[(.ref a0), (.int p1)] 5)) t := by
    intro t k
    refine pre0 t ?_
    rw [km]
    exact k
  obtain ⟨T2, h2, k2, X2, e2, E2, A2, B2, st2⟩ := newPE X0 hx hZ (hw _ (List.mem_of_getElem? (i := 6) rfl)) e0 (g := (mkF m 29 #[oa a0, oi (9 : Int32), oi (2 : Int32), .unset, .unset] [(.int (2 : Int32))])) rfl (hb hby own_d2_29) rfl (by decide) (cap := 2) (by decide) (by decide) (by decide) (by decide) (ad := "[I") rfl
  obtain ⟨b2, g2⟩ : ∃ z, z = h0.size := ⟨_, rfl⟩
  rw [← g2] at A2 st2 B2
  have g_b2 : n0 ≤ b2 := Nat.le_trans Z0 (Nat.le_of_eq g2.symm)
  have ne3 : a0 ≠ b2 := Nat.ne_of_lt (Nat.lt_of_lt_of_le V_a0.lt (Nat.le_of_eq g2.symm))
  have Z2 : n0 ≤ h2.size := Nat.le_trans Z0 E2.1
  have sz_b2 : h0.size ≤ b2 := Nat.le_trans (Keep.refl h0 []).1 (Nat.le_of_eq g2.symm)
  have K_4 : Keep h0 h2 [] := (Keep.refl h0 []).ext E2
  have F5 := V_a0.ext E2
  have V_6 : Arv Z h2 b2 k2 .int (2 : Int32) [(.int (0 : Int32)), (.int (0 : Int32))] (.int (0 : Int32)) := (Arv.new A2 (by decide)).pad (pad_rep [] (.int (0 : Int32)) 2)
  have b7 : ¬ ((1 : Int32) = (0 : Int32)) := (by decide)
  obtain ⟨T8, h8, X8, e8, W8, V8, st8⟩ := oStI X2 hx hZ e2 V_6 (j := (0 : Int32)) ⟨by decide, by decide⟩ 0 rfl (Nat.le_of_ble_eq_true rfl) (g := (mkF m 47 #[oa a0, oi (9 : Int32), oi (2 : Int32), oa b2, oi (0 : Int32)] [(.int u0), (.int (0 : Int32)), (.ref b2)])) rfl rfl (hb hby own_d2_47)
  obtain ⟨Lo8, X8, N8⟩ := oOpq X8 (Fr.snoc X8 N0 g_b2)
  have Z8 := Nat.le_trans Z2 (Keep.of_wr W8).1
  have F9 := F5.other W8 ne3
  have F10 := B2.wr W8
  have V_11 : Arv Z h8 b2 k2 .int (2 : Int32) [(.int u0), (.int (0 : Int32))] (.int (0 : Int32)) := V8
  have K_12 : Keep h0 h8 [] := K_4.wr W8 (Or.inr sz_b2)
  have b13 : (0 : Int32) = (0 : Int32) := (by decide)
  have b14 : (0 : Int32) = (0 : Int32) := (by decide)
  have b15 : ¬ ((8 : Int32) = (0 : Int32)) := (by decide)
  obtain ⟨T16, h16, X16, e16, W16, V16, st16⟩ := oStI X8 hx hZ e8 V_11 (j := (1 : Int32)) ⟨by decide, by decide⟩ 1 rfl (Nat.le_of_ble_eq_true rfl) (g := (mkF m 96 #[oa a0, oi (9 : Int32), oi (2 : Int32), oa b2, oi (1 : Int32)] [(.int u3), (.int (1 : Int32)), (.ref b2)])) rfl rfl (hb hby own_d2_96)
  obtain ⟨Lo16, X16, N16⟩ := oOpq X16 (Fr.snoc X16 N8 g_b2)
  have Z16 := Nat.le_trans Z8 (Keep.of_wr W16).1
  have F17 := F9.other W16 ne3
  have F18 := F10.wr W16
  have V_19 : Arv Z h16 b2 k2 .int (2 : Int32) [(.int u0), (.int u3)] (.int (0 : Int32)) := V16
  have K_20 : Keep h0 h16 [] := K_12.wr W16 (Or.inr sz_b2)
  have b21 : (0 : Int32) = (0 : Int32) := (by decide)
  obtain ⟨fs, hr, hrun, hended, hW, hsame⟩ := X16.leave (v := (some (.ref b2))) (fun h => by rw [Bd.returns] at h; cases h)
  refine ⟨_, _, pre1 _ ?_, hrun, hended, _, _, rfl, ?_, ⟨_, rfl⟩, hW, hsame.mono (by decide) (by decide)⟩
  · show oS p e below s₁ m 0 #[oa a0, oi (9 : Int32), .unset, .unset, .unset] [] _
    refine XS.iloadN X0.here hx rfl (hb hby own_d2_0) rfl ?_
    refine XS.iconst X0.here hx rfl (hb hby own_d2_1) ?_
    refine XS.iand X0.here hx rfl (hb hby own_d2_2) rfl ?_
    refine XS.iloadN X0.here hx rfl (hb hby own_d2_3) rfl ?_
    show oS p e below s₁ m 4 #[oa a0, oi (9 : Int32), .unset, .unset, .unset] [(.int (9 : Int32)), (.int (1 : Int32))] _
    refine XS.iconst X0.here hx rfl (hb hby own_d2_4) ?_
    show oS p e below s₁ m 5 #[oa a0, oi (9 : Int32), .unset, .unset, .unset] [(.int (1 : Int32)), (.int (9 : Int32)), (.int (1 : Int32))] _
    refine XS.iushr X0.here hx rfl (hb hby own_d2_5) rfl ?_
    refine XS.iconst X0.here hx rfl (hb hby own_d2_6) ?_
    refine XS.iand X0.here hx rfl (hb hby own_d2_7) rfl ?_
    refine XS.iadd X0.here hx rfl (hb hby own_d2_8) rfl ?_
    show oS p e below s₁ m 9 #[oa a0, oi (9 : Int32), .unset, .unset, .unset] [(.int (1 : Int32))] _
    refine XS.iloadN X0.here hx rfl (hb hby own_d2_9) rfl ?_
    refine XS.iconst X0.here hx rfl (hb hby own_d2_10) ?_
    show oS p e below s₁ m 11 #[oa a0, oi (9 : Int32), .unset, .unset, .unset] [(.int (2 : Int32)), (.int (9 : Int32)), (.int (1 : Int32))] _
    refine XS.iushr X0.here hx rfl (hb hby own_d2_11) rfl ?_
    refine XS.iconst X0.here hx rfl (hb hby own_d2_12) ?_
    refine XS.iand X0.here hx rfl (hb hby own_d2_13) rfl ?_
    refine XS.iadd X0.here hx rfl (hb hby own_d2_14) rfl ?_
    show oS p e below s₁ m 15 #[oa a0, oi (9 : Int32), .unset, .unset, .unset] [(.int (1 : Int32))] _
    refine XS.iloadN X0.here hx rfl (hb hby own_d2_15) rfl ?_
    refine XS.iconst X0.here hx rfl (hb hby own_d2_16) ?_
    show oS p e below s₁ m 17 #[oa a0, oi (9 : Int32), .unset, .unset, .unset] [(.int (3 : Int32)), (.int (9 : Int32)), (.int (1 : Int32))] _
    refine XS.iushr X0.here hx rfl (hb hby own_d2_17) rfl ?_
    refine XS.iconst X0.here hx rfl (hb hby own_d2_18) ?_
    refine XS.iand X0.here hx rfl (hb hby own_d2_19) rfl ?_
    refine XS.iadd X0.here hx rfl (hb hby own_d2_20) rfl ?_
    show oS p e below s₁ m 21 #[oa a0, oi (9 : Int32), .unset, .unset, .unset] [(.int (2 : Int32))] _
    refine XS.iloadN X0.here hx rfl (hb hby own_d2_21) rfl ?_
    refine XS.iconst X0.here hx rfl (hb hby own_d2_22) ?_
    show oS p e below s₁ m 23 #[oa a0, oi (9 : Int32), .unset, .unset, .unset] [(.int (4 : Int32)), (.int (9 : Int32)), (.int (2 : Int32))] _
    refine XS.iushr X0.here hx rfl (hb hby own_d2_23) rfl ?_
    refine XS.iconst X0.here hx rfl (hb hby own_d2_24) ?_
    refine XS.iand X0.here hx rfl (hb hby own_d2_25) rfl ?_
    refine XS.iadd X0.here hx rfl (hb hby own_d2_26) rfl ?_
    show oS p e below s₁ m 27 #[oa a0, oi (9 : Int32), .unset, .unset, .unset] [(.int (2 : Int32))] _
    refine XS.istoreN X0.here hx rfl (hb hby own_d2_27) rfl (l' := #[oa a0, oi (9 : Int32), oi (2 : Int32), .unset, .unset]) rfl ?_
    refine XS.iloadN X0.here hx rfl (hb hby own_d2_28) rfl ?_
    show oS p e below s₁ m 29 #[oa a0, oi (9 : Int32), oi (2 : Int32), .unset, .unset] [(.int (2 : Int32))] _
    refine st2 _ ?_
    show oS p e below T2 m 31 #[oa a0, oi (9 : Int32), oi (2 : Int32), .unset, .unset] [(.ref b2)] _
    refine XS.astoreN X2.here hx rfl (hb hby own_d2_31) rfl rfl (l' := #[oa a0, oi (9 : Int32), oi (2 : Int32), oa b2, .unset]) rfl ?_
    refine XS.iconst X2.here hx rfl (hb hby own_d2_32) ?_
    refine XS.istore X2.here hx rfl (hb hby own_d2_33) rfl (l' := #[oa a0, oi (9 : Int32), oi (2 : Int32), oa b2, oi (0 : Int32)]) rfl ?_
    refine XS.iloadN X2.here hx rfl (hb hby own_d2_35) rfl ?_
    show oS p e below T2 m 36 #[oa a0, oi (9 : Int32), oi (2 : Int32), oa b2, oi (0 : Int32)] [(.int (9 : Int32))] _
    refine XS.iconst X2.here hx rfl (hb hby own_d2_36) ?_
    refine XS.iand X2.here hx rfl (hb hby own_d2_37) rfl ?_
    show oS p e below T2 m 38 #[oa a0, oi (9 : Int32), oi (2 : Int32), oa b2, oi (0 : Int32)] [(.int (1 : Int32))] _
    refine XS.ifNo X2.here hx rfl (hb hby own_d2_38) rfl ((if0 _ _).trans (feq b7).1) ?_
    refine XS.aloadN X2.here hx rfl (hb hby own_d2_41) rfl rfl ?_
    refine XS.iload X2.here hx rfl (hb hby own_d2_42) rfl ?_
    refine XS.aloadN X2.here hx rfl (hb hby own_d2_44) rfl rfl ?_
    show oS p e below T2 m 45 #[oa a0, oi (9 : Int32), oi (2 : Int32), oa b2, oi (0 : Int32)] [(.ref a0), (.int (0 : Int32)), (.ref b2)] _
    refine XS.iconst X2.here hx rfl (hb hby own_d2_45) ?_
    show oS p e below T2 m 46 #[oa a0, oi (9 : Int32), oi (2 : Int32), oa b2, oi (0 : Int32)] [(.int (0 : Int32)), (.ref a0), (.int (0 : Int32)), (.ref b2)] _
    refine oLdI X2 hx hZ e2 F5 (v := (.int u0)) ⟨by decide, by decide⟩ rfl (hb hby own_d2_46) ?_
    show oS p e below T2 m 47 #[oa a0, oi (9 : Int32), oi (2 : Int32), oa b2, oi (0 : Int32)] [(.int u0), (.int (0 : Int32)), (.ref b2)] _
    refine st8 _ ?_
    show oS p e below T8 m 48 #[oa a0, oi (9 : Int32), oi (2 : Int32), oa b2, oi (0 : Int32)] [] _
    refine XS.iinc X8.here hx rfl (hb hby own_d2_48) rfl (l' := #[oa a0, oi (9 : Int32), oi (2 : Int32), oa b2, oi (1 : Int32)]) rfl ?_
    refine XS.iloadN X8.here hx rfl (hb hby own_d2_51) rfl ?_
    refine XS.iconst X8.here hx rfl (hb hby own_d2_52) ?_
    refine XS.iand X8.here hx rfl (hb hby own_d2_53) rfl ?_
    show oS p e below T8 m 54 #[oa a0, oi (9 : Int32), oi (2 : Int32), oa b2, oi (1 : Int32)] [(.int (0 : Int32))] _
    refine XS.ifYes X8.here hx rfl (pc0 := 54) (pc' := 67) rfl (hb hby own_d2_54) rfl ((if0 _ _).trans (teq b13).1) (by decide) (by decide) ?_
    refine XS.iloadN X8.here hx rfl (hb hby own_d2_67) rfl ?_
    refine XS.iconst X8.here hx rfl (hb hby own_d2_68) ?_
    refine XS.iand X8.here hx rfl (hb hby own_d2_69) rfl ?_
    show oS p e below T8 m 70 #[oa a0, oi (9 : Int32), oi (2 : Int32), oa b2, oi (1 : Int32)] [(.int (0 : Int32))] _
    refine XS.ifYes X8.here hx rfl (pc0 := 70) (pc' := 83) rfl (hb hby own_d2_70) rfl ((if0 _ _).trans (teq b14).1) (by decide) (by decide) ?_
    refine XS.iloadN X8.here hx rfl (hb hby own_d2_83) rfl ?_
    refine XS.bipush X8.here hx rfl (hb hby own_d2_84) ?_
    refine XS.iand X8.here hx rfl (hb hby own_d2_86) rfl ?_
    show oS p e below T8 m 87 #[oa a0, oi (9 : Int32), oi (2 : Int32), oa b2, oi (1 : Int32)] [(.int (8 : Int32))] _
    refine XS.ifNo X8.here hx rfl (hb hby own_d2_87) rfl ((if0 _ _).trans (feq b15).1) ?_
    refine XS.aloadN X8.here hx rfl (hb hby own_d2_90) rfl rfl ?_
    refine XS.iload X8.here hx rfl (hb hby own_d2_91) rfl ?_
    refine XS.aloadN X8.here hx rfl (hb hby own_d2_93) rfl rfl ?_
    show oS p e below T8 m 94 #[oa a0, oi (9 : Int32), oi (2 : Int32), oa b2, oi (1 : Int32)] [(.ref a0), (.int (1 : Int32)), (.ref b2)] _
    refine XS.iconst X8.here hx rfl (hb hby own_d2_94) ?_
    show oS p e below T8 m 95 #[oa a0, oi (9 : Int32), oi (2 : Int32), oa b2, oi (1 : Int32)] [(.int (3 : Int32)), (.ref a0), (.int (1 : Int32)), (.ref b2)] _
    refine oLdI X8 hx hZ e8 F9 (v := (.int u3)) ⟨by decide, by decide⟩ rfl (hb hby own_d2_95) ?_
    show oS p e below T8 m 96 #[oa a0, oi (9 : Int32), oi (2 : Int32), oa b2, oi (1 : Int32)] [(.int u3), (.int (1 : Int32)), (.ref b2)] _
    refine st16 _ ?_
    show oS p e below T16 m 97 #[oa a0, oi (9 : Int32), oi (2 : Int32), oa b2, oi (1 : Int32)] [] _
    refine XS.iinc X16.here hx rfl (hb hby own_d2_97) rfl (l' := #[oa a0, oi (9 : Int32), oi (2 : Int32), oa b2, oi (2 : Int32)]) rfl ?_
    refine XS.iloadN X16.here hx rfl (hb hby own_d2_100) rfl ?_
    refine XS.bipush X16.here hx rfl (hb hby own_d2_101) ?_
    refine XS.iand X16.here hx rfl (hb hby own_d2_103) rfl ?_
    show oS p e below T16 m 104 #[oa a0, oi (9 : Int32), oi (2 : Int32), oa b2, oi (2 : Int32)] [(.int (0 : Int32))] _
    refine XS.ifYes X16.here hx rfl (pc0 := 104) (pc' := 117) rfl (hb hby own_d2_104) rfl ((if0 _ _).trans (teq b21).1) (by decide) (by decide) ?_
    refine XS.aloadN X16.here hx rfl (hb hby own_d2_117) rfl rfl ?_
    show oS p e below T16 m 118 #[oa a0, oi (9 : Int32), oi (2 : Int32), oa b2, oi (2 : Int32)] [(.ref b2)] _
    exact retOut X16 hx Bd.returns rfl (Or.inr (Or.inr (Or.inr (Or.inr ⟨rfl, rfl, rfl⟩)))) (hb hby own_d2_118) hr
  · show own_Q2 Z a0 p1 k_a0 u0 u1 u2 u3 u4 h0 n0 _ T16.heap _
    rw [e16]
    refine ⟨b2, k2, rfl, N16, K_20, sz_b2, ?_⟩
    rw [km, show own_z (9 : Int32) = (2 : Int32) by decide +kernel, own_pk, show own_idx (9 : Int32) = [0, 3] by decide +kernel]
    exact V_19
set_option maxRecDepth 65536 in
set_option maxHeartbeats 40000000 in
theorem own_rm2_10 (l : Launch) (Z : State) (av : Array Value) (hw : ∀ d ∈ tables_1, d.before av Z = true) (ws : List Jvm.Cond) (a0 : Addr) (p1 : Int32) (k_a0 : ClassId) (u0 : Int32) (u1 : Int32) (u2 : Int32) (u3 : Int32) (u4 : Int32) (h0 : Heap) (n0 : Nat) (Z0 : n0 ≤ h0.size) (V_a0 : Arv Z h0 a0 k_a0 .int (5 : Int32) [(.int u0), (.int u1), (.int u2), (.int u3), (.int u4)] (.int (0 : Int32))) (km : p1 = (10 : Int32)) :
    MetFree l (⟨"com/example/strict_anon/strictanon/service/RecordSetsDifferencePinLaw", "pick", "([II)[I"⟩ : MethodName) (head1 (Jvm.Cond.code (⟨"com/example/strict_anon/strictanon/service/RecordSetsDifferencePinLaw", "pick", "([II)[I"⟩ : MethodName) method_3_code 5 (some (.array .int)) :: ws) ({ frames := 0, cells := 1, slots := 5, locals := 0 } : Room)) (fun a U => a = #[(.ref a0), (.int p1)] ∧ Z.Warmed39 U.vm ∧ U.heap = h0) (fun _ _ _ _ _ => True) (fun _ U o U' => ∃ v L, o = .returned v ∧ own_Q2 Z a0 p1 k_a0 u0 u1 u2 u3 u4 h0 n0 v U'.heap L ∧ FrameEnd U o U' L ({ frames := 0, cells := 1, slots := 5, locals := 0 } : Room).cells ({ frames := 0, cells := 1, slots := 5, locals := 0 } : Room).slots) := by
  refine MetFree.of_bodySF (plainFor_of_name own_pn0) hisR ?_
  intro p e s m args below meth c s₁ Bd hml0 hP hK
  obtain ⟨rfl, hZ, hh⟩ := hP
  have hx := Bd.exec
  have hby := Bd.bytes
  have hml : c.maxLocals = 5 := hml0
  have hown : s.vm.findClass "com/example/strict_anon/strictanon/service/RecordSetsDifferencePinLaw" = some m.cls := findClass_of_methodNamed Bd.named
  have hnm := (name_of_methodNamed Bd.named Bd.method).1
  have X0 : Stand p l e ({ frames := 0, cells := 1, slots := 5, locals := 0 } : Room) s m #[(.ref a0), (.int p1)] below meth c s₁ [] 0 0 := Stand.of_body Bd
  have e0 : s₁.heap = h0 := by rw [← hh, Bd.state]; rfl
  have N0 := Fr.nil n0
  have pre0 : ∀ t, Steps p.tables e below (s₁.setTop (mkF m 0 #[oa a0, oi p1, .unset, .unset, .unset] [])) t → Steps p.tables e below (s₁.setTop (entryFrame m #[(.ref a0), (.int p1)] 5)) t := fun t k => castTop (own_ef2 m a0 p1) k
  have pre1 : ∀ t, Steps p.tables e below (s₁.setTop (mkF m 0 #[oa a0, oi (10 : Int32), .unset, .unset, .unset] [])) t → Steps p.tables e below (s₁.setTop (entryFrame m #[(.ref a0), (.int p1)] 5)) t := by
    intro t k
    refine pre0 t ?_
    rw [km]
    exact k
  obtain ⟨T2, h2, k2, X2, e2, E2, A2, B2, st2⟩ := newPE X0 hx hZ (hw _ (List.mem_of_getElem? (i := 6) rfl)) e0 (g := (mkF m 29 #[oa a0, oi (10 : Int32), oi (2 : Int32), .unset, .unset] [(.int (2 : Int32))])) rfl (hb hby own_d2_29) rfl (by decide) (cap := 2) (by decide) (by decide) (by decide) (by decide) (ad := "[I") rfl
  obtain ⟨b2, g2⟩ : ∃ z, z = h0.size := ⟨_, rfl⟩
  rw [← g2] at A2 st2 B2
  have g_b2 : n0 ≤ b2 := Nat.le_trans Z0 (Nat.le_of_eq g2.symm)
  have ne3 : a0 ≠ b2 := Nat.ne_of_lt (Nat.lt_of_lt_of_le V_a0.lt (Nat.le_of_eq g2.symm))
  have Z2 : n0 ≤ h2.size := Nat.le_trans Z0 E2.1
  have sz_b2 : h0.size ≤ b2 := Nat.le_trans (Keep.refl h0 []).1 (Nat.le_of_eq g2.symm)
  have K_4 : Keep h0 h2 [] := (Keep.refl h0 []).ext E2
  have F5 := V_a0.ext E2
  have V_6 : Arv Z h2 b2 k2 .int (2 : Int32) [(.int (0 : Int32)), (.int (0 : Int32))] (.int (0 : Int32)) := (Arv.new A2 (by decide)).pad (pad_rep [] (.int (0 : Int32)) 2)
  have b7 : (0 : Int32) = (0 : Int32) := (by decide)
  have b8 : ¬ ((2 : Int32) = (0 : Int32)) := (by decide)
  obtain ⟨T9, h9, X9, e9, W9, V9, st9⟩ := oStI X2 hx hZ e2 V_6 (j := (0 : Int32)) ⟨by decide, by decide⟩ 0 rfl (Nat.le_of_ble_eq_true rfl) (g := (mkF m 63 #[oa a0, oi (10 : Int32), oi (2 : Int32), oa b2, oi (0 : Int32)] [(.int u1), (.int (0 : Int32)), (.ref b2)])) rfl rfl (hb hby own_d2_63)
  obtain ⟨Lo9, X9, N9⟩ := oOpq X9 (Fr.snoc X9 N0 g_b2)
  have Z9 := Nat.le_trans Z2 (Keep.of_wr W9).1
  have F10 := F5.other W9 ne3
  have F11 := B2.wr W9
  have V_12 : Arv Z h9 b2 k2 .int (2 : Int32) [(.int u1), (.int (0 : Int32))] (.int (0 : Int32)) := V9
  have K_13 : Keep h0 h9 [] := K_4.wr W9 (Or.inr sz_b2)
  have b14 : (0 : Int32) = (0 : Int32) := (by decide)
  have b15 : ¬ ((8 : Int32) = (0 : Int32)) := (by decide)
  obtain ⟨T16, h16, X16, e16, W16, V16, st16⟩ := oStI X9 hx hZ e9 V_12 (j := (1 : Int32)) ⟨by decide, by decide⟩ 1 rfl (Nat.le_of_ble_eq_true rfl) (g := (mkF m 96 #[oa a0, oi (10 : Int32), oi (2 : Int32), oa b2, oi (1 : Int32)] [(.int u3), (.int (1 : Int32)), (.ref b2)])) rfl rfl (hb hby own_d2_96)
  obtain ⟨Lo16, X16, N16⟩ := oOpq X16 (Fr.snoc X16 N9 g_b2)
  have Z16 := Nat.le_trans Z9 (Keep.of_wr W16).1
  have F17 := F10.other W16 ne3
  have F18 := F11.wr W16
  have V_19 : Arv Z h16 b2 k2 .int (2 : Int32) [(.int u1), (.int u3)] (.int (0 : Int32)) := V16
  have K_20 : Keep h0 h16 [] := K_13.wr W16 (Or.inr sz_b2)
  have b21 : (0 : Int32) = (0 : Int32) := (by decide)
  obtain ⟨fs, hr, hrun, hended, hW, hsame⟩ := X16.leave (v := (some (.ref b2))) (fun h => by rw [Bd.returns] at h; cases h)
  refine ⟨_, _, pre1 _ ?_, hrun, hended, _, _, rfl, ?_, ⟨_, rfl⟩, hW, hsame.mono (by decide) (by decide)⟩
  · show oS p e below s₁ m 0 #[oa a0, oi (10 : Int32), .unset, .unset, .unset] [] _
    refine XS.iloadN X0.here hx rfl (hb hby own_d2_0) rfl ?_
    refine XS.iconst X0.here hx rfl (hb hby own_d2_1) ?_
    refine XS.iand X0.here hx rfl (hb hby own_d2_2) rfl ?_
    refine XS.iloadN X0.here hx rfl (hb hby own_d2_3) rfl ?_
    show oS p e below s₁ m 4 #[oa a0, oi (10 : Int32), .unset, .unset, .unset] [(.int (10 : Int32)), (.int (0 : Int32))] _
    refine XS.iconst X0.here hx rfl (hb hby own_d2_4) ?_
    show oS p e below s₁ m 5 #[oa a0, oi (10 : Int32), .unset, .unset, .unset] [(.int (1 : Int32)), (.int (10 : Int32)), (.int (0 : Int32))] _
    refine XS.iushr X0.here hx rfl (hb hby own_d2_5) rfl ?_
    refine XS.iconst X0.here hx rfl (hb hby own_d2_6) ?_
    refine XS.iand X0.here hx rfl (hb hby own_d2_7) rfl ?_
    refine XS.iadd X0.here hx rfl (hb hby own_d2_8) rfl ?_
    show oS p e below s₁ m 9 #[oa a0, oi (10 : Int32), .unset, .unset, .unset] [(.int (1 : Int32))] _
    refine XS.iloadN X0.here hx rfl (hb hby own_d2_9) rfl ?_
    refine XS.iconst X0.here hx rfl (hb hby own_d2_10) ?_
    show oS p e below s₁ m 11 #[oa a0, oi (10 : Int32), .unset, .unset, .unset] [(.int (2 : Int32)), (.int (10 : Int32)), (.int (1 : Int32))] _
    refine XS.iushr X0.here hx rfl (hb hby own_d2_11) rfl ?_
    refine XS.iconst X0.here hx rfl (hb hby own_d2_12) ?_
    refine XS.iand X0.here hx rfl (hb hby own_d2_13) rfl ?_
    refine XS.iadd X0.here hx rfl (hb hby own_d2_14) rfl ?_
    show oS p e below s₁ m 15 #[oa a0, oi (10 : Int32), .unset, .unset, .unset] [(.int (1 : Int32))] _
    refine XS.iloadN X0.here hx rfl (hb hby own_d2_15) rfl ?_
    refine XS.iconst X0.here hx rfl (hb hby own_d2_16) ?_
    show oS p e below s₁ m 17 #[oa a0, oi (10 : Int32), .unset, .unset, .unset] [(.int (3 : Int32)), (.int (10 : Int32)), (.int (1 : Int32))] _
    refine XS.iushr X0.here hx rfl (hb hby own_d2_17) rfl ?_
    refine XS.iconst X0.here hx rfl (hb hby own_d2_18) ?_
    refine XS.iand X0.here hx rfl (hb hby own_d2_19) rfl ?_
    refine XS.iadd X0.here hx rfl (hb hby own_d2_20) rfl ?_
    show oS p e below s₁ m 21 #[oa a0, oi (10 : Int32), .unset, .unset, .unset] [(.int (2 : Int32))] _
    refine XS.iloadN X0.here hx rfl (hb hby own_d2_21) rfl ?_
    refine XS.iconst X0.here hx rfl (hb hby own_d2_22) ?_
    show oS p e below s₁ m 23 #[oa a0, oi (10 : Int32), .unset, .unset, .unset] [(.int (4 : Int32)), (.int (10 : Int32)), (.int (2 : Int32))] _
    refine XS.iushr X0.here hx rfl (hb hby own_d2_23) rfl ?_
    refine XS.iconst X0.here hx rfl (hb hby own_d2_24) ?_
    refine XS.iand X0.here hx rfl (hb hby own_d2_25) rfl ?_
    refine XS.iadd X0.here hx rfl (hb hby own_d2_26) rfl ?_
    show oS p e below s₁ m 27 #[oa a0, oi (10 : Int32), .unset, .unset, .unset] [(.int (2 : Int32))] _
    refine XS.istoreN X0.here hx rfl (hb hby own_d2_27) rfl (l' := #[oa a0, oi (10 : Int32), oi (2 : Int32), .unset, .unset]) rfl ?_
    refine XS.iloadN X0.here hx rfl (hb hby own_d2_28) rfl ?_
    show oS p e below s₁ m 29 #[oa a0, oi (10 : Int32), oi (2 : Int32), .unset, .unset] [(.int (2 : Int32))] _
    refine st2 _ ?_
    show oS p e below T2 m 31 #[oa a0, oi (10 : Int32), oi (2 : Int32), .unset, .unset] [(.ref b2)] _
    refine XS.astoreN X2.here hx rfl (hb hby own_d2_31) rfl rfl (l' := #[oa a0, oi (10 : Int32), oi (2 : Int32), oa b2, .unset]) rfl ?_
    refine XS.iconst X2.here hx rfl (hb hby own_d2_32) ?_
    refine XS.istore X2.here hx rfl (hb hby own_d2_33) rfl (l' := #[oa a0, oi (10 : Int32), oi (2 : Int32), oa b2, oi (0 : Int32)]) rfl ?_
    refine XS.iloadN X2.here hx rfl (hb hby own_d2_35) rfl ?_
    show oS p e below T2 m 36 #[oa a0, oi (10 : Int32), oi (2 : Int32), oa b2, oi (0 : Int32)] [(.int (10 : Int32))] _
    refine XS.iconst X2.here hx rfl (hb hby own_d2_36) ?_
    refine XS.iand X2.here hx rfl (hb hby own_d2_37) rfl ?_
    show oS p e below T2 m 38 #[oa a0, oi (10 : Int32), oi (2 : Int32), oa b2, oi (0 : Int32)] [(.int (0 : Int32))] _
    refine XS.ifYes X2.here hx rfl (pc0 := 38) (pc' := 51) rfl (hb hby own_d2_38) rfl ((if0 _ _).trans (teq b7).1) (by decide) (by decide) ?_
    refine XS.iloadN X2.here hx rfl (hb hby own_d2_51) rfl ?_
    refine XS.iconst X2.here hx rfl (hb hby own_d2_52) ?_
    refine XS.iand X2.here hx rfl (hb hby own_d2_53) rfl ?_
    show oS p e below T2 m 54 #[oa a0, oi (10 : Int32), oi (2 : Int32), oa b2, oi (0 : Int32)] [(.int (2 : Int32))] _
    refine XS.ifNo X2.here hx rfl (hb hby own_d2_54) rfl ((if0 _ _).trans (feq b8).1) ?_
    refine XS.aloadN X2.here hx rfl (hb hby own_d2_57) rfl rfl ?_
    refine XS.iload X2.here hx rfl (hb hby own_d2_58) rfl ?_
    refine XS.aloadN X2.here hx rfl (hb hby own_d2_60) rfl rfl ?_
    show oS p e below T2 m 61 #[oa a0, oi (10 : Int32), oi (2 : Int32), oa b2, oi (0 : Int32)] [(.ref a0), (.int (0 : Int32)), (.ref b2)] _
    refine XS.iconst X2.here hx rfl (hb hby own_d2_61) ?_
    show oS p e below T2 m 62 #[oa a0, oi (10 : Int32), oi (2 : Int32), oa b2, oi (0 : Int32)] [(.int (1 : Int32)), (.ref a0), (.int (0 : Int32)), (.ref b2)] _
    refine oLdI X2 hx hZ e2 F5 (v := (.int u1)) ⟨by decide, by decide⟩ rfl (hb hby own_d2_62) ?_
    show oS p e below T2 m 63 #[oa a0, oi (10 : Int32), oi (2 : Int32), oa b2, oi (0 : Int32)] [(.int u1), (.int (0 : Int32)), (.ref b2)] _
    refine st9 _ ?_
    show oS p e below T9 m 64 #[oa a0, oi (10 : Int32), oi (2 : Int32), oa b2, oi (0 : Int32)] [] _
    refine XS.iinc X9.here hx rfl (hb hby own_d2_64) rfl (l' := #[oa a0, oi (10 : Int32), oi (2 : Int32), oa b2, oi (1 : Int32)]) rfl ?_
    refine XS.iloadN X9.here hx rfl (hb hby own_d2_67) rfl ?_
    refine XS.iconst X9.here hx rfl (hb hby own_d2_68) ?_
    refine XS.iand X9.here hx rfl (hb hby own_d2_69) rfl ?_
    show oS p e below T9 m 70 #[oa a0, oi (10 : Int32), oi (2 : Int32), oa b2, oi (1 : Int32)] [(.int (0 : Int32))] _
    refine XS.ifYes X9.here hx rfl (pc0 := 70) (pc' := 83) rfl (hb hby own_d2_70) rfl ((if0 _ _).trans (teq b14).1) (by decide) (by decide) ?_
    refine XS.iloadN X9.here hx rfl (hb hby own_d2_83) rfl ?_
    refine XS.bipush X9.here hx rfl (hb hby own_d2_84) ?_
    refine XS.iand X9.here hx rfl (hb hby own_d2_86) rfl ?_
    show oS p e below T9 m 87 #[oa a0, oi (10 : Int32), oi (2 : Int32), oa b2, oi (1 : Int32)] [(.int (8 : Int32))] _
    refine XS.ifNo X9.here hx rfl (hb hby own_d2_87) rfl ((if0 _ _).trans (feq b15).1) ?_
    refine XS.aloadN X9.here hx rfl (hb hby own_d2_90) rfl rfl ?_
    refine XS.iload X9.here hx rfl (hb hby own_d2_91) rfl ?_
    refine XS.aloadN X9.here hx rfl (hb hby own_d2_93) rfl rfl ?_
    show oS p e below T9 m 94 #[oa a0, oi (10 : Int32), oi (2 : Int32), oa b2, oi (1 : Int32)] [(.ref a0), (.int (1 : Int32)), (.ref b2)] _
    refine XS.iconst X9.here hx rfl (hb hby own_d2_94) ?_
    show oS p e below T9 m 95 #[oa a0, oi (10 : Int32), oi (2 : Int32), oa b2, oi (1 : Int32)] [(.int (3 : Int32)), (.ref a0), (.int (1 : Int32)), (.ref b2)] _
    refine oLdI X9 hx hZ e9 F10 (v := (.int u3)) ⟨by decide, by decide⟩ rfl (hb hby own_d2_95) ?_
    show oS p e below T9 m 96 #[oa a0, oi (10 : Int32), oi (2 : Int32), oa b2, oi (1 : Int32)] [(.int u3), (.int (1 : Int32)), (.ref b2)] _
    refine st16 _ ?_
    show oS p e below T16 m 97 #[oa a0, oi (10 : Int32), oi (2 : Int32), oa b2, oi (1 : Int32)] [] _
    refine XS.iinc X16.here hx rfl (hb hby own_d2_97) rfl (l' := #[oa a0, oi (10 : Int32), oi (2 : Int32), oa b2, oi (2 : Int32)]) rfl ?_
    refine XS.iloadN X16.here hx rfl (hb hby own_d2_100) rfl ?_
    refine XS.bipush X16.here hx rfl (hb hby own_d2_101) ?_
    refine XS.iand X16.here hx rfl (hb hby own_d2_103) rfl ?_
    show oS p e below T16 m 104 #[oa a0, oi (10 : Int32), oi (2 : Int32), oa b2, oi (2 : Int32)] [(.int (0 : Int32))] _
    refine XS.ifYes X16.here hx rfl (pc0 := 104) (pc' := 117) rfl (hb hby own_d2_104) rfl ((if0 _ _).trans (teq b21).1) (by decide) (by decide) ?_
    refine XS.aloadN X16.here hx rfl (hb hby own_d2_117) rfl rfl ?_
    show oS p e below T16 m 118 #[oa a0, oi (10 : Int32), oi (2 : Int32), oa b2, oi (2 : Int32)] [(.ref b2)] _
    exact retOut X16 hx Bd.returns rfl (Or.inr (Or.inr (Or.inr (Or.inr ⟨rfl, rfl, rfl⟩)))) (hb hby own_d2_118) hr
  · show own_Q2 Z a0 p1 k_a0 u0 u1 u2 u3 u4 h0 n0 _ T16.heap _
    rw [e16]
    refine ⟨b2, k2, rfl, N16, K_20, sz_b2, ?_⟩
    rw [km, show own_z (10 : Int32) = (2 : Int32) by decide +kernel, own_pk, show own_idx (10 : Int32) = [1, 3] by decide +kernel]
    exact V_19
set_option maxRecDepth 65536 in
set_option maxHeartbeats 40000000 in
theorem own_rm2_11 (l : Launch) (Z : State) (av : Array Value) (hw : ∀ d ∈ tables_1, d.before av Z = true) (ws : List Jvm.Cond) (a0 : Addr) (p1 : Int32) (k_a0 : ClassId) (u0 : Int32) (u1 : Int32) (u2 : Int32) (u3 : Int32) (u4 : Int32) (h0 : Heap) (n0 : Nat) (Z0 : n0 ≤ h0.size) (V_a0 : Arv Z h0 a0 k_a0 .int (5 : Int32) [(.int u0), (.int u1), (.int u2), (.int u3), (.int u4)] (.int (0 : Int32))) (km : p1 = (11 : Int32)) :
    MetFree l (⟨"com/example/strict_anon/strictanon/service/RecordSetsDifferencePinLaw", "pick", "([II)[I"⟩ : MethodName) (head1 (Jvm.Cond.code (⟨"com/example/strict_anon/strictanon/service/RecordSetsDifferencePinLaw", "pick", "([II)[I"⟩ : MethodName) method_3_code 5 (some (.array .int)) :: ws) ({ frames := 0, cells := 1, slots := 5, locals := 0 } : Room)) (fun a U => a = #[(.ref a0), (.int p1)] ∧ Z.Warmed39 U.vm ∧ U.heap = h0) (fun _ _ _ _ _ => True) (fun _ U o U' => ∃ v L, o = .returned v ∧ own_Q2 Z a0 p1 k_a0 u0 u1 u2 u3 u4 h0 n0 v U'.heap L ∧ FrameEnd U o U' L ({ frames := 0, cells := 1, slots := 5, locals := 0 } : Room).cells ({ frames := 0, cells := 1, slots := 5, locals := 0 } : Room).slots) := by
  refine MetFree.of_bodySF (plainFor_of_name own_pn0) hisR ?_
  intro p e s m args below meth c s₁ Bd hml0 hP hK
  obtain ⟨rfl, hZ, hh⟩ := hP
  have hx := Bd.exec
  have hby := Bd.bytes
  have hml : c.maxLocals = 5 := hml0
  have hown : s.vm.findClass "com/example/strict_anon/strictanon/service/RecordSetsDifferencePinLaw" = some m.cls := findClass_of_methodNamed Bd.named
  have hnm := (name_of_methodNamed Bd.named Bd.method).1
  have X0 : Stand p l e ({ frames := 0, cells := 1, slots := 5, locals := 0 } : Room) s m #[(.ref a0), (.int p1)] below meth c s₁ [] 0 0 := Stand.of_body Bd
  have e0 : s₁.heap = h0 := by rw [← hh, Bd.state]; rfl
  have N0 := Fr.nil n0
  have pre0 : ∀ t, Steps p.tables e below (s₁.setTop (mkF m 0 #[oa a0, oi p1, .unset, .unset, .unset] [])) t → Steps p.tables e below (s₁.setTop (entryFrame m #[(.ref a0), (.int p1)] 5)) t := fun t k => castTop (own_ef2 m a0 p1) k
  have pre1 : ∀ t, Steps p.tables e below (s₁.setTop (mkF m 0 #[oa a0, oi (11 : Int32), .unset, .unset, .unset] [])) t → Steps p.tables e below (s₁.setTop (entryFrame m #[(.ref a0), (.int p1)] 5)) t := by
    intro t k
    refine pre0 t ?_
    rw [km]
    exact k
  obtain ⟨T2, h2, k2, X2, e2, E2, A2, B2, st2⟩ := newPE X0 hx hZ (hw _ (List.mem_of_getElem? (i := 6) rfl)) e0 (g := (mkF m 29 #[oa a0, oi (11 : Int32), oi (3 : Int32), .unset, .unset] [(.int (3 : Int32))])) rfl (hb hby own_d2_29) rfl (by decide) (cap := 3) (by decide) (by decide) (by decide) (by decide) (ad := "[I") rfl
  obtain ⟨b2, g2⟩ : ∃ z, z = h0.size := ⟨_, rfl⟩
  rw [← g2] at A2 st2 B2
  have g_b2 : n0 ≤ b2 := Nat.le_trans Z0 (Nat.le_of_eq g2.symm)
  have ne3 : a0 ≠ b2 := Nat.ne_of_lt (Nat.lt_of_lt_of_le V_a0.lt (Nat.le_of_eq g2.symm))
  have Z2 : n0 ≤ h2.size := Nat.le_trans Z0 E2.1
  have sz_b2 : h0.size ≤ b2 := Nat.le_trans (Keep.refl h0 []).1 (Nat.le_of_eq g2.symm)
  have K_4 : Keep h0 h2 [] := (Keep.refl h0 []).ext E2
  have F5 := V_a0.ext E2
  have V_6 : Arv Z h2 b2 k2 .int (3 : Int32) [(.int (0 : Int32)), (.int (0 : Int32)), (.int (0 : Int32))] (.int (0 : Int32)) := (Arv.new A2 (by decide)).pad (pad_rep [] (.int (0 : Int32)) 3)
  have b7 : ¬ ((1 : Int32) = (0 : Int32)) := (by decide)
  obtain ⟨T8, h8, X8, e8, W8, V8, st8⟩ := oStI X2 hx hZ e2 V_6 (j := (0 : Int32)) ⟨by decide, by decide⟩ 0 rfl (Nat.le_of_ble_eq_true rfl) (g := (mkF m 47 #[oa a0, oi (11 : Int32), oi (3 : Int32), oa b2, oi (0 : Int32)] [(.int u0), (.int (0 : Int32)), (.ref b2)])) rfl rfl (hb hby own_d2_47)
  obtain ⟨Lo8, X8, N8⟩ := oOpq X8 (Fr.snoc X8 N0 g_b2)
  have Z8 := Nat.le_trans Z2 (Keep.of_wr W8).1
  have F9 := F5.other W8 ne3
  have F10 := B2.wr W8
  have V_11 : Arv Z h8 b2 k2 .int (3 : Int32) [(.int u0), (.int (0 : Int32)), (.int (0 : Int32))] (.int (0 : Int32)) := V8
  have K_12 : Keep h0 h8 [] := K_4.wr W8 (Or.inr sz_b2)
  have b13 : ¬ ((2 : Int32) = (0 : Int32)) := (by decide)
  obtain ⟨T14, h14, X14, e14, W14, V14, st14⟩ := oStI X8 hx hZ e8 V_11 (j := (1 : Int32)) ⟨by decide, by decide⟩ 1 rfl (Nat.le_of_ble_eq_true rfl) (g := (mkF m 63 #[oa a0, oi (11 : Int32), oi (3 : Int32), oa b2, oi (1 : Int32)] [(.int u1), (.int (1 : Int32)), (.ref b2)])) rfl rfl (hb hby own_d2_63)
  obtain ⟨Lo14, X14, N14⟩ := oOpq X14 (Fr.snoc X14 N8 g_b2)
  have Z14 := Nat.le_trans Z8 (Keep.of_wr W14).1
  have F15 := F9.other W14 ne3
  have F16 := F10.wr W14
  have V_17 : Arv Z h14 b2 k2 .int (3 : Int32) [(.int u0), (.int u1), (.int (0 : Int32))] (.int (0 : Int32)) := V14
  have K_18 : Keep h0 h14 [] := K_12.wr W14 (Or.inr sz_b2)
  have b19 : (0 : Int32) = (0 : Int32) := (by decide)
  have b20 : ¬ ((8 : Int32) = (0 : Int32)) := (by decide)
  obtain ⟨T21, h21, X21, e21, W21, V21, st21⟩ := oStI X14 hx hZ e14 V_17 (j := (2 : Int32)) ⟨by decide, by decide⟩ 2 rfl (Nat.le_of_ble_eq_true rfl) (g := (mkF m 96 #[oa a0, oi (11 : Int32), oi (3 : Int32), oa b2, oi (2 : Int32)] [(.int u3), (.int (2 : Int32)), (.ref b2)])) rfl rfl (hb hby own_d2_96)
  obtain ⟨Lo21, X21, N21⟩ := oOpq X21 (Fr.snoc X21 N14 g_b2)
  have Z21 := Nat.le_trans Z14 (Keep.of_wr W21).1
  have F22 := F15.other W21 ne3
  have F23 := F16.wr W21
  have V_24 : Arv Z h21 b2 k2 .int (3 : Int32) [(.int u0), (.int u1), (.int u3)] (.int (0 : Int32)) := V21
  have K_25 : Keep h0 h21 [] := K_18.wr W21 (Or.inr sz_b2)
  have b26 : (0 : Int32) = (0 : Int32) := (by decide)
  obtain ⟨fs, hr, hrun, hended, hW, hsame⟩ := X21.leave (v := (some (.ref b2))) (fun h => by rw [Bd.returns] at h; cases h)
  refine ⟨_, _, pre1 _ ?_, hrun, hended, _, _, rfl, ?_, ⟨_, rfl⟩, hW, hsame.mono (by decide) (by decide)⟩
  · show oS p e below s₁ m 0 #[oa a0, oi (11 : Int32), .unset, .unset, .unset] [] _
    refine XS.iloadN X0.here hx rfl (hb hby own_d2_0) rfl ?_
    refine XS.iconst X0.here hx rfl (hb hby own_d2_1) ?_
    refine XS.iand X0.here hx rfl (hb hby own_d2_2) rfl ?_
    refine XS.iloadN X0.here hx rfl (hb hby own_d2_3) rfl ?_
    show oS p e below s₁ m 4 #[oa a0, oi (11 : Int32), .unset, .unset, .unset] [(.int (11 : Int32)), (.int (1 : Int32))] _
    refine XS.iconst X0.here hx rfl (hb hby own_d2_4) ?_
    show oS p e below s₁ m 5 #[oa a0, oi (11 : Int32), .unset, .unset, .unset] [(.int (1 : Int32)), (.int (11 : Int32)), (.int (1 : Int32))] _
    refine XS.iushr X0.here hx rfl (hb hby own_d2_5) rfl ?_
    refine XS.iconst X0.here hx rfl (hb hby own_d2_6) ?_
    refine XS.iand X0.here hx rfl (hb hby own_d2_7) rfl ?_
    refine XS.iadd X0.here hx rfl (hb hby own_d2_8) rfl ?_
    show oS p e below s₁ m 9 #[oa a0, oi (11 : Int32), .unset, .unset, .unset] [(.int (2 : Int32))] _
    refine XS.iloadN X0.here hx rfl (hb hby own_d2_9) rfl ?_
    refine XS.iconst X0.here hx rfl (hb hby own_d2_10) ?_
    show oS p e below s₁ m 11 #[oa a0, oi (11 : Int32), .unset, .unset, .unset] [(.int (2 : Int32)), (.int (11 : Int32)), (.int (2 : Int32))] _
    refine XS.iushr X0.here hx rfl (hb hby own_d2_11) rfl ?_
    refine XS.iconst X0.here hx rfl (hb hby own_d2_12) ?_
    refine XS.iand X0.here hx rfl (hb hby own_d2_13) rfl ?_
    refine XS.iadd X0.here hx rfl (hb hby own_d2_14) rfl ?_
    show oS p e below s₁ m 15 #[oa a0, oi (11 : Int32), .unset, .unset, .unset] [(.int (2 : Int32))] _
    refine XS.iloadN X0.here hx rfl (hb hby own_d2_15) rfl ?_
    refine XS.iconst X0.here hx rfl (hb hby own_d2_16) ?_
    show oS p e below s₁ m 17 #[oa a0, oi (11 : Int32), .unset, .unset, .unset] [(.int (3 : Int32)), (.int (11 : Int32)), (.int (2 : Int32))] _
    refine XS.iushr X0.here hx rfl (hb hby own_d2_17) rfl ?_
    refine XS.iconst X0.here hx rfl (hb hby own_d2_18) ?_
    refine XS.iand X0.here hx rfl (hb hby own_d2_19) rfl ?_
    refine XS.iadd X0.here hx rfl (hb hby own_d2_20) rfl ?_
    show oS p e below s₁ m 21 #[oa a0, oi (11 : Int32), .unset, .unset, .unset] [(.int (3 : Int32))] _
    refine XS.iloadN X0.here hx rfl (hb hby own_d2_21) rfl ?_
    refine XS.iconst X0.here hx rfl (hb hby own_d2_22) ?_
    show oS p e below s₁ m 23 #[oa a0, oi (11 : Int32), .unset, .unset, .unset] [(.int (4 : Int32)), (.int (11 : Int32)), (.int (3 : Int32))] _
    refine XS.iushr X0.here hx rfl (hb hby own_d2_23) rfl ?_
    refine XS.iconst X0.here hx rfl (hb hby own_d2_24) ?_
    refine XS.iand X0.here hx rfl (hb hby own_d2_25) rfl ?_
    refine XS.iadd X0.here hx rfl (hb hby own_d2_26) rfl ?_
    show oS p e below s₁ m 27 #[oa a0, oi (11 : Int32), .unset, .unset, .unset] [(.int (3 : Int32))] _
    refine XS.istoreN X0.here hx rfl (hb hby own_d2_27) rfl (l' := #[oa a0, oi (11 : Int32), oi (3 : Int32), .unset, .unset]) rfl ?_
    refine XS.iloadN X0.here hx rfl (hb hby own_d2_28) rfl ?_
    show oS p e below s₁ m 29 #[oa a0, oi (11 : Int32), oi (3 : Int32), .unset, .unset] [(.int (3 : Int32))] _
    refine st2 _ ?_
    show oS p e below T2 m 31 #[oa a0, oi (11 : Int32), oi (3 : Int32), .unset, .unset] [(.ref b2)] _
    refine XS.astoreN X2.here hx rfl (hb hby own_d2_31) rfl rfl (l' := #[oa a0, oi (11 : Int32), oi (3 : Int32), oa b2, .unset]) rfl ?_
    refine XS.iconst X2.here hx rfl (hb hby own_d2_32) ?_
    refine XS.istore X2.here hx rfl (hb hby own_d2_33) rfl (l' := #[oa a0, oi (11 : Int32), oi (3 : Int32), oa b2, oi (0 : Int32)]) rfl ?_
    refine XS.iloadN X2.here hx rfl (hb hby own_d2_35) rfl ?_
    show oS p e below T2 m 36 #[oa a0, oi (11 : Int32), oi (3 : Int32), oa b2, oi (0 : Int32)] [(.int (11 : Int32))] _
    refine XS.iconst X2.here hx rfl (hb hby own_d2_36) ?_
    refine XS.iand X2.here hx rfl (hb hby own_d2_37) rfl ?_
    show oS p e below T2 m 38 #[oa a0, oi (11 : Int32), oi (3 : Int32), oa b2, oi (0 : Int32)] [(.int (1 : Int32))] _
    refine XS.ifNo X2.here hx rfl (hb hby own_d2_38) rfl ((if0 _ _).trans (feq b7).1) ?_
    refine XS.aloadN X2.here hx rfl (hb hby own_d2_41) rfl rfl ?_
    refine XS.iload X2.here hx rfl (hb hby own_d2_42) rfl ?_
    refine XS.aloadN X2.here hx rfl (hb hby own_d2_44) rfl rfl ?_
    show oS p e below T2 m 45 #[oa a0, oi (11 : Int32), oi (3 : Int32), oa b2, oi (0 : Int32)] [(.ref a0), (.int (0 : Int32)), (.ref b2)] _
    refine XS.iconst X2.here hx rfl (hb hby own_d2_45) ?_
    show oS p e below T2 m 46 #[oa a0, oi (11 : Int32), oi (3 : Int32), oa b2, oi (0 : Int32)] [(.int (0 : Int32)), (.ref a0), (.int (0 : Int32)), (.ref b2)] _
    refine oLdI X2 hx hZ e2 F5 (v := (.int u0)) ⟨by decide, by decide⟩ rfl (hb hby own_d2_46) ?_
    show oS p e below T2 m 47 #[oa a0, oi (11 : Int32), oi (3 : Int32), oa b2, oi (0 : Int32)] [(.int u0), (.int (0 : Int32)), (.ref b2)] _
    refine st8 _ ?_
    show oS p e below T8 m 48 #[oa a0, oi (11 : Int32), oi (3 : Int32), oa b2, oi (0 : Int32)] [] _
    refine XS.iinc X8.here hx rfl (hb hby own_d2_48) rfl (l' := #[oa a0, oi (11 : Int32), oi (3 : Int32), oa b2, oi (1 : Int32)]) rfl ?_
    refine XS.iloadN X8.here hx rfl (hb hby own_d2_51) rfl ?_
    refine XS.iconst X8.here hx rfl (hb hby own_d2_52) ?_
    refine XS.iand X8.here hx rfl (hb hby own_d2_53) rfl ?_
    show oS p e below T8 m 54 #[oa a0, oi (11 : Int32), oi (3 : Int32), oa b2, oi (1 : Int32)] [(.int (2 : Int32))] _
    refine XS.ifNo X8.here hx rfl (hb hby own_d2_54) rfl ((if0 _ _).trans (feq b13).1) ?_
    refine XS.aloadN X8.here hx rfl (hb hby own_d2_57) rfl rfl ?_
    refine XS.iload X8.here hx rfl (hb hby own_d2_58) rfl ?_
    refine XS.aloadN X8.here hx rfl (hb hby own_d2_60) rfl rfl ?_
    show oS p e below T8 m 61 #[oa a0, oi (11 : Int32), oi (3 : Int32), oa b2, oi (1 : Int32)] [(.ref a0), (.int (1 : Int32)), (.ref b2)] _
    refine XS.iconst X8.here hx rfl (hb hby own_d2_61) ?_
    show oS p e below T8 m 62 #[oa a0, oi (11 : Int32), oi (3 : Int32), oa b2, oi (1 : Int32)] [(.int (1 : Int32)), (.ref a0), (.int (1 : Int32)), (.ref b2)] _
    refine oLdI X8 hx hZ e8 F9 (v := (.int u1)) ⟨by decide, by decide⟩ rfl (hb hby own_d2_62) ?_
    show oS p e below T8 m 63 #[oa a0, oi (11 : Int32), oi (3 : Int32), oa b2, oi (1 : Int32)] [(.int u1), (.int (1 : Int32)), (.ref b2)] _
    refine st14 _ ?_
    show oS p e below T14 m 64 #[oa a0, oi (11 : Int32), oi (3 : Int32), oa b2, oi (1 : Int32)] [] _
    refine XS.iinc X14.here hx rfl (hb hby own_d2_64) rfl (l' := #[oa a0, oi (11 : Int32), oi (3 : Int32), oa b2, oi (2 : Int32)]) rfl ?_
    refine XS.iloadN X14.here hx rfl (hb hby own_d2_67) rfl ?_
    refine XS.iconst X14.here hx rfl (hb hby own_d2_68) ?_
    refine XS.iand X14.here hx rfl (hb hby own_d2_69) rfl ?_
    show oS p e below T14 m 70 #[oa a0, oi (11 : Int32), oi (3 : Int32), oa b2, oi (2 : Int32)] [(.int (0 : Int32))] _
    refine XS.ifYes X14.here hx rfl (pc0 := 70) (pc' := 83) rfl (hb hby own_d2_70) rfl ((if0 _ _).trans (teq b19).1) (by decide) (by decide) ?_
    refine XS.iloadN X14.here hx rfl (hb hby own_d2_83) rfl ?_
    refine XS.bipush X14.here hx rfl (hb hby own_d2_84) ?_
    refine XS.iand X14.here hx rfl (hb hby own_d2_86) rfl ?_
    show oS p e below T14 m 87 #[oa a0, oi (11 : Int32), oi (3 : Int32), oa b2, oi (2 : Int32)] [(.int (8 : Int32))] _
    refine XS.ifNo X14.here hx rfl (hb hby own_d2_87) rfl ((if0 _ _).trans (feq b20).1) ?_
    refine XS.aloadN X14.here hx rfl (hb hby own_d2_90) rfl rfl ?_
    refine XS.iload X14.here hx rfl (hb hby own_d2_91) rfl ?_
    refine XS.aloadN X14.here hx rfl (hb hby own_d2_93) rfl rfl ?_
    show oS p e below T14 m 94 #[oa a0, oi (11 : Int32), oi (3 : Int32), oa b2, oi (2 : Int32)] [(.ref a0), (.int (2 : Int32)), (.ref b2)] _
    refine XS.iconst X14.here hx rfl (hb hby own_d2_94) ?_
    show oS p e below T14 m 95 #[oa a0, oi (11 : Int32), oi (3 : Int32), oa b2, oi (2 : Int32)] [(.int (3 : Int32)), (.ref a0), (.int (2 : Int32)), (.ref b2)] _
    refine oLdI X14 hx hZ e14 F15 (v := (.int u3)) ⟨by decide, by decide⟩ rfl (hb hby own_d2_95) ?_
    show oS p e below T14 m 96 #[oa a0, oi (11 : Int32), oi (3 : Int32), oa b2, oi (2 : Int32)] [(.int u3), (.int (2 : Int32)), (.ref b2)] _
    refine st21 _ ?_
    show oS p e below T21 m 97 #[oa a0, oi (11 : Int32), oi (3 : Int32), oa b2, oi (2 : Int32)] [] _
    refine XS.iinc X21.here hx rfl (hb hby own_d2_97) rfl (l' := #[oa a0, oi (11 : Int32), oi (3 : Int32), oa b2, oi (3 : Int32)]) rfl ?_
    refine XS.iloadN X21.here hx rfl (hb hby own_d2_100) rfl ?_
    refine XS.bipush X21.here hx rfl (hb hby own_d2_101) ?_
    refine XS.iand X21.here hx rfl (hb hby own_d2_103) rfl ?_
    show oS p e below T21 m 104 #[oa a0, oi (11 : Int32), oi (3 : Int32), oa b2, oi (3 : Int32)] [(.int (0 : Int32))] _
    refine XS.ifYes X21.here hx rfl (pc0 := 104) (pc' := 117) rfl (hb hby own_d2_104) rfl ((if0 _ _).trans (teq b26).1) (by decide) (by decide) ?_
    refine XS.aloadN X21.here hx rfl (hb hby own_d2_117) rfl rfl ?_
    show oS p e below T21 m 118 #[oa a0, oi (11 : Int32), oi (3 : Int32), oa b2, oi (3 : Int32)] [(.ref b2)] _
    exact retOut X21 hx Bd.returns rfl (Or.inr (Or.inr (Or.inr (Or.inr ⟨rfl, rfl, rfl⟩)))) (hb hby own_d2_118) hr
  · show own_Q2 Z a0 p1 k_a0 u0 u1 u2 u3 u4 h0 n0 _ T21.heap _
    rw [e21]
    refine ⟨b2, k2, rfl, N21, K_25, sz_b2, ?_⟩
    rw [km, show own_z (11 : Int32) = (3 : Int32) by decide +kernel, own_pk, show own_idx (11 : Int32) = [0, 1, 3] by decide +kernel]
    exact V_24
set_option maxRecDepth 65536 in
set_option maxHeartbeats 40000000 in
theorem own_rm2_12 (l : Launch) (Z : State) (av : Array Value) (hw : ∀ d ∈ tables_1, d.before av Z = true) (ws : List Jvm.Cond) (a0 : Addr) (p1 : Int32) (k_a0 : ClassId) (u0 : Int32) (u1 : Int32) (u2 : Int32) (u3 : Int32) (u4 : Int32) (h0 : Heap) (n0 : Nat) (Z0 : n0 ≤ h0.size) (V_a0 : Arv Z h0 a0 k_a0 .int (5 : Int32) [(.int u0), (.int u1), (.int u2), (.int u3), (.int u4)] (.int (0 : Int32))) (km : p1 = (12 : Int32)) :
    MetFree l (⟨"com/example/strict_anon/strictanon/service/RecordSetsDifferencePinLaw", "pick", "([II)[I"⟩ : MethodName) (head1 (Jvm.Cond.code (⟨"com/example/strict_anon/strictanon/service/RecordSetsDifferencePinLaw", "pick", "([II)[I"⟩ : MethodName) method_3_code 5 (some (.array .int)) :: ws) ({ frames := 0, cells := 1, slots := 5, locals := 0 } : Room)) (fun a U => a = #[(.ref a0), (.int p1)] ∧ Z.Warmed39 U.vm ∧ U.heap = h0) (fun _ _ _ _ _ => True) (fun _ U o U' => ∃ v L, o = .returned v ∧ own_Q2 Z a0 p1 k_a0 u0 u1 u2 u3 u4 h0 n0 v U'.heap L ∧ FrameEnd U o U' L ({ frames := 0, cells := 1, slots := 5, locals := 0 } : Room).cells ({ frames := 0, cells := 1, slots := 5, locals := 0 } : Room).slots) := by
  refine MetFree.of_bodySF (plainFor_of_name own_pn0) hisR ?_
  intro p e s m args below meth c s₁ Bd hml0 hP hK
  obtain ⟨rfl, hZ, hh⟩ := hP
  have hx := Bd.exec
  have hby := Bd.bytes
  have hml : c.maxLocals = 5 := hml0
  have hown : s.vm.findClass "com/example/strict_anon/strictanon/service/RecordSetsDifferencePinLaw" = some m.cls := findClass_of_methodNamed Bd.named
  have hnm := (name_of_methodNamed Bd.named Bd.method).1
  have X0 : Stand p l e ({ frames := 0, cells := 1, slots := 5, locals := 0 } : Room) s m #[(.ref a0), (.int p1)] below meth c s₁ [] 0 0 := Stand.of_body Bd
  have e0 : s₁.heap = h0 := by rw [← hh, Bd.state]; rfl
  have N0 := Fr.nil n0
  have pre0 : ∀ t, Steps p.tables e below (s₁.setTop (mkF m 0 #[oa a0, oi p1, .unset, .unset, .unset] [])) t → Steps p.tables e below (s₁.setTop (entryFrame m #[(.ref a0), (.int p1)] 5)) t := fun t k => castTop (own_ef2 m a0 p1) k
  have pre1 : ∀ t, Steps p.tables e below (s₁.setTop (mkF m 0 #[oa a0, oi (12 : Int32), .unset, .unset, .unset] [])) t → Steps p.tables e below (s₁.setTop (entryFrame m #[(.ref a0), (.int p1)] 5)) t := by
    intro t k
    refine pre0 t ?_
    rw [km]
    exact k
  obtain ⟨T2, h2, k2, X2, e2, E2, A2, B2, st2⟩ := newPE X0 hx hZ (hw _ (List.mem_of_getElem? (i := 6) rfl)) e0 (g := (mkF m 29 #[oa a0, oi (12 : Int32), oi (2 : Int32), .unset, .unset] [(.int (2 : Int32))])) rfl (hb hby own_d2_29) rfl (by decide) (cap := 2) (by decide) (by decide) (by decide) (by decide) (ad := "[I") rfl
  obtain ⟨b2, g2⟩ : ∃ z, z = h0.size := ⟨_, rfl⟩
  rw [← g2] at A2 st2 B2
  have g_b2 : n0 ≤ b2 := Nat.le_trans Z0 (Nat.le_of_eq g2.symm)
  have ne3 : a0 ≠ b2 := Nat.ne_of_lt (Nat.lt_of_lt_of_le V_a0.lt (Nat.le_of_eq g2.symm))
  have Z2 : n0 ≤ h2.size := Nat.le_trans Z0 E2.1
  have sz_b2 : h0.size ≤ b2 := Nat.le_trans (Keep.refl h0 []).1 (Nat.le_of_eq g2.symm)
  have K_4 : Keep h0 h2 [] := (Keep.refl h0 []).ext E2
  have F5 := V_a0.ext E2
  have V_6 : Arv Z h2 b2 k2 .int (2 : Int32) [(.int (0 : Int32)), (.int (0 : Int32))] (.int (0 : Int32)) := (Arv.new A2 (by decide)).pad (pad_rep [] (.int (0 : Int32)) 2)
  have b7 : (0 : Int32) = (0 : Int32) := (by decide)
  have b8 : (0 : Int32) = (0 : Int32) := (by decide)
  have b9 : ¬ ((4 : Int32) = (0 : Int32)) := (by decide)
  obtain ⟨T10, h10, X10, e10, W10, V10, st10⟩ := oStI X2 hx hZ e2 V_6 (j := (0 : Int32)) ⟨by decide, by decide⟩ 0 rfl (Nat.le_of_ble_eq_true rfl) (g := (mkF m 79 #[oa a0, oi (12 : Int32), oi (2 : Int32), oa b2, oi (0 : Int32)] [(.int u2), (.int (0 : Int32)), (.ref b2)])) rfl rfl (hb hby own_d2_79)
  obtain ⟨Lo10, X10, N10⟩ := oOpq X10 (Fr.snoc X10 N0 g_b2)
  have Z10 := Nat.le_trans Z2 (Keep.of_wr W10).1
  have F11 := F5.other W10 ne3
  have F12 := B2.wr W10
  have V_13 : Arv Z h10 b2 k2 .int (2 : Int32) [(.int u2), (.int (0 : Int32))] (.int (0 : Int32)) := V10
  have K_14 : Keep h0 h10 [] := K_4.wr W10 (Or.inr sz_b2)
  have b15 : ¬ ((8 : Int32) = (0 : Int32)) := (by decide)
  obtain ⟨T16, h16, X16, e16, W16, V16, st16⟩ := oStI X10 hx hZ e10 V_13 (j := (1 : Int32)) ⟨by decide, by decide⟩ 1 rfl (Nat.le_of_ble_eq_true rfl) (g := (mkF m 96 #[oa a0, oi (12 : Int32), oi (2 : Int32), oa b2, oi (1 : Int32)] [(.int u3), (.int (1 : Int32)), (.ref b2)])) rfl rfl (hb hby own_d2_96)
  obtain ⟨Lo16, X16, N16⟩ := oOpq X16 (Fr.snoc X16 N10 g_b2)
  have Z16 := Nat.le_trans Z10 (Keep.of_wr W16).1
  have F17 := F11.other W16 ne3
  have F18 := F12.wr W16
  have V_19 : Arv Z h16 b2 k2 .int (2 : Int32) [(.int u2), (.int u3)] (.int (0 : Int32)) := V16
  have K_20 : Keep h0 h16 [] := K_14.wr W16 (Or.inr sz_b2)
  have b21 : (0 : Int32) = (0 : Int32) := (by decide)
  obtain ⟨fs, hr, hrun, hended, hW, hsame⟩ := X16.leave (v := (some (.ref b2))) (fun h => by rw [Bd.returns] at h; cases h)
  refine ⟨_, _, pre1 _ ?_, hrun, hended, _, _, rfl, ?_, ⟨_, rfl⟩, hW, hsame.mono (by decide) (by decide)⟩
  · show oS p e below s₁ m 0 #[oa a0, oi (12 : Int32), .unset, .unset, .unset] [] _
    refine XS.iloadN X0.here hx rfl (hb hby own_d2_0) rfl ?_
    refine XS.iconst X0.here hx rfl (hb hby own_d2_1) ?_
    refine XS.iand X0.here hx rfl (hb hby own_d2_2) rfl ?_
    refine XS.iloadN X0.here hx rfl (hb hby own_d2_3) rfl ?_
    show oS p e below s₁ m 4 #[oa a0, oi (12 : Int32), .unset, .unset, .unset] [(.int (12 : Int32)), (.int (0 : Int32))] _
    refine XS.iconst X0.here hx rfl (hb hby own_d2_4) ?_
    show oS p e below s₁ m 5 #[oa a0, oi (12 : Int32), .unset, .unset, .unset] [(.int (1 : Int32)), (.int (12 : Int32)), (.int (0 : Int32))] _
    refine XS.iushr X0.here hx rfl (hb hby own_d2_5) rfl ?_
    refine XS.iconst X0.here hx rfl (hb hby own_d2_6) ?_
    refine XS.iand X0.here hx rfl (hb hby own_d2_7) rfl ?_
    refine XS.iadd X0.here hx rfl (hb hby own_d2_8) rfl ?_
    show oS p e below s₁ m 9 #[oa a0, oi (12 : Int32), .unset, .unset, .unset] [(.int (0 : Int32))] _
    refine XS.iloadN X0.here hx rfl (hb hby own_d2_9) rfl ?_
    refine XS.iconst X0.here hx rfl (hb hby own_d2_10) ?_
    show oS p e below s₁ m 11 #[oa a0, oi (12 : Int32), .unset, .unset, .unset] [(.int (2 : Int32)), (.int (12 : Int32)), (.int (0 : Int32))] _
    refine XS.iushr X0.here hx rfl (hb hby own_d2_11) rfl ?_
    refine XS.iconst X0.here hx rfl (hb hby own_d2_12) ?_
    refine XS.iand X0.here hx rfl (hb hby own_d2_13) rfl ?_
    refine XS.iadd X0.here hx rfl (hb hby own_d2_14) rfl ?_
    show oS p e below s₁ m 15 #[oa a0, oi (12 : Int32), .unset, .unset, .unset] [(.int (1 : Int32))] _
    refine XS.iloadN X0.here hx rfl (hb hby own_d2_15) rfl ?_
    refine XS.iconst X0.here hx rfl (hb hby own_d2_16) ?_
    show oS p e below s₁ m 17 #[oa a0, oi (12 : Int32), .unset, .unset, .unset] [(.int (3 : Int32)), (.int (12 : Int32)), (.int (1 : Int32))] _
    refine XS.iushr X0.here hx rfl (hb hby own_d2_17) rfl ?_
    refine XS.iconst X0.here hx rfl (hb hby own_d2_18) ?_
    refine XS.iand X0.here hx rfl (hb hby own_d2_19) rfl ?_
    refine XS.iadd X0.here hx rfl (hb hby own_d2_20) rfl ?_
    show oS p e below s₁ m 21 #[oa a0, oi (12 : Int32), .unset, .unset, .unset] [(.int (2 : Int32))] _
    refine XS.iloadN X0.here hx rfl (hb hby own_d2_21) rfl ?_
    refine XS.iconst X0.here hx rfl (hb hby own_d2_22) ?_
    show oS p e below s₁ m 23 #[oa a0, oi (12 : Int32), .unset, .unset, .unset] [(.int (4 : Int32)), (.int (12 : Int32)), (.int (2 : Int32))] _
    refine XS.iushr X0.here hx rfl (hb hby own_d2_23) rfl ?_
    refine XS.iconst X0.here hx rfl (hb hby own_d2_24) ?_
    refine XS.iand X0.here hx rfl (hb hby own_d2_25) rfl ?_
    refine XS.iadd X0.here hx rfl (hb hby own_d2_26) rfl ?_
    show oS p e below s₁ m 27 #[oa a0, oi (12 : Int32), .unset, .unset, .unset] [(.int (2 : Int32))] _
    refine XS.istoreN X0.here hx rfl (hb hby own_d2_27) rfl (l' := #[oa a0, oi (12 : Int32), oi (2 : Int32), .unset, .unset]) rfl ?_
    refine XS.iloadN X0.here hx rfl (hb hby own_d2_28) rfl ?_
    show oS p e below s₁ m 29 #[oa a0, oi (12 : Int32), oi (2 : Int32), .unset, .unset] [(.int (2 : Int32))] _
    refine st2 _ ?_
    show oS p e below T2 m 31 #[oa a0, oi (12 : Int32), oi (2 : Int32), .unset, .unset] [(.ref b2)] _
    refine XS.astoreN X2.here hx rfl (hb hby own_d2_31) rfl rfl (l' := #[oa a0, oi (12 : Int32), oi (2 : Int32), oa b2, .unset]) rfl ?_
    refine XS.iconst X2.here hx rfl (hb hby own_d2_32) ?_
    refine XS.istore X2.here hx rfl (hb hby own_d2_33) rfl (l' := #[oa a0, oi (12 : Int32), oi (2 : Int32), oa b2, oi (0 : Int32)]) rfl ?_
    refine XS.iloadN X2.here hx rfl (hb hby own_d2_35) rfl ?_
    show oS p e below T2 m 36 #[oa a0, oi (12 : Int32), oi (2 : Int32), oa b2, oi (0 : Int32)] [(.int (12 : Int32))] _
    refine XS.iconst X2.here hx rfl (hb hby own_d2_36) ?_
    refine XS.iand X2.here hx rfl (hb hby own_d2_37) rfl ?_
    show oS p e below T2 m 38 #[oa a0, oi (12 : Int32), oi (2 : Int32), oa b2, oi (0 : Int32)] [(.int (0 : Int32))] _
    refine XS.ifYes X2.here hx rfl (pc0 := 38) (pc' := 51) rfl (hb hby own_d2_38) rfl ((if0 _ _).trans (teq b7).1) (by decide) (by decide) ?_
    refine XS.iloadN X2.here hx rfl (hb hby own_d2_51) rfl ?_
    refine XS.iconst X2.here hx rfl (hb hby own_d2_52) ?_
    refine XS.iand X2.here hx rfl (hb hby own_d2_53) rfl ?_
    show oS p e below T2 m 54 #[oa a0, oi (12 : Int32), oi (2 : Int32), oa b2, oi (0 : Int32)] [(.int (0 : Int32))] _
    refine XS.ifYes X2.here hx rfl (pc0 := 54) (pc' := 67) rfl (hb hby own_d2_54) rfl ((if0 _ _).trans (teq b8).1) (by decide) (by decide) ?_
    refine XS.iloadN X2.here hx rfl (hb hby own_d2_67) rfl ?_
    refine XS.iconst X2.here hx rfl (hb hby own_d2_68) ?_
    refine XS.iand X2.here hx rfl (hb hby own_d2_69) rfl ?_
    show oS p e below T2 m 70 #[oa a0, oi (12 : Int32), oi (2 : Int32), oa b2, oi (0 : Int32)] [(.int (4 : Int32))] _
    refine XS.ifNo X2.here hx rfl (hb hby own_d2_70) rfl ((if0 _ _).trans (feq b9).1) ?_
    refine XS.aloadN X2.here hx rfl (hb hby own_d2_73) rfl rfl ?_
    refine XS.iload X2.here hx rfl (hb hby own_d2_74) rfl ?_
    refine XS.aloadN X2.here hx rfl (hb hby own_d2_76) rfl rfl ?_
    show oS p e below T2 m 77 #[oa a0, oi (12 : Int32), oi (2 : Int32), oa b2, oi (0 : Int32)] [(.ref a0), (.int (0 : Int32)), (.ref b2)] _
    refine XS.iconst X2.here hx rfl (hb hby own_d2_77) ?_
    show oS p e below T2 m 78 #[oa a0, oi (12 : Int32), oi (2 : Int32), oa b2, oi (0 : Int32)] [(.int (2 : Int32)), (.ref a0), (.int (0 : Int32)), (.ref b2)] _
    refine oLdI X2 hx hZ e2 F5 (v := (.int u2)) ⟨by decide, by decide⟩ rfl (hb hby own_d2_78) ?_
    show oS p e below T2 m 79 #[oa a0, oi (12 : Int32), oi (2 : Int32), oa b2, oi (0 : Int32)] [(.int u2), (.int (0 : Int32)), (.ref b2)] _
    refine st10 _ ?_
    show oS p e below T10 m 80 #[oa a0, oi (12 : Int32), oi (2 : Int32), oa b2, oi (0 : Int32)] [] _
    refine XS.iinc X10.here hx rfl (hb hby own_d2_80) rfl (l' := #[oa a0, oi (12 : Int32), oi (2 : Int32), oa b2, oi (1 : Int32)]) rfl ?_
    refine XS.iloadN X10.here hx rfl (hb hby own_d2_83) rfl ?_
    refine XS.bipush X10.here hx rfl (hb hby own_d2_84) ?_
    refine XS.iand X10.here hx rfl (hb hby own_d2_86) rfl ?_
    show oS p e below T10 m 87 #[oa a0, oi (12 : Int32), oi (2 : Int32), oa b2, oi (1 : Int32)] [(.int (8 : Int32))] _
    refine XS.ifNo X10.here hx rfl (hb hby own_d2_87) rfl ((if0 _ _).trans (feq b15).1) ?_
    refine XS.aloadN X10.here hx rfl (hb hby own_d2_90) rfl rfl ?_
    refine XS.iload X10.here hx rfl (hb hby own_d2_91) rfl ?_
    refine XS.aloadN X10.here hx rfl (hb hby own_d2_93) rfl rfl ?_
    show oS p e below T10 m 94 #[oa a0, oi (12 : Int32), oi (2 : Int32), oa b2, oi (1 : Int32)] [(.ref a0), (.int (1 : Int32)), (.ref b2)] _
    refine XS.iconst X10.here hx rfl (hb hby own_d2_94) ?_
    show oS p e below T10 m 95 #[oa a0, oi (12 : Int32), oi (2 : Int32), oa b2, oi (1 : Int32)] [(.int (3 : Int32)), (.ref a0), (.int (1 : Int32)), (.ref b2)] _
    refine oLdI X10 hx hZ e10 F11 (v := (.int u3)) ⟨by decide, by decide⟩ rfl (hb hby own_d2_95) ?_
    show oS p e below T10 m 96 #[oa a0, oi (12 : Int32), oi (2 : Int32), oa b2, oi (1 : Int32)] [(.int u3), (.int (1 : Int32)), (.ref b2)] _
    refine st16 _ ?_
    show oS p e below T16 m 97 #[oa a0, oi (12 : Int32), oi (2 : Int32), oa b2, oi (1 : Int32)] [] _
    refine XS.iinc X16.here hx rfl (hb hby own_d2_97) rfl (l' := #[oa a0, oi (12 : Int32), oi (2 : Int32), oa b2, oi (2 : Int32)]) rfl ?_
    refine XS.iloadN X16.here hx rfl (hb hby own_d2_100) rfl ?_
    refine XS.bipush X16.here hx rfl (hb hby own_d2_101) ?_
    refine XS.iand X16.here hx rfl (hb hby own_d2_103) rfl ?_
    show oS p e below T16 m 104 #[oa a0, oi (12 : Int32), oi (2 : Int32), oa b2, oi (2 : Int32)] [(.int (0 : Int32))] _
    refine XS.ifYes X16.here hx rfl (pc0 := 104) (pc' := 117) rfl (hb hby own_d2_104) rfl ((if0 _ _).trans (teq b21).1) (by decide) (by decide) ?_
    refine XS.aloadN X16.here hx rfl (hb hby own_d2_117) rfl rfl ?_
    show oS p e below T16 m 118 #[oa a0, oi (12 : Int32), oi (2 : Int32), oa b2, oi (2 : Int32)] [(.ref b2)] _
    exact retOut X16 hx Bd.returns rfl (Or.inr (Or.inr (Or.inr (Or.inr ⟨rfl, rfl, rfl⟩)))) (hb hby own_d2_118) hr
  · show own_Q2 Z a0 p1 k_a0 u0 u1 u2 u3 u4 h0 n0 _ T16.heap _
    rw [e16]
    refine ⟨b2, k2, rfl, N16, K_20, sz_b2, ?_⟩
    rw [km, show own_z (12 : Int32) = (2 : Int32) by decide +kernel, own_pk, show own_idx (12 : Int32) = [2, 3] by decide +kernel]
    exact V_19
set_option maxRecDepth 65536 in
set_option maxHeartbeats 40000000 in
theorem own_rm2_13 (l : Launch) (Z : State) (av : Array Value) (hw : ∀ d ∈ tables_1, d.before av Z = true) (ws : List Jvm.Cond) (a0 : Addr) (p1 : Int32) (k_a0 : ClassId) (u0 : Int32) (u1 : Int32) (u2 : Int32) (u3 : Int32) (u4 : Int32) (h0 : Heap) (n0 : Nat) (Z0 : n0 ≤ h0.size) (V_a0 : Arv Z h0 a0 k_a0 .int (5 : Int32) [(.int u0), (.int u1), (.int u2), (.int u3), (.int u4)] (.int (0 : Int32))) (km : p1 = (13 : Int32)) :
    MetFree l (⟨"com/example/strict_anon/strictanon/service/RecordSetsDifferencePinLaw", "pick", "([II)[I"⟩ : MethodName) (head1 (Jvm.Cond.code (⟨"com/example/strict_anon/strictanon/service/RecordSetsDifferencePinLaw", "pick", "([II)[I"⟩ : MethodName) method_3_code 5 (some (.array .int)) :: ws) ({ frames := 0, cells := 1, slots := 5, locals := 0 } : Room)) (fun a U => a = #[(.ref a0), (.int p1)] ∧ Z.Warmed39 U.vm ∧ U.heap = h0) (fun _ _ _ _ _ => True) (fun _ U o U' => ∃ v L, o = .returned v ∧ own_Q2 Z a0 p1 k_a0 u0 u1 u2 u3 u4 h0 n0 v U'.heap L ∧ FrameEnd U o U' L ({ frames := 0, cells := 1, slots := 5, locals := 0 } : Room).cells ({ frames := 0, cells := 1, slots := 5, locals := 0 } : Room).slots) := by
  refine MetFree.of_bodySF (plainFor_of_name own_pn0) hisR ?_
  intro p e s m args below meth c s₁ Bd hml0 hP hK
  obtain ⟨rfl, hZ, hh⟩ := hP
  have hx := Bd.exec
  have hby := Bd.bytes
  have hml : c.maxLocals = 5 := hml0
  have hown : s.vm.findClass "com/example/strict_anon/strictanon/service/RecordSetsDifferencePinLaw" = some m.cls := findClass_of_methodNamed Bd.named
  have hnm := (name_of_methodNamed Bd.named Bd.method).1
  have X0 : Stand p l e ({ frames := 0, cells := 1, slots := 5, locals := 0 } : Room) s m #[(.ref a0), (.int p1)] below meth c s₁ [] 0 0 := Stand.of_body Bd
  have e0 : s₁.heap = h0 := by rw [← hh, Bd.state]; rfl
  have N0 := Fr.nil n0
  have pre0 : ∀ t, Steps p.tables e below (s₁.setTop (mkF m 0 #[oa a0, oi p1, .unset, .unset, .unset] [])) t → Steps p.tables e below (s₁.setTop (entryFrame m #[(.ref a0), (.int p1)] 5)) t := fun t k => castTop (own_ef2 m a0 p1) k
  have pre1 : ∀ t, Steps p.tables e below (s₁.setTop (mkF m 0 #[oa a0, oi (13 : Int32), .unset, .unset, .unset] [])) t → Steps p.tables e below (s₁.setTop (entryFrame m #[(.ref a0), (.int p1)] 5)) t := by
    intro t k
    refine pre0 t ?_
    rw [km]
    exact k
  obtain ⟨T2, h2, k2, X2, e2, E2, A2, B2, st2⟩ := newPE X0 hx hZ (hw _ (List.mem_of_getElem? (i := 6) rfl)) e0 (g := (mkF m 29 #[oa a0, oi (13 : Int32), oi (3 : Int32), .unset, .unset] [(.int (3 : Int32))])) rfl (hb hby own_d2_29) rfl (by decide) (cap := 3) (by decide) (by decide) (by decide) (by decide) (ad := "[I") rfl
  obtain ⟨b2, g2⟩ : ∃ z, z = h0.size := ⟨_, rfl⟩
  rw [← g2] at A2 st2 B2
  have g_b2 : n0 ≤ b2 := Nat.le_trans Z0 (Nat.le_of_eq g2.symm)
  have ne3 : a0 ≠ b2 := Nat.ne_of_lt (Nat.lt_of_lt_of_le V_a0.lt (Nat.le_of_eq g2.symm))
  have Z2 : n0 ≤ h2.size := Nat.le_trans Z0 E2.1
  have sz_b2 : h0.size ≤ b2 := Nat.le_trans (Keep.refl h0 []).1 (Nat.le_of_eq g2.symm)
  have K_4 : Keep h0 h2 [] := (Keep.refl h0 []).ext E2
  have F5 := V_a0.ext E2
  have V_6 : Arv Z h2 b2 k2 .int (3 : Int32) [(.int (0 : Int32)), (.int (0 : Int32)), (.int (0 : Int32))] (.int (0 : Int32)) := (Arv.new A2 (by decide)).pad (pad_rep [] (.int (0 : Int32)) 3)
  have b7 : ¬ ((1 : Int32) = (0 : Int32)) := (by decide)
  obtain ⟨T8, h8, X8, e8, W8, V8, st8⟩ := oStI X2 hx hZ e2 V_6 (j := (0 : Int32)) ⟨by decide, by decide⟩ 0 rfl (Nat.le_of_ble_eq_true rfl) (g := (mkF m 47 #[oa a0, oi (13 : Int32), oi (3 : Int32), oa b2, oi (0 : Int32)] [(.int u0), (.int (0 : Int32)), (.ref b2)])) rfl rfl (hb hby own_d2_47)
  obtain ⟨Lo8, X8, N8⟩ := oOpq X8 (Fr.snoc X8 N0 g_b2)
  have Z8 := Nat.le_trans Z2 (Keep.of_wr W8).1
  have F9 := F5.other W8 ne3
  have F10 := B2.wr W8
  have V_11 : Arv Z h8 b2 k2 .int (3 : Int32) [(.int u0), (.int (0 : Int32)), (.int (0 : Int32))] (.int (0 : Int32)) := V8
  have K_12 : Keep h0 h8 [] := K_4.wr W8 (Or.inr sz_b2)
  have b13 : (0 : Int32) = (0 : Int32) := (by decide)
  have b14 : ¬ ((4 : Int32) = (0 : Int32)) := (by decide)
  obtain ⟨T15, h15, X15, e15, W15, V15, st15⟩ := oStI X8 hx hZ e8 V_11 (j := (1 : Int32)) ⟨by decide, by decide⟩ 1 rfl (Nat.le_of_ble_eq_true rfl) (g := (mkF m 79 #[oa a0, oi (13 : Int32), oi (3 : Int32), oa b2, oi (1 : Int32)] [(.int u2), (.int (1 : Int32)), (.ref b2)])) rfl rfl (hb hby own_d2_79)
  obtain ⟨Lo15, X15, N15⟩ := oOpq X15 (Fr.snoc X15 N8 g_b2)
  have Z15 := Nat.le_trans Z8 (Keep.of_wr W15).1
  have F16 := F9.other W15 ne3
  have F17 := F10.wr W15
  have V_18 : Arv Z h15 b2 k2 .int (3 : Int32) [(.int u0), (.int u2), (.int (0 : Int32))] (.int (0 : Int32)) := V15
  have K_19 : Keep h0 h15 [] := K_12.wr W15 (Or.inr sz_b2)
  have b20 : ¬ ((8 : Int32) = (0 : Int32)) := (by decide)
  obtain ⟨T21, h21, X21, e21, W21, V21, st21⟩ := oStI X15 hx hZ e15 V_18 (j := (2 : Int32)) ⟨by decide, by decide⟩ 2 rfl (Nat.le_of_ble_eq_true rfl) (g := (mkF m 96 #[oa a0, oi (13 : Int32), oi (3 : Int32), oa b2, oi (2 : Int32)] [(.int u3), (.int (2 : Int32)), (.ref b2)])) rfl rfl (hb hby own_d2_96)
  obtain ⟨Lo21, X21, N21⟩ := oOpq X21 (Fr.snoc X21 N15 g_b2)
  have Z21 := Nat.le_trans Z15 (Keep.of_wr W21).1
  have F22 := F16.other W21 ne3
  have F23 := F17.wr W21
  have V_24 : Arv Z h21 b2 k2 .int (3 : Int32) [(.int u0), (.int u2), (.int u3)] (.int (0 : Int32)) := V21
  have K_25 : Keep h0 h21 [] := K_19.wr W21 (Or.inr sz_b2)
  have b26 : (0 : Int32) = (0 : Int32) := (by decide)
  obtain ⟨fs, hr, hrun, hended, hW, hsame⟩ := X21.leave (v := (some (.ref b2))) (fun h => by rw [Bd.returns] at h; cases h)
  refine ⟨_, _, pre1 _ ?_, hrun, hended, _, _, rfl, ?_, ⟨_, rfl⟩, hW, hsame.mono (by decide) (by decide)⟩
  · show oS p e below s₁ m 0 #[oa a0, oi (13 : Int32), .unset, .unset, .unset] [] _
    refine XS.iloadN X0.here hx rfl (hb hby own_d2_0) rfl ?_
    refine XS.iconst X0.here hx rfl (hb hby own_d2_1) ?_
    refine XS.iand X0.here hx rfl (hb hby own_d2_2) rfl ?_
    refine XS.iloadN X0.here hx rfl (hb hby own_d2_3) rfl ?_
    show oS p e below s₁ m 4 #[oa a0, oi (13 : Int32), .unset, .unset, .unset] [(.int (13 : Int32)), (.int (1 : Int32))] _
    refine XS.iconst X0.here hx rfl (hb hby own_d2_4) ?_
    show oS p e below s₁ m 5 #[oa a0, oi (13 : Int32), .unset, .unset, .unset] [(.int (1 : Int32)), (.int (13 : Int32)), (.int (1 : Int32))] _
    refine XS.iushr X0.here hx rfl (hb hby own_d2_5) rfl ?_
    refine XS.iconst X0.here hx rfl (hb hby own_d2_6) ?_
    refine XS.iand X0.here hx rfl (hb hby own_d2_7) rfl ?_
    refine XS.iadd X0.here hx rfl (hb hby own_d2_8) rfl ?_
    show oS p e below s₁ m 9 #[oa a0, oi (13 : Int32), .unset, .unset, .unset] [(.int (1 : Int32))] _
    refine XS.iloadN X0.here hx rfl (hb hby own_d2_9) rfl ?_
    refine XS.iconst X0.here hx rfl (hb hby own_d2_10) ?_
    show oS p e below s₁ m 11 #[oa a0, oi (13 : Int32), .unset, .unset, .unset] [(.int (2 : Int32)), (.int (13 : Int32)), (.int (1 : Int32))] _
    refine XS.iushr X0.here hx rfl (hb hby own_d2_11) rfl ?_
    refine XS.iconst X0.here hx rfl (hb hby own_d2_12) ?_
    refine XS.iand X0.here hx rfl (hb hby own_d2_13) rfl ?_
    refine XS.iadd X0.here hx rfl (hb hby own_d2_14) rfl ?_
    show oS p e below s₁ m 15 #[oa a0, oi (13 : Int32), .unset, .unset, .unset] [(.int (2 : Int32))] _
    refine XS.iloadN X0.here hx rfl (hb hby own_d2_15) rfl ?_
    refine XS.iconst X0.here hx rfl (hb hby own_d2_16) ?_
    show oS p e below s₁ m 17 #[oa a0, oi (13 : Int32), .unset, .unset, .unset] [(.int (3 : Int32)), (.int (13 : Int32)), (.int (2 : Int32))] _
    refine XS.iushr X0.here hx rfl (hb hby own_d2_17) rfl ?_
    refine XS.iconst X0.here hx rfl (hb hby own_d2_18) ?_
    refine XS.iand X0.here hx rfl (hb hby own_d2_19) rfl ?_
    refine XS.iadd X0.here hx rfl (hb hby own_d2_20) rfl ?_
    show oS p e below s₁ m 21 #[oa a0, oi (13 : Int32), .unset, .unset, .unset] [(.int (3 : Int32))] _
    refine XS.iloadN X0.here hx rfl (hb hby own_d2_21) rfl ?_
    refine XS.iconst X0.here hx rfl (hb hby own_d2_22) ?_
    show oS p e below s₁ m 23 #[oa a0, oi (13 : Int32), .unset, .unset, .unset] [(.int (4 : Int32)), (.int (13 : Int32)), (.int (3 : Int32))] _
    refine XS.iushr X0.here hx rfl (hb hby own_d2_23) rfl ?_
    refine XS.iconst X0.here hx rfl (hb hby own_d2_24) ?_
    refine XS.iand X0.here hx rfl (hb hby own_d2_25) rfl ?_
    refine XS.iadd X0.here hx rfl (hb hby own_d2_26) rfl ?_
    show oS p e below s₁ m 27 #[oa a0, oi (13 : Int32), .unset, .unset, .unset] [(.int (3 : Int32))] _
    refine XS.istoreN X0.here hx rfl (hb hby own_d2_27) rfl (l' := #[oa a0, oi (13 : Int32), oi (3 : Int32), .unset, .unset]) rfl ?_
    refine XS.iloadN X0.here hx rfl (hb hby own_d2_28) rfl ?_
    show oS p e below s₁ m 29 #[oa a0, oi (13 : Int32), oi (3 : Int32), .unset, .unset] [(.int (3 : Int32))] _
    refine st2 _ ?_
    show oS p e below T2 m 31 #[oa a0, oi (13 : Int32), oi (3 : Int32), .unset, .unset] [(.ref b2)] _
    refine XS.astoreN X2.here hx rfl (hb hby own_d2_31) rfl rfl (l' := #[oa a0, oi (13 : Int32), oi (3 : Int32), oa b2, .unset]) rfl ?_
    refine XS.iconst X2.here hx rfl (hb hby own_d2_32) ?_
    refine XS.istore X2.here hx rfl (hb hby own_d2_33) rfl (l' := #[oa a0, oi (13 : Int32), oi (3 : Int32), oa b2, oi (0 : Int32)]) rfl ?_
    refine XS.iloadN X2.here hx rfl (hb hby own_d2_35) rfl ?_
    show oS p e below T2 m 36 #[oa a0, oi (13 : Int32), oi (3 : Int32), oa b2, oi (0 : Int32)] [(.int (13 : Int32))] _
    refine XS.iconst X2.here hx rfl (hb hby own_d2_36) ?_
    refine XS.iand X2.here hx rfl (hb hby own_d2_37) rfl ?_
    show oS p e below T2 m 38 #[oa a0, oi (13 : Int32), oi (3 : Int32), oa b2, oi (0 : Int32)] [(.int (1 : Int32))] _
    refine XS.ifNo X2.here hx rfl (hb hby own_d2_38) rfl ((if0 _ _).trans (feq b7).1) ?_
    refine XS.aloadN X2.here hx rfl (hb hby own_d2_41) rfl rfl ?_
    refine XS.iload X2.here hx rfl (hb hby own_d2_42) rfl ?_
    refine XS.aloadN X2.here hx rfl (hb hby own_d2_44) rfl rfl ?_
    show oS p e below T2 m 45 #[oa a0, oi (13 : Int32), oi (3 : Int32), oa b2, oi (0 : Int32)] [(.ref a0), (.int (0 : Int32)), (.ref b2)] _
    refine XS.iconst X2.here hx rfl (hb hby own_d2_45) ?_
    show oS p e below T2 m 46 #[oa a0, oi (13 : Int32), oi (3 : Int32), oa b2, oi (0 : Int32)] [(.int (0 : Int32)), (.ref a0), (.int (0 : Int32)), (.ref b2)] _
    refine oLdI X2 hx hZ e2 F5 (v := (.int u0)) ⟨by decide, by decide⟩ rfl (hb hby own_d2_46) ?_
    show oS p e below T2 m 47 #[oa a0, oi (13 : Int32), oi (3 : Int32), oa b2, oi (0 : Int32)] [(.int u0), (.int (0 : Int32)), (.ref b2)] _
    refine st8 _ ?_
    show oS p e below T8 m 48 #[oa a0, oi (13 : Int32), oi (3 : Int32), oa b2, oi (0 : Int32)] [] _
    refine XS.iinc X8.here hx rfl (hb hby own_d2_48) rfl (l' := #[oa a0, oi (13 : Int32), oi (3 : Int32), oa b2, oi (1 : Int32)]) rfl ?_
    refine XS.iloadN X8.here hx rfl (hb hby own_d2_51) rfl ?_
    refine XS.iconst X8.here hx rfl (hb hby own_d2_52) ?_
    refine XS.iand X8.here hx rfl (hb hby own_d2_53) rfl ?_
    show oS p e below T8 m 54 #[oa a0, oi (13 : Int32), oi (3 : Int32), oa b2, oi (1 : Int32)] [(.int (0 : Int32))] _
    refine XS.ifYes X8.here hx rfl (pc0 := 54) (pc' := 67) rfl (hb hby own_d2_54) rfl ((if0 _ _).trans (teq b13).1) (by decide) (by decide) ?_
    refine XS.iloadN X8.here hx rfl (hb hby own_d2_67) rfl ?_
    refine XS.iconst X8.here hx rfl (hb hby own_d2_68) ?_
    refine XS.iand X8.here hx rfl (hb hby own_d2_69) rfl ?_
    show oS p e below T8 m 70 #[oa a0, oi (13 : Int32), oi (3 : Int32), oa b2, oi (1 : Int32)] [(.int (4 : Int32))] _
    refine XS.ifNo X8.here hx rfl (hb hby own_d2_70) rfl ((if0 _ _).trans (feq b14).1) ?_
    refine XS.aloadN X8.here hx rfl (hb hby own_d2_73) rfl rfl ?_
    refine XS.iload X8.here hx rfl (hb hby own_d2_74) rfl ?_
    refine XS.aloadN X8.here hx rfl (hb hby own_d2_76) rfl rfl ?_
    show oS p e below T8 m 77 #[oa a0, oi (13 : Int32), oi (3 : Int32), oa b2, oi (1 : Int32)] [(.ref a0), (.int (1 : Int32)), (.ref b2)] _
    refine XS.iconst X8.here hx rfl (hb hby own_d2_77) ?_
    show oS p e below T8 m 78 #[oa a0, oi (13 : Int32), oi (3 : Int32), oa b2, oi (1 : Int32)] [(.int (2 : Int32)), (.ref a0), (.int (1 : Int32)), (.ref b2)] _
    refine oLdI X8 hx hZ e8 F9 (v := (.int u2)) ⟨by decide, by decide⟩ rfl (hb hby own_d2_78) ?_
    show oS p e below T8 m 79 #[oa a0, oi (13 : Int32), oi (3 : Int32), oa b2, oi (1 : Int32)] [(.int u2), (.int (1 : Int32)), (.ref b2)] _
    refine st15 _ ?_
    show oS p e below T15 m 80 #[oa a0, oi (13 : Int32), oi (3 : Int32), oa b2, oi (1 : Int32)] [] _
    refine XS.iinc X15.here hx rfl (hb hby own_d2_80) rfl (l' := #[oa a0, oi (13 : Int32), oi (3 : Int32), oa b2, oi (2 : Int32)]) rfl ?_
    refine XS.iloadN X15.here hx rfl (hb hby own_d2_83) rfl ?_
    refine XS.bipush X15.here hx rfl (hb hby own_d2_84) ?_
    refine XS.iand X15.here hx rfl (hb hby own_d2_86) rfl ?_
    show oS p e below T15 m 87 #[oa a0, oi (13 : Int32), oi (3 : Int32), oa b2, oi (2 : Int32)] [(.int (8 : Int32))] _
    refine XS.ifNo X15.here hx rfl (hb hby own_d2_87) rfl ((if0 _ _).trans (feq b20).1) ?_
    refine XS.aloadN X15.here hx rfl (hb hby own_d2_90) rfl rfl ?_
    refine XS.iload X15.here hx rfl (hb hby own_d2_91) rfl ?_
    refine XS.aloadN X15.here hx rfl (hb hby own_d2_93) rfl rfl ?_
    show oS p e below T15 m 94 #[oa a0, oi (13 : Int32), oi (3 : Int32), oa b2, oi (2 : Int32)] [(.ref a0), (.int (2 : Int32)), (.ref b2)] _
    refine XS.iconst X15.here hx rfl (hb hby own_d2_94) ?_
    show oS p e below T15 m 95 #[oa a0, oi (13 : Int32), oi (3 : Int32), oa b2, oi (2 : Int32)] [(.int (3 : Int32)), (.ref a0), (.int (2 : Int32)), (.ref b2)] _
    refine oLdI X15 hx hZ e15 F16 (v := (.int u3)) ⟨by decide, by decide⟩ rfl (hb hby own_d2_95) ?_
    show oS p e below T15 m 96 #[oa a0, oi (13 : Int32), oi (3 : Int32), oa b2, oi (2 : Int32)] [(.int u3), (.int (2 : Int32)), (.ref b2)] _
    refine st21 _ ?_
    show oS p e below T21 m 97 #[oa a0, oi (13 : Int32), oi (3 : Int32), oa b2, oi (2 : Int32)] [] _
    refine XS.iinc X21.here hx rfl (hb hby own_d2_97) rfl (l' := #[oa a0, oi (13 : Int32), oi (3 : Int32), oa b2, oi (3 : Int32)]) rfl ?_
    refine XS.iloadN X21.here hx rfl (hb hby own_d2_100) rfl ?_
    refine XS.bipush X21.here hx rfl (hb hby own_d2_101) ?_
    refine XS.iand X21.here hx rfl (hb hby own_d2_103) rfl ?_
    show oS p e below T21 m 104 #[oa a0, oi (13 : Int32), oi (3 : Int32), oa b2, oi (3 : Int32)] [(.int (0 : Int32))] _
    refine XS.ifYes X21.here hx rfl (pc0 := 104) (pc' := 117) rfl (hb hby own_d2_104) rfl ((if0 _ _).trans (teq b26).1) (by decide) (by decide) ?_
    refine XS.aloadN X21.here hx rfl (hb hby own_d2_117) rfl rfl ?_
    show oS p e below T21 m 118 #[oa a0, oi (13 : Int32), oi (3 : Int32), oa b2, oi (3 : Int32)] [(.ref b2)] _
    exact retOut X21 hx Bd.returns rfl (Or.inr (Or.inr (Or.inr (Or.inr ⟨rfl, rfl, rfl⟩)))) (hb hby own_d2_118) hr
  · show own_Q2 Z a0 p1 k_a0 u0 u1 u2 u3 u4 h0 n0 _ T21.heap _
    rw [e21]
    refine ⟨b2, k2, rfl, N21, K_25, sz_b2, ?_⟩
    rw [km, show own_z (13 : Int32) = (3 : Int32) by decide +kernel, own_pk, show own_idx (13 : Int32) = [0, 2, 3] by decide +kernel]
    exact V_24
set_option maxRecDepth 65536 in
set_option maxHeartbeats 40000000 in
theorem own_rm2_14 (l : Launch) (Z : State) (av : Array Value) (hw : ∀ d ∈ tables_1, d.before av Z = true) (ws : List Jvm.Cond) (a0 : Addr) (p1 : Int32) (k_a0 : ClassId) (u0 : Int32) (u1 : Int32) (u2 : Int32) (u3 : Int32) (u4 : Int32) (h0 : Heap) (n0 : Nat) (Z0 : n0 ≤ h0.size) (V_a0 : Arv Z h0 a0 k_a0 .int (5 : Int32) [(.int u0), (.int u1), (.int u2), (.int u3), (.int u4)] (.int (0 : Int32))) (km : p1 = (14 : Int32)) :
    MetFree l (⟨"com/example/strict_anon/strictanon/service/RecordSetsDifferencePinLaw", "pick", "([II)[I"⟩ : MethodName) (head1 (Jvm.Cond.code (⟨"com/example/strict_anon/strictanon/service/RecordSetsDifferencePinLaw", "pick", "([II)[I"⟩ : MethodName) method_3_code 5 (some (.array .int)) :: ws) ({ frames := 0, cells := 1, slots := 5, locals := 0 } : Room)) (fun a U => a = #[(.ref a0), (.int p1)] ∧ Z.Warmed39 U.vm ∧ U.heap = h0) (fun _ _ _ _ _ => True) (fun _ U o U' => ∃ v L, o = .returned v ∧ own_Q2 Z a0 p1 k_a0 u0 u1 u2 u3 u4 h0 n0 v U'.heap L ∧ FrameEnd U o U' L ({ frames := 0, cells := 1, slots := 5, locals := 0 } : Room).cells ({ frames := 0, cells := 1, slots := 5, locals := 0 } : Room).slots) := by
  refine MetFree.of_bodySF (plainFor_of_name own_pn0) hisR ?_
  intro p e s m args below meth c s₁ Bd hml0 hP hK
  obtain ⟨rfl, hZ, hh⟩ := hP
  have hx := Bd.exec
  have hby := Bd.bytes
  have hml : c.maxLocals = 5 := hml0
  have hown : s.vm.findClass "com/example/strict_anon/strictanon/service/RecordSetsDifferencePinLaw" = some m.cls := findClass_of_methodNamed Bd.named
  have hnm := (name_of_methodNamed Bd.named Bd.method).1
  have X0 : Stand p l e ({ frames := 0, cells := 1, slots := 5, locals := 0 } : Room) s m #[(.ref a0), (.int p1)] below meth c s₁ [] 0 0 := Stand.of_body Bd
  have e0 : s₁.heap = h0 := by rw [← hh, Bd.state]; rfl
  have N0 := Fr.nil n0
  have pre0 : ∀ t, Steps p.tables e below (s₁.setTop (mkF m 0 #[oa a0, oi p1, .unset, .unset, .unset] [])) t → Steps p.tables e below (s₁.setTop (entryFrame m #[(.ref a0), (.int p1)] 5)) t := fun t k => castTop (own_ef2 m a0 p1) k
  have pre1 : ∀ t, Steps p.tables e below (s₁.setTop (mkF m 0 #[oa a0, oi (14 : Int32), .unset, .unset, .unset] [])) t → Steps p.tables e below (s₁.setTop (entryFrame m #[(.ref a0), (.int p1)] 5)) t := by
    intro t k
    refine pre0 t ?_
    rw [km]
    exact k
  obtain ⟨T2, h2, k2, X2, e2, E2, A2, B2, st2⟩ := newPE X0 hx hZ (hw _ (List.mem_of_getElem? (i := 6) rfl)) e0 (g := (mkF m 29 #[oa a0, oi (14 : Int32), oi (3 : Int32), .unset, .unset] [(.int (3 : Int32))])) rfl (hb hby own_d2_29) rfl (by decide) (cap := 3) (by decide) (by decide) (by decide) (by decide) (ad := "[I") rfl
  obtain ⟨b2, g2⟩ : ∃ z, z = h0.size := ⟨_, rfl⟩
  rw [← g2] at A2 st2 B2
  have g_b2 : n0 ≤ b2 := Nat.le_trans Z0 (Nat.le_of_eq g2.symm)
  have ne3 : a0 ≠ b2 := Nat.ne_of_lt (Nat.lt_of_lt_of_le V_a0.lt (Nat.le_of_eq g2.symm))
  have Z2 : n0 ≤ h2.size := Nat.le_trans Z0 E2.1
  have sz_b2 : h0.size ≤ b2 := Nat.le_trans (Keep.refl h0 []).1 (Nat.le_of_eq g2.symm)
  have K_4 : Keep h0 h2 [] := (Keep.refl h0 []).ext E2
  have F5 := V_a0.ext E2
  have V_6 : Arv Z h2 b2 k2 .int (3 : Int32) [(.int (0 : Int32)), (.int (0 : Int32)), (.int (0 : Int32))] (.int (0 : Int32)) := (Arv.new A2 (by decide)).pad (pad_rep [] (.int (0 : Int32)) 3)
  have b7 : (0 : Int32) = (0 : Int32) := (by decide)
  have b8 : ¬ ((2 : Int32) = (0 : Int32)) := (by decide)
  obtain ⟨T9, h9, X9, e9, W9, V9, st9⟩ := oStI X2 hx hZ e2 V_6 (j := (0 : Int32)) ⟨by decide, by decide⟩ 0 rfl (Nat.le_of_ble_eq_true rfl) (g := (mkF m 63 #[oa a0, oi (14 : Int32), oi (3 : Int32), oa b2, oi (0 : Int32)] [(.int u1), (.int (0 : Int32)), (.ref b2)])) rfl rfl (hb hby own_d2_63)
  obtain ⟨Lo9, X9, N9⟩ := oOpq X9 (Fr.snoc X9 N0 g_b2)
  have Z9 := Nat.le_trans Z2 (Keep.of_wr W9).1
  have F10 := F5.other W9 ne3
  have F11 := B2.wr W9
  have V_12 : Arv Z h9 b2 k2 .int (3 : Int32) [(.int u1), (.int (0 : Int32)), (.int (0 : Int32))] (.int (0 : Int32)) := V9
  have K_13 : Keep h0 h9 [] := K_4.wr W9 (Or.inr sz_b2)
  have b14 : ¬ ((4 : Int32) = (0 : Int32)) := (by decide)
  obtain ⟨T15, h15, X15, e15, W15, V15, st15⟩ := oStI X9 hx hZ e9 V_12 (j := (1 : Int32)) ⟨by decide, by decide⟩ 1 rfl (Nat.le_of_ble_eq_true rfl) (g := (mkF m 79 #[oa a0, oi (14 : Int32), oi (3 : Int32), oa b2, oi (1 : Int32)] [(.int u2), (.int (1 : Int32)), (.ref b2)])) rfl rfl (hb hby own_d2_79)
  obtain ⟨Lo15, X15, N15⟩ := oOpq X15 (Fr.snoc X15 N9 g_b2)
  have Z15 := Nat.le_trans Z9 (Keep.of_wr W15).1
  have F16 := F10.other W15 ne3
  have F17 := F11.wr W15
  have V_18 : Arv Z h15 b2 k2 .int (3 : Int32) [(.int u1), (.int u2), (.int (0 : Int32))] (.int (0 : Int32)) := V15
  have K_19 : Keep h0 h15 [] := K_13.wr W15 (Or.inr sz_b2)
  have b20 : ¬ ((8 : Int32) = (0 : Int32)) := (by decide)
  obtain ⟨T21, h21, X21, e21, W21, V21, st21⟩ := oStI X15 hx hZ e15 V_18 (j := (2 : Int32)) ⟨by decide, by decide⟩ 2 rfl (Nat.le_of_ble_eq_true rfl) (g := (mkF m 96 #[oa a0, oi (14 : Int32), oi (3 : Int32), oa b2, oi (2 : Int32)] [(.int u3), (.int (2 : Int32)), (.ref b2)])) rfl rfl (hb hby own_d2_96)
  obtain ⟨Lo21, X21, N21⟩ := oOpq X21 (Fr.snoc X21 N15 g_b2)
  have Z21 := Nat.le_trans Z15 (Keep.of_wr W21).1
  have F22 := F16.other W21 ne3
  have F23 := F17.wr W21
  have V_24 : Arv Z h21 b2 k2 .int (3 : Int32) [(.int u1), (.int u2), (.int u3)] (.int (0 : Int32)) := V21
  have K_25 : Keep h0 h21 [] := K_19.wr W21 (Or.inr sz_b2)
  have b26 : (0 : Int32) = (0 : Int32) := (by decide)
  obtain ⟨fs, hr, hrun, hended, hW, hsame⟩ := X21.leave (v := (some (.ref b2))) (fun h => by rw [Bd.returns] at h; cases h)
  refine ⟨_, _, pre1 _ ?_, hrun, hended, _, _, rfl, ?_, ⟨_, rfl⟩, hW, hsame.mono (by decide) (by decide)⟩
  · show oS p e below s₁ m 0 #[oa a0, oi (14 : Int32), .unset, .unset, .unset] [] _
    refine XS.iloadN X0.here hx rfl (hb hby own_d2_0) rfl ?_
    refine XS.iconst X0.here hx rfl (hb hby own_d2_1) ?_
    refine XS.iand X0.here hx rfl (hb hby own_d2_2) rfl ?_
    refine XS.iloadN X0.here hx rfl (hb hby own_d2_3) rfl ?_
    show oS p e below s₁ m 4 #[oa a0, oi (14 : Int32), .unset, .unset, .unset] [(.int (14 : Int32)), (.int (0 : Int32))] _
    refine XS.iconst X0.here hx rfl (hb hby own_d2_4) ?_
    show oS p e below s₁ m 5 #[oa a0, oi (14 : Int32), .unset, .unset, .unset] [(.int (1 : Int32)), (.int (14 : Int32)), (.int (0 : Int32))] _
    refine XS.iushr X0.here hx rfl (hb hby own_d2_5) rfl ?_
    refine XS.iconst X0.here hx rfl (hb hby own_d2_6) ?_
    refine XS.iand X0.here hx rfl (hb hby own_d2_7) rfl ?_
    refine XS.iadd X0.here hx rfl (hb hby own_d2_8) rfl ?_
    show oS p e below s₁ m 9 #[oa a0, oi (14 : Int32), .unset, .unset, .unset] [(.int (1 : Int32))] _
    refine XS.iloadN X0.here hx rfl (hb hby own_d2_9) rfl ?_
    refine XS.iconst X0.here hx rfl (hb hby own_d2_10) ?_
    show oS p e below s₁ m 11 #[oa a0, oi (14 : Int32), .unset, .unset, .unset] [(.int (2 : Int32)), (.int (14 : Int32)), (.int (1 : Int32))] _
    refine XS.iushr X0.here hx rfl (hb hby own_d2_11) rfl ?_
    refine XS.iconst X0.here hx rfl (hb hby own_d2_12) ?_
    refine XS.iand X0.here hx rfl (hb hby own_d2_13) rfl ?_
    refine XS.iadd X0.here hx rfl (hb hby own_d2_14) rfl ?_
    show oS p e below s₁ m 15 #[oa a0, oi (14 : Int32), .unset, .unset, .unset] [(.int (2 : Int32))] _
    refine XS.iloadN X0.here hx rfl (hb hby own_d2_15) rfl ?_
    refine XS.iconst X0.here hx rfl (hb hby own_d2_16) ?_
    show oS p e below s₁ m 17 #[oa a0, oi (14 : Int32), .unset, .unset, .unset] [(.int (3 : Int32)), (.int (14 : Int32)), (.int (2 : Int32))] _
    refine XS.iushr X0.here hx rfl (hb hby own_d2_17) rfl ?_
    refine XS.iconst X0.here hx rfl (hb hby own_d2_18) ?_
    refine XS.iand X0.here hx rfl (hb hby own_d2_19) rfl ?_
    refine XS.iadd X0.here hx rfl (hb hby own_d2_20) rfl ?_
    show oS p e below s₁ m 21 #[oa a0, oi (14 : Int32), .unset, .unset, .unset] [(.int (3 : Int32))] _
    refine XS.iloadN X0.here hx rfl (hb hby own_d2_21) rfl ?_
    refine XS.iconst X0.here hx rfl (hb hby own_d2_22) ?_
    show oS p e below s₁ m 23 #[oa a0, oi (14 : Int32), .unset, .unset, .unset] [(.int (4 : Int32)), (.int (14 : Int32)), (.int (3 : Int32))] _
    refine XS.iushr X0.here hx rfl (hb hby own_d2_23) rfl ?_
    refine XS.iconst X0.here hx rfl (hb hby own_d2_24) ?_
    refine XS.iand X0.here hx rfl (hb hby own_d2_25) rfl ?_
    refine XS.iadd X0.here hx rfl (hb hby own_d2_26) rfl ?_
    show oS p e below s₁ m 27 #[oa a0, oi (14 : Int32), .unset, .unset, .unset] [(.int (3 : Int32))] _
    refine XS.istoreN X0.here hx rfl (hb hby own_d2_27) rfl (l' := #[oa a0, oi (14 : Int32), oi (3 : Int32), .unset, .unset]) rfl ?_
    refine XS.iloadN X0.here hx rfl (hb hby own_d2_28) rfl ?_
    show oS p e below s₁ m 29 #[oa a0, oi (14 : Int32), oi (3 : Int32), .unset, .unset] [(.int (3 : Int32))] _
    refine st2 _ ?_
    show oS p e below T2 m 31 #[oa a0, oi (14 : Int32), oi (3 : Int32), .unset, .unset] [(.ref b2)] _
    refine XS.astoreN X2.here hx rfl (hb hby own_d2_31) rfl rfl (l' := #[oa a0, oi (14 : Int32), oi (3 : Int32), oa b2, .unset]) rfl ?_
    refine XS.iconst X2.here hx rfl (hb hby own_d2_32) ?_
    refine XS.istore X2.here hx rfl (hb hby own_d2_33) rfl (l' := #[oa a0, oi (14 : Int32), oi (3 : Int32), oa b2, oi (0 : Int32)]) rfl ?_
    refine XS.iloadN X2.here hx rfl (hb hby own_d2_35) rfl ?_
    show oS p e below T2 m 36 #[oa a0, oi (14 : Int32), oi (3 : Int32), oa b2, oi (0 : Int32)] [(.int (14 : Int32))] _
    refine XS.iconst X2.here hx rfl (hb hby own_d2_36) ?_
    refine XS.iand X2.here hx rfl (hb hby own_d2_37) rfl ?_
    show oS p e below T2 m 38 #[oa a0, oi (14 : Int32), oi (3 : Int32), oa b2, oi (0 : Int32)] [(.int (0 : Int32))] _
    refine XS.ifYes X2.here hx rfl (pc0 := 38) (pc' := 51) rfl (hb hby own_d2_38) rfl ((if0 _ _).trans (teq b7).1) (by decide) (by decide) ?_
    refine XS.iloadN X2.here hx rfl (hb hby own_d2_51) rfl ?_
    refine XS.iconst X2.here hx rfl (hb hby own_d2_52) ?_
    refine XS.iand X2.here hx rfl (hb hby own_d2_53) rfl ?_
    show oS p e below T2 m 54 #[oa a0, oi (14 : Int32), oi (3 : Int32), oa b2, oi (0 : Int32)] [(.int (2 : Int32))] _
    refine XS.ifNo X2.here hx rfl (hb hby own_d2_54) rfl ((if0 _ _).trans (feq b8).1) ?_
    refine XS.aloadN X2.here hx rfl (hb hby own_d2_57) rfl rfl ?_
    refine XS.iload X2.here hx rfl (hb hby own_d2_58) rfl ?_
    refine XS.aloadN X2.here hx rfl (hb hby own_d2_60) rfl rfl ?_
    show oS p e below T2 m 61 #[oa a0, oi (14 : Int32), oi (3 : Int32), oa b2, oi (0 : Int32)] [(.ref a0), (.int (0 : Int32)), (.ref b2)] _
    refine XS.iconst X2.here hx rfl (hb hby own_d2_61) ?_
    show oS p e below T2 m 62 #[oa a0, oi (14 : Int32), oi (3 : Int32), oa b2, oi (0 : Int32)] [(.int (1 : Int32)), (.ref a0), (.int (0 : Int32)), (.ref b2)] _
    refine oLdI X2 hx hZ e2 F5 (v := (.int u1)) ⟨by decide, by decide⟩ rfl (hb hby own_d2_62) ?_
    show oS p e below T2 m 63 #[oa a0, oi (14 : Int32), oi (3 : Int32), oa b2, oi (0 : Int32)] [(.int u1), (.int (0 : Int32)), (.ref b2)] _
    refine st9 _ ?_
    show oS p e below T9 m 64 #[oa a0, oi (14 : Int32), oi (3 : Int32), oa b2, oi (0 : Int32)] [] _
    refine XS.iinc X9.here hx rfl (hb hby own_d2_64) rfl (l' := #[oa a0, oi (14 : Int32), oi (3 : Int32), oa b2, oi (1 : Int32)]) rfl ?_
    refine XS.iloadN X9.here hx rfl (hb hby own_d2_67) rfl ?_
    refine XS.iconst X9.here hx rfl (hb hby own_d2_68) ?_
    refine XS.iand X9.here hx rfl (hb hby own_d2_69) rfl ?_
    show oS p e below T9 m 70 #[oa a0, oi (14 : Int32), oi (3 : Int32), oa b2, oi (1 : Int32)] [(.int (4 : Int32))] _
    refine XS.ifNo X9.here hx rfl (hb hby own_d2_70) rfl ((if0 _ _).trans (feq b14).1) ?_
    refine XS.aloadN X9.here hx rfl (hb hby own_d2_73) rfl rfl ?_
    refine XS.iload X9.here hx rfl (hb hby own_d2_74) rfl ?_
    refine XS.aloadN X9.here hx rfl (hb hby own_d2_76) rfl rfl ?_
    show oS p e below T9 m 77 #[oa a0, oi (14 : Int32), oi (3 : Int32), oa b2, oi (1 : Int32)] [(.ref a0), (.int (1 : Int32)), (.ref b2)] _
    refine XS.iconst X9.here hx rfl (hb hby own_d2_77) ?_
    show oS p e below T9 m 78 #[oa a0, oi (14 : Int32), oi (3 : Int32), oa b2, oi (1 : Int32)] [(.int (2 : Int32)), (.ref a0), (.int (1 : Int32)), (.ref b2)] _
    refine oLdI X9 hx hZ e9 F10 (v := (.int u2)) ⟨by decide, by decide⟩ rfl (hb hby own_d2_78) ?_
    show oS p e below T9 m 79 #[oa a0, oi (14 : Int32), oi (3 : Int32), oa b2, oi (1 : Int32)] [(.int u2), (.int (1 : Int32)), (.ref b2)] _
    refine st15 _ ?_
    show oS p e below T15 m 80 #[oa a0, oi (14 : Int32), oi (3 : Int32), oa b2, oi (1 : Int32)] [] _
    refine XS.iinc X15.here hx rfl (hb hby own_d2_80) rfl (l' := #[oa a0, oi (14 : Int32), oi (3 : Int32), oa b2, oi (2 : Int32)]) rfl ?_
    refine XS.iloadN X15.here hx rfl (hb hby own_d2_83) rfl ?_
    refine XS.bipush X15.here hx rfl (hb hby own_d2_84) ?_
    refine XS.iand X15.here hx rfl (hb hby own_d2_86) rfl ?_
    show oS p e below T15 m 87 #[oa a0, oi (14 : Int32), oi (3 : Int32), oa b2, oi (2 : Int32)] [(.int (8 : Int32))] _
    refine XS.ifNo X15.here hx rfl (hb hby own_d2_87) rfl ((if0 _ _).trans (feq b20).1) ?_
    refine XS.aloadN X15.here hx rfl (hb hby own_d2_90) rfl rfl ?_
    refine XS.iload X15.here hx rfl (hb hby own_d2_91) rfl ?_
    refine XS.aloadN X15.here hx rfl (hb hby own_d2_93) rfl rfl ?_
    show oS p e below T15 m 94 #[oa a0, oi (14 : Int32), oi (3 : Int32), oa b2, oi (2 : Int32)] [(.ref a0), (.int (2 : Int32)), (.ref b2)] _
    refine XS.iconst X15.here hx rfl (hb hby own_d2_94) ?_
    show oS p e below T15 m 95 #[oa a0, oi (14 : Int32), oi (3 : Int32), oa b2, oi (2 : Int32)] [(.int (3 : Int32)), (.ref a0), (.int (2 : Int32)), (.ref b2)] _
    refine oLdI X15 hx hZ e15 F16 (v := (.int u3)) ⟨by decide, by decide⟩ rfl (hb hby own_d2_95) ?_
    show oS p e below T15 m 96 #[oa a0, oi (14 : Int32), oi (3 : Int32), oa b2, oi (2 : Int32)] [(.int u3), (.int (2 : Int32)), (.ref b2)] _
    refine st21 _ ?_
    show oS p e below T21 m 97 #[oa a0, oi (14 : Int32), oi (3 : Int32), oa b2, oi (2 : Int32)] [] _
    refine XS.iinc X21.here hx rfl (hb hby own_d2_97) rfl (l' := #[oa a0, oi (14 : Int32), oi (3 : Int32), oa b2, oi (3 : Int32)]) rfl ?_
    refine XS.iloadN X21.here hx rfl (hb hby own_d2_100) rfl ?_
    refine XS.bipush X21.here hx rfl (hb hby own_d2_101) ?_
    refine XS.iand X21.here hx rfl (hb hby own_d2_103) rfl ?_
    show oS p e below T21 m 104 #[oa a0, oi (14 : Int32), oi (3 : Int32), oa b2, oi (3 : Int32)] [(.int (0 : Int32))] _
    refine XS.ifYes X21.here hx rfl (pc0 := 104) (pc' := 117) rfl (hb hby own_d2_104) rfl ((if0 _ _).trans (teq b26).1) (by decide) (by decide) ?_
    refine XS.aloadN X21.here hx rfl (hb hby own_d2_117) rfl rfl ?_
    show oS p e below T21 m 118 #[oa a0, oi (14 : Int32), oi (3 : Int32), oa b2, oi (3 : Int32)] [(.ref b2)] _
    exact retOut X21 hx Bd.returns rfl (Or.inr (Or.inr (Or.inr (Or.inr ⟨rfl, rfl, rfl⟩)))) (hb hby own_d2_118) hr
  · show own_Q2 Z a0 p1 k_a0 u0 u1 u2 u3 u4 h0 n0 _ T21.heap _
    rw [e21]
    refine ⟨b2, k2, rfl, N21, K_25, sz_b2, ?_⟩
    rw [km, show own_z (14 : Int32) = (3 : Int32) by decide +kernel, own_pk, show own_idx (14 : Int32) = [1, 2, 3] by decide +kernel]
    exact V_24
set_option maxRecDepth 65536 in
set_option maxHeartbeats 40000000 in
theorem own_rm2_15 (l : Launch) (Z : State) (av : Array Value) (hw : ∀ d ∈ tables_1, d.before av Z = true) (ws : List Jvm.Cond) (a0 : Addr) (p1 : Int32) (k_a0 : ClassId) (u0 : Int32) (u1 : Int32) (u2 : Int32) (u3 : Int32) (u4 : Int32) (h0 : Heap) (n0 : Nat) (Z0 : n0 ≤ h0.size) (V_a0 : Arv Z h0 a0 k_a0 .int (5 : Int32) [(.int u0), (.int u1), (.int u2), (.int u3), (.int u4)] (.int (0 : Int32))) (km : p1 = (15 : Int32)) :
    MetFree l (⟨"com/example/strict_anon/strictanon/service/RecordSetsDifferencePinLaw", "pick", "([II)[I"⟩ : MethodName) (head1 (Jvm.Cond.code (⟨"com/example/strict_anon/strictanon/service/RecordSetsDifferencePinLaw", "pick", "([II)[I"⟩ : MethodName) method_3_code 5 (some (.array .int)) :: ws) ({ frames := 0, cells := 1, slots := 5, locals := 0 } : Room)) (fun a U => a = #[(.ref a0), (.int p1)] ∧ Z.Warmed39 U.vm ∧ U.heap = h0) (fun _ _ _ _ _ => True) (fun _ U o U' => ∃ v L, o = .returned v ∧ own_Q2 Z a0 p1 k_a0 u0 u1 u2 u3 u4 h0 n0 v U'.heap L ∧ FrameEnd U o U' L ({ frames := 0, cells := 1, slots := 5, locals := 0 } : Room).cells ({ frames := 0, cells := 1, slots := 5, locals := 0 } : Room).slots) := by
  refine MetFree.of_bodySF (plainFor_of_name own_pn0) hisR ?_
  intro p e s m args below meth c s₁ Bd hml0 hP hK
  obtain ⟨rfl, hZ, hh⟩ := hP
  have hx := Bd.exec
  have hby := Bd.bytes
  have hml : c.maxLocals = 5 := hml0
  have hown : s.vm.findClass "com/example/strict_anon/strictanon/service/RecordSetsDifferencePinLaw" = some m.cls := findClass_of_methodNamed Bd.named
  have hnm := (name_of_methodNamed Bd.named Bd.method).1
  have X0 : Stand p l e ({ frames := 0, cells := 1, slots := 5, locals := 0 } : Room) s m #[(.ref a0), (.int p1)] below meth c s₁ [] 0 0 := Stand.of_body Bd
  have e0 : s₁.heap = h0 := by rw [← hh, Bd.state]; rfl
  have N0 := Fr.nil n0
  have pre0 : ∀ t, Steps p.tables e below (s₁.setTop (mkF m 0 #[oa a0, oi p1, .unset, .unset, .unset] [])) t → Steps p.tables e below (s₁.setTop (entryFrame m #[(.ref a0), (.int p1)] 5)) t := fun t k => castTop (own_ef2 m a0 p1) k
  have pre1 : ∀ t, Steps p.tables e below (s₁.setTop (mkF m 0 #[oa a0, oi (15 : Int32), .unset, .unset, .unset] [])) t → Steps p.tables e below (s₁.setTop (entryFrame m #[(.ref a0), (.int p1)] 5)) t := by
    intro t k
    refine pre0 t ?_
    rw [km]
    exact k
  obtain ⟨T2, h2, k2, X2, e2, E2, A2, B2, st2⟩ := newPE X0 hx hZ (hw _ (List.mem_of_getElem? (i := 6) rfl)) e0 (g := (mkF m 29 #[oa a0, oi (15 : Int32), oi (4 : Int32), .unset, .unset] [(.int (4 : Int32))])) rfl (hb hby own_d2_29) rfl (by decide) (cap := 4) (by decide) (by decide) (by decide) (by decide) (ad := "[I") rfl
  obtain ⟨b2, g2⟩ : ∃ z, z = h0.size := ⟨_, rfl⟩
  rw [← g2] at A2 st2 B2
  have g_b2 : n0 ≤ b2 := Nat.le_trans Z0 (Nat.le_of_eq g2.symm)
  have ne3 : a0 ≠ b2 := Nat.ne_of_lt (Nat.lt_of_lt_of_le V_a0.lt (Nat.le_of_eq g2.symm))
  have Z2 : n0 ≤ h2.size := Nat.le_trans Z0 E2.1
  have sz_b2 : h0.size ≤ b2 := Nat.le_trans (Keep.refl h0 []).1 (Nat.le_of_eq g2.symm)
  have K_4 : Keep h0 h2 [] := (Keep.refl h0 []).ext E2
  have F5 := V_a0.ext E2
  have V_6 : Arv Z h2 b2 k2 .int (4 : Int32) [(.int (0 : Int32)), (.int (0 : Int32)), (.int (0 : Int32)), (.int (0 : Int32))] (.int (0 : Int32)) := (Arv.new A2 (by decide)).pad (pad_rep [] (.int (0 : Int32)) 4)
  have b7 : ¬ ((1 : Int32) = (0 : Int32)) := (by decide)
  obtain ⟨T8, h8, X8, e8, W8, V8, st8⟩ := oStI X2 hx hZ e2 V_6 (j := (0 : Int32)) ⟨by decide, by decide⟩ 0 rfl (Nat.le_of_ble_eq_true rfl) (g := (mkF m 47 #[oa a0, oi (15 : Int32), oi (4 : Int32), oa b2, oi (0 : Int32)] [(.int u0), (.int (0 : Int32)), (.ref b2)])) rfl rfl (hb hby own_d2_47)
  obtain ⟨Lo8, X8, N8⟩ := oOpq X8 (Fr.snoc X8 N0 g_b2)
  have Z8 := Nat.le_trans Z2 (Keep.of_wr W8).1
  have F9 := F5.other W8 ne3
  have F10 := B2.wr W8
  have V_11 : Arv Z h8 b2 k2 .int (4 : Int32) [(.int u0), (.int (0 : Int32)), (.int (0 : Int32)), (.int (0 : Int32))] (.int (0 : Int32)) := V8
  have K_12 : Keep h0 h8 [] := K_4.wr W8 (Or.inr sz_b2)
  have b13 : ¬ ((2 : Int32) = (0 : Int32)) := (by decide)
  obtain ⟨T14, h14, X14, e14, W14, V14, st14⟩ := oStI X8 hx hZ e8 V_11 (j := (1 : Int32)) ⟨by decide, by decide⟩ 1 rfl (Nat.le_of_ble_eq_true rfl) (g := (mkF m 63 #[oa a0, oi (15 : Int32), oi (4 : Int32), oa b2, oi (1 : Int32)] [(.int u1), (.int (1 : Int32)), (.ref b2)])) rfl rfl (hb hby own_d2_63)
  obtain ⟨Lo14, X14, N14⟩ := oOpq X14 (Fr.snoc X14 N8 g_b2)
  have Z14 := Nat.le_trans Z8 (Keep.of_wr W14).1
  have F15 := F9.other W14 ne3
  have F16 := F10.wr W14
  have V_17 : Arv Z h14 b2 k2 .int (4 : Int32) [(.int u0), (.int u1), (.int (0 : Int32)), (.int (0 : Int32))] (.int (0 : Int32)) := V14
  have K_18 : Keep h0 h14 [] := K_12.wr W14 (Or.inr sz_b2)
  have b19 : ¬ ((4 : Int32) = (0 : Int32)) := (by decide)
  obtain ⟨T20, h20, X20, e20, W20, V20, st20⟩ := oStI X14 hx hZ e14 V_17 (j := (2 : Int32)) ⟨by decide, by decide⟩ 2 rfl (Nat.le_of_ble_eq_true rfl) (g := (mkF m 79 #[oa a0, oi (15 : Int32), oi (4 : Int32), oa b2, oi (2 : Int32)] [(.int u2), (.int (2 : Int32)), (.ref b2)])) rfl rfl (hb hby own_d2_79)
  obtain ⟨Lo20, X20, N20⟩ := oOpq X20 (Fr.snoc X20 N14 g_b2)
  have Z20 := Nat.le_trans Z14 (Keep.of_wr W20).1
  have F21 := F15.other W20 ne3
  have F22 := F16.wr W20
  have V_23 : Arv Z h20 b2 k2 .int (4 : Int32) [(.int u0), (.int u1), (.int u2), (.int (0 : Int32))] (.int (0 : Int32)) := V20
  have K_24 : Keep h0 h20 [] := K_18.wr W20 (Or.inr sz_b2)
  have b25 : ¬ ((8 : Int32) = (0 : Int32)) := (by decide)
  obtain ⟨T26, h26, X26, e26, W26, V26, st26⟩ := oStI X20 hx hZ e20 V_23 (j := (3 : Int32)) ⟨by decide, by decide⟩ 3 rfl (Nat.le_of_ble_eq_true rfl) (g := (mkF m 96 #[oa a0, oi (15 : Int32), oi (4 : Int32), oa b2, oi (3 : Int32)] [(.int u3), (.int (3 : Int32)), (.ref b2)])) rfl rfl (hb hby own_d2_96)
  obtain ⟨Lo26, X26, N26⟩ := oOpq X26 (Fr.snoc X26 N20 g_b2)
  have Z26 := Nat.le_trans Z20 (Keep.of_wr W26).1
  have F27 := F21.other W26 ne3
  have F28 := F22.wr W26
  have V_29 : Arv Z h26 b2 k2 .int (4 : Int32) [(.int u0), (.int u1), (.int u2), (.int u3)] (.int (0 : Int32)) := V26
  have K_30 : Keep h0 h26 [] := K_24.wr W26 (Or.inr sz_b2)
  have b31 : (0 : Int32) = (0 : Int32) := (by decide)
  obtain ⟨fs, hr, hrun, hended, hW, hsame⟩ := X26.leave (v := (some (.ref b2))) (fun h => by rw [Bd.returns] at h; cases h)
  refine ⟨_, _, pre1 _ ?_, hrun, hended, _, _, rfl, ?_, ⟨_, rfl⟩, hW, hsame.mono (by decide) (by decide)⟩
  · show oS p e below s₁ m 0 #[oa a0, oi (15 : Int32), .unset, .unset, .unset] [] _
    refine XS.iloadN X0.here hx rfl (hb hby own_d2_0) rfl ?_
    refine XS.iconst X0.here hx rfl (hb hby own_d2_1) ?_
    refine XS.iand X0.here hx rfl (hb hby own_d2_2) rfl ?_
    refine XS.iloadN X0.here hx rfl (hb hby own_d2_3) rfl ?_
    show oS p e below s₁ m 4 #[oa a0, oi (15 : Int32), .unset, .unset, .unset] [(.int (15 : Int32)), (.int (1 : Int32))] _
    refine XS.iconst X0.here hx rfl (hb hby own_d2_4) ?_
    show oS p e below s₁ m 5 #[oa a0, oi (15 : Int32), .unset, .unset, .unset] [(.int (1 : Int32)), (.int (15 : Int32)), (.int (1 : Int32))] _
    refine XS.iushr X0.here hx rfl (hb hby own_d2_5) rfl ?_
    refine XS.iconst X0.here hx rfl (hb hby own_d2_6) ?_
    refine XS.iand X0.here hx rfl (hb hby own_d2_7) rfl ?_
    refine XS.iadd X0.here hx rfl (hb hby own_d2_8) rfl ?_
    show oS p e below s₁ m 9 #[oa a0, oi (15 : Int32), .unset, .unset, .unset] [(.int (2 : Int32))] _
    refine XS.iloadN X0.here hx rfl (hb hby own_d2_9) rfl ?_
    refine XS.iconst X0.here hx rfl (hb hby own_d2_10) ?_
    show oS p e below s₁ m 11 #[oa a0, oi (15 : Int32), .unset, .unset, .unset] [(.int (2 : Int32)), (.int (15 : Int32)), (.int (2 : Int32))] _
    refine XS.iushr X0.here hx rfl (hb hby own_d2_11) rfl ?_
    refine XS.iconst X0.here hx rfl (hb hby own_d2_12) ?_
    refine XS.iand X0.here hx rfl (hb hby own_d2_13) rfl ?_
    refine XS.iadd X0.here hx rfl (hb hby own_d2_14) rfl ?_
    show oS p e below s₁ m 15 #[oa a0, oi (15 : Int32), .unset, .unset, .unset] [(.int (3 : Int32))] _
    refine XS.iloadN X0.here hx rfl (hb hby own_d2_15) rfl ?_
    refine XS.iconst X0.here hx rfl (hb hby own_d2_16) ?_
    show oS p e below s₁ m 17 #[oa a0, oi (15 : Int32), .unset, .unset, .unset] [(.int (3 : Int32)), (.int (15 : Int32)), (.int (3 : Int32))] _
    refine XS.iushr X0.here hx rfl (hb hby own_d2_17) rfl ?_
    refine XS.iconst X0.here hx rfl (hb hby own_d2_18) ?_
    refine XS.iand X0.here hx rfl (hb hby own_d2_19) rfl ?_
    refine XS.iadd X0.here hx rfl (hb hby own_d2_20) rfl ?_
    show oS p e below s₁ m 21 #[oa a0, oi (15 : Int32), .unset, .unset, .unset] [(.int (4 : Int32))] _
    refine XS.iloadN X0.here hx rfl (hb hby own_d2_21) rfl ?_
    refine XS.iconst X0.here hx rfl (hb hby own_d2_22) ?_
    show oS p e below s₁ m 23 #[oa a0, oi (15 : Int32), .unset, .unset, .unset] [(.int (4 : Int32)), (.int (15 : Int32)), (.int (4 : Int32))] _
    refine XS.iushr X0.here hx rfl (hb hby own_d2_23) rfl ?_
    refine XS.iconst X0.here hx rfl (hb hby own_d2_24) ?_
    refine XS.iand X0.here hx rfl (hb hby own_d2_25) rfl ?_
    refine XS.iadd X0.here hx rfl (hb hby own_d2_26) rfl ?_
    show oS p e below s₁ m 27 #[oa a0, oi (15 : Int32), .unset, .unset, .unset] [(.int (4 : Int32))] _
    refine XS.istoreN X0.here hx rfl (hb hby own_d2_27) rfl (l' := #[oa a0, oi (15 : Int32), oi (4 : Int32), .unset, .unset]) rfl ?_
    refine XS.iloadN X0.here hx rfl (hb hby own_d2_28) rfl ?_
    show oS p e below s₁ m 29 #[oa a0, oi (15 : Int32), oi (4 : Int32), .unset, .unset] [(.int (4 : Int32))] _
    refine st2 _ ?_
    show oS p e below T2 m 31 #[oa a0, oi (15 : Int32), oi (4 : Int32), .unset, .unset] [(.ref b2)] _
    refine XS.astoreN X2.here hx rfl (hb hby own_d2_31) rfl rfl (l' := #[oa a0, oi (15 : Int32), oi (4 : Int32), oa b2, .unset]) rfl ?_
    refine XS.iconst X2.here hx rfl (hb hby own_d2_32) ?_
    refine XS.istore X2.here hx rfl (hb hby own_d2_33) rfl (l' := #[oa a0, oi (15 : Int32), oi (4 : Int32), oa b2, oi (0 : Int32)]) rfl ?_
    refine XS.iloadN X2.here hx rfl (hb hby own_d2_35) rfl ?_
    show oS p e below T2 m 36 #[oa a0, oi (15 : Int32), oi (4 : Int32), oa b2, oi (0 : Int32)] [(.int (15 : Int32))] _
    refine XS.iconst X2.here hx rfl (hb hby own_d2_36) ?_
    refine XS.iand X2.here hx rfl (hb hby own_d2_37) rfl ?_
    show oS p e below T2 m 38 #[oa a0, oi (15 : Int32), oi (4 : Int32), oa b2, oi (0 : Int32)] [(.int (1 : Int32))] _
    refine XS.ifNo X2.here hx rfl (hb hby own_d2_38) rfl ((if0 _ _).trans (feq b7).1) ?_
    refine XS.aloadN X2.here hx rfl (hb hby own_d2_41) rfl rfl ?_
    refine XS.iload X2.here hx rfl (hb hby own_d2_42) rfl ?_
    refine XS.aloadN X2.here hx rfl (hb hby own_d2_44) rfl rfl ?_
    show oS p e below T2 m 45 #[oa a0, oi (15 : Int32), oi (4 : Int32), oa b2, oi (0 : Int32)] [(.ref a0), (.int (0 : Int32)), (.ref b2)] _
    refine XS.iconst X2.here hx rfl (hb hby own_d2_45) ?_
    show oS p e below T2 m 46 #[oa a0, oi (15 : Int32), oi (4 : Int32), oa b2, oi (0 : Int32)] [(.int (0 : Int32)), (.ref a0), (.int (0 : Int32)), (.ref b2)] _
    refine oLdI X2 hx hZ e2 F5 (v := (.int u0)) ⟨by decide, by decide⟩ rfl (hb hby own_d2_46) ?_
    show oS p e below T2 m 47 #[oa a0, oi (15 : Int32), oi (4 : Int32), oa b2, oi (0 : Int32)] [(.int u0), (.int (0 : Int32)), (.ref b2)] _
    refine st8 _ ?_
    show oS p e below T8 m 48 #[oa a0, oi (15 : Int32), oi (4 : Int32), oa b2, oi (0 : Int32)] [] _
    refine XS.iinc X8.here hx rfl (hb hby own_d2_48) rfl (l' := #[oa a0, oi (15 : Int32), oi (4 : Int32), oa b2, oi (1 : Int32)]) rfl ?_
    refine XS.iloadN X8.here hx rfl (hb hby own_d2_51) rfl ?_
    refine XS.iconst X8.here hx rfl (hb hby own_d2_52) ?_
    refine XS.iand X8.here hx rfl (hb hby own_d2_53) rfl ?_
    show oS p e below T8 m 54 #[oa a0, oi (15 : Int32), oi (4 : Int32), oa b2, oi (1 : Int32)] [(.int (2 : Int32))] _
    refine XS.ifNo X8.here hx rfl (hb hby own_d2_54) rfl ((if0 _ _).trans (feq b13).1) ?_
    refine XS.aloadN X8.here hx rfl (hb hby own_d2_57) rfl rfl ?_
    refine XS.iload X8.here hx rfl (hb hby own_d2_58) rfl ?_
    refine XS.aloadN X8.here hx rfl (hb hby own_d2_60) rfl rfl ?_
    show oS p e below T8 m 61 #[oa a0, oi (15 : Int32), oi (4 : Int32), oa b2, oi (1 : Int32)] [(.ref a0), (.int (1 : Int32)), (.ref b2)] _
    refine XS.iconst X8.here hx rfl (hb hby own_d2_61) ?_
    show oS p e below T8 m 62 #[oa a0, oi (15 : Int32), oi (4 : Int32), oa b2, oi (1 : Int32)] [(.int (1 : Int32)), (.ref a0), (.int (1 : Int32)), (.ref b2)] _
    refine oLdI X8 hx hZ e8 F9 (v := (.int u1)) ⟨by decide, by decide⟩ rfl (hb hby own_d2_62) ?_
    show oS p e below T8 m 63 #[oa a0, oi (15 : Int32), oi (4 : Int32), oa b2, oi (1 : Int32)] [(.int u1), (.int (1 : Int32)), (.ref b2)] _
    refine st14 _ ?_
    show oS p e below T14 m 64 #[oa a0, oi (15 : Int32), oi (4 : Int32), oa b2, oi (1 : Int32)] [] _
    refine XS.iinc X14.here hx rfl (hb hby own_d2_64) rfl (l' := #[oa a0, oi (15 : Int32), oi (4 : Int32), oa b2, oi (2 : Int32)]) rfl ?_
    refine XS.iloadN X14.here hx rfl (hb hby own_d2_67) rfl ?_
    refine XS.iconst X14.here hx rfl (hb hby own_d2_68) ?_
    refine XS.iand X14.here hx rfl (hb hby own_d2_69) rfl ?_
    show oS p e below T14 m 70 #[oa a0, oi (15 : Int32), oi (4 : Int32), oa b2, oi (2 : Int32)] [(.int (4 : Int32))] _
    refine XS.ifNo X14.here hx rfl (hb hby own_d2_70) rfl ((if0 _ _).trans (feq b19).1) ?_
    refine XS.aloadN X14.here hx rfl (hb hby own_d2_73) rfl rfl ?_
    refine XS.iload X14.here hx rfl (hb hby own_d2_74) rfl ?_
    refine XS.aloadN X14.here hx rfl (hb hby own_d2_76) rfl rfl ?_
    show oS p e below T14 m 77 #[oa a0, oi (15 : Int32), oi (4 : Int32), oa b2, oi (2 : Int32)] [(.ref a0), (.int (2 : Int32)), (.ref b2)] _
    refine XS.iconst X14.here hx rfl (hb hby own_d2_77) ?_
    show oS p e below T14 m 78 #[oa a0, oi (15 : Int32), oi (4 : Int32), oa b2, oi (2 : Int32)] [(.int (2 : Int32)), (.ref a0), (.int (2 : Int32)), (.ref b2)] _
    refine oLdI X14 hx hZ e14 F15 (v := (.int u2)) ⟨by decide, by decide⟩ rfl (hb hby own_d2_78) ?_
    show oS p e below T14 m 79 #[oa a0, oi (15 : Int32), oi (4 : Int32), oa b2, oi (2 : Int32)] [(.int u2), (.int (2 : Int32)), (.ref b2)] _
    refine st20 _ ?_
    show oS p e below T20 m 80 #[oa a0, oi (15 : Int32), oi (4 : Int32), oa b2, oi (2 : Int32)] [] _
    refine XS.iinc X20.here hx rfl (hb hby own_d2_80) rfl (l' := #[oa a0, oi (15 : Int32), oi (4 : Int32), oa b2, oi (3 : Int32)]) rfl ?_
    refine XS.iloadN X20.here hx rfl (hb hby own_d2_83) rfl ?_
    refine XS.bipush X20.here hx rfl (hb hby own_d2_84) ?_
    refine XS.iand X20.here hx rfl (hb hby own_d2_86) rfl ?_
    show oS p e below T20 m 87 #[oa a0, oi (15 : Int32), oi (4 : Int32), oa b2, oi (3 : Int32)] [(.int (8 : Int32))] _
    refine XS.ifNo X20.here hx rfl (hb hby own_d2_87) rfl ((if0 _ _).trans (feq b25).1) ?_
    refine XS.aloadN X20.here hx rfl (hb hby own_d2_90) rfl rfl ?_
    refine XS.iload X20.here hx rfl (hb hby own_d2_91) rfl ?_
    refine XS.aloadN X20.here hx rfl (hb hby own_d2_93) rfl rfl ?_
    show oS p e below T20 m 94 #[oa a0, oi (15 : Int32), oi (4 : Int32), oa b2, oi (3 : Int32)] [(.ref a0), (.int (3 : Int32)), (.ref b2)] _
    refine XS.iconst X20.here hx rfl (hb hby own_d2_94) ?_
    show oS p e below T20 m 95 #[oa a0, oi (15 : Int32), oi (4 : Int32), oa b2, oi (3 : Int32)] [(.int (3 : Int32)), (.ref a0), (.int (3 : Int32)), (.ref b2)] _
    refine oLdI X20 hx hZ e20 F21 (v := (.int u3)) ⟨by decide, by decide⟩ rfl (hb hby own_d2_95) ?_
    show oS p e below T20 m 96 #[oa a0, oi (15 : Int32), oi (4 : Int32), oa b2, oi (3 : Int32)] [(.int u3), (.int (3 : Int32)), (.ref b2)] _
    refine st26 _ ?_
    show oS p e below T26 m 97 #[oa a0, oi (15 : Int32), oi (4 : Int32), oa b2, oi (3 : Int32)] [] _
    refine XS.iinc X26.here hx rfl (hb hby own_d2_97) rfl (l' := #[oa a0, oi (15 : Int32), oi (4 : Int32), oa b2, oi (4 : Int32)]) rfl ?_
    refine XS.iloadN X26.here hx rfl (hb hby own_d2_100) rfl ?_
    refine XS.bipush X26.here hx rfl (hb hby own_d2_101) ?_
    refine XS.iand X26.here hx rfl (hb hby own_d2_103) rfl ?_
    show oS p e below T26 m 104 #[oa a0, oi (15 : Int32), oi (4 : Int32), oa b2, oi (4 : Int32)] [(.int (0 : Int32))] _
    refine XS.ifYes X26.here hx rfl (pc0 := 104) (pc' := 117) rfl (hb hby own_d2_104) rfl ((if0 _ _).trans (teq b31).1) (by decide) (by decide) ?_
    refine XS.aloadN X26.here hx rfl (hb hby own_d2_117) rfl rfl ?_
    show oS p e below T26 m 118 #[oa a0, oi (15 : Int32), oi (4 : Int32), oa b2, oi (4 : Int32)] [(.ref b2)] _
    exact retOut X26 hx Bd.returns rfl (Or.inr (Or.inr (Or.inr (Or.inr ⟨rfl, rfl, rfl⟩)))) (hb hby own_d2_118) hr
  · show own_Q2 Z a0 p1 k_a0 u0 u1 u2 u3 u4 h0 n0 _ T26.heap _
    rw [e26]
    refine ⟨b2, k2, rfl, N26, K_30, sz_b2, ?_⟩
    rw [km, show own_z (15 : Int32) = (4 : Int32) by decide +kernel, own_pk, show own_idx (15 : Int32) = [0, 1, 2, 3] by decide +kernel]
    exact V_29
theorem own_d2_107 : decode method_3_code 107 = .ok (.aload_n 3, 1) := by decide +kernel
theorem own_d2_108 : decode method_3_code 108 = .ok (.iload 4, 2) := by decide +kernel
theorem own_d2_110 : decode method_3_code 110 = .ok (.aload_n 0, 1) := by decide +kernel
theorem own_d2_111 : decode method_3_code 111 = .ok (.iconst 4, 1) := by decide +kernel
theorem own_d2_112 : decode method_3_code 112 = .ok (.iaload, 1) := by decide +kernel
theorem own_d2_113 : decode method_3_code 113 = .ok (.iastore, 1) := by decide +kernel
theorem own_d2_114 : decode method_3_code 114 = .ok (.iinc 4 1, 3) := by decide +kernel
set_option maxRecDepth 65536 in
set_option maxHeartbeats 40000000 in
theorem own_rm2_16 (l : Launch) (Z : State) (av : Array Value) (hw : ∀ d ∈ tables_1, d.before av Z = true) (ws : List Jvm.Cond) (a0 : Addr) (p1 : Int32) (k_a0 : ClassId) (u0 : Int32) (u1 : Int32) (u2 : Int32) (u3 : Int32) (u4 : Int32) (h0 : Heap) (n0 : Nat) (Z0 : n0 ≤ h0.size) (V_a0 : Arv Z h0 a0 k_a0 .int (5 : Int32) [(.int u0), (.int u1), (.int u2), (.int u3), (.int u4)] (.int (0 : Int32))) (km : p1 = (16 : Int32)) :
    MetFree l (⟨"com/example/strict_anon/strictanon/service/RecordSetsDifferencePinLaw", "pick", "([II)[I"⟩ : MethodName) (head1 (Jvm.Cond.code (⟨"com/example/strict_anon/strictanon/service/RecordSetsDifferencePinLaw", "pick", "([II)[I"⟩ : MethodName) method_3_code 5 (some (.array .int)) :: ws) ({ frames := 0, cells := 1, slots := 5, locals := 0 } : Room)) (fun a U => a = #[(.ref a0), (.int p1)] ∧ Z.Warmed39 U.vm ∧ U.heap = h0) (fun _ _ _ _ _ => True) (fun _ U o U' => ∃ v L, o = .returned v ∧ own_Q2 Z a0 p1 k_a0 u0 u1 u2 u3 u4 h0 n0 v U'.heap L ∧ FrameEnd U o U' L ({ frames := 0, cells := 1, slots := 5, locals := 0 } : Room).cells ({ frames := 0, cells := 1, slots := 5, locals := 0 } : Room).slots) := by
  refine MetFree.of_bodySF (plainFor_of_name own_pn0) hisR ?_
  intro p e s m args below meth c s₁ Bd hml0 hP hK
  obtain ⟨rfl, hZ, hh⟩ := hP
  have hx := Bd.exec
  have hby := Bd.bytes
  have hml : c.maxLocals = 5 := hml0
  have hown : s.vm.findClass "com/example/strict_anon/strictanon/service/RecordSetsDifferencePinLaw" = some m.cls := findClass_of_methodNamed Bd.named
  have hnm := (name_of_methodNamed Bd.named Bd.method).1
  have X0 : Stand p l e ({ frames := 0, cells := 1, slots := 5, locals := 0 } : Room) s m #[(.ref a0), (.int p1)] below meth c s₁ [] 0 0 := Stand.of_body Bd
  have e0 : s₁.heap = h0 := by rw [← hh, Bd.state]; rfl
  have N0 := Fr.nil n0
  have pre0 : ∀ t, Steps p.tables e below (s₁.setTop (mkF m 0 #[oa a0, oi p1, .unset, .unset, .unset] [])) t → Steps p.tables e below (s₁.setTop (entryFrame m #[(.ref a0), (.int p1)] 5)) t := fun t k => castTop (own_ef2 m a0 p1) k
  have pre1 : ∀ t, Steps p.tables e below (s₁.setTop (mkF m 0 #[oa a0, oi (16 : Int32), .unset, .unset, .unset] [])) t → Steps p.tables e below (s₁.setTop (entryFrame m #[(.ref a0), (.int p1)] 5)) t := by
    intro t k
    refine pre0 t ?_
    rw [km]
    exact k
  obtain ⟨T2, h2, k2, X2, e2, E2, A2, B2, st2⟩ := newPE X0 hx hZ (hw _ (List.mem_of_getElem? (i := 6) rfl)) e0 (g := (mkF m 29 #[oa a0, oi (16 : Int32), oi (1 : Int32), .unset, .unset] [(.int (1 : Int32))])) rfl (hb hby own_d2_29) rfl (by decide) (cap := 1) (by decide) (by decide) (by decide) (by decide) (ad := "[I") rfl
  obtain ⟨b2, g2⟩ : ∃ z, z = h0.size := ⟨_, rfl⟩
  rw [← g2] at A2 st2 B2
  have g_b2 : n0 ≤ b2 := Nat.le_trans Z0 (Nat.le_of_eq g2.symm)
  have ne3 : a0 ≠ b2 := Nat.ne_of_lt (Nat.lt_of_lt_of_le V_a0.lt (Nat.le_of_eq g2.symm))
  have Z2 : n0 ≤ h2.size := Nat.le_trans Z0 E2.1
  have sz_b2 : h0.size ≤ b2 := Nat.le_trans (Keep.refl h0 []).1 (Nat.le_of_eq g2.symm)
  have K_4 : Keep h0 h2 [] := (Keep.refl h0 []).ext E2
  have F5 := V_a0.ext E2
  have V_6 : Arv Z h2 b2 k2 .int (1 : Int32) [(.int (0 : Int32))] (.int (0 : Int32)) := (Arv.new A2 (by decide)).pad (pad_rep [] (.int (0 : Int32)) 1)
  have b7 : (0 : Int32) = (0 : Int32) := (by decide)
  have b8 : (0 : Int32) = (0 : Int32) := (by decide)
  have b9 : (0 : Int32) = (0 : Int32) := (by decide)
  have b10 : (0 : Int32) = (0 : Int32) := (by decide)
  have b11 : ¬ ((16 : Int32) = (0 : Int32)) := (by decide)
  obtain ⟨T12, h12, X12, e12, W12, V12, st12⟩ := oStI X2 hx hZ e2 V_6 (j := (0 : Int32)) ⟨by decide, by decide⟩ 0 rfl (Nat.le_of_ble_eq_true rfl) (g := (mkF m 113 #[oa a0, oi (16 : Int32), oi (1 : Int32), oa b2, oi (0 : Int32)] [(.int u4), (.int (0 : Int32)), (.ref b2)])) rfl rfl (hb hby own_d2_113)
  obtain ⟨Lo12, X12, N12⟩ := oOpq X12 (Fr.snoc X12 N0 g_b2)
  have Z12 := Nat.le_trans Z2 (Keep.of_wr W12).1
  have F13 := F5.other W12 ne3
  have F14 := B2.wr W12
  have V_15 : Arv Z h12 b2 k2 .int (1 : Int32) [(.int u4)] (.int (0 : Int32)) := V12
  have K_16 : Keep h0 h12 [] := K_4.wr W12 (Or.inr sz_b2)
  obtain ⟨fs, hr, hrun, hended, hW, hsame⟩ := X12.leave (v := (some (.ref b2))) (fun h => by rw [Bd.returns] at h; cases h)
  refine ⟨_, _, pre1 _ ?_, hrun, hended, _, _, rfl, ?_, ⟨_, rfl⟩, hW, hsame.mono (by decide) (by decide)⟩
  · show oS p e below s₁ m 0 #[oa a0, oi (16 : Int32), .unset, .unset, .unset] [] _
    refine XS.iloadN X0.here hx rfl (hb hby own_d2_0) rfl ?_
    refine XS.iconst X0.here hx rfl (hb hby own_d2_1) ?_
    refine XS.iand X0.here hx rfl (hb hby own_d2_2) rfl ?_
    refine XS.iloadN X0.here hx rfl (hb hby own_d2_3) rfl ?_
    show oS p e below s₁ m 4 #[oa a0, oi (16 : Int32), .unset, .unset, .unset] [(.int (16 : Int32)), (.int (0 : Int32))] _
    refine XS.iconst X0.here hx rfl (hb hby own_d2_4) ?_
    show oS p e below s₁ m 5 #[oa a0, oi (16 : Int32), .unset, .unset, .unset] [(.int (1 : Int32)), (.int (16 : Int32)), (.int (0 : Int32))] _
    refine XS.iushr X0.here hx rfl (hb hby own_d2_5) rfl ?_
    refine XS.iconst X0.here hx rfl (hb hby own_d2_6) ?_
    refine XS.iand X0.here hx rfl (hb hby own_d2_7) rfl ?_
    refine XS.iadd X0.here hx rfl (hb hby own_d2_8) rfl ?_
    show oS p e below s₁ m 9 #[oa a0, oi (16 : Int32), .unset, .unset, .unset] [(.int (0 : Int32))] _
    refine XS.iloadN X0.here hx rfl (hb hby own_d2_9) rfl ?_
    refine XS.iconst X0.here hx rfl (hb hby own_d2_10) ?_
    show oS p e below s₁ m 11 #[oa a0, oi (16 : Int32), .unset, .unset, .unset] [(.int (2 : Int32)), (.int (16 : Int32)), (.int (0 : Int32))] _
    refine XS.iushr X0.here hx rfl (hb hby own_d2_11) rfl ?_
    refine XS.iconst X0.here hx rfl (hb hby own_d2_12) ?_
    refine XS.iand X0.here hx rfl (hb hby own_d2_13) rfl ?_
    refine XS.iadd X0.here hx rfl (hb hby own_d2_14) rfl ?_
    show oS p e below s₁ m 15 #[oa a0, oi (16 : Int32), .unset, .unset, .unset] [(.int (0 : Int32))] _
    refine XS.iloadN X0.here hx rfl (hb hby own_d2_15) rfl ?_
    refine XS.iconst X0.here hx rfl (hb hby own_d2_16) ?_
    show oS p e below s₁ m 17 #[oa a0, oi (16 : Int32), .unset, .unset, .unset] [(.int (3 : Int32)), (.int (16 : Int32)), (.int (0 : Int32))] _
    refine XS.iushr X0.here hx rfl (hb hby own_d2_17) rfl ?_
    refine XS.iconst X0.here hx rfl (hb hby own_d2_18) ?_
    refine XS.iand X0.here hx rfl (hb hby own_d2_19) rfl ?_
    refine XS.iadd X0.here hx rfl (hb hby own_d2_20) rfl ?_
    show oS p e below s₁ m 21 #[oa a0, oi (16 : Int32), .unset, .unset, .unset] [(.int (0 : Int32))] _
    refine XS.iloadN X0.here hx rfl (hb hby own_d2_21) rfl ?_
    refine XS.iconst X0.here hx rfl (hb hby own_d2_22) ?_
    show oS p e below s₁ m 23 #[oa a0, oi (16 : Int32), .unset, .unset, .unset] [(.int (4 : Int32)), (.int (16 : Int32)), (.int (0 : Int32))] _
    refine XS.iushr X0.here hx rfl (hb hby own_d2_23) rfl ?_
    refine XS.iconst X0.here hx rfl (hb hby own_d2_24) ?_
    refine XS.iand X0.here hx rfl (hb hby own_d2_25) rfl ?_
    refine XS.iadd X0.here hx rfl (hb hby own_d2_26) rfl ?_
    show oS p e below s₁ m 27 #[oa a0, oi (16 : Int32), .unset, .unset, .unset] [(.int (1 : Int32))] _
    refine XS.istoreN X0.here hx rfl (hb hby own_d2_27) rfl (l' := #[oa a0, oi (16 : Int32), oi (1 : Int32), .unset, .unset]) rfl ?_
    refine XS.iloadN X0.here hx rfl (hb hby own_d2_28) rfl ?_
    show oS p e below s₁ m 29 #[oa a0, oi (16 : Int32), oi (1 : Int32), .unset, .unset] [(.int (1 : Int32))] _
    refine st2 _ ?_
    show oS p e below T2 m 31 #[oa a0, oi (16 : Int32), oi (1 : Int32), .unset, .unset] [(.ref b2)] _
    refine XS.astoreN X2.here hx rfl (hb hby own_d2_31) rfl rfl (l' := #[oa a0, oi (16 : Int32), oi (1 : Int32), oa b2, .unset]) rfl ?_
    refine XS.iconst X2.here hx rfl (hb hby own_d2_32) ?_
    refine XS.istore X2.here hx rfl (hb hby own_d2_33) rfl (l' := #[oa a0, oi (16 : Int32), oi (1 : Int32), oa b2, oi (0 : Int32)]) rfl ?_
    refine XS.iloadN X2.here hx rfl (hb hby own_d2_35) rfl ?_
    show oS p e below T2 m 36 #[oa a0, oi (16 : Int32), oi (1 : Int32), oa b2, oi (0 : Int32)] [(.int (16 : Int32))] _
    refine XS.iconst X2.here hx rfl (hb hby own_d2_36) ?_
    refine XS.iand X2.here hx rfl (hb hby own_d2_37) rfl ?_
    show oS p e below T2 m 38 #[oa a0, oi (16 : Int32), oi (1 : Int32), oa b2, oi (0 : Int32)] [(.int (0 : Int32))] _
    refine XS.ifYes X2.here hx rfl (pc0 := 38) (pc' := 51) rfl (hb hby own_d2_38) rfl ((if0 _ _).trans (teq b7).1) (by decide) (by decide) ?_
    refine XS.iloadN X2.here hx rfl (hb hby own_d2_51) rfl ?_
    refine XS.iconst X2.here hx rfl (hb hby own_d2_52) ?_
    refine XS.iand X2.here hx rfl (hb hby own_d2_53) rfl ?_
    show oS p e below T2 m 54 #[oa a0, oi (16 : Int32), oi (1 : Int32), oa b2, oi (0 : Int32)] [(.int (0 : Int32))] _
    refine XS.ifYes X2.here hx rfl (pc0 := 54) (pc' := 67) rfl (hb hby own_d2_54) rfl ((if0 _ _).trans (teq b8).1) (by decide) (by decide) ?_
    refine XS.iloadN X2.here hx rfl (hb hby own_d2_67) rfl ?_
    refine XS.iconst X2.here hx rfl (hb hby own_d2_68) ?_
    refine XS.iand X2.here hx rfl (hb hby own_d2_69) rfl ?_
    show oS p e below T2 m 70 #[oa a0, oi (16 : Int32), oi (1 : Int32), oa b2, oi (0 : Int32)] [(.int (0 : Int32))] _
    refine XS.ifYes X2.here hx rfl (pc0 := 70) (pc' := 83) rfl (hb hby own_d2_70) rfl ((if0 _ _).trans (teq b9).1) (by decide) (by decide) ?_
    refine XS.iloadN X2.here hx rfl (hb hby own_d2_83) rfl ?_
    refine XS.bipush X2.here hx rfl (hb hby own_d2_84) ?_
    refine XS.iand X2.here hx rfl (hb hby own_d2_86) rfl ?_
    show oS p e below T2 m 87 #[oa a0, oi (16 : Int32), oi (1 : Int32), oa b2, oi (0 : Int32)] [(.int (0 : Int32))] _
    refine XS.ifYes X2.here hx rfl (pc0 := 87) (pc' := 100) rfl (hb hby own_d2_87) rfl ((if0 _ _).trans (teq b10).1) (by decide) (by decide) ?_
    refine XS.iloadN X2.here hx rfl (hb hby own_d2_100) rfl ?_
    refine XS.bipush X2.here hx rfl (hb hby own_d2_101) ?_
    refine XS.iand X2.here hx rfl (hb hby own_d2_103) rfl ?_
    show oS p e below T2 m 104 #[oa a0, oi (16 : Int32), oi (1 : Int32), oa b2, oi (0 : Int32)] [(.int (16 : Int32))] _
    refine XS.ifNo X2.here hx rfl (hb hby own_d2_104) rfl ((if0 _ _).trans (feq b11).1) ?_
    refine XS.aloadN X2.here hx rfl (hb hby own_d2_107) rfl rfl ?_
    refine XS.iload X2.here hx rfl (hb hby own_d2_108) rfl ?_
    refine XS.aloadN X2.here hx rfl (hb hby own_d2_110) rfl rfl ?_
    show oS p e below T2 m 111 #[oa a0, oi (16 : Int32), oi (1 : Int32), oa b2, oi (0 : Int32)] [(.ref a0), (.int (0 : Int32)), (.ref b2)] _
    refine XS.iconst X2.here hx rfl (hb hby own_d2_111) ?_
    show oS p e below T2 m 112 #[oa a0, oi (16 : Int32), oi (1 : Int32), oa b2, oi (0 : Int32)] [(.int (4 : Int32)), (.ref a0), (.int (0 : Int32)), (.ref b2)] _
    refine oLdI X2 hx hZ e2 F5 (v := (.int u4)) ⟨by decide, by decide⟩ rfl (hb hby own_d2_112) ?_
    show oS p e below T2 m 113 #[oa a0, oi (16 : Int32), oi (1 : Int32), oa b2, oi (0 : Int32)] [(.int u4), (.int (0 : Int32)), (.ref b2)] _
    refine st12 _ ?_
    show oS p e below T12 m 114 #[oa a0, oi (16 : Int32), oi (1 : Int32), oa b2, oi (0 : Int32)] [] _
    refine XS.iinc X12.here hx rfl (hb hby own_d2_114) rfl (l' := #[oa a0, oi (16 : Int32), oi (1 : Int32), oa b2, oi (1 : Int32)]) rfl ?_
    refine XS.aloadN X12.here hx rfl (hb hby own_d2_117) rfl rfl ?_
    show oS p e below T12 m 118 #[oa a0, oi (16 : Int32), oi (1 : Int32), oa b2, oi (1 : Int32)] [(.ref b2)] _
    exact retOut X12 hx Bd.returns rfl (Or.inr (Or.inr (Or.inr (Or.inr ⟨rfl, rfl, rfl⟩)))) (hb hby own_d2_118) hr
  · show own_Q2 Z a0 p1 k_a0 u0 u1 u2 u3 u4 h0 n0 _ T12.heap _
    rw [e12]
    refine ⟨b2, k2, rfl, N12, K_16, sz_b2, ?_⟩
    rw [km, show own_z (16 : Int32) = (1 : Int32) by decide +kernel, own_pk, show own_idx (16 : Int32) = [4] by decide +kernel]
    exact V_15
set_option maxRecDepth 65536 in
set_option maxHeartbeats 40000000 in
theorem own_rm2_17 (l : Launch) (Z : State) (av : Array Value) (hw : ∀ d ∈ tables_1, d.before av Z = true) (ws : List Jvm.Cond) (a0 : Addr) (p1 : Int32) (k_a0 : ClassId) (u0 : Int32) (u1 : Int32) (u2 : Int32) (u3 : Int32) (u4 : Int32) (h0 : Heap) (n0 : Nat) (Z0 : n0 ≤ h0.size) (V_a0 : Arv Z h0 a0 k_a0 .int (5 : Int32) [(.int u0), (.int u1), (.int u2), (.int u3), (.int u4)] (.int (0 : Int32))) (km : p1 = (17 : Int32)) :
    MetFree l (⟨"com/example/strict_anon/strictanon/service/RecordSetsDifferencePinLaw", "pick", "([II)[I"⟩ : MethodName) (head1 (Jvm.Cond.code (⟨"com/example/strict_anon/strictanon/service/RecordSetsDifferencePinLaw", "pick", "([II)[I"⟩ : MethodName) method_3_code 5 (some (.array .int)) :: ws) ({ frames := 0, cells := 1, slots := 5, locals := 0 } : Room)) (fun a U => a = #[(.ref a0), (.int p1)] ∧ Z.Warmed39 U.vm ∧ U.heap = h0) (fun _ _ _ _ _ => True) (fun _ U o U' => ∃ v L, o = .returned v ∧ own_Q2 Z a0 p1 k_a0 u0 u1 u2 u3 u4 h0 n0 v U'.heap L ∧ FrameEnd U o U' L ({ frames := 0, cells := 1, slots := 5, locals := 0 } : Room).cells ({ frames := 0, cells := 1, slots := 5, locals := 0 } : Room).slots) := by
  refine MetFree.of_bodySF (plainFor_of_name own_pn0) hisR ?_
  intro p e s m args below meth c s₁ Bd hml0 hP hK
  obtain ⟨rfl, hZ, hh⟩ := hP
  have hx := Bd.exec
  have hby := Bd.bytes
  have hml : c.maxLocals = 5 := hml0
  have hown : s.vm.findClass "com/example/strict_anon/strictanon/service/RecordSetsDifferencePinLaw" = some m.cls := findClass_of_methodNamed Bd.named
  have hnm := (name_of_methodNamed Bd.named Bd.method).1
  have X0 : Stand p l e ({ frames := 0, cells := 1, slots := 5, locals := 0 } : Room) s m #[(.ref a0), (.int p1)] below meth c s₁ [] 0 0 := Stand.of_body Bd
  have e0 : s₁.heap = h0 := by rw [← hh, Bd.state]; rfl
  have N0 := Fr.nil n0
  have pre0 : ∀ t, Steps p.tables e below (s₁.setTop (mkF m 0 #[oa a0, oi p1, .unset, .unset, .unset] [])) t → Steps p.tables e below (s₁.setTop (entryFrame m #[(.ref a0), (.int p1)] 5)) t := fun t k => castTop (own_ef2 m a0 p1) k
  have pre1 : ∀ t, Steps p.tables e below (s₁.setTop (mkF m 0 #[oa a0, oi (17 : Int32), .unset, .unset, .unset] [])) t → Steps p.tables e below (s₁.setTop (entryFrame m #[(.ref a0), (.int p1)] 5)) t := by
    intro t k
    refine pre0 t ?_
    rw [km]
    exact k
  obtain ⟨T2, h2, k2, X2, e2, E2, A2, B2, st2⟩ := newPE X0 hx hZ (hw _ (List.mem_of_getElem? (i := 6) rfl)) e0 (g := (mkF m 29 #[oa a0, oi (17 : Int32), oi (2 : Int32), .unset, .unset] [(.int (2 : Int32))])) rfl (hb hby own_d2_29) rfl (by decide) (cap := 2) (by decide) (by decide) (by decide) (by decide) (ad := "[I") rfl
  obtain ⟨b2, g2⟩ : ∃ z, z = h0.size := ⟨_, rfl⟩
  rw [← g2] at A2 st2 B2
  have g_b2 : n0 ≤ b2 := Nat.le_trans Z0 (Nat.le_of_eq g2.symm)
  have ne3 : a0 ≠ b2 := Nat.ne_of_lt (Nat.lt_of_lt_of_le V_a0.lt (Nat.le_of_eq g2.symm))
  have Z2 : n0 ≤ h2.size := Nat.le_trans Z0 E2.1
  have sz_b2 : h0.size ≤ b2 := Nat.le_trans (Keep.refl h0 []).1 (Nat.le_of_eq g2.symm)
  have K_4 : Keep h0 h2 [] := (Keep.refl h0 []).ext E2
  have F5 := V_a0.ext E2
  have V_6 : Arv Z h2 b2 k2 .int (2 : Int32) [(.int (0 : Int32)), (.int (0 : Int32))] (.int (0 : Int32)) := (Arv.new A2 (by decide)).pad (pad_rep [] (.int (0 : Int32)) 2)
  have b7 : ¬ ((1 : Int32) = (0 : Int32)) := (by decide)
  obtain ⟨T8, h8, X8, e8, W8, V8, st8⟩ := oStI X2 hx hZ e2 V_6 (j := (0 : Int32)) ⟨by decide, by decide⟩ 0 rfl (Nat.le_of_ble_eq_true rfl) (g := (mkF m 47 #[oa a0, oi (17 : Int32), oi (2 : Int32), oa b2, oi (0 : Int32)] [(.int u0), (.int (0 : Int32)), (.ref b2)])) rfl rfl (hb hby own_d2_47)
  obtain ⟨Lo8, X8, N8⟩ := oOpq X8 (Fr.snoc X8 N0 g_b2)
  have Z8 := Nat.le_trans Z2 (Keep.of_wr W8).1
  have F9 := F5.other W8 ne3
  have F10 := B2.wr W8
  have V_11 : Arv Z h8 b2 k2 .int (2 : Int32) [(.int u0), (.int (0 : Int32))] (.int (0 : Int32)) := V8
  have K_12 : Keep h0 h8 [] := K_4.wr W8 (Or.inr sz_b2)
  have b13 : (0 : Int32) = (0 : Int32) := (by decide)
  have b14 : (0 : Int32) = (0 : Int32) := (by decide)
  have b15 : (0 : Int32) = (0 : Int32) := (by decide)
  have b16 : ¬ ((16 : Int32) = (0 : Int32)) := (by decide)
  obtain ⟨T17, h17, X17, e17, W17, V17, st17⟩ := oStI X8 hx hZ e8 V_11 (j := (1 : Int32)) ⟨by decide, by decide⟩ 1 rfl (Nat.le_of_ble_eq_true rfl) (g := (mkF m 113 #[oa a0, oi (17 : Int32), oi (2 : Int32), oa b2, oi (1 : Int32)] [(.int u4), (.int (1 : Int32)), (.ref b2)])) rfl rfl (hb hby own_d2_113)
  obtain ⟨Lo17, X17, N17⟩ := oOpq X17 (Fr.snoc X17 N8 g_b2)
  have Z17 := Nat.le_trans Z8 (Keep.of_wr W17).1
  have F18 := F9.other W17 ne3
  have F19 := F10.wr W17
  have V_20 : Arv Z h17 b2 k2 .int (2 : Int32) [(.int u0), (.int u4)] (.int (0 : Int32)) := V17
  have K_21 : Keep h0 h17 [] := K_12.wr W17 (Or.inr sz_b2)
  obtain ⟨fs, hr, hrun, hended, hW, hsame⟩ := X17.leave (v := (some (.ref b2))) (fun h => by rw [Bd.returns] at h; cases h)
  refine ⟨_, _, pre1 _ ?_, hrun, hended, _, _, rfl, ?_, ⟨_, rfl⟩, hW, hsame.mono (by decide) (by decide)⟩
  · show oS p e below s₁ m 0 #[oa a0, oi (17 : Int32), .unset, .unset, .unset] [] _
    refine XS.iloadN X0.here hx rfl (hb hby own_d2_0) rfl ?_
    refine XS.iconst X0.here hx rfl (hb hby own_d2_1) ?_
    refine XS.iand X0.here hx rfl (hb hby own_d2_2) rfl ?_
    refine XS.iloadN X0.here hx rfl (hb hby own_d2_3) rfl ?_
    show oS p e below s₁ m 4 #[oa a0, oi (17 : Int32), .unset, .unset, .unset] [(.int (17 : Int32)), (.int (1 : Int32))] _
    refine XS.iconst X0.here hx rfl (hb hby own_d2_4) ?_
    show oS p e below s₁ m 5 #[oa a0, oi (17 : Int32), .unset, .unset, .unset] [(.int (1 : Int32)), (.int (17 : Int32)), (.int (1 : Int32))] _
    refine XS.iushr X0.here hx rfl (hb hby own_d2_5) rfl ?_
    refine XS.iconst X0.here hx rfl (hb hby own_d2_6) ?_
    refine XS.iand X0.here hx rfl (hb hby own_d2_7) rfl ?_
    refine XS.iadd X0.here hx rfl (hb hby own_d2_8) rfl ?_
    show oS p e below s₁ m 9 #[oa a0, oi (17 : Int32), .unset, .unset, .unset] [(.int (1 : Int32))] _
    refine XS.iloadN X0.here hx rfl (hb hby own_d2_9) rfl ?_
    refine XS.iconst X0.here hx rfl (hb hby own_d2_10) ?_
    show oS p e below s₁ m 11 #[oa a0, oi (17 : Int32), .unset, .unset, .unset] [(.int (2 : Int32)), (.int (17 : Int32)), (.int (1 : Int32))] _
    refine XS.iushr X0.here hx rfl (hb hby own_d2_11) rfl ?_
    refine XS.iconst X0.here hx rfl (hb hby own_d2_12) ?_
    refine XS.iand X0.here hx rfl (hb hby own_d2_13) rfl ?_
    refine XS.iadd X0.here hx rfl (hb hby own_d2_14) rfl ?_
    show oS p e below s₁ m 15 #[oa a0, oi (17 : Int32), .unset, .unset, .unset] [(.int (1 : Int32))] _
    refine XS.iloadN X0.here hx rfl (hb hby own_d2_15) rfl ?_
    refine XS.iconst X0.here hx rfl (hb hby own_d2_16) ?_
    show oS p e below s₁ m 17 #[oa a0, oi (17 : Int32), .unset, .unset, .unset] [(.int (3 : Int32)), (.int (17 : Int32)), (.int (1 : Int32))] _
    refine XS.iushr X0.here hx rfl (hb hby own_d2_17) rfl ?_
    refine XS.iconst X0.here hx rfl (hb hby own_d2_18) ?_
    refine XS.iand X0.here hx rfl (hb hby own_d2_19) rfl ?_
    refine XS.iadd X0.here hx rfl (hb hby own_d2_20) rfl ?_
    show oS p e below s₁ m 21 #[oa a0, oi (17 : Int32), .unset, .unset, .unset] [(.int (1 : Int32))] _
    refine XS.iloadN X0.here hx rfl (hb hby own_d2_21) rfl ?_
    refine XS.iconst X0.here hx rfl (hb hby own_d2_22) ?_
    show oS p e below s₁ m 23 #[oa a0, oi (17 : Int32), .unset, .unset, .unset] [(.int (4 : Int32)), (.int (17 : Int32)), (.int (1 : Int32))] _
    refine XS.iushr X0.here hx rfl (hb hby own_d2_23) rfl ?_
    refine XS.iconst X0.here hx rfl (hb hby own_d2_24) ?_
    refine XS.iand X0.here hx rfl (hb hby own_d2_25) rfl ?_
    refine XS.iadd X0.here hx rfl (hb hby own_d2_26) rfl ?_
    show oS p e below s₁ m 27 #[oa a0, oi (17 : Int32), .unset, .unset, .unset] [(.int (2 : Int32))] _
    refine XS.istoreN X0.here hx rfl (hb hby own_d2_27) rfl (l' := #[oa a0, oi (17 : Int32), oi (2 : Int32), .unset, .unset]) rfl ?_
    refine XS.iloadN X0.here hx rfl (hb hby own_d2_28) rfl ?_
    show oS p e below s₁ m 29 #[oa a0, oi (17 : Int32), oi (2 : Int32), .unset, .unset] [(.int (2 : Int32))] _
    refine st2 _ ?_
    show oS p e below T2 m 31 #[oa a0, oi (17 : Int32), oi (2 : Int32), .unset, .unset] [(.ref b2)] _
    refine XS.astoreN X2.here hx rfl (hb hby own_d2_31) rfl rfl (l' := #[oa a0, oi (17 : Int32), oi (2 : Int32), oa b2, .unset]) rfl ?_
    refine XS.iconst X2.here hx rfl (hb hby own_d2_32) ?_
    refine XS.istore X2.here hx rfl (hb hby own_d2_33) rfl (l' := #[oa a0, oi (17 : Int32), oi (2 : Int32), oa b2, oi (0 : Int32)]) rfl ?_
    refine XS.iloadN X2.here hx rfl (hb hby own_d2_35) rfl ?_
    show oS p e below T2 m 36 #[oa a0, oi (17 : Int32), oi (2 : Int32), oa b2, oi (0 : Int32)] [(.int (17 : Int32))] _
    refine XS.iconst X2.here hx rfl (hb hby own_d2_36) ?_
    refine XS.iand X2.here hx rfl (hb hby own_d2_37) rfl ?_
    show oS p e below T2 m 38 #[oa a0, oi (17 : Int32), oi (2 : Int32), oa b2, oi (0 : Int32)] [(.int (1 : Int32))] _
    refine XS.ifNo X2.here hx rfl (hb hby own_d2_38) rfl ((if0 _ _).trans (feq b7).1) ?_
    refine XS.aloadN X2.here hx rfl (hb hby own_d2_41) rfl rfl ?_
    refine XS.iload X2.here hx rfl (hb hby own_d2_42) rfl ?_
    refine XS.aloadN X2.here hx rfl (hb hby own_d2_44) rfl rfl ?_
    show oS p e below T2 m 45 #[oa a0, oi (17 : Int32), oi (2 : Int32), oa b2, oi (0 : Int32)] [(.ref a0), (.int (0 : Int32)), (.ref b2)] _
    refine XS.iconst X2.here hx rfl (hb hby own_d2_45) ?_
    show oS p e below T2 m 46 #[oa a0, oi (17 : Int32), oi (2 : Int32), oa b2, oi (0 : Int32)] [(.int (0 : Int32)), (.ref a0), (.int (0 : Int32)), (.ref b2)] _
    refine oLdI X2 hx hZ e2 F5 (v := (.int u0)) ⟨by decide, by decide⟩ rfl (hb hby own_d2_46) ?_
    show oS p e below T2 m 47 #[oa a0, oi (17 : Int32), oi (2 : Int32), oa b2, oi (0 : Int32)] [(.int u0), (.int (0 : Int32)), (.ref b2)] _
    refine st8 _ ?_
    show oS p e below T8 m 48 #[oa a0, oi (17 : Int32), oi (2 : Int32), oa b2, oi (0 : Int32)] [] _
    refine XS.iinc X8.here hx rfl (hb hby own_d2_48) rfl (l' := #[oa a0, oi (17 : Int32), oi (2 : Int32), oa b2, oi (1 : Int32)]) rfl ?_
    refine XS.iloadN X8.here hx rfl (hb hby own_d2_51) rfl ?_
    refine XS.iconst X8.here hx rfl (hb hby own_d2_52) ?_
    refine XS.iand X8.here hx rfl (hb hby own_d2_53) rfl ?_
    show oS p e below T8 m 54 #[oa a0, oi (17 : Int32), oi (2 : Int32), oa b2, oi (1 : Int32)] [(.int (0 : Int32))] _
    refine XS.ifYes X8.here hx rfl (pc0 := 54) (pc' := 67) rfl (hb hby own_d2_54) rfl ((if0 _ _).trans (teq b13).1) (by decide) (by decide) ?_
    refine XS.iloadN X8.here hx rfl (hb hby own_d2_67) rfl ?_
    refine XS.iconst X8.here hx rfl (hb hby own_d2_68) ?_
    refine XS.iand X8.here hx rfl (hb hby own_d2_69) rfl ?_
    show oS p e below T8 m 70 #[oa a0, oi (17 : Int32), oi (2 : Int32), oa b2, oi (1 : Int32)] [(.int (0 : Int32))] _
    refine XS.ifYes X8.here hx rfl (pc0 := 70) (pc' := 83) rfl (hb hby own_d2_70) rfl ((if0 _ _).trans (teq b14).1) (by decide) (by decide) ?_
    refine XS.iloadN X8.here hx rfl (hb hby own_d2_83) rfl ?_
    refine XS.bipush X8.here hx rfl (hb hby own_d2_84) ?_
    refine XS.iand X8.here hx rfl (hb hby own_d2_86) rfl ?_
    show oS p e below T8 m 87 #[oa a0, oi (17 : Int32), oi (2 : Int32), oa b2, oi (1 : Int32)] [(.int (0 : Int32))] _
    refine XS.ifYes X8.here hx rfl (pc0 := 87) (pc' := 100) rfl (hb hby own_d2_87) rfl ((if0 _ _).trans (teq b15).1) (by decide) (by decide) ?_
    refine XS.iloadN X8.here hx rfl (hb hby own_d2_100) rfl ?_
    refine XS.bipush X8.here hx rfl (hb hby own_d2_101) ?_
    refine XS.iand X8.here hx rfl (hb hby own_d2_103) rfl ?_
    show oS p e below T8 m 104 #[oa a0, oi (17 : Int32), oi (2 : Int32), oa b2, oi (1 : Int32)] [(.int (16 : Int32))] _
    refine XS.ifNo X8.here hx rfl (hb hby own_d2_104) rfl ((if0 _ _).trans (feq b16).1) ?_
    refine XS.aloadN X8.here hx rfl (hb hby own_d2_107) rfl rfl ?_
    refine XS.iload X8.here hx rfl (hb hby own_d2_108) rfl ?_
    refine XS.aloadN X8.here hx rfl (hb hby own_d2_110) rfl rfl ?_
    show oS p e below T8 m 111 #[oa a0, oi (17 : Int32), oi (2 : Int32), oa b2, oi (1 : Int32)] [(.ref a0), (.int (1 : Int32)), (.ref b2)] _
    refine XS.iconst X8.here hx rfl (hb hby own_d2_111) ?_
    show oS p e below T8 m 112 #[oa a0, oi (17 : Int32), oi (2 : Int32), oa b2, oi (1 : Int32)] [(.int (4 : Int32)), (.ref a0), (.int (1 : Int32)), (.ref b2)] _
    refine oLdI X8 hx hZ e8 F9 (v := (.int u4)) ⟨by decide, by decide⟩ rfl (hb hby own_d2_112) ?_
    show oS p e below T8 m 113 #[oa a0, oi (17 : Int32), oi (2 : Int32), oa b2, oi (1 : Int32)] [(.int u4), (.int (1 : Int32)), (.ref b2)] _
    refine st17 _ ?_
    show oS p e below T17 m 114 #[oa a0, oi (17 : Int32), oi (2 : Int32), oa b2, oi (1 : Int32)] [] _
    refine XS.iinc X17.here hx rfl (hb hby own_d2_114) rfl (l' := #[oa a0, oi (17 : Int32), oi (2 : Int32), oa b2, oi (2 : Int32)]) rfl ?_
    refine XS.aloadN X17.here hx rfl (hb hby own_d2_117) rfl rfl ?_
    show oS p e below T17 m 118 #[oa a0, oi (17 : Int32), oi (2 : Int32), oa b2, oi (2 : Int32)] [(.ref b2)] _
    exact retOut X17 hx Bd.returns rfl (Or.inr (Or.inr (Or.inr (Or.inr ⟨rfl, rfl, rfl⟩)))) (hb hby own_d2_118) hr
  · show own_Q2 Z a0 p1 k_a0 u0 u1 u2 u3 u4 h0 n0 _ T17.heap _
    rw [e17]
    refine ⟨b2, k2, rfl, N17, K_21, sz_b2, ?_⟩
    rw [km, show own_z (17 : Int32) = (2 : Int32) by decide +kernel, own_pk, show own_idx (17 : Int32) = [0, 4] by decide +kernel]
    exact V_20
set_option maxRecDepth 65536 in
set_option maxHeartbeats 40000000 in
theorem own_rm2_18 (l : Launch) (Z : State) (av : Array Value) (hw : ∀ d ∈ tables_1, d.before av Z = true) (ws : List Jvm.Cond) (a0 : Addr) (p1 : Int32) (k_a0 : ClassId) (u0 : Int32) (u1 : Int32) (u2 : Int32) (u3 : Int32) (u4 : Int32) (h0 : Heap) (n0 : Nat) (Z0 : n0 ≤ h0.size) (V_a0 : Arv Z h0 a0 k_a0 .int (5 : Int32) [(.int u0), (.int u1), (.int u2), (.int u3), (.int u4)] (.int (0 : Int32))) (km : p1 = (18 : Int32)) :
    MetFree l (⟨"com/example/strict_anon/strictanon/service/RecordSetsDifferencePinLaw", "pick", "([II)[I"⟩ : MethodName) (head1 (Jvm.Cond.code (⟨"com/example/strict_anon/strictanon/service/RecordSetsDifferencePinLaw", "pick", "([II)[I"⟩ : MethodName) method_3_code 5 (some (.array .int)) :: ws) ({ frames := 0, cells := 1, slots := 5, locals := 0 } : Room)) (fun a U => a = #[(.ref a0), (.int p1)] ∧ Z.Warmed39 U.vm ∧ U.heap = h0) (fun _ _ _ _ _ => True) (fun _ U o U' => ∃ v L, o = .returned v ∧ own_Q2 Z a0 p1 k_a0 u0 u1 u2 u3 u4 h0 n0 v U'.heap L ∧ FrameEnd U o U' L ({ frames := 0, cells := 1, slots := 5, locals := 0 } : Room).cells ({ frames := 0, cells := 1, slots := 5, locals := 0 } : Room).slots) := by
  refine MetFree.of_bodySF (plainFor_of_name own_pn0) hisR ?_
  intro p e s m args below meth c s₁ Bd hml0 hP hK
  obtain ⟨rfl, hZ, hh⟩ := hP
  have hx := Bd.exec
  have hby := Bd.bytes
  have hml : c.maxLocals = 5 := hml0
  have hown : s.vm.findClass "com/example/strict_anon/strictanon/service/RecordSetsDifferencePinLaw" = some m.cls := findClass_of_methodNamed Bd.named
  have hnm := (name_of_methodNamed Bd.named Bd.method).1
  have X0 : Stand p l e ({ frames := 0, cells := 1, slots := 5, locals := 0 } : Room) s m #[(.ref a0), (.int p1)] below meth c s₁ [] 0 0 := Stand.of_body Bd
  have e0 : s₁.heap = h0 := by rw [← hh, Bd.state]; rfl
  have N0 := Fr.nil n0
  have pre0 : ∀ t, Steps p.tables e below (s₁.setTop (mkF m 0 #[oa a0, oi p1, .unset, .unset, .unset] [])) t → Steps p.tables e below (s₁.setTop (entryFrame m #[(.ref a0), (.int p1)] 5)) t := fun t k => castTop (own_ef2 m a0 p1) k
  have pre1 : ∀ t, Steps p.tables e below (s₁.setTop (mkF m 0 #[oa a0, oi (18 : Int32), .unset, .unset, .unset] [])) t → Steps p.tables e below (s₁.setTop (entryFrame m #[(.ref a0), (.int p1)] 5)) t := by
    intro t k
    refine pre0 t ?_
    rw [km]
    exact k
  obtain ⟨T2, h2, k2, X2, e2, E2, A2, B2, st2⟩ := newPE X0 hx hZ (hw _ (List.mem_of_getElem? (i := 6) rfl)) e0 (g := (mkF m 29 #[oa a0, oi (18 : Int32), oi (2 : Int32), .unset, .unset] [(.int (2 : Int32))])) rfl (hb hby own_d2_29) rfl (by decide) (cap := 2) (by decide) (by decide) (by decide) (by decide) (ad := "[I") rfl
  obtain ⟨b2, g2⟩ : ∃ z, z = h0.size := ⟨_, rfl⟩
  rw [← g2] at A2 st2 B2
  have g_b2 : n0 ≤ b2 := Nat.le_trans Z0 (Nat.le_of_eq g2.symm)
  have ne3 : a0 ≠ b2 := Nat.ne_of_lt (Nat.lt_of_lt_of_le V_a0.lt (Nat.le_of_eq g2.symm))
  have Z2 : n0 ≤ h2.size := Nat.le_trans Z0 E2.1
  have sz_b2 : h0.size ≤ b2 := Nat.le_trans (Keep.refl h0 []).1 (Nat.le_of_eq g2.symm)
  have K_4 : Keep h0 h2 [] := (Keep.refl h0 []).ext E2
  have F5 := V_a0.ext E2
  have V_6 : Arv Z h2 b2 k2 .int (2 : Int32) [(.int (0 : Int32)), (.int (0 : Int32))] (.int (0 : Int32)) := (Arv.new A2 (by decide)).pad (pad_rep [] (.int (0 : Int32)) 2)
  have b7 : (0 : Int32) = (0 : Int32) := (by decide)
  have b8 : ¬ ((2 : Int32) = (0 : Int32)) := (by decide)
  obtain ⟨T9, h9, X9, e9, W9, V9, st9⟩ := oStI X2 hx hZ e2 V_6 (j := (0 : Int32)) ⟨by decide, by decide⟩ 0 rfl (Nat.le_of_ble_eq_true rfl) (g := (mkF m 63 #[oa a0, oi (18 : Int32), oi (2 : Int32), oa b2, oi (0 : Int32)] [(.int u1), (.int (0 : Int32)), (.ref b2)])) rfl rfl (hb hby own_d2_63)
  obtain ⟨Lo9, X9, N9⟩ := oOpq X9 (Fr.snoc X9 N0 g_b2)
  have Z9 := Nat.le_trans Z2 (Keep.of_wr W9).1
  have F10 := F5.other W9 ne3
  have F11 := B2.wr W9
  have V_12 : Arv Z h9 b2 k2 .int (2 : Int32) [(.int u1), (.int (0 : Int32))] (.int (0 : Int32)) := V9
  have K_13 : Keep h0 h9 [] := K_4.wr W9 (Or.inr sz_b2)
  have b14 : (0 : Int32) = (0 : Int32) := (by decide)
  have b15 : (0 : Int32) = (0 : Int32) := (by decide)
  have b16 : ¬ ((16 : Int32) = (0 : Int32)) := (by decide)
  obtain ⟨T17, h17, X17, e17, W17, V17, st17⟩ := oStI X9 hx hZ e9 V_12 (j := (1 : Int32)) ⟨by decide, by decide⟩ 1 rfl (Nat.le_of_ble_eq_true rfl) (g := (mkF m 113 #[oa a0, oi (18 : Int32), oi (2 : Int32), oa b2, oi (1 : Int32)] [(.int u4), (.int (1 : Int32)), (.ref b2)])) rfl rfl (hb hby own_d2_113)
  obtain ⟨Lo17, X17, N17⟩ := oOpq X17 (Fr.snoc X17 N9 g_b2)
  have Z17 := Nat.le_trans Z9 (Keep.of_wr W17).1
  have F18 := F10.other W17 ne3
  have F19 := F11.wr W17
  have V_20 : Arv Z h17 b2 k2 .int (2 : Int32) [(.int u1), (.int u4)] (.int (0 : Int32)) := V17
  have K_21 : Keep h0 h17 [] := K_13.wr W17 (Or.inr sz_b2)
  obtain ⟨fs, hr, hrun, hended, hW, hsame⟩ := X17.leave (v := (some (.ref b2))) (fun h => by rw [Bd.returns] at h; cases h)
  refine ⟨_, _, pre1 _ ?_, hrun, hended, _, _, rfl, ?_, ⟨_, rfl⟩, hW, hsame.mono (by decide) (by decide)⟩
  · show oS p e below s₁ m 0 #[oa a0, oi (18 : Int32), .unset, .unset, .unset] [] _
    refine XS.iloadN X0.here hx rfl (hb hby own_d2_0) rfl ?_
    refine XS.iconst X0.here hx rfl (hb hby own_d2_1) ?_
    refine XS.iand X0.here hx rfl (hb hby own_d2_2) rfl ?_
    refine XS.iloadN X0.here hx rfl (hb hby own_d2_3) rfl ?_
    show oS p e below s₁ m 4 #[oa a0, oi (18 : Int32), .unset, .unset, .unset] [(.int (18 : Int32)), (.int (0 : Int32))] _
    refine XS.iconst X0.here hx rfl (hb hby own_d2_4) ?_
    show oS p e below s₁ m 5 #[oa a0, oi (18 : Int32), .unset, .unset, .unset] [(.int (1 : Int32)), (.int (18 : Int32)), (.int (0 : Int32))] _
    refine XS.iushr X0.here hx rfl (hb hby own_d2_5) rfl ?_
    refine XS.iconst X0.here hx rfl (hb hby own_d2_6) ?_
    refine XS.iand X0.here hx rfl (hb hby own_d2_7) rfl ?_
    refine XS.iadd X0.here hx rfl (hb hby own_d2_8) rfl ?_
    show oS p e below s₁ m 9 #[oa a0, oi (18 : Int32), .unset, .unset, .unset] [(.int (1 : Int32))] _
    refine XS.iloadN X0.here hx rfl (hb hby own_d2_9) rfl ?_
    refine XS.iconst X0.here hx rfl (hb hby own_d2_10) ?_
    show oS p e below s₁ m 11 #[oa a0, oi (18 : Int32), .unset, .unset, .unset] [(.int (2 : Int32)), (.int (18 : Int32)), (.int (1 : Int32))] _
    refine XS.iushr X0.here hx rfl (hb hby own_d2_11) rfl ?_
    refine XS.iconst X0.here hx rfl (hb hby own_d2_12) ?_
    refine XS.iand X0.here hx rfl (hb hby own_d2_13) rfl ?_
    refine XS.iadd X0.here hx rfl (hb hby own_d2_14) rfl ?_
    show oS p e below s₁ m 15 #[oa a0, oi (18 : Int32), .unset, .unset, .unset] [(.int (1 : Int32))] _
    refine XS.iloadN X0.here hx rfl (hb hby own_d2_15) rfl ?_
    refine XS.iconst X0.here hx rfl (hb hby own_d2_16) ?_
    show oS p e below s₁ m 17 #[oa a0, oi (18 : Int32), .unset, .unset, .unset] [(.int (3 : Int32)), (.int (18 : Int32)), (.int (1 : Int32))] _
    refine XS.iushr X0.here hx rfl (hb hby own_d2_17) rfl ?_
    refine XS.iconst X0.here hx rfl (hb hby own_d2_18) ?_
    refine XS.iand X0.here hx rfl (hb hby own_d2_19) rfl ?_
    refine XS.iadd X0.here hx rfl (hb hby own_d2_20) rfl ?_
    show oS p e below s₁ m 21 #[oa a0, oi (18 : Int32), .unset, .unset, .unset] [(.int (1 : Int32))] _
    refine XS.iloadN X0.here hx rfl (hb hby own_d2_21) rfl ?_
    refine XS.iconst X0.here hx rfl (hb hby own_d2_22) ?_
    show oS p e below s₁ m 23 #[oa a0, oi (18 : Int32), .unset, .unset, .unset] [(.int (4 : Int32)), (.int (18 : Int32)), (.int (1 : Int32))] _
    refine XS.iushr X0.here hx rfl (hb hby own_d2_23) rfl ?_
    refine XS.iconst X0.here hx rfl (hb hby own_d2_24) ?_
    refine XS.iand X0.here hx rfl (hb hby own_d2_25) rfl ?_
    refine XS.iadd X0.here hx rfl (hb hby own_d2_26) rfl ?_
    show oS p e below s₁ m 27 #[oa a0, oi (18 : Int32), .unset, .unset, .unset] [(.int (2 : Int32))] _
    refine XS.istoreN X0.here hx rfl (hb hby own_d2_27) rfl (l' := #[oa a0, oi (18 : Int32), oi (2 : Int32), .unset, .unset]) rfl ?_
    refine XS.iloadN X0.here hx rfl (hb hby own_d2_28) rfl ?_
    show oS p e below s₁ m 29 #[oa a0, oi (18 : Int32), oi (2 : Int32), .unset, .unset] [(.int (2 : Int32))] _
    refine st2 _ ?_
    show oS p e below T2 m 31 #[oa a0, oi (18 : Int32), oi (2 : Int32), .unset, .unset] [(.ref b2)] _
    refine XS.astoreN X2.here hx rfl (hb hby own_d2_31) rfl rfl (l' := #[oa a0, oi (18 : Int32), oi (2 : Int32), oa b2, .unset]) rfl ?_
    refine XS.iconst X2.here hx rfl (hb hby own_d2_32) ?_
    refine XS.istore X2.here hx rfl (hb hby own_d2_33) rfl (l' := #[oa a0, oi (18 : Int32), oi (2 : Int32), oa b2, oi (0 : Int32)]) rfl ?_
    refine XS.iloadN X2.here hx rfl (hb hby own_d2_35) rfl ?_
    show oS p e below T2 m 36 #[oa a0, oi (18 : Int32), oi (2 : Int32), oa b2, oi (0 : Int32)] [(.int (18 : Int32))] _
    refine XS.iconst X2.here hx rfl (hb hby own_d2_36) ?_
    refine XS.iand X2.here hx rfl (hb hby own_d2_37) rfl ?_
    show oS p e below T2 m 38 #[oa a0, oi (18 : Int32), oi (2 : Int32), oa b2, oi (0 : Int32)] [(.int (0 : Int32))] _
    refine XS.ifYes X2.here hx rfl (pc0 := 38) (pc' := 51) rfl (hb hby own_d2_38) rfl ((if0 _ _).trans (teq b7).1) (by decide) (by decide) ?_
    refine XS.iloadN X2.here hx rfl (hb hby own_d2_51) rfl ?_
    refine XS.iconst X2.here hx rfl (hb hby own_d2_52) ?_
    refine XS.iand X2.here hx rfl (hb hby own_d2_53) rfl ?_
    show oS p e below T2 m 54 #[oa a0, oi (18 : Int32), oi (2 : Int32), oa b2, oi (0 : Int32)] [(.int (2 : Int32))] _
    refine XS.ifNo X2.here hx rfl (hb hby own_d2_54) rfl ((if0 _ _).trans (feq b8).1) ?_
    refine XS.aloadN X2.here hx rfl (hb hby own_d2_57) rfl rfl ?_
    refine XS.iload X2.here hx rfl (hb hby own_d2_58) rfl ?_
    refine XS.aloadN X2.here hx rfl (hb hby own_d2_60) rfl rfl ?_
    show oS p e below T2 m 61 #[oa a0, oi (18 : Int32), oi (2 : Int32), oa b2, oi (0 : Int32)] [(.ref a0), (.int (0 : Int32)), (.ref b2)] _
    refine XS.iconst X2.here hx rfl (hb hby own_d2_61) ?_
    show oS p e below T2 m 62 #[oa a0, oi (18 : Int32), oi (2 : Int32), oa b2, oi (0 : Int32)] [(.int (1 : Int32)), (.ref a0), (.int (0 : Int32)), (.ref b2)] _
    refine oLdI X2 hx hZ e2 F5 (v := (.int u1)) ⟨by decide, by decide⟩ rfl (hb hby own_d2_62) ?_
    show oS p e below T2 m 63 #[oa a0, oi (18 : Int32), oi (2 : Int32), oa b2, oi (0 : Int32)] [(.int u1), (.int (0 : Int32)), (.ref b2)] _
    refine st9 _ ?_
    show oS p e below T9 m 64 #[oa a0, oi (18 : Int32), oi (2 : Int32), oa b2, oi (0 : Int32)] [] _
    refine XS.iinc X9.here hx rfl (hb hby own_d2_64) rfl (l' := #[oa a0, oi (18 : Int32), oi (2 : Int32), oa b2, oi (1 : Int32)]) rfl ?_
    refine XS.iloadN X9.here hx rfl (hb hby own_d2_67) rfl ?_
    refine XS.iconst X9.here hx rfl (hb hby own_d2_68) ?_
    refine XS.iand X9.here hx rfl (hb hby own_d2_69) rfl ?_
    show oS p e below T9 m 70 #[oa a0, oi (18 : Int32), oi (2 : Int32), oa b2, oi (1 : Int32)] [(.int (0 : Int32))] _
    refine XS.ifYes X9.here hx rfl (pc0 := 70) (pc' := 83) rfl (hb hby own_d2_70) rfl ((if0 _ _).trans (teq b14).1) (by decide) (by decide) ?_
    refine XS.iloadN X9.here hx rfl (hb hby own_d2_83) rfl ?_
    refine XS.bipush X9.here hx rfl (hb hby own_d2_84) ?_
    refine XS.iand X9.here hx rfl (hb hby own_d2_86) rfl ?_
    show oS p e below T9 m 87 #[oa a0, oi (18 : Int32), oi (2 : Int32), oa b2, oi (1 : Int32)] [(.int (0 : Int32))] _
    refine XS.ifYes X9.here hx rfl (pc0 := 87) (pc' := 100) rfl (hb hby own_d2_87) rfl ((if0 _ _).trans (teq b15).1) (by decide) (by decide) ?_
    refine XS.iloadN X9.here hx rfl (hb hby own_d2_100) rfl ?_
    refine XS.bipush X9.here hx rfl (hb hby own_d2_101) ?_
    refine XS.iand X9.here hx rfl (hb hby own_d2_103) rfl ?_
    show oS p e below T9 m 104 #[oa a0, oi (18 : Int32), oi (2 : Int32), oa b2, oi (1 : Int32)] [(.int (16 : Int32))] _
    refine XS.ifNo X9.here hx rfl (hb hby own_d2_104) rfl ((if0 _ _).trans (feq b16).1) ?_
    refine XS.aloadN X9.here hx rfl (hb hby own_d2_107) rfl rfl ?_
    refine XS.iload X9.here hx rfl (hb hby own_d2_108) rfl ?_
    refine XS.aloadN X9.here hx rfl (hb hby own_d2_110) rfl rfl ?_
    show oS p e below T9 m 111 #[oa a0, oi (18 : Int32), oi (2 : Int32), oa b2, oi (1 : Int32)] [(.ref a0), (.int (1 : Int32)), (.ref b2)] _
    refine XS.iconst X9.here hx rfl (hb hby own_d2_111) ?_
    show oS p e below T9 m 112 #[oa a0, oi (18 : Int32), oi (2 : Int32), oa b2, oi (1 : Int32)] [(.int (4 : Int32)), (.ref a0), (.int (1 : Int32)), (.ref b2)] _
    refine oLdI X9 hx hZ e9 F10 (v := (.int u4)) ⟨by decide, by decide⟩ rfl (hb hby own_d2_112) ?_
    show oS p e below T9 m 113 #[oa a0, oi (18 : Int32), oi (2 : Int32), oa b2, oi (1 : Int32)] [(.int u4), (.int (1 : Int32)), (.ref b2)] _
    refine st17 _ ?_
    show oS p e below T17 m 114 #[oa a0, oi (18 : Int32), oi (2 : Int32), oa b2, oi (1 : Int32)] [] _
    refine XS.iinc X17.here hx rfl (hb hby own_d2_114) rfl (l' := #[oa a0, oi (18 : Int32), oi (2 : Int32), oa b2, oi (2 : Int32)]) rfl ?_
    refine XS.aloadN X17.here hx rfl (hb hby own_d2_117) rfl rfl ?_
    show oS p e below T17 m 118 #[oa a0, oi (18 : Int32), oi (2 : Int32), oa b2, oi (2 : Int32)] [(.ref b2)] _
    exact retOut X17 hx Bd.returns rfl (Or.inr (Or.inr (Or.inr (Or.inr ⟨rfl, rfl, rfl⟩)))) (hb hby own_d2_118) hr
  · show own_Q2 Z a0 p1 k_a0 u0 u1 u2 u3 u4 h0 n0 _ T17.heap _
    rw [e17]
    refine ⟨b2, k2, rfl, N17, K_21, sz_b2, ?_⟩
    rw [km, show own_z (18 : Int32) = (2 : Int32) by decide +kernel, own_pk, show own_idx (18 : Int32) = [1, 4] by decide +kernel]
    exact V_20
set_option maxRecDepth 65536 in
set_option maxHeartbeats 40000000 in
theorem own_rm2_19 (l : Launch) (Z : State) (av : Array Value) (hw : ∀ d ∈ tables_1, d.before av Z = true) (ws : List Jvm.Cond) (a0 : Addr) (p1 : Int32) (k_a0 : ClassId) (u0 : Int32) (u1 : Int32) (u2 : Int32) (u3 : Int32) (u4 : Int32) (h0 : Heap) (n0 : Nat) (Z0 : n0 ≤ h0.size) (V_a0 : Arv Z h0 a0 k_a0 .int (5 : Int32) [(.int u0), (.int u1), (.int u2), (.int u3), (.int u4)] (.int (0 : Int32))) (km : p1 = (19 : Int32)) :
    MetFree l (⟨"com/example/strict_anon/strictanon/service/RecordSetsDifferencePinLaw", "pick", "([II)[I"⟩ : MethodName) (head1 (Jvm.Cond.code (⟨"com/example/strict_anon/strictanon/service/RecordSetsDifferencePinLaw", "pick", "([II)[I"⟩ : MethodName) method_3_code 5 (some (.array .int)) :: ws) ({ frames := 0, cells := 1, slots := 5, locals := 0 } : Room)) (fun a U => a = #[(.ref a0), (.int p1)] ∧ Z.Warmed39 U.vm ∧ U.heap = h0) (fun _ _ _ _ _ => True) (fun _ U o U' => ∃ v L, o = .returned v ∧ own_Q2 Z a0 p1 k_a0 u0 u1 u2 u3 u4 h0 n0 v U'.heap L ∧ FrameEnd U o U' L ({ frames := 0, cells := 1, slots := 5, locals := 0 } : Room).cells ({ frames := 0, cells := 1, slots := 5, locals := 0 } : Room).slots) := by
  refine MetFree.of_bodySF (plainFor_of_name own_pn0) hisR ?_
  intro p e s m args below meth c s₁ Bd hml0 hP hK
  obtain ⟨rfl, hZ, hh⟩ := hP
  have hx := Bd.exec
  have hby := Bd.bytes
  have hml : c.maxLocals = 5 := hml0
  have hown : s.vm.findClass "com/example/strict_anon/strictanon/service/RecordSetsDifferencePinLaw" = some m.cls := findClass_of_methodNamed Bd.named
  have hnm := (name_of_methodNamed Bd.named Bd.method).1
  have X0 : Stand p l e ({ frames := 0, cells := 1, slots := 5, locals := 0 } : Room) s m #[(.ref a0), (.int p1)] below meth c s₁ [] 0 0 := Stand.of_body Bd
  have e0 : s₁.heap = h0 := by rw [← hh, Bd.state]; rfl
  have N0 := Fr.nil n0
  have pre0 : ∀ t, Steps p.tables e below (s₁.setTop (mkF m 0 #[oa a0, oi p1, .unset, .unset, .unset] [])) t → Steps p.tables e below (s₁.setTop (entryFrame m #[(.ref a0), (.int p1)] 5)) t := fun t k => castTop (own_ef2 m a0 p1) k
  have pre1 : ∀ t, Steps p.tables e below (s₁.setTop (mkF m 0 #[oa a0, oi (19 : Int32), .unset, .unset, .unset] [])) t → Steps p.tables e below (s₁.setTop (entryFrame m #[(.ref a0), (.int p1)] 5)) t := by
    intro t k
    refine pre0 t ?_
    rw [km]
    exact k
  obtain ⟨T2, h2, k2, X2, e2, E2, A2, B2, st2⟩ := newPE X0 hx hZ (hw _ (List.mem_of_getElem? (i := 6) rfl)) e0 (g := (mkF m 29 #[oa a0, oi (19 : Int32), oi (3 : Int32), .unset, .unset] [(.int (3 : Int32))])) rfl (hb hby own_d2_29) rfl (by decide) (cap := 3) (by decide) (by decide) (by decide) (by decide) (ad := "[I") rfl
  obtain ⟨b2, g2⟩ : ∃ z, z = h0.size := ⟨_, rfl⟩
  rw [← g2] at A2 st2 B2
  have g_b2 : n0 ≤ b2 := Nat.le_trans Z0 (Nat.le_of_eq g2.symm)
  have ne3 : a0 ≠ b2 := Nat.ne_of_lt (Nat.lt_of_lt_of_le V_a0.lt (Nat.le_of_eq g2.symm))
  have Z2 : n0 ≤ h2.size := Nat.le_trans Z0 E2.1
  have sz_b2 : h0.size ≤ b2 := Nat.le_trans (Keep.refl h0 []).1 (Nat.le_of_eq g2.symm)
  have K_4 : Keep h0 h2 [] := (Keep.refl h0 []).ext E2
  have F5 := V_a0.ext E2
  have V_6 : Arv Z h2 b2 k2 .int (3 : Int32) [(.int (0 : Int32)), (.int (0 : Int32)), (.int (0 : Int32))] (.int (0 : Int32)) := (Arv.new A2 (by decide)).pad (pad_rep [] (.int (0 : Int32)) 3)
  have b7 : ¬ ((1 : Int32) = (0 : Int32)) := (by decide)
  obtain ⟨T8, h8, X8, e8, W8, V8, st8⟩ := oStI X2 hx hZ e2 V_6 (j := (0 : Int32)) ⟨by decide, by decide⟩ 0 rfl (Nat.le_of_ble_eq_true rfl) (g := (mkF m 47 #[oa a0, oi (19 : Int32), oi (3 : Int32), oa b2, oi (0 : Int32)] [(.int u0), (.int (0 : Int32)), (.ref b2)])) rfl rfl (hb hby own_d2_47)
  obtain ⟨Lo8, X8, N8⟩ := oOpq X8 (Fr.snoc X8 N0 g_b2)
  have Z8 := Nat.le_trans Z2 (Keep.of_wr W8).1
  have F9 := F5.other W8 ne3
  have F10 := B2.wr W8
  have V_11 : Arv Z h8 b2 k2 .int (3 : Int32) [(.int u0), (.int (0 : Int32)), (.int (0 : Int32))] (.int (0 : Int32)) := V8
  have K_12 : Keep h0 h8 [] := K_4.wr W8 (Or.inr sz_b2)
  have b13 : ¬ ((2 : Int32) = (0 : Int32)) := (by decide)
  obtain ⟨T14, h14, X14, e14, W14, V14, st14⟩ := oStI X8 hx hZ e8 V_11 (j := (1 : Int32)) ⟨by decide, by decide⟩ 1 rfl (Nat.le_of_ble_eq_true rfl) (g := (mkF m 63 #[oa a0, oi (19 : Int32), oi (3 : Int32), oa b2, oi (1 : Int32)] [(.int u1), (.int (1 : Int32)), (.ref b2)])) rfl rfl (hb hby own_d2_63)
  obtain ⟨Lo14, X14, N14⟩ := oOpq X14 (Fr.snoc X14 N8 g_b2)
  have Z14 := Nat.le_trans Z8 (Keep.of_wr W14).1
  have F15 := F9.other W14 ne3
  have F16 := F10.wr W14
  have V_17 : Arv Z h14 b2 k2 .int (3 : Int32) [(.int u0), (.int u1), (.int (0 : Int32))] (.int (0 : Int32)) := V14
  have K_18 : Keep h0 h14 [] := K_12.wr W14 (Or.inr sz_b2)
  have b19 : (0 : Int32) = (0 : Int32) := (by decide)
  have b20 : (0 : Int32) = (0 : Int32) := (by decide)
  have b21 : ¬ ((16 : Int32) = (0 : Int32)) := (by decide)
  obtain ⟨T22, h22, X22, e22, W22, V22, st22⟩ := oStI X14 hx hZ e14 V_17 (j := (2 : Int32)) ⟨by decide, by decide⟩ 2 rfl (Nat.le_of_ble_eq_true rfl) (g := (mkF m 113 #[oa a0, oi (19 : Int32), oi (3 : Int32), oa b2, oi (2 : Int32)] [(.int u4), (.int (2 : Int32)), (.ref b2)])) rfl rfl (hb hby own_d2_113)
  obtain ⟨Lo22, X22, N22⟩ := oOpq X22 (Fr.snoc X22 N14 g_b2)
  have Z22 := Nat.le_trans Z14 (Keep.of_wr W22).1
  have F23 := F15.other W22 ne3
  have F24 := F16.wr W22
  have V_25 : Arv Z h22 b2 k2 .int (3 : Int32) [(.int u0), (.int u1), (.int u4)] (.int (0 : Int32)) := V22
  have K_26 : Keep h0 h22 [] := K_18.wr W22 (Or.inr sz_b2)
  obtain ⟨fs, hr, hrun, hended, hW, hsame⟩ := X22.leave (v := (some (.ref b2))) (fun h => by rw [Bd.returns] at h; cases h)
  refine ⟨_, _, pre1 _ ?_, hrun, hended, _, _, rfl, ?_, ⟨_, rfl⟩, hW, hsame.mono (by decide) (by decide)⟩
  · show oS p e below s₁ m 0 #[oa a0, oi (19 : Int32), .unset, .unset, .unset] [] _
    refine XS.iloadN X0.here hx rfl (hb hby own_d2_0) rfl ?_
    refine XS.iconst X0.here hx rfl (hb hby own_d2_1) ?_
    refine XS.iand X0.here hx rfl (hb hby own_d2_2) rfl ?_
    refine XS.iloadN X0.here hx rfl (hb hby own_d2_3) rfl ?_
    show oS p e below s₁ m 4 #[oa a0, oi (19 : Int32), .unset, .unset, .unset] [(.int (19 : Int32)), (.int (1 : Int32))] _
    refine XS.iconst X0.here hx rfl (hb hby own_d2_4) ?_
    show oS p e below s₁ m 5 #[oa a0, oi (19 : Int32), .unset, .unset, .unset] [(.int (1 : Int32)), (.int (19 : Int32)), (.int (1 : Int32))] _
    refine XS.iushr X0.here hx rfl (hb hby own_d2_5) rfl ?_
    refine XS.iconst X0.here hx rfl (hb hby own_d2_6) ?_
    refine XS.iand X0.here hx rfl (hb hby own_d2_7) rfl ?_
    refine XS.iadd X0.here hx rfl (hb hby own_d2_8) rfl ?_
    show oS p e below s₁ m 9 #[oa a0, oi (19 : Int32), .unset, .unset, .unset] [(.int (2 : Int32))] _
    refine XS.iloadN X0.here hx rfl (hb hby own_d2_9) rfl ?_
    refine XS.iconst X0.here hx rfl (hb hby own_d2_10) ?_
    show oS p e below s₁ m 11 #[oa a0, oi (19 : Int32), .unset, .unset, .unset] [(.int (2 : Int32)), (.int (19 : Int32)), (.int (2 : Int32))] _
    refine XS.iushr X0.here hx rfl (hb hby own_d2_11) rfl ?_
    refine XS.iconst X0.here hx rfl (hb hby own_d2_12) ?_
    refine XS.iand X0.here hx rfl (hb hby own_d2_13) rfl ?_
    refine XS.iadd X0.here hx rfl (hb hby own_d2_14) rfl ?_
    show oS p e below s₁ m 15 #[oa a0, oi (19 : Int32), .unset, .unset, .unset] [(.int (2 : Int32))] _
    refine XS.iloadN X0.here hx rfl (hb hby own_d2_15) rfl ?_
    refine XS.iconst X0.here hx rfl (hb hby own_d2_16) ?_
    show oS p e below s₁ m 17 #[oa a0, oi (19 : Int32), .unset, .unset, .unset] [(.int (3 : Int32)), (.int (19 : Int32)), (.int (2 : Int32))] _
    refine XS.iushr X0.here hx rfl (hb hby own_d2_17) rfl ?_
    refine XS.iconst X0.here hx rfl (hb hby own_d2_18) ?_
    refine XS.iand X0.here hx rfl (hb hby own_d2_19) rfl ?_
    refine XS.iadd X0.here hx rfl (hb hby own_d2_20) rfl ?_
    show oS p e below s₁ m 21 #[oa a0, oi (19 : Int32), .unset, .unset, .unset] [(.int (2 : Int32))] _
    refine XS.iloadN X0.here hx rfl (hb hby own_d2_21) rfl ?_
    refine XS.iconst X0.here hx rfl (hb hby own_d2_22) ?_
    show oS p e below s₁ m 23 #[oa a0, oi (19 : Int32), .unset, .unset, .unset] [(.int (4 : Int32)), (.int (19 : Int32)), (.int (2 : Int32))] _
    refine XS.iushr X0.here hx rfl (hb hby own_d2_23) rfl ?_
    refine XS.iconst X0.here hx rfl (hb hby own_d2_24) ?_
    refine XS.iand X0.here hx rfl (hb hby own_d2_25) rfl ?_
    refine XS.iadd X0.here hx rfl (hb hby own_d2_26) rfl ?_
    show oS p e below s₁ m 27 #[oa a0, oi (19 : Int32), .unset, .unset, .unset] [(.int (3 : Int32))] _
    refine XS.istoreN X0.here hx rfl (hb hby own_d2_27) rfl (l' := #[oa a0, oi (19 : Int32), oi (3 : Int32), .unset, .unset]) rfl ?_
    refine XS.iloadN X0.here hx rfl (hb hby own_d2_28) rfl ?_
    show oS p e below s₁ m 29 #[oa a0, oi (19 : Int32), oi (3 : Int32), .unset, .unset] [(.int (3 : Int32))] _
    refine st2 _ ?_
    show oS p e below T2 m 31 #[oa a0, oi (19 : Int32), oi (3 : Int32), .unset, .unset] [(.ref b2)] _
    refine XS.astoreN X2.here hx rfl (hb hby own_d2_31) rfl rfl (l' := #[oa a0, oi (19 : Int32), oi (3 : Int32), oa b2, .unset]) rfl ?_
    refine XS.iconst X2.here hx rfl (hb hby own_d2_32) ?_
    refine XS.istore X2.here hx rfl (hb hby own_d2_33) rfl (l' := #[oa a0, oi (19 : Int32), oi (3 : Int32), oa b2, oi (0 : Int32)]) rfl ?_
    refine XS.iloadN X2.here hx rfl (hb hby own_d2_35) rfl ?_
    show oS p e below T2 m 36 #[oa a0, oi (19 : Int32), oi (3 : Int32), oa b2, oi (0 : Int32)] [(.int (19 : Int32))] _
    refine XS.iconst X2.here hx rfl (hb hby own_d2_36) ?_
    refine XS.iand X2.here hx rfl (hb hby own_d2_37) rfl ?_
    show oS p e below T2 m 38 #[oa a0, oi (19 : Int32), oi (3 : Int32), oa b2, oi (0 : Int32)] [(.int (1 : Int32))] _
    refine XS.ifNo X2.here hx rfl (hb hby own_d2_38) rfl ((if0 _ _).trans (feq b7).1) ?_
    refine XS.aloadN X2.here hx rfl (hb hby own_d2_41) rfl rfl ?_
    refine XS.iload X2.here hx rfl (hb hby own_d2_42) rfl ?_
    refine XS.aloadN X2.here hx rfl (hb hby own_d2_44) rfl rfl ?_
    show oS p e below T2 m 45 #[oa a0, oi (19 : Int32), oi (3 : Int32), oa b2, oi (0 : Int32)] [(.ref a0), (.int (0 : Int32)), (.ref b2)] _
    refine XS.iconst X2.here hx rfl (hb hby own_d2_45) ?_
    show oS p e below T2 m 46 #[oa a0, oi (19 : Int32), oi (3 : Int32), oa b2, oi (0 : Int32)] [(.int (0 : Int32)), (.ref a0), (.int (0 : Int32)), (.ref b2)] _
    refine oLdI X2 hx hZ e2 F5 (v := (.int u0)) ⟨by decide, by decide⟩ rfl (hb hby own_d2_46) ?_
    show oS p e below T2 m 47 #[oa a0, oi (19 : Int32), oi (3 : Int32), oa b2, oi (0 : Int32)] [(.int u0), (.int (0 : Int32)), (.ref b2)] _
    refine st8 _ ?_
    show oS p e below T8 m 48 #[oa a0, oi (19 : Int32), oi (3 : Int32), oa b2, oi (0 : Int32)] [] _
    refine XS.iinc X8.here hx rfl (hb hby own_d2_48) rfl (l' := #[oa a0, oi (19 : Int32), oi (3 : Int32), oa b2, oi (1 : Int32)]) rfl ?_
    refine XS.iloadN X8.here hx rfl (hb hby own_d2_51) rfl ?_
    refine XS.iconst X8.here hx rfl (hb hby own_d2_52) ?_
    refine XS.iand X8.here hx rfl (hb hby own_d2_53) rfl ?_
    show oS p e below T8 m 54 #[oa a0, oi (19 : Int32), oi (3 : Int32), oa b2, oi (1 : Int32)] [(.int (2 : Int32))] _
    refine XS.ifNo X8.here hx rfl (hb hby own_d2_54) rfl ((if0 _ _).trans (feq b13).1) ?_
    refine XS.aloadN X8.here hx rfl (hb hby own_d2_57) rfl rfl ?_
    refine XS.iload X8.here hx rfl (hb hby own_d2_58) rfl ?_
    refine XS.aloadN X8.here hx rfl (hb hby own_d2_60) rfl rfl ?_
    show oS p e below T8 m 61 #[oa a0, oi (19 : Int32), oi (3 : Int32), oa b2, oi (1 : Int32)] [(.ref a0), (.int (1 : Int32)), (.ref b2)] _
    refine XS.iconst X8.here hx rfl (hb hby own_d2_61) ?_
    show oS p e below T8 m 62 #[oa a0, oi (19 : Int32), oi (3 : Int32), oa b2, oi (1 : Int32)] [(.int (1 : Int32)), (.ref a0), (.int (1 : Int32)), (.ref b2)] _
    refine oLdI X8 hx hZ e8 F9 (v := (.int u1)) ⟨by decide, by decide⟩ rfl (hb hby own_d2_62) ?_
    show oS p e below T8 m 63 #[oa a0, oi (19 : Int32), oi (3 : Int32), oa b2, oi (1 : Int32)] [(.int u1), (.int (1 : Int32)), (.ref b2)] _
    refine st14 _ ?_
    show oS p e below T14 m 64 #[oa a0, oi (19 : Int32), oi (3 : Int32), oa b2, oi (1 : Int32)] [] _
    refine XS.iinc X14.here hx rfl (hb hby own_d2_64) rfl (l' := #[oa a0, oi (19 : Int32), oi (3 : Int32), oa b2, oi (2 : Int32)]) rfl ?_
    refine XS.iloadN X14.here hx rfl (hb hby own_d2_67) rfl ?_
    refine XS.iconst X14.here hx rfl (hb hby own_d2_68) ?_
    refine XS.iand X14.here hx rfl (hb hby own_d2_69) rfl ?_
    show oS p e below T14 m 70 #[oa a0, oi (19 : Int32), oi (3 : Int32), oa b2, oi (2 : Int32)] [(.int (0 : Int32))] _
    refine XS.ifYes X14.here hx rfl (pc0 := 70) (pc' := 83) rfl (hb hby own_d2_70) rfl ((if0 _ _).trans (teq b19).1) (by decide) (by decide) ?_
    refine XS.iloadN X14.here hx rfl (hb hby own_d2_83) rfl ?_
    refine XS.bipush X14.here hx rfl (hb hby own_d2_84) ?_
    refine XS.iand X14.here hx rfl (hb hby own_d2_86) rfl ?_
    show oS p e below T14 m 87 #[oa a0, oi (19 : Int32), oi (3 : Int32), oa b2, oi (2 : Int32)] [(.int (0 : Int32))] _
    refine XS.ifYes X14.here hx rfl (pc0 := 87) (pc' := 100) rfl (hb hby own_d2_87) rfl ((if0 _ _).trans (teq b20).1) (by decide) (by decide) ?_
    refine XS.iloadN X14.here hx rfl (hb hby own_d2_100) rfl ?_
    refine XS.bipush X14.here hx rfl (hb hby own_d2_101) ?_
    refine XS.iand X14.here hx rfl (hb hby own_d2_103) rfl ?_
    show oS p e below T14 m 104 #[oa a0, oi (19 : Int32), oi (3 : Int32), oa b2, oi (2 : Int32)] [(.int (16 : Int32))] _
    refine XS.ifNo X14.here hx rfl (hb hby own_d2_104) rfl ((if0 _ _).trans (feq b21).1) ?_
    refine XS.aloadN X14.here hx rfl (hb hby own_d2_107) rfl rfl ?_
    refine XS.iload X14.here hx rfl (hb hby own_d2_108) rfl ?_
    refine XS.aloadN X14.here hx rfl (hb hby own_d2_110) rfl rfl ?_
    show oS p e below T14 m 111 #[oa a0, oi (19 : Int32), oi (3 : Int32), oa b2, oi (2 : Int32)] [(.ref a0), (.int (2 : Int32)), (.ref b2)] _
    refine XS.iconst X14.here hx rfl (hb hby own_d2_111) ?_
    show oS p e below T14 m 112 #[oa a0, oi (19 : Int32), oi (3 : Int32), oa b2, oi (2 : Int32)] [(.int (4 : Int32)), (.ref a0), (.int (2 : Int32)), (.ref b2)] _
    refine oLdI X14 hx hZ e14 F15 (v := (.int u4)) ⟨by decide, by decide⟩ rfl (hb hby own_d2_112) ?_
    show oS p e below T14 m 113 #[oa a0, oi (19 : Int32), oi (3 : Int32), oa b2, oi (2 : Int32)] [(.int u4), (.int (2 : Int32)), (.ref b2)] _
    refine st22 _ ?_
    show oS p e below T22 m 114 #[oa a0, oi (19 : Int32), oi (3 : Int32), oa b2, oi (2 : Int32)] [] _
    refine XS.iinc X22.here hx rfl (hb hby own_d2_114) rfl (l' := #[oa a0, oi (19 : Int32), oi (3 : Int32), oa b2, oi (3 : Int32)]) rfl ?_
    refine XS.aloadN X22.here hx rfl (hb hby own_d2_117) rfl rfl ?_
    show oS p e below T22 m 118 #[oa a0, oi (19 : Int32), oi (3 : Int32), oa b2, oi (3 : Int32)] [(.ref b2)] _
    exact retOut X22 hx Bd.returns rfl (Or.inr (Or.inr (Or.inr (Or.inr ⟨rfl, rfl, rfl⟩)))) (hb hby own_d2_118) hr
  · show own_Q2 Z a0 p1 k_a0 u0 u1 u2 u3 u4 h0 n0 _ T22.heap _
    rw [e22]
    refine ⟨b2, k2, rfl, N22, K_26, sz_b2, ?_⟩
    rw [km, show own_z (19 : Int32) = (3 : Int32) by decide +kernel, own_pk, show own_idx (19 : Int32) = [0, 1, 4] by decide +kernel]
    exact V_25
set_option maxRecDepth 65536 in
set_option maxHeartbeats 40000000 in
theorem own_rm2_20 (l : Launch) (Z : State) (av : Array Value) (hw : ∀ d ∈ tables_1, d.before av Z = true) (ws : List Jvm.Cond) (a0 : Addr) (p1 : Int32) (k_a0 : ClassId) (u0 : Int32) (u1 : Int32) (u2 : Int32) (u3 : Int32) (u4 : Int32) (h0 : Heap) (n0 : Nat) (Z0 : n0 ≤ h0.size) (V_a0 : Arv Z h0 a0 k_a0 .int (5 : Int32) [(.int u0), (.int u1), (.int u2), (.int u3), (.int u4)] (.int (0 : Int32))) (km : p1 = (20 : Int32)) :
    MetFree l (⟨"com/example/strict_anon/strictanon/service/RecordSetsDifferencePinLaw", "pick", "([II)[I"⟩ : MethodName) (head1 (Jvm.Cond.code (⟨"com/example/strict_anon/strictanon/service/RecordSetsDifferencePinLaw", "pick", "([II)[I"⟩ : MethodName) method_3_code 5 (some (.array .int)) :: ws) ({ frames := 0, cells := 1, slots := 5, locals := 0 } : Room)) (fun a U => a = #[(.ref a0), (.int p1)] ∧ Z.Warmed39 U.vm ∧ U.heap = h0) (fun _ _ _ _ _ => True) (fun _ U o U' => ∃ v L, o = .returned v ∧ own_Q2 Z a0 p1 k_a0 u0 u1 u2 u3 u4 h0 n0 v U'.heap L ∧ FrameEnd U o U' L ({ frames := 0, cells := 1, slots := 5, locals := 0 } : Room).cells ({ frames := 0, cells := 1, slots := 5, locals := 0 } : Room).slots) := by
  refine MetFree.of_bodySF (plainFor_of_name own_pn0) hisR ?_
  intro p e s m args below meth c s₁ Bd hml0 hP hK
  obtain ⟨rfl, hZ, hh⟩ := hP
  have hx := Bd.exec
  have hby := Bd.bytes
  have hml : c.maxLocals = 5 := hml0
  have hown : s.vm.findClass "com/example/strict_anon/strictanon/service/RecordSetsDifferencePinLaw" = some m.cls := findClass_of_methodNamed Bd.named
  have hnm := (name_of_methodNamed Bd.named Bd.method).1
  have X0 : Stand p l e ({ frames := 0, cells := 1, slots := 5, locals := 0 } : Room) s m #[(.ref a0), (.int p1)] below meth c s₁ [] 0 0 := Stand.of_body Bd
  have e0 : s₁.heap = h0 := by rw [← hh, Bd.state]; rfl
  have N0 := Fr.nil n0
  have pre0 : ∀ t, Steps p.tables e below (s₁.setTop (mkF m 0 #[oa a0, oi p1, .unset, .unset, .unset] [])) t → Steps p.tables e below (s₁.setTop (entryFrame m #[(.ref a0), (.int p1)] 5)) t := fun t k => castTop (own_ef2 m a0 p1) k
  have pre1 : ∀ t, Steps p.tables e below (s₁.setTop (mkF m 0 #[oa a0, oi (20 : Int32), .unset, .unset, .unset] [])) t → Steps p.tables e below (s₁.setTop (entryFrame m #[(.ref a0), (.int p1)] 5)) t := by
    intro t k
    refine pre0 t ?_
    rw [km]
    exact k
  obtain ⟨T2, h2, k2, X2, e2, E2, A2, B2, st2⟩ := newPE X0 hx hZ (hw _ (List.mem_of_getElem? (i := 6) rfl)) e0 (g := (mkF m 29 #[oa a0, oi (20 : Int32), oi (2 : Int32), .unset, .unset] [(.int (2 : Int32))])) rfl (hb hby own_d2_29) rfl (by decide) (cap := 2) (by decide) (by decide) (by decide) (by decide) (ad := "[I") rfl
  obtain ⟨b2, g2⟩ : ∃ z, z = h0.size := ⟨_, rfl⟩
  rw [← g2] at A2 st2 B2
  have g_b2 : n0 ≤ b2 := Nat.le_trans Z0 (Nat.le_of_eq g2.symm)
  have ne3 : a0 ≠ b2 := Nat.ne_of_lt (Nat.lt_of_lt_of_le V_a0.lt (Nat.le_of_eq g2.symm))
  have Z2 : n0 ≤ h2.size := Nat.le_trans Z0 E2.1
  have sz_b2 : h0.size ≤ b2 := Nat.le_trans (Keep.refl h0 []).1 (Nat.le_of_eq g2.symm)
  have K_4 : Keep h0 h2 [] := (Keep.refl h0 []).ext E2
  have F5 := V_a0.ext E2
  have V_6 : Arv Z h2 b2 k2 .int (2 : Int32) [(.int (0 : Int32)), (.int (0 : Int32))] (.int (0 : Int32)) := (Arv.new A2 (by decide)).pad (pad_rep [] (.int (0 : Int32)) 2)
  have b7 : (0 : Int32) = (0 : Int32) := (by decide)
  have b8 : (0 : Int32) = (0 : Int32) := (by decide)
  have b9 : ¬ ((4 : Int32) = (0 : Int32)) := (by decide)
  obtain ⟨T10, h10, X10, e10, W10, V10, st10⟩ := oStI X2 hx hZ e2 V_6 (j := (0 : Int32)) ⟨by decide, by decide⟩ 0 rfl (Nat.le_of_ble_eq_true rfl) (g := (mkF m 79 #[oa a0, oi (20 : Int32), oi (2 : Int32), oa b2, oi (0 : Int32)] [(.int u2), (.int (0 : Int32)), (.ref b2)])) rfl rfl (hb hby own_d2_79)
  obtain ⟨Lo10, X10, N10⟩ := oOpq X10 (Fr.snoc X10 N0 g_b2)
  have Z10 := Nat.le_trans Z2 (Keep.of_wr W10).1
  have F11 := F5.other W10 ne3
  have F12 := B2.wr W10
  have V_13 : Arv Z h10 b2 k2 .int (2 : Int32) [(.int u2), (.int (0 : Int32))] (.int (0 : Int32)) := V10
  have K_14 : Keep h0 h10 [] := K_4.wr W10 (Or.inr sz_b2)
  have b15 : (0 : Int32) = (0 : Int32) := (by decide)
  have b16 : ¬ ((16 : Int32) = (0 : Int32)) := (by decide)
  obtain ⟨T17, h17, X17, e17, W17, V17, st17⟩ := oStI X10 hx hZ e10 V_13 (j := (1 : Int32)) ⟨by decide, by decide⟩ 1 rfl (Nat.le_of_ble_eq_true rfl) (g := (mkF m 113 #[oa a0, oi (20 : Int32), oi (2 : Int32), oa b2, oi (1 : Int32)] [(.int u4), (.int (1 : Int32)), (.ref b2)])) rfl rfl (hb hby own_d2_113)
  obtain ⟨Lo17, X17, N17⟩ := oOpq X17 (Fr.snoc X17 N10 g_b2)
  have Z17 := Nat.le_trans Z10 (Keep.of_wr W17).1
  have F18 := F11.other W17 ne3
  have F19 := F12.wr W17
  have V_20 : Arv Z h17 b2 k2 .int (2 : Int32) [(.int u2), (.int u4)] (.int (0 : Int32)) := V17
  have K_21 : Keep h0 h17 [] := K_14.wr W17 (Or.inr sz_b2)
  obtain ⟨fs, hr, hrun, hended, hW, hsame⟩ := X17.leave (v := (some (.ref b2))) (fun h => by rw [Bd.returns] at h; cases h)
  refine ⟨_, _, pre1 _ ?_, hrun, hended, _, _, rfl, ?_, ⟨_, rfl⟩, hW, hsame.mono (by decide) (by decide)⟩
  · show oS p e below s₁ m 0 #[oa a0, oi (20 : Int32), .unset, .unset, .unset] [] _
    refine XS.iloadN X0.here hx rfl (hb hby own_d2_0) rfl ?_
    refine XS.iconst X0.here hx rfl (hb hby own_d2_1) ?_
    refine XS.iand X0.here hx rfl (hb hby own_d2_2) rfl ?_
    refine XS.iloadN X0.here hx rfl (hb hby own_d2_3) rfl ?_
    show oS p e below s₁ m 4 #[oa a0, oi (20 : Int32), .unset, .unset, .unset] [(.int (20 : Int32)), (.int (0 : Int32))] _
    refine XS.iconst X0.here hx rfl (hb hby own_d2_4) ?_
    show oS p e below s₁ m 5 #[oa a0, oi (20 : Int32), .unset, .unset, .unset] [(.int (1 : Int32)), (.int (20 : Int32)), (.int (0 : Int32))] _
    refine XS.iushr X0.here hx rfl (hb hby own_d2_5) rfl ?_
    refine XS.iconst X0.here hx rfl (hb hby own_d2_6) ?_
    refine XS.iand X0.here hx rfl (hb hby own_d2_7) rfl ?_
    refine XS.iadd X0.here hx rfl (hb hby own_d2_8) rfl ?_
    show oS p e below s₁ m 9 #[oa a0, oi (20 : Int32), .unset, .unset, .unset] [(.int (0 : Int32))] _
    refine XS.iloadN X0.here hx rfl (hb hby own_d2_9) rfl ?_
    refine XS.iconst X0.here hx rfl (hb hby own_d2_10) ?_
    show oS p e below s₁ m 11 #[oa a0, oi (20 : Int32), .unset, .unset, .unset] [(.int (2 : Int32)), (.int (20 : Int32)), (.int (0 : Int32))] _
    refine XS.iushr X0.here hx rfl (hb hby own_d2_11) rfl ?_
    refine XS.iconst X0.here hx rfl (hb hby own_d2_12) ?_
    refine XS.iand X0.here hx rfl (hb hby own_d2_13) rfl ?_
    refine XS.iadd X0.here hx rfl (hb hby own_d2_14) rfl ?_
    show oS p e below s₁ m 15 #[oa a0, oi (20 : Int32), .unset, .unset, .unset] [(.int (1 : Int32))] _
    refine XS.iloadN X0.here hx rfl (hb hby own_d2_15) rfl ?_
    refine XS.iconst X0.here hx rfl (hb hby own_d2_16) ?_
    show oS p e below s₁ m 17 #[oa a0, oi (20 : Int32), .unset, .unset, .unset] [(.int (3 : Int32)), (.int (20 : Int32)), (.int (1 : Int32))] _
    refine XS.iushr X0.here hx rfl (hb hby own_d2_17) rfl ?_
    refine XS.iconst X0.here hx rfl (hb hby own_d2_18) ?_
    refine XS.iand X0.here hx rfl (hb hby own_d2_19) rfl ?_
    refine XS.iadd X0.here hx rfl (hb hby own_d2_20) rfl ?_
    show oS p e below s₁ m 21 #[oa a0, oi (20 : Int32), .unset, .unset, .unset] [(.int (1 : Int32))] _
    refine XS.iloadN X0.here hx rfl (hb hby own_d2_21) rfl ?_
    refine XS.iconst X0.here hx rfl (hb hby own_d2_22) ?_
    show oS p e below s₁ m 23 #[oa a0, oi (20 : Int32), .unset, .unset, .unset] [(.int (4 : Int32)), (.int (20 : Int32)), (.int (1 : Int32))] _
    refine XS.iushr X0.here hx rfl (hb hby own_d2_23) rfl ?_
    refine XS.iconst X0.here hx rfl (hb hby own_d2_24) ?_
    refine XS.iand X0.here hx rfl (hb hby own_d2_25) rfl ?_
    refine XS.iadd X0.here hx rfl (hb hby own_d2_26) rfl ?_
    show oS p e below s₁ m 27 #[oa a0, oi (20 : Int32), .unset, .unset, .unset] [(.int (2 : Int32))] _
    refine XS.istoreN X0.here hx rfl (hb hby own_d2_27) rfl (l' := #[oa a0, oi (20 : Int32), oi (2 : Int32), .unset, .unset]) rfl ?_
    refine XS.iloadN X0.here hx rfl (hb hby own_d2_28) rfl ?_
    show oS p e below s₁ m 29 #[oa a0, oi (20 : Int32), oi (2 : Int32), .unset, .unset] [(.int (2 : Int32))] _
    refine st2 _ ?_
    show oS p e below T2 m 31 #[oa a0, oi (20 : Int32), oi (2 : Int32), .unset, .unset] [(.ref b2)] _
    refine XS.astoreN X2.here hx rfl (hb hby own_d2_31) rfl rfl (l' := #[oa a0, oi (20 : Int32), oi (2 : Int32), oa b2, .unset]) rfl ?_
    refine XS.iconst X2.here hx rfl (hb hby own_d2_32) ?_
    refine XS.istore X2.here hx rfl (hb hby own_d2_33) rfl (l' := #[oa a0, oi (20 : Int32), oi (2 : Int32), oa b2, oi (0 : Int32)]) rfl ?_
    refine XS.iloadN X2.here hx rfl (hb hby own_d2_35) rfl ?_
    show oS p e below T2 m 36 #[oa a0, oi (20 : Int32), oi (2 : Int32), oa b2, oi (0 : Int32)] [(.int (20 : Int32))] _
    refine XS.iconst X2.here hx rfl (hb hby own_d2_36) ?_
    refine XS.iand X2.here hx rfl (hb hby own_d2_37) rfl ?_
    show oS p e below T2 m 38 #[oa a0, oi (20 : Int32), oi (2 : Int32), oa b2, oi (0 : Int32)] [(.int (0 : Int32))] _
    refine XS.ifYes X2.here hx rfl (pc0 := 38) (pc' := 51) rfl (hb hby own_d2_38) rfl ((if0 _ _).trans (teq b7).1) (by decide) (by decide) ?_
    refine XS.iloadN X2.here hx rfl (hb hby own_d2_51) rfl ?_
    refine XS.iconst X2.here hx rfl (hb hby own_d2_52) ?_
    refine XS.iand X2.here hx rfl (hb hby own_d2_53) rfl ?_
    show oS p e below T2 m 54 #[oa a0, oi (20 : Int32), oi (2 : Int32), oa b2, oi (0 : Int32)] [(.int (0 : Int32))] _
    refine XS.ifYes X2.here hx rfl (pc0 := 54) (pc' := 67) rfl (hb hby own_d2_54) rfl ((if0 _ _).trans (teq b8).1) (by decide) (by decide) ?_
    refine XS.iloadN X2.here hx rfl (hb hby own_d2_67) rfl ?_
    refine XS.iconst X2.here hx rfl (hb hby own_d2_68) ?_
    refine XS.iand X2.here hx rfl (hb hby own_d2_69) rfl ?_
    show oS p e below T2 m 70 #[oa a0, oi (20 : Int32), oi (2 : Int32), oa b2, oi (0 : Int32)] [(.int (4 : Int32))] _
    refine XS.ifNo X2.here hx rfl (hb hby own_d2_70) rfl ((if0 _ _).trans (feq b9).1) ?_
    refine XS.aloadN X2.here hx rfl (hb hby own_d2_73) rfl rfl ?_
    refine XS.iload X2.here hx rfl (hb hby own_d2_74) rfl ?_
    refine XS.aloadN X2.here hx rfl (hb hby own_d2_76) rfl rfl ?_
    show oS p e below T2 m 77 #[oa a0, oi (20 : Int32), oi (2 : Int32), oa b2, oi (0 : Int32)] [(.ref a0), (.int (0 : Int32)), (.ref b2)] _
    refine XS.iconst X2.here hx rfl (hb hby own_d2_77) ?_
    show oS p e below T2 m 78 #[oa a0, oi (20 : Int32), oi (2 : Int32), oa b2, oi (0 : Int32)] [(.int (2 : Int32)), (.ref a0), (.int (0 : Int32)), (.ref b2)] _
    refine oLdI X2 hx hZ e2 F5 (v := (.int u2)) ⟨by decide, by decide⟩ rfl (hb hby own_d2_78) ?_
    show oS p e below T2 m 79 #[oa a0, oi (20 : Int32), oi (2 : Int32), oa b2, oi (0 : Int32)] [(.int u2), (.int (0 : Int32)), (.ref b2)] _
    refine st10 _ ?_
    show oS p e below T10 m 80 #[oa a0, oi (20 : Int32), oi (2 : Int32), oa b2, oi (0 : Int32)] [] _
    refine XS.iinc X10.here hx rfl (hb hby own_d2_80) rfl (l' := #[oa a0, oi (20 : Int32), oi (2 : Int32), oa b2, oi (1 : Int32)]) rfl ?_
    refine XS.iloadN X10.here hx rfl (hb hby own_d2_83) rfl ?_
    refine XS.bipush X10.here hx rfl (hb hby own_d2_84) ?_
    refine XS.iand X10.here hx rfl (hb hby own_d2_86) rfl ?_
    show oS p e below T10 m 87 #[oa a0, oi (20 : Int32), oi (2 : Int32), oa b2, oi (1 : Int32)] [(.int (0 : Int32))] _
    refine XS.ifYes X10.here hx rfl (pc0 := 87) (pc' := 100) rfl (hb hby own_d2_87) rfl ((if0 _ _).trans (teq b15).1) (by decide) (by decide) ?_
    refine XS.iloadN X10.here hx rfl (hb hby own_d2_100) rfl ?_
    refine XS.bipush X10.here hx rfl (hb hby own_d2_101) ?_
    refine XS.iand X10.here hx rfl (hb hby own_d2_103) rfl ?_
    show oS p e below T10 m 104 #[oa a0, oi (20 : Int32), oi (2 : Int32), oa b2, oi (1 : Int32)] [(.int (16 : Int32))] _
    refine XS.ifNo X10.here hx rfl (hb hby own_d2_104) rfl ((if0 _ _).trans (feq b16).1) ?_
    refine XS.aloadN X10.here hx rfl (hb hby own_d2_107) rfl rfl ?_
    refine XS.iload X10.here hx rfl (hb hby own_d2_108) rfl ?_
    refine XS.aloadN X10.here hx rfl (hb hby own_d2_110) rfl rfl ?_
    show oS p e below T10 m 111 #[oa a0, oi (20 : Int32), oi (2 : Int32), oa b2, oi (1 : Int32)] [(.ref a0), (.int (1 : Int32)), (.ref b2)] _
    refine XS.iconst X10.here hx rfl (hb hby own_d2_111) ?_
    show oS p e below T10 m 112 #[oa a0, oi (20 : Int32), oi (2 : Int32), oa b2, oi (1 : Int32)] [(.int (4 : Int32)), (.ref a0), (.int (1 : Int32)), (.ref b2)] _
    refine oLdI X10 hx hZ e10 F11 (v := (.int u4)) ⟨by decide, by decide⟩ rfl (hb hby own_d2_112) ?_
    show oS p e below T10 m 113 #[oa a0, oi (20 : Int32), oi (2 : Int32), oa b2, oi (1 : Int32)] [(.int u4), (.int (1 : Int32)), (.ref b2)] _
    refine st17 _ ?_
    show oS p e below T17 m 114 #[oa a0, oi (20 : Int32), oi (2 : Int32), oa b2, oi (1 : Int32)] [] _
    refine XS.iinc X17.here hx rfl (hb hby own_d2_114) rfl (l' := #[oa a0, oi (20 : Int32), oi (2 : Int32), oa b2, oi (2 : Int32)]) rfl ?_
    refine XS.aloadN X17.here hx rfl (hb hby own_d2_117) rfl rfl ?_
    show oS p e below T17 m 118 #[oa a0, oi (20 : Int32), oi (2 : Int32), oa b2, oi (2 : Int32)] [(.ref b2)] _
    exact retOut X17 hx Bd.returns rfl (Or.inr (Or.inr (Or.inr (Or.inr ⟨rfl, rfl, rfl⟩)))) (hb hby own_d2_118) hr
  · show own_Q2 Z a0 p1 k_a0 u0 u1 u2 u3 u4 h0 n0 _ T17.heap _
    rw [e17]
    refine ⟨b2, k2, rfl, N17, K_21, sz_b2, ?_⟩
    rw [km, show own_z (20 : Int32) = (2 : Int32) by decide +kernel, own_pk, show own_idx (20 : Int32) = [2, 4] by decide +kernel]
    exact V_20
set_option maxRecDepth 65536 in
set_option maxHeartbeats 40000000 in
theorem own_rm2_21 (l : Launch) (Z : State) (av : Array Value) (hw : ∀ d ∈ tables_1, d.before av Z = true) (ws : List Jvm.Cond) (a0 : Addr) (p1 : Int32) (k_a0 : ClassId) (u0 : Int32) (u1 : Int32) (u2 : Int32) (u3 : Int32) (u4 : Int32) (h0 : Heap) (n0 : Nat) (Z0 : n0 ≤ h0.size) (V_a0 : Arv Z h0 a0 k_a0 .int (5 : Int32) [(.int u0), (.int u1), (.int u2), (.int u3), (.int u4)] (.int (0 : Int32))) (km : p1 = (21 : Int32)) :
    MetFree l (⟨"com/example/strict_anon/strictanon/service/RecordSetsDifferencePinLaw", "pick", "([II)[I"⟩ : MethodName) (head1 (Jvm.Cond.code (⟨"com/example/strict_anon/strictanon/service/RecordSetsDifferencePinLaw", "pick", "([II)[I"⟩ : MethodName) method_3_code 5 (some (.array .int)) :: ws) ({ frames := 0, cells := 1, slots := 5, locals := 0 } : Room)) (fun a U => a = #[(.ref a0), (.int p1)] ∧ Z.Warmed39 U.vm ∧ U.heap = h0) (fun _ _ _ _ _ => True) (fun _ U o U' => ∃ v L, o = .returned v ∧ own_Q2 Z a0 p1 k_a0 u0 u1 u2 u3 u4 h0 n0 v U'.heap L ∧ FrameEnd U o U' L ({ frames := 0, cells := 1, slots := 5, locals := 0 } : Room).cells ({ frames := 0, cells := 1, slots := 5, locals := 0 } : Room).slots) := by
  refine MetFree.of_bodySF (plainFor_of_name own_pn0) hisR ?_
  intro p e s m args below meth c s₁ Bd hml0 hP hK
  obtain ⟨rfl, hZ, hh⟩ := hP
  have hx := Bd.exec
  have hby := Bd.bytes
  have hml : c.maxLocals = 5 := hml0
  have hown : s.vm.findClass "com/example/strict_anon/strictanon/service/RecordSetsDifferencePinLaw" = some m.cls := findClass_of_methodNamed Bd.named
  have hnm := (name_of_methodNamed Bd.named Bd.method).1
  have X0 : Stand p l e ({ frames := 0, cells := 1, slots := 5, locals := 0 } : Room) s m #[(.ref a0), (.int p1)] below meth c s₁ [] 0 0 := Stand.of_body Bd
  have e0 : s₁.heap = h0 := by rw [← hh, Bd.state]; rfl
  have N0 := Fr.nil n0
  have pre0 : ∀ t, Steps p.tables e below (s₁.setTop (mkF m 0 #[oa a0, oi p1, .unset, .unset, .unset] [])) t → Steps p.tables e below (s₁.setTop (entryFrame m #[(.ref a0), (.int p1)] 5)) t := fun t k => castTop (own_ef2 m a0 p1) k
  have pre1 : ∀ t, Steps p.tables e below (s₁.setTop (mkF m 0 #[oa a0, oi (21 : Int32), .unset, .unset, .unset] [])) t → Steps p.tables e below (s₁.setTop (entryFrame m #[(.ref a0), (.int p1)] 5)) t := by
    intro t k
    refine pre0 t ?_
    rw [km]
    exact k
  obtain ⟨T2, h2, k2, X2, e2, E2, A2, B2, st2⟩ := newPE X0 hx hZ (hw _ (List.mem_of_getElem? (i := 6) rfl)) e0 (g := (mkF m 29 #[oa a0, oi (21 : Int32), oi (3 : Int32), .unset, .unset] [(.int (3 : Int32))])) rfl (hb hby own_d2_29) rfl (by decide) (cap := 3) (by decide) (by decide) (by decide) (by decide) (ad := "[I") rfl
  obtain ⟨b2, g2⟩ : ∃ z, z = h0.size := ⟨_, rfl⟩
  rw [← g2] at A2 st2 B2
  have g_b2 : n0 ≤ b2 := Nat.le_trans Z0 (Nat.le_of_eq g2.symm)
  have ne3 : a0 ≠ b2 := Nat.ne_of_lt (Nat.lt_of_lt_of_le V_a0.lt (Nat.le_of_eq g2.symm))
  have Z2 : n0 ≤ h2.size := Nat.le_trans Z0 E2.1
  have sz_b2 : h0.size ≤ b2 := Nat.le_trans (Keep.refl h0 []).1 (Nat.le_of_eq g2.symm)
  have K_4 : Keep h0 h2 [] := (Keep.refl h0 []).ext E2
  have F5 := V_a0.ext E2
  have V_6 : Arv Z h2 b2 k2 .int (3 : Int32) [(.int (0 : Int32)), (.int (0 : Int32)), (.int (0 : Int32))] (.int (0 : Int32)) := (Arv.new A2 (by decide)).pad (pad_rep [] (.int (0 : Int32)) 3)
  have b7 : ¬ ((1 : Int32) = (0 : Int32)) := (by decide)
  obtain ⟨T8, h8, X8, e8, W8, V8, st8⟩ := oStI X2 hx hZ e2 V_6 (j := (0 : Int32)) ⟨by decide, by decide⟩ 0 rfl (Nat.le_of_ble_eq_true rfl) (g := (mkF m 47 #[oa a0, oi (21 : Int32), oi (3 : Int32), oa b2, oi (0 : Int32)] [(.int u0), (.int (0 : Int32)), (.ref b2)])) rfl rfl (hb hby own_d2_47)
  obtain ⟨Lo8, X8, N8⟩ := oOpq X8 (Fr.snoc X8 N0 g_b2)
  have Z8 := Nat.le_trans Z2 (Keep.of_wr W8).1
  have F9 := F5.other W8 ne3
  have F10 := B2.wr W8
  have V_11 : Arv Z h8 b2 k2 .int (3 : Int32) [(.int u0), (.int (0 : Int32)), (.int (0 : Int32))] (.int (0 : Int32)) := V8
  have K_12 : Keep h0 h8 [] := K_4.wr W8 (Or.inr sz_b2)
  have b13 : (0 : Int32) = (0 : Int32) := (by decide)
  have b14 : ¬ ((4 : Int32) = (0 : Int32)) := (by decide)
  obtain ⟨T15, h15, X15, e15, W15, V15, st15⟩ := oStI X8 hx hZ e8 V_11 (j := (1 : Int32)) ⟨by decide, by decide⟩ 1 rfl (Nat.le_of_ble_eq_true rfl) (g := (mkF m 79 #[oa a0, oi (21 : Int32), oi (3 : Int32), oa b2, oi (1 : Int32)] [(.int u2), (.int (1 : Int32)), (.ref b2)])) rfl rfl (hb hby own_d2_79)
  obtain ⟨Lo15, X15, N15⟩ := oOpq X15 (Fr.snoc X15 N8 g_b2)
  have Z15 := Nat.le_trans Z8 (Keep.of_wr W15).1
  have F16 := F9.other W15 ne3
  have F17 := F10.wr W15
  have V_18 : Arv Z h15 b2 k2 .int (3 : Int32) [(.int u0), (.int u2), (.int (0 : Int32))] (.int (0 : Int32)) := V15
  have K_19 : Keep h0 h15 [] := K_12.wr W15 (Or.inr sz_b2)
  have b20 : (0 : Int32) = (0 : Int32) := (by decide)
  have b21 : ¬ ((16 : Int32) = (0 : Int32)) := (by decide)
  obtain ⟨T22, h22, X22, e22, W22, V22, st22⟩ := oStI X15 hx hZ e15 V_18 (j := (2 : Int32)) ⟨by decide, by decide⟩ 2 rfl (Nat.le_of_ble_eq_true rfl) (g := (mkF m 113 #[oa a0, oi (21 : Int32), oi (3 : Int32), oa b2, oi (2 : Int32)] [(.int u4), (.int (2 : Int32)), (.ref b2)])) rfl rfl (hb hby own_d2_113)
  obtain ⟨Lo22, X22, N22⟩ := oOpq X22 (Fr.snoc X22 N15 g_b2)
  have Z22 := Nat.le_trans Z15 (Keep.of_wr W22).1
  have F23 := F16.other W22 ne3
  have F24 := F17.wr W22
  have V_25 : Arv Z h22 b2 k2 .int (3 : Int32) [(.int u0), (.int u2), (.int u4)] (.int (0 : Int32)) := V22
  have K_26 : Keep h0 h22 [] := K_19.wr W22 (Or.inr sz_b2)
  obtain ⟨fs, hr, hrun, hended, hW, hsame⟩ := X22.leave (v := (some (.ref b2))) (fun h => by rw [Bd.returns] at h; cases h)
  refine ⟨_, _, pre1 _ ?_, hrun, hended, _, _, rfl, ?_, ⟨_, rfl⟩, hW, hsame.mono (by decide) (by decide)⟩
  · show oS p e below s₁ m 0 #[oa a0, oi (21 : Int32), .unset, .unset, .unset] [] _
    refine XS.iloadN X0.here hx rfl (hb hby own_d2_0) rfl ?_
    refine XS.iconst X0.here hx rfl (hb hby own_d2_1) ?_
    refine XS.iand X0.here hx rfl (hb hby own_d2_2) rfl ?_
    refine XS.iloadN X0.here hx rfl (hb hby own_d2_3) rfl ?_
    show oS p e below s₁ m 4 #[oa a0, oi (21 : Int32), .unset, .unset, .unset] [(.int (21 : Int32)), (.int (1 : Int32))] _
    refine XS.iconst X0.here hx rfl (hb hby own_d2_4) ?_
    show oS p e below s₁ m 5 #[oa a0, oi (21 : Int32), .unset, .unset, .unset] [(.int (1 : Int32)), (.int (21 : Int32)), (.int (1 : Int32))] _
    refine XS.iushr X0.here hx rfl (hb hby own_d2_5) rfl ?_
    refine XS.iconst X0.here hx rfl (hb hby own_d2_6) ?_
    refine XS.iand X0.here hx rfl (hb hby own_d2_7) rfl ?_
    refine XS.iadd X0.here hx rfl (hb hby own_d2_8) rfl ?_
    show oS p e below s₁ m 9 #[oa a0, oi (21 : Int32), .unset, .unset, .unset] [(.int (1 : Int32))] _
    refine XS.iloadN X0.here hx rfl (hb hby own_d2_9) rfl ?_
    refine XS.iconst X0.here hx rfl (hb hby own_d2_10) ?_
    show oS p e below s₁ m 11 #[oa a0, oi (21 : Int32), .unset, .unset, .unset] [(.int (2 : Int32)), (.int (21 : Int32)), (.int (1 : Int32))] _
    refine XS.iushr X0.here hx rfl (hb hby own_d2_11) rfl ?_
    refine XS.iconst X0.here hx rfl (hb hby own_d2_12) ?_
    refine XS.iand X0.here hx rfl (hb hby own_d2_13) rfl ?_
    refine XS.iadd X0.here hx rfl (hb hby own_d2_14) rfl ?_
    show oS p e below s₁ m 15 #[oa a0, oi (21 : Int32), .unset, .unset, .unset] [(.int (2 : Int32))] _
    refine XS.iloadN X0.here hx rfl (hb hby own_d2_15) rfl ?_
    refine XS.iconst X0.here hx rfl (hb hby own_d2_16) ?_
    show oS p e below s₁ m 17 #[oa a0, oi (21 : Int32), .unset, .unset, .unset] [(.int (3 : Int32)), (.int (21 : Int32)), (.int (2 : Int32))] _
    refine XS.iushr X0.here hx rfl (hb hby own_d2_17) rfl ?_
    refine XS.iconst X0.here hx rfl (hb hby own_d2_18) ?_
    refine XS.iand X0.here hx rfl (hb hby own_d2_19) rfl ?_
    refine XS.iadd X0.here hx rfl (hb hby own_d2_20) rfl ?_
    show oS p e below s₁ m 21 #[oa a0, oi (21 : Int32), .unset, .unset, .unset] [(.int (2 : Int32))] _
    refine XS.iloadN X0.here hx rfl (hb hby own_d2_21) rfl ?_
    refine XS.iconst X0.here hx rfl (hb hby own_d2_22) ?_
    show oS p e below s₁ m 23 #[oa a0, oi (21 : Int32), .unset, .unset, .unset] [(.int (4 : Int32)), (.int (21 : Int32)), (.int (2 : Int32))] _
    refine XS.iushr X0.here hx rfl (hb hby own_d2_23) rfl ?_
    refine XS.iconst X0.here hx rfl (hb hby own_d2_24) ?_
    refine XS.iand X0.here hx rfl (hb hby own_d2_25) rfl ?_
    refine XS.iadd X0.here hx rfl (hb hby own_d2_26) rfl ?_
    show oS p e below s₁ m 27 #[oa a0, oi (21 : Int32), .unset, .unset, .unset] [(.int (3 : Int32))] _
    refine XS.istoreN X0.here hx rfl (hb hby own_d2_27) rfl (l' := #[oa a0, oi (21 : Int32), oi (3 : Int32), .unset, .unset]) rfl ?_
    refine XS.iloadN X0.here hx rfl (hb hby own_d2_28) rfl ?_
    show oS p e below s₁ m 29 #[oa a0, oi (21 : Int32), oi (3 : Int32), .unset, .unset] [(.int (3 : Int32))] _
    refine st2 _ ?_
    show oS p e below T2 m 31 #[oa a0, oi (21 : Int32), oi (3 : Int32), .unset, .unset] [(.ref b2)] _
    refine XS.astoreN X2.here hx rfl (hb hby own_d2_31) rfl rfl (l' := #[oa a0, oi (21 : Int32), oi (3 : Int32), oa b2, .unset]) rfl ?_
    refine XS.iconst X2.here hx rfl (hb hby own_d2_32) ?_
    refine XS.istore X2.here hx rfl (hb hby own_d2_33) rfl (l' := #[oa a0, oi (21 : Int32), oi (3 : Int32), oa b2, oi (0 : Int32)]) rfl ?_
    refine XS.iloadN X2.here hx rfl (hb hby own_d2_35) rfl ?_
    show oS p e below T2 m 36 #[oa a0, oi (21 : Int32), oi (3 : Int32), oa b2, oi (0 : Int32)] [(.int (21 : Int32))] _
    refine XS.iconst X2.here hx rfl (hb hby own_d2_36) ?_
    refine XS.iand X2.here hx rfl (hb hby own_d2_37) rfl ?_
    show oS p e below T2 m 38 #[oa a0, oi (21 : Int32), oi (3 : Int32), oa b2, oi (0 : Int32)] [(.int (1 : Int32))] _
    refine XS.ifNo X2.here hx rfl (hb hby own_d2_38) rfl ((if0 _ _).trans (feq b7).1) ?_
    refine XS.aloadN X2.here hx rfl (hb hby own_d2_41) rfl rfl ?_
    refine XS.iload X2.here hx rfl (hb hby own_d2_42) rfl ?_
    refine XS.aloadN X2.here hx rfl (hb hby own_d2_44) rfl rfl ?_
    show oS p e below T2 m 45 #[oa a0, oi (21 : Int32), oi (3 : Int32), oa b2, oi (0 : Int32)] [(.ref a0), (.int (0 : Int32)), (.ref b2)] _
    refine XS.iconst X2.here hx rfl (hb hby own_d2_45) ?_
    show oS p e below T2 m 46 #[oa a0, oi (21 : Int32), oi (3 : Int32), oa b2, oi (0 : Int32)] [(.int (0 : Int32)), (.ref a0), (.int (0 : Int32)), (.ref b2)] _
    refine oLdI X2 hx hZ e2 F5 (v := (.int u0)) ⟨by decide, by decide⟩ rfl (hb hby own_d2_46) ?_
    show oS p e below T2 m 47 #[oa a0, oi (21 : Int32), oi (3 : Int32), oa b2, oi (0 : Int32)] [(.int u0), (.int (0 : Int32)), (.ref b2)] _
    refine st8 _ ?_
    show oS p e below T8 m 48 #[oa a0, oi (21 : Int32), oi (3 : Int32), oa b2, oi (0 : Int32)] [] _
    refine XS.iinc X8.here hx rfl (hb hby own_d2_48) rfl (l' := #[oa a0, oi (21 : Int32), oi (3 : Int32), oa b2, oi (1 : Int32)]) rfl ?_
    refine XS.iloadN X8.here hx rfl (hb hby own_d2_51) rfl ?_
    refine XS.iconst X8.here hx rfl (hb hby own_d2_52) ?_
    refine XS.iand X8.here hx rfl (hb hby own_d2_53) rfl ?_
    show oS p e below T8 m 54 #[oa a0, oi (21 : Int32), oi (3 : Int32), oa b2, oi (1 : Int32)] [(.int (0 : Int32))] _
    refine XS.ifYes X8.here hx rfl (pc0 := 54) (pc' := 67) rfl (hb hby own_d2_54) rfl ((if0 _ _).trans (teq b13).1) (by decide) (by decide) ?_
    refine XS.iloadN X8.here hx rfl (hb hby own_d2_67) rfl ?_
    refine XS.iconst X8.here hx rfl (hb hby own_d2_68) ?_
    refine XS.iand X8.here hx rfl (hb hby own_d2_69) rfl ?_
    show oS p e below T8 m 70 #[oa a0, oi (21 : Int32), oi (3 : Int32), oa b2, oi (1 : Int32)] [(.int (4 : Int32))] _
    refine XS.ifNo X8.here hx rfl (hb hby own_d2_70) rfl ((if0 _ _).trans (feq b14).1) ?_
    refine XS.aloadN X8.here hx rfl (hb hby own_d2_73) rfl rfl ?_
    refine XS.iload X8.here hx rfl (hb hby own_d2_74) rfl ?_
    refine XS.aloadN X8.here hx rfl (hb hby own_d2_76) rfl rfl ?_
    show oS p e below T8 m 77 #[oa a0, oi (21 : Int32), oi (3 : Int32), oa b2, oi (1 : Int32)] [(.ref a0), (.int (1 : Int32)), (.ref b2)] _
    refine XS.iconst X8.here hx rfl (hb hby own_d2_77) ?_
    show oS p e below T8 m 78 #[oa a0, oi (21 : Int32), oi (3 : Int32), oa b2, oi (1 : Int32)] [(.int (2 : Int32)), (.ref a0), (.int (1 : Int32)), (.ref b2)] _
    refine oLdI X8 hx hZ e8 F9 (v := (.int u2)) ⟨by decide, by decide⟩ rfl (hb hby own_d2_78) ?_
    show oS p e below T8 m 79 #[oa a0, oi (21 : Int32), oi (3 : Int32), oa b2, oi (1 : Int32)] [(.int u2), (.int (1 : Int32)), (.ref b2)] _
    refine st15 _ ?_
    show oS p e below T15 m 80 #[oa a0, oi (21 : Int32), oi (3 : Int32), oa b2, oi (1 : Int32)] [] _
    refine XS.iinc X15.here hx rfl (hb hby own_d2_80) rfl (l' := #[oa a0, oi (21 : Int32), oi (3 : Int32), oa b2, oi (2 : Int32)]) rfl ?_
    refine XS.iloadN X15.here hx rfl (hb hby own_d2_83) rfl ?_
    refine XS.bipush X15.here hx rfl (hb hby own_d2_84) ?_
    refine XS.iand X15.here hx rfl (hb hby own_d2_86) rfl ?_
    show oS p e below T15 m 87 #[oa a0, oi (21 : Int32), oi (3 : Int32), oa b2, oi (2 : Int32)] [(.int (0 : Int32))] _
    refine XS.ifYes X15.here hx rfl (pc0 := 87) (pc' := 100) rfl (hb hby own_d2_87) rfl ((if0 _ _).trans (teq b20).1) (by decide) (by decide) ?_
    refine XS.iloadN X15.here hx rfl (hb hby own_d2_100) rfl ?_
    refine XS.bipush X15.here hx rfl (hb hby own_d2_101) ?_
    refine XS.iand X15.here hx rfl (hb hby own_d2_103) rfl ?_
    show oS p e below T15 m 104 #[oa a0, oi (21 : Int32), oi (3 : Int32), oa b2, oi (2 : Int32)] [(.int (16 : Int32))] _
    refine XS.ifNo X15.here hx rfl (hb hby own_d2_104) rfl ((if0 _ _).trans (feq b21).1) ?_
    refine XS.aloadN X15.here hx rfl (hb hby own_d2_107) rfl rfl ?_
    refine XS.iload X15.here hx rfl (hb hby own_d2_108) rfl ?_
    refine XS.aloadN X15.here hx rfl (hb hby own_d2_110) rfl rfl ?_
    show oS p e below T15 m 111 #[oa a0, oi (21 : Int32), oi (3 : Int32), oa b2, oi (2 : Int32)] [(.ref a0), (.int (2 : Int32)), (.ref b2)] _
    refine XS.iconst X15.here hx rfl (hb hby own_d2_111) ?_
    show oS p e below T15 m 112 #[oa a0, oi (21 : Int32), oi (3 : Int32), oa b2, oi (2 : Int32)] [(.int (4 : Int32)), (.ref a0), (.int (2 : Int32)), (.ref b2)] _
    refine oLdI X15 hx hZ e15 F16 (v := (.int u4)) ⟨by decide, by decide⟩ rfl (hb hby own_d2_112) ?_
    show oS p e below T15 m 113 #[oa a0, oi (21 : Int32), oi (3 : Int32), oa b2, oi (2 : Int32)] [(.int u4), (.int (2 : Int32)), (.ref b2)] _
    refine st22 _ ?_
    show oS p e below T22 m 114 #[oa a0, oi (21 : Int32), oi (3 : Int32), oa b2, oi (2 : Int32)] [] _
    refine XS.iinc X22.here hx rfl (hb hby own_d2_114) rfl (l' := #[oa a0, oi (21 : Int32), oi (3 : Int32), oa b2, oi (3 : Int32)]) rfl ?_
    refine XS.aloadN X22.here hx rfl (hb hby own_d2_117) rfl rfl ?_
    show oS p e below T22 m 118 #[oa a0, oi (21 : Int32), oi (3 : Int32), oa b2, oi (3 : Int32)] [(.ref b2)] _
    exact retOut X22 hx Bd.returns rfl (Or.inr (Or.inr (Or.inr (Or.inr ⟨rfl, rfl, rfl⟩)))) (hb hby own_d2_118) hr
  · show own_Q2 Z a0 p1 k_a0 u0 u1 u2 u3 u4 h0 n0 _ T22.heap _
    rw [e22]
    refine ⟨b2, k2, rfl, N22, K_26, sz_b2, ?_⟩
    rw [km, show own_z (21 : Int32) = (3 : Int32) by decide +kernel, own_pk, show own_idx (21 : Int32) = [0, 2, 4] by decide +kernel]
    exact V_25
set_option maxRecDepth 65536 in
set_option maxHeartbeats 40000000 in
theorem own_rm2_22 (l : Launch) (Z : State) (av : Array Value) (hw : ∀ d ∈ tables_1, d.before av Z = true) (ws : List Jvm.Cond) (a0 : Addr) (p1 : Int32) (k_a0 : ClassId) (u0 : Int32) (u1 : Int32) (u2 : Int32) (u3 : Int32) (u4 : Int32) (h0 : Heap) (n0 : Nat) (Z0 : n0 ≤ h0.size) (V_a0 : Arv Z h0 a0 k_a0 .int (5 : Int32) [(.int u0), (.int u1), (.int u2), (.int u3), (.int u4)] (.int (0 : Int32))) (km : p1 = (22 : Int32)) :
    MetFree l (⟨"com/example/strict_anon/strictanon/service/RecordSetsDifferencePinLaw", "pick", "([II)[I"⟩ : MethodName) (head1 (Jvm.Cond.code (⟨"com/example/strict_anon/strictanon/service/RecordSetsDifferencePinLaw", "pick", "([II)[I"⟩ : MethodName) method_3_code 5 (some (.array .int)) :: ws) ({ frames := 0, cells := 1, slots := 5, locals := 0 } : Room)) (fun a U => a = #[(.ref a0), (.int p1)] ∧ Z.Warmed39 U.vm ∧ U.heap = h0) (fun _ _ _ _ _ => True) (fun _ U o U' => ∃ v L, o = .returned v ∧ own_Q2 Z a0 p1 k_a0 u0 u1 u2 u3 u4 h0 n0 v U'.heap L ∧ FrameEnd U o U' L ({ frames := 0, cells := 1, slots := 5, locals := 0 } : Room).cells ({ frames := 0, cells := 1, slots := 5, locals := 0 } : Room).slots) := by
  refine MetFree.of_bodySF (plainFor_of_name own_pn0) hisR ?_
  intro p e s m args below meth c s₁ Bd hml0 hP hK
  obtain ⟨rfl, hZ, hh⟩ := hP
  have hx := Bd.exec
  have hby := Bd.bytes
  have hml : c.maxLocals = 5 := hml0
  have hown : s.vm.findClass "com/example/strict_anon/strictanon/service/RecordSetsDifferencePinLaw" = some m.cls := findClass_of_methodNamed Bd.named
  have hnm := (name_of_methodNamed Bd.named Bd.method).1
  have X0 : Stand p l e ({ frames := 0, cells := 1, slots := 5, locals := 0 } : Room) s m #[(.ref a0), (.int p1)] below meth c s₁ [] 0 0 := Stand.of_body Bd
  have e0 : s₁.heap = h0 := by rw [← hh, Bd.state]; rfl
  have N0 := Fr.nil n0
  have pre0 : ∀ t, Steps p.tables e below (s₁.setTop (mkF m 0 #[oa a0, oi p1, .unset, .unset, .unset] [])) t → Steps p.tables e below (s₁.setTop (entryFrame m #[(.ref a0), (.int p1)] 5)) t := fun t k => castTop (own_ef2 m a0 p1) k
  have pre1 : ∀ t, Steps p.tables e below (s₁.setTop (mkF m 0 #[oa a0, oi (22 : Int32), .unset, .unset, .unset] [])) t → Steps p.tables e below (s₁.setTop (entryFrame m #[(.ref a0), (.int p1)] 5)) t := by
    intro t k
    refine pre0 t ?_
    rw [km]
    exact k
  obtain ⟨T2, h2, k2, X2, e2, E2, A2, B2, st2⟩ := newPE X0 hx hZ (hw _ (List.mem_of_getElem? (i := 6) rfl)) e0 (g := (mkF m 29 #[oa a0, oi (22 : Int32), oi (3 : Int32), .unset, .unset] [(.int (3 : Int32))])) rfl (hb hby own_d2_29) rfl (by decide) (cap := 3) (by decide) (by decide) (by decide) (by decide) (ad := "[I") rfl
  obtain ⟨b2, g2⟩ : ∃ z, z = h0.size := ⟨_, rfl⟩
  rw [← g2] at A2 st2 B2
  have g_b2 : n0 ≤ b2 := Nat.le_trans Z0 (Nat.le_of_eq g2.symm)
  have ne3 : a0 ≠ b2 := Nat.ne_of_lt (Nat.lt_of_lt_of_le V_a0.lt (Nat.le_of_eq g2.symm))
  have Z2 : n0 ≤ h2.size := Nat.le_trans Z0 E2.1
  have sz_b2 : h0.size ≤ b2 := Nat.le_trans (Keep.refl h0 []).1 (Nat.le_of_eq g2.symm)
  have K_4 : Keep h0 h2 [] := (Keep.refl h0 []).ext E2
  have F5 := V_a0.ext E2
  have V_6 : Arv Z h2 b2 k2 .int (3 : Int32) [(.int (0 : Int32)), (.int (0 : Int32)), (.int (0 : Int32))] (.int (0 : Int32)) := (Arv.new A2 (by decide)).pad (pad_rep [] (.int (0 : Int32)) 3)
  have b7 : (0 : Int32) = (0 : Int32) := (by decide)
  have b8 : ¬ ((2 : Int32) = (0 : Int32)) := (by decide)
  obtain ⟨T9, h9, X9, e9, W9, V9, st9⟩ := oStI X2 hx hZ e2 V_6 (j := (0 : Int32)) ⟨by decide, by decide⟩ 0 rfl (Nat.le_of_ble_eq_true rfl) (g := (mkF m 63 #[oa a0, oi (22 : Int32), oi (3 : Int32), oa b2, oi (0 : Int32)] [(.int u1), (.int (0 : Int32)), (.ref b2)])) rfl rfl (hb hby own_d2_63)
  obtain ⟨Lo9, X9, N9⟩ := oOpq X9 (Fr.snoc X9 N0 g_b2)
  have Z9 := Nat.le_trans Z2 (Keep.of_wr W9).1
  have F10 := F5.other W9 ne3
  have F11 := B2.wr W9
  have V_12 : Arv Z h9 b2 k2 .int (3 : Int32) [(.int u1), (.int (0 : Int32)), (.int (0 : Int32))] (.int (0 : Int32)) := V9
  have K_13 : Keep h0 h9 [] := K_4.wr W9 (Or.inr sz_b2)
  have b14 : ¬ ((4 : Int32) = (0 : Int32)) := (by decide)
  obtain ⟨T15, h15, X15, e15, W15, V15, st15⟩ := oStI X9 hx hZ e9 V_12 (j := (1 : Int32)) ⟨by decide, by decide⟩ 1 rfl (Nat.le_of_ble_eq_true rfl) (g := (mkF m 79 #[oa a0, oi (22 : Int32), oi (3 : Int32), oa b2, oi (1 : Int32)] [(.int u2), (.int (1 : Int32)), (.ref b2)])) rfl rfl (hb hby own_d2_79)
  obtain ⟨Lo15, X15, N15⟩ := oOpq X15 (Fr.snoc X15 N9 g_b2)
  have Z15 := Nat.le_trans Z9 (Keep.of_wr W15).1
  have F16 := F10.other W15 ne3
  have F17 := F11.wr W15
  have V_18 : Arv Z h15 b2 k2 .int (3 : Int32) [(.int u1), (.int u2), (.int (0 : Int32))] (.int (0 : Int32)) := V15
  have K_19 : Keep h0 h15 [] := K_13.wr W15 (Or.inr sz_b2)
  have b20 : (0 : Int32) = (0 : Int32) := (by decide)
  have b21 : ¬ ((16 : Int32) = (0 : Int32)) := (by decide)
  obtain ⟨T22, h22, X22, e22, W22, V22, st22⟩ := oStI X15 hx hZ e15 V_18 (j := (2 : Int32)) ⟨by decide, by decide⟩ 2 rfl (Nat.le_of_ble_eq_true rfl) (g := (mkF m 113 #[oa a0, oi (22 : Int32), oi (3 : Int32), oa b2, oi (2 : Int32)] [(.int u4), (.int (2 : Int32)), (.ref b2)])) rfl rfl (hb hby own_d2_113)
  obtain ⟨Lo22, X22, N22⟩ := oOpq X22 (Fr.snoc X22 N15 g_b2)
  have Z22 := Nat.le_trans Z15 (Keep.of_wr W22).1
  have F23 := F16.other W22 ne3
  have F24 := F17.wr W22
  have V_25 : Arv Z h22 b2 k2 .int (3 : Int32) [(.int u1), (.int u2), (.int u4)] (.int (0 : Int32)) := V22
  have K_26 : Keep h0 h22 [] := K_19.wr W22 (Or.inr sz_b2)
  obtain ⟨fs, hr, hrun, hended, hW, hsame⟩ := X22.leave (v := (some (.ref b2))) (fun h => by rw [Bd.returns] at h; cases h)
  refine ⟨_, _, pre1 _ ?_, hrun, hended, _, _, rfl, ?_, ⟨_, rfl⟩, hW, hsame.mono (by decide) (by decide)⟩
  · show oS p e below s₁ m 0 #[oa a0, oi (22 : Int32), .unset, .unset, .unset] [] _
    refine XS.iloadN X0.here hx rfl (hb hby own_d2_0) rfl ?_
    refine XS.iconst X0.here hx rfl (hb hby own_d2_1) ?_
    refine XS.iand X0.here hx rfl (hb hby own_d2_2) rfl ?_
    refine XS.iloadN X0.here hx rfl (hb hby own_d2_3) rfl ?_
    show oS p e below s₁ m 4 #[oa a0, oi (22 : Int32), .unset, .unset, .unset] [(.int (22 : Int32)), (.int (0 : Int32))] _
    refine XS.iconst X0.here hx rfl (hb hby own_d2_4) ?_
    show oS p e below s₁ m 5 #[oa a0, oi (22 : Int32), .unset, .unset, .unset] [(.int (1 : Int32)), (.int (22 : Int32)), (.int (0 : Int32))] _
    refine XS.iushr X0.here hx rfl (hb hby own_d2_5) rfl ?_
    refine XS.iconst X0.here hx rfl (hb hby own_d2_6) ?_
    refine XS.iand X0.here hx rfl (hb hby own_d2_7) rfl ?_
    refine XS.iadd X0.here hx rfl (hb hby own_d2_8) rfl ?_
    show oS p e below s₁ m 9 #[oa a0, oi (22 : Int32), .unset, .unset, .unset] [(.int (1 : Int32))] _
    refine XS.iloadN X0.here hx rfl (hb hby own_d2_9) rfl ?_
    refine XS.iconst X0.here hx rfl (hb hby own_d2_10) ?_
    show oS p e below s₁ m 11 #[oa a0, oi (22 : Int32), .unset, .unset, .unset] [(.int (2 : Int32)), (.int (22 : Int32)), (.int (1 : Int32))] _
    refine XS.iushr X0.here hx rfl (hb hby own_d2_11) rfl ?_
    refine XS.iconst X0.here hx rfl (hb hby own_d2_12) ?_
    refine XS.iand X0.here hx rfl (hb hby own_d2_13) rfl ?_
    refine XS.iadd X0.here hx rfl (hb hby own_d2_14) rfl ?_
    show oS p e below s₁ m 15 #[oa a0, oi (22 : Int32), .unset, .unset, .unset] [(.int (2 : Int32))] _
    refine XS.iloadN X0.here hx rfl (hb hby own_d2_15) rfl ?_
    refine XS.iconst X0.here hx rfl (hb hby own_d2_16) ?_
    show oS p e below s₁ m 17 #[oa a0, oi (22 : Int32), .unset, .unset, .unset] [(.int (3 : Int32)), (.int (22 : Int32)), (.int (2 : Int32))] _
    refine XS.iushr X0.here hx rfl (hb hby own_d2_17) rfl ?_
    refine XS.iconst X0.here hx rfl (hb hby own_d2_18) ?_
    refine XS.iand X0.here hx rfl (hb hby own_d2_19) rfl ?_
    refine XS.iadd X0.here hx rfl (hb hby own_d2_20) rfl ?_
    show oS p e below s₁ m 21 #[oa a0, oi (22 : Int32), .unset, .unset, .unset] [(.int (2 : Int32))] _
    refine XS.iloadN X0.here hx rfl (hb hby own_d2_21) rfl ?_
    refine XS.iconst X0.here hx rfl (hb hby own_d2_22) ?_
    show oS p e below s₁ m 23 #[oa a0, oi (22 : Int32), .unset, .unset, .unset] [(.int (4 : Int32)), (.int (22 : Int32)), (.int (2 : Int32))] _
    refine XS.iushr X0.here hx rfl (hb hby own_d2_23) rfl ?_
    refine XS.iconst X0.here hx rfl (hb hby own_d2_24) ?_
    refine XS.iand X0.here hx rfl (hb hby own_d2_25) rfl ?_
    refine XS.iadd X0.here hx rfl (hb hby own_d2_26) rfl ?_
    show oS p e below s₁ m 27 #[oa a0, oi (22 : Int32), .unset, .unset, .unset] [(.int (3 : Int32))] _
    refine XS.istoreN X0.here hx rfl (hb hby own_d2_27) rfl (l' := #[oa a0, oi (22 : Int32), oi (3 : Int32), .unset, .unset]) rfl ?_
    refine XS.iloadN X0.here hx rfl (hb hby own_d2_28) rfl ?_
    show oS p e below s₁ m 29 #[oa a0, oi (22 : Int32), oi (3 : Int32), .unset, .unset] [(.int (3 : Int32))] _
    refine st2 _ ?_
    show oS p e below T2 m 31 #[oa a0, oi (22 : Int32), oi (3 : Int32), .unset, .unset] [(.ref b2)] _
    refine XS.astoreN X2.here hx rfl (hb hby own_d2_31) rfl rfl (l' := #[oa a0, oi (22 : Int32), oi (3 : Int32), oa b2, .unset]) rfl ?_
    refine XS.iconst X2.here hx rfl (hb hby own_d2_32) ?_
    refine XS.istore X2.here hx rfl (hb hby own_d2_33) rfl (l' := #[oa a0, oi (22 : Int32), oi (3 : Int32), oa b2, oi (0 : Int32)]) rfl ?_
    refine XS.iloadN X2.here hx rfl (hb hby own_d2_35) rfl ?_
    show oS p e below T2 m 36 #[oa a0, oi (22 : Int32), oi (3 : Int32), oa b2, oi (0 : Int32)] [(.int (22 : Int32))] _
    refine XS.iconst X2.here hx rfl (hb hby own_d2_36) ?_
    refine XS.iand X2.here hx rfl (hb hby own_d2_37) rfl ?_
    show oS p e below T2 m 38 #[oa a0, oi (22 : Int32), oi (3 : Int32), oa b2, oi (0 : Int32)] [(.int (0 : Int32))] _
    refine XS.ifYes X2.here hx rfl (pc0 := 38) (pc' := 51) rfl (hb hby own_d2_38) rfl ((if0 _ _).trans (teq b7).1) (by decide) (by decide) ?_
    refine XS.iloadN X2.here hx rfl (hb hby own_d2_51) rfl ?_
    refine XS.iconst X2.here hx rfl (hb hby own_d2_52) ?_
    refine XS.iand X2.here hx rfl (hb hby own_d2_53) rfl ?_
    show oS p e below T2 m 54 #[oa a0, oi (22 : Int32), oi (3 : Int32), oa b2, oi (0 : Int32)] [(.int (2 : Int32))] _
    refine XS.ifNo X2.here hx rfl (hb hby own_d2_54) rfl ((if0 _ _).trans (feq b8).1) ?_
    refine XS.aloadN X2.here hx rfl (hb hby own_d2_57) rfl rfl ?_
    refine XS.iload X2.here hx rfl (hb hby own_d2_58) rfl ?_
    refine XS.aloadN X2.here hx rfl (hb hby own_d2_60) rfl rfl ?_
    show oS p e below T2 m 61 #[oa a0, oi (22 : Int32), oi (3 : Int32), oa b2, oi (0 : Int32)] [(.ref a0), (.int (0 : Int32)), (.ref b2)] _
    refine XS.iconst X2.here hx rfl (hb hby own_d2_61) ?_
    show oS p e below T2 m 62 #[oa a0, oi (22 : Int32), oi (3 : Int32), oa b2, oi (0 : Int32)] [(.int (1 : Int32)), (.ref a0), (.int (0 : Int32)), (.ref b2)] _
    refine oLdI X2 hx hZ e2 F5 (v := (.int u1)) ⟨by decide, by decide⟩ rfl (hb hby own_d2_62) ?_
    show oS p e below T2 m 63 #[oa a0, oi (22 : Int32), oi (3 : Int32), oa b2, oi (0 : Int32)] [(.int u1), (.int (0 : Int32)), (.ref b2)] _
    refine st9 _ ?_
    show oS p e below T9 m 64 #[oa a0, oi (22 : Int32), oi (3 : Int32), oa b2, oi (0 : Int32)] [] _
    refine XS.iinc X9.here hx rfl (hb hby own_d2_64) rfl (l' := #[oa a0, oi (22 : Int32), oi (3 : Int32), oa b2, oi (1 : Int32)]) rfl ?_
    refine XS.iloadN X9.here hx rfl (hb hby own_d2_67) rfl ?_
    refine XS.iconst X9.here hx rfl (hb hby own_d2_68) ?_
    refine XS.iand X9.here hx rfl (hb hby own_d2_69) rfl ?_
    show oS p e below T9 m 70 #[oa a0, oi (22 : Int32), oi (3 : Int32), oa b2, oi (1 : Int32)] [(.int (4 : Int32))] _
    refine XS.ifNo X9.here hx rfl (hb hby own_d2_70) rfl ((if0 _ _).trans (feq b14).1) ?_
    refine XS.aloadN X9.here hx rfl (hb hby own_d2_73) rfl rfl ?_
    refine XS.iload X9.here hx rfl (hb hby own_d2_74) rfl ?_
    refine XS.aloadN X9.here hx rfl (hb hby own_d2_76) rfl rfl ?_
    show oS p e below T9 m 77 #[oa a0, oi (22 : Int32), oi (3 : Int32), oa b2, oi (1 : Int32)] [(.ref a0), (.int (1 : Int32)), (.ref b2)] _
    refine XS.iconst X9.here hx rfl (hb hby own_d2_77) ?_
    show oS p e below T9 m 78 #[oa a0, oi (22 : Int32), oi (3 : Int32), oa b2, oi (1 : Int32)] [(.int (2 : Int32)), (.ref a0), (.int (1 : Int32)), (.ref b2)] _
    refine oLdI X9 hx hZ e9 F10 (v := (.int u2)) ⟨by decide, by decide⟩ rfl (hb hby own_d2_78) ?_
    show oS p e below T9 m 79 #[oa a0, oi (22 : Int32), oi (3 : Int32), oa b2, oi (1 : Int32)] [(.int u2), (.int (1 : Int32)), (.ref b2)] _
    refine st15 _ ?_
    show oS p e below T15 m 80 #[oa a0, oi (22 : Int32), oi (3 : Int32), oa b2, oi (1 : Int32)] [] _
    refine XS.iinc X15.here hx rfl (hb hby own_d2_80) rfl (l' := #[oa a0, oi (22 : Int32), oi (3 : Int32), oa b2, oi (2 : Int32)]) rfl ?_
    refine XS.iloadN X15.here hx rfl (hb hby own_d2_83) rfl ?_
    refine XS.bipush X15.here hx rfl (hb hby own_d2_84) ?_
    refine XS.iand X15.here hx rfl (hb hby own_d2_86) rfl ?_
    show oS p e below T15 m 87 #[oa a0, oi (22 : Int32), oi (3 : Int32), oa b2, oi (2 : Int32)] [(.int (0 : Int32))] _
    refine XS.ifYes X15.here hx rfl (pc0 := 87) (pc' := 100) rfl (hb hby own_d2_87) rfl ((if0 _ _).trans (teq b20).1) (by decide) (by decide) ?_
    refine XS.iloadN X15.here hx rfl (hb hby own_d2_100) rfl ?_
    refine XS.bipush X15.here hx rfl (hb hby own_d2_101) ?_
    refine XS.iand X15.here hx rfl (hb hby own_d2_103) rfl ?_
    show oS p e below T15 m 104 #[oa a0, oi (22 : Int32), oi (3 : Int32), oa b2, oi (2 : Int32)] [(.int (16 : Int32))] _
    refine XS.ifNo X15.here hx rfl (hb hby own_d2_104) rfl ((if0 _ _).trans (feq b21).1) ?_
    refine XS.aloadN X15.here hx rfl (hb hby own_d2_107) rfl rfl ?_
    refine XS.iload X15.here hx rfl (hb hby own_d2_108) rfl ?_
    refine XS.aloadN X15.here hx rfl (hb hby own_d2_110) rfl rfl ?_
    show oS p e below T15 m 111 #[oa a0, oi (22 : Int32), oi (3 : Int32), oa b2, oi (2 : Int32)] [(.ref a0), (.int (2 : Int32)), (.ref b2)] _
    refine XS.iconst X15.here hx rfl (hb hby own_d2_111) ?_
    show oS p e below T15 m 112 #[oa a0, oi (22 : Int32), oi (3 : Int32), oa b2, oi (2 : Int32)] [(.int (4 : Int32)), (.ref a0), (.int (2 : Int32)), (.ref b2)] _
    refine oLdI X15 hx hZ e15 F16 (v := (.int u4)) ⟨by decide, by decide⟩ rfl (hb hby own_d2_112) ?_
    show oS p e below T15 m 113 #[oa a0, oi (22 : Int32), oi (3 : Int32), oa b2, oi (2 : Int32)] [(.int u4), (.int (2 : Int32)), (.ref b2)] _
    refine st22 _ ?_
    show oS p e below T22 m 114 #[oa a0, oi (22 : Int32), oi (3 : Int32), oa b2, oi (2 : Int32)] [] _
    refine XS.iinc X22.here hx rfl (hb hby own_d2_114) rfl (l' := #[oa a0, oi (22 : Int32), oi (3 : Int32), oa b2, oi (3 : Int32)]) rfl ?_
    refine XS.aloadN X22.here hx rfl (hb hby own_d2_117) rfl rfl ?_
    show oS p e below T22 m 118 #[oa a0, oi (22 : Int32), oi (3 : Int32), oa b2, oi (3 : Int32)] [(.ref b2)] _
    exact retOut X22 hx Bd.returns rfl (Or.inr (Or.inr (Or.inr (Or.inr ⟨rfl, rfl, rfl⟩)))) (hb hby own_d2_118) hr
  · show own_Q2 Z a0 p1 k_a0 u0 u1 u2 u3 u4 h0 n0 _ T22.heap _
    rw [e22]
    refine ⟨b2, k2, rfl, N22, K_26, sz_b2, ?_⟩
    rw [km, show own_z (22 : Int32) = (3 : Int32) by decide +kernel, own_pk, show own_idx (22 : Int32) = [1, 2, 4] by decide +kernel]
    exact V_25
set_option maxRecDepth 65536 in
set_option maxHeartbeats 40000000 in
theorem own_rm2_23 (l : Launch) (Z : State) (av : Array Value) (hw : ∀ d ∈ tables_1, d.before av Z = true) (ws : List Jvm.Cond) (a0 : Addr) (p1 : Int32) (k_a0 : ClassId) (u0 : Int32) (u1 : Int32) (u2 : Int32) (u3 : Int32) (u4 : Int32) (h0 : Heap) (n0 : Nat) (Z0 : n0 ≤ h0.size) (V_a0 : Arv Z h0 a0 k_a0 .int (5 : Int32) [(.int u0), (.int u1), (.int u2), (.int u3), (.int u4)] (.int (0 : Int32))) (km : p1 = (23 : Int32)) :
    MetFree l (⟨"com/example/strict_anon/strictanon/service/RecordSetsDifferencePinLaw", "pick", "([II)[I"⟩ : MethodName) (head1 (Jvm.Cond.code (⟨"com/example/strict_anon/strictanon/service/RecordSetsDifferencePinLaw", "pick", "([II)[I"⟩ : MethodName) method_3_code 5 (some (.array .int)) :: ws) ({ frames := 0, cells := 1, slots := 5, locals := 0 } : Room)) (fun a U => a = #[(.ref a0), (.int p1)] ∧ Z.Warmed39 U.vm ∧ U.heap = h0) (fun _ _ _ _ _ => True) (fun _ U o U' => ∃ v L, o = .returned v ∧ own_Q2 Z a0 p1 k_a0 u0 u1 u2 u3 u4 h0 n0 v U'.heap L ∧ FrameEnd U o U' L ({ frames := 0, cells := 1, slots := 5, locals := 0 } : Room).cells ({ frames := 0, cells := 1, slots := 5, locals := 0 } : Room).slots) := by
  refine MetFree.of_bodySF (plainFor_of_name own_pn0) hisR ?_
  intro p e s m args below meth c s₁ Bd hml0 hP hK
  obtain ⟨rfl, hZ, hh⟩ := hP
  have hx := Bd.exec
  have hby := Bd.bytes
  have hml : c.maxLocals = 5 := hml0
  have hown : s.vm.findClass "com/example/strict_anon/strictanon/service/RecordSetsDifferencePinLaw" = some m.cls := findClass_of_methodNamed Bd.named
  have hnm := (name_of_methodNamed Bd.named Bd.method).1
  have X0 : Stand p l e ({ frames := 0, cells := 1, slots := 5, locals := 0 } : Room) s m #[(.ref a0), (.int p1)] below meth c s₁ [] 0 0 := Stand.of_body Bd
  have e0 : s₁.heap = h0 := by rw [← hh, Bd.state]; rfl
  have N0 := Fr.nil n0
  have pre0 : ∀ t, Steps p.tables e below (s₁.setTop (mkF m 0 #[oa a0, oi p1, .unset, .unset, .unset] [])) t → Steps p.tables e below (s₁.setTop (entryFrame m #[(.ref a0), (.int p1)] 5)) t := fun t k => castTop (own_ef2 m a0 p1) k
  have pre1 : ∀ t, Steps p.tables e below (s₁.setTop (mkF m 0 #[oa a0, oi (23 : Int32), .unset, .unset, .unset] [])) t → Steps p.tables e below (s₁.setTop (entryFrame m #[(.ref a0), (.int p1)] 5)) t := by
    intro t k
    refine pre0 t ?_
    rw [km]
    exact k
  obtain ⟨T2, h2, k2, X2, e2, E2, A2, B2, st2⟩ := newPE X0 hx hZ (hw _ (List.mem_of_getElem? (i := 6) rfl)) e0 (g := (mkF m 29 #[oa a0, oi (23 : Int32), oi (4 : Int32), .unset, .unset] [(.int (4 : Int32))])) rfl (hb hby own_d2_29) rfl (by decide) (cap := 4) (by decide) (by decide) (by decide) (by decide) (ad := "[I") rfl
  obtain ⟨b2, g2⟩ : ∃ z, z = h0.size := ⟨_, rfl⟩
  rw [← g2] at A2 st2 B2
  have g_b2 : n0 ≤ b2 := Nat.le_trans Z0 (Nat.le_of_eq g2.symm)
  have ne3 : a0 ≠ b2 := Nat.ne_of_lt (Nat.lt_of_lt_of_le V_a0.lt (Nat.le_of_eq g2.symm))
  have Z2 : n0 ≤ h2.size := Nat.le_trans Z0 E2.1
  have sz_b2 : h0.size ≤ b2 := Nat.le_trans (Keep.refl h0 []).1 (Nat.le_of_eq g2.symm)
  have K_4 : Keep h0 h2 [] := (Keep.refl h0 []).ext E2
  have F5 := V_a0.ext E2
  have V_6 : Arv Z h2 b2 k2 .int (4 : Int32) [(.int (0 : Int32)), (.int (0 : Int32)), (.int (0 : Int32)), (.int (0 : Int32))] (.int (0 : Int32)) := (Arv.new A2 (by decide)).pad (pad_rep [] (.int (0 : Int32)) 4)
  have b7 : ¬ ((1 : Int32) = (0 : Int32)) := (by decide)
  obtain ⟨T8, h8, X8, e8, W8, V8, st8⟩ := oStI X2 hx hZ e2 V_6 (j := (0 : Int32)) ⟨by decide, by decide⟩ 0 rfl (Nat.le_of_ble_eq_true rfl) (g := (mkF m 47 #[oa a0, oi (23 : Int32), oi (4 : Int32), oa b2, oi (0 : Int32)] [(.int u0), (.int (0 : Int32)), (.ref b2)])) rfl rfl (hb hby own_d2_47)
  obtain ⟨Lo8, X8, N8⟩ := oOpq X8 (Fr.snoc X8 N0 g_b2)
  have Z8 := Nat.le_trans Z2 (Keep.of_wr W8).1
  have F9 := F5.other W8 ne3
  have F10 := B2.wr W8
  have V_11 : Arv Z h8 b2 k2 .int (4 : Int32) [(.int u0), (.int (0 : Int32)), (.int (0 : Int32)), (.int (0 : Int32))] (.int (0 : Int32)) := V8
  have K_12 : Keep h0 h8 [] := K_4.wr W8 (Or.inr sz_b2)
  have b13 : ¬ ((2 : Int32) = (0 : Int32)) := (by decide)
  obtain ⟨T14, h14, X14, e14, W14, V14, st14⟩ := oStI X8 hx hZ e8 V_11 (j := (1 : Int32)) ⟨by decide, by decide⟩ 1 rfl (Nat.le_of_ble_eq_true rfl) (g := (mkF m 63 #[oa a0, oi (23 : Int32), oi (4 : Int32), oa b2, oi (1 : Int32)] [(.int u1), (.int (1 : Int32)), (.ref b2)])) rfl rfl (hb hby own_d2_63)
  obtain ⟨Lo14, X14, N14⟩ := oOpq X14 (Fr.snoc X14 N8 g_b2)
  have Z14 := Nat.le_trans Z8 (Keep.of_wr W14).1
  have F15 := F9.other W14 ne3
  have F16 := F10.wr W14
  have V_17 : Arv Z h14 b2 k2 .int (4 : Int32) [(.int u0), (.int u1), (.int (0 : Int32)), (.int (0 : Int32))] (.int (0 : Int32)) := V14
  have K_18 : Keep h0 h14 [] := K_12.wr W14 (Or.inr sz_b2)
  have b19 : ¬ ((4 : Int32) = (0 : Int32)) := (by decide)
  obtain ⟨T20, h20, X20, e20, W20, V20, st20⟩ := oStI X14 hx hZ e14 V_17 (j := (2 : Int32)) ⟨by decide, by decide⟩ 2 rfl (Nat.le_of_ble_eq_true rfl) (g := (mkF m 79 #[oa a0, oi (23 : Int32), oi (4 : Int32), oa b2, oi (2 : Int32)] [(.int u2), (.int (2 : Int32)), (.ref b2)])) rfl rfl (hb hby own_d2_79)
  obtain ⟨Lo20, X20, N20⟩ := oOpq X20 (Fr.snoc X20 N14 g_b2)
  have Z20 := Nat.le_trans Z14 (Keep.of_wr W20).1
  have F21 := F15.other W20 ne3
  have F22 := F16.wr W20
  have V_23 : Arv Z h20 b2 k2 .int (4 : Int32) [(.int u0), (.int u1), (.int u2), (.int (0 : Int32))] (.int (0 : Int32)) := V20
  have K_24 : Keep h0 h20 [] := K_18.wr W20 (Or.inr sz_b2)
  have b25 : (0 : Int32) = (0 : Int32) := (by decide)
  have b26 : ¬ ((16 : Int32) = (0 : Int32)) := (by decide)
  obtain ⟨T27, h27, X27, e27, W27, V27, st27⟩ := oStI X20 hx hZ e20 V_23 (j := (3 : Int32)) ⟨by decide, by decide⟩ 3 rfl (Nat.le_of_ble_eq_true rfl) (g := (mkF m 113 #[oa a0, oi (23 : Int32), oi (4 : Int32), oa b2, oi (3 : Int32)] [(.int u4), (.int (3 : Int32)), (.ref b2)])) rfl rfl (hb hby own_d2_113)
  obtain ⟨Lo27, X27, N27⟩ := oOpq X27 (Fr.snoc X27 N20 g_b2)
  have Z27 := Nat.le_trans Z20 (Keep.of_wr W27).1
  have F28 := F21.other W27 ne3
  have F29 := F22.wr W27
  have V_30 : Arv Z h27 b2 k2 .int (4 : Int32) [(.int u0), (.int u1), (.int u2), (.int u4)] (.int (0 : Int32)) := V27
  have K_31 : Keep h0 h27 [] := K_24.wr W27 (Or.inr sz_b2)
  obtain ⟨fs, hr, hrun, hended, hW, hsame⟩ := X27.leave (v := (some (.ref b2))) (fun h => by rw [Bd.returns] at h; cases h)
  refine ⟨_, _, pre1 _ ?_, hrun, hended, _, _, rfl, ?_, ⟨_, rfl⟩, hW, hsame.mono (by decide) (by decide)⟩
  · show oS p e below s₁ m 0 #[oa a0, oi (23 : Int32), .unset, .unset, .unset] [] _
    refine XS.iloadN X0.here hx rfl (hb hby own_d2_0) rfl ?_
    refine XS.iconst X0.here hx rfl (hb hby own_d2_1) ?_
    refine XS.iand X0.here hx rfl (hb hby own_d2_2) rfl ?_
    refine XS.iloadN X0.here hx rfl (hb hby own_d2_3) rfl ?_
    show oS p e below s₁ m 4 #[oa a0, oi (23 : Int32), .unset, .unset, .unset] [(.int (23 : Int32)), (.int (1 : Int32))] _
    refine XS.iconst X0.here hx rfl (hb hby own_d2_4) ?_
    show oS p e below s₁ m 5 #[oa a0, oi (23 : Int32), .unset, .unset, .unset] [(.int (1 : Int32)), (.int (23 : Int32)), (.int (1 : Int32))] _
    refine XS.iushr X0.here hx rfl (hb hby own_d2_5) rfl ?_
    refine XS.iconst X0.here hx rfl (hb hby own_d2_6) ?_
    refine XS.iand X0.here hx rfl (hb hby own_d2_7) rfl ?_
    refine XS.iadd X0.here hx rfl (hb hby own_d2_8) rfl ?_
    show oS p e below s₁ m 9 #[oa a0, oi (23 : Int32), .unset, .unset, .unset] [(.int (2 : Int32))] _
    refine XS.iloadN X0.here hx rfl (hb hby own_d2_9) rfl ?_
    refine XS.iconst X0.here hx rfl (hb hby own_d2_10) ?_
    show oS p e below s₁ m 11 #[oa a0, oi (23 : Int32), .unset, .unset, .unset] [(.int (2 : Int32)), (.int (23 : Int32)), (.int (2 : Int32))] _
    refine XS.iushr X0.here hx rfl (hb hby own_d2_11) rfl ?_
    refine XS.iconst X0.here hx rfl (hb hby own_d2_12) ?_
    refine XS.iand X0.here hx rfl (hb hby own_d2_13) rfl ?_
    refine XS.iadd X0.here hx rfl (hb hby own_d2_14) rfl ?_
    show oS p e below s₁ m 15 #[oa a0, oi (23 : Int32), .unset, .unset, .unset] [(.int (3 : Int32))] _
    refine XS.iloadN X0.here hx rfl (hb hby own_d2_15) rfl ?_
    refine XS.iconst X0.here hx rfl (hb hby own_d2_16) ?_
    show oS p e below s₁ m 17 #[oa a0, oi (23 : Int32), .unset, .unset, .unset] [(.int (3 : Int32)), (.int (23 : Int32)), (.int (3 : Int32))] _
    refine XS.iushr X0.here hx rfl (hb hby own_d2_17) rfl ?_
    refine XS.iconst X0.here hx rfl (hb hby own_d2_18) ?_
    refine XS.iand X0.here hx rfl (hb hby own_d2_19) rfl ?_
    refine XS.iadd X0.here hx rfl (hb hby own_d2_20) rfl ?_
    show oS p e below s₁ m 21 #[oa a0, oi (23 : Int32), .unset, .unset, .unset] [(.int (3 : Int32))] _
    refine XS.iloadN X0.here hx rfl (hb hby own_d2_21) rfl ?_
    refine XS.iconst X0.here hx rfl (hb hby own_d2_22) ?_
    show oS p e below s₁ m 23 #[oa a0, oi (23 : Int32), .unset, .unset, .unset] [(.int (4 : Int32)), (.int (23 : Int32)), (.int (3 : Int32))] _
    refine XS.iushr X0.here hx rfl (hb hby own_d2_23) rfl ?_
    refine XS.iconst X0.here hx rfl (hb hby own_d2_24) ?_
    refine XS.iand X0.here hx rfl (hb hby own_d2_25) rfl ?_
    refine XS.iadd X0.here hx rfl (hb hby own_d2_26) rfl ?_
    show oS p e below s₁ m 27 #[oa a0, oi (23 : Int32), .unset, .unset, .unset] [(.int (4 : Int32))] _
    refine XS.istoreN X0.here hx rfl (hb hby own_d2_27) rfl (l' := #[oa a0, oi (23 : Int32), oi (4 : Int32), .unset, .unset]) rfl ?_
    refine XS.iloadN X0.here hx rfl (hb hby own_d2_28) rfl ?_
    show oS p e below s₁ m 29 #[oa a0, oi (23 : Int32), oi (4 : Int32), .unset, .unset] [(.int (4 : Int32))] _
    refine st2 _ ?_
    show oS p e below T2 m 31 #[oa a0, oi (23 : Int32), oi (4 : Int32), .unset, .unset] [(.ref b2)] _
    refine XS.astoreN X2.here hx rfl (hb hby own_d2_31) rfl rfl (l' := #[oa a0, oi (23 : Int32), oi (4 : Int32), oa b2, .unset]) rfl ?_
    refine XS.iconst X2.here hx rfl (hb hby own_d2_32) ?_
    refine XS.istore X2.here hx rfl (hb hby own_d2_33) rfl (l' := #[oa a0, oi (23 : Int32), oi (4 : Int32), oa b2, oi (0 : Int32)]) rfl ?_
    refine XS.iloadN X2.here hx rfl (hb hby own_d2_35) rfl ?_
    show oS p e below T2 m 36 #[oa a0, oi (23 : Int32), oi (4 : Int32), oa b2, oi (0 : Int32)] [(.int (23 : Int32))] _
    refine XS.iconst X2.here hx rfl (hb hby own_d2_36) ?_
    refine XS.iand X2.here hx rfl (hb hby own_d2_37) rfl ?_
    show oS p e below T2 m 38 #[oa a0, oi (23 : Int32), oi (4 : Int32), oa b2, oi (0 : Int32)] [(.int (1 : Int32))] _
    refine XS.ifNo X2.here hx rfl (hb hby own_d2_38) rfl ((if0 _ _).trans (feq b7).1) ?_
    refine XS.aloadN X2.here hx rfl (hb hby own_d2_41) rfl rfl ?_
    refine XS.iload X2.here hx rfl (hb hby own_d2_42) rfl ?_
    refine XS.aloadN X2.here hx rfl (hb hby own_d2_44) rfl rfl ?_
    show oS p e below T2 m 45 #[oa a0, oi (23 : Int32), oi (4 : Int32), oa b2, oi (0 : Int32)] [(.ref a0), (.int (0 : Int32)), (.ref b2)] _
    refine XS.iconst X2.here hx rfl (hb hby own_d2_45) ?_
    show oS p e below T2 m 46 #[oa a0, oi (23 : Int32), oi (4 : Int32), oa b2, oi (0 : Int32)] [(.int (0 : Int32)), (.ref a0), (.int (0 : Int32)), (.ref b2)] _
    refine oLdI X2 hx hZ e2 F5 (v := (.int u0)) ⟨by decide, by decide⟩ rfl (hb hby own_d2_46) ?_
    show oS p e below T2 m 47 #[oa a0, oi (23 : Int32), oi (4 : Int32), oa b2, oi (0 : Int32)] [(.int u0), (.int (0 : Int32)), (.ref b2)] _
    refine st8 _ ?_
    show oS p e below T8 m 48 #[oa a0, oi (23 : Int32), oi (4 : Int32), oa b2, oi (0 : Int32)] [] _
    refine XS.iinc X8.here hx rfl (hb hby own_d2_48) rfl (l' := #[oa a0, oi (23 : Int32), oi (4 : Int32), oa b2, oi (1 : Int32)]) rfl ?_
    refine XS.iloadN X8.here hx rfl (hb hby own_d2_51) rfl ?_
    refine XS.iconst X8.here hx rfl (hb hby own_d2_52) ?_
    refine XS.iand X8.here hx rfl (hb hby own_d2_53) rfl ?_
    show oS p e below T8 m 54 #[oa a0, oi (23 : Int32), oi (4 : Int32), oa b2, oi (1 : Int32)] [(.int (2 : Int32))] _
    refine XS.ifNo X8.here hx rfl (hb hby own_d2_54) rfl ((if0 _ _).trans (feq b13).1) ?_
    refine XS.aloadN X8.here hx rfl (hb hby own_d2_57) rfl rfl ?_
    refine XS.iload X8.here hx rfl (hb hby own_d2_58) rfl ?_
    refine XS.aloadN X8.here hx rfl (hb hby own_d2_60) rfl rfl ?_
    show oS p e below T8 m 61 #[oa a0, oi (23 : Int32), oi (4 : Int32), oa b2, oi (1 : Int32)] [(.ref a0), (.int (1 : Int32)), (.ref b2)] _
    refine XS.iconst X8.here hx rfl (hb hby own_d2_61) ?_
    show oS p e below T8 m 62 #[oa a0, oi (23 : Int32), oi (4 : Int32), oa b2, oi (1 : Int32)] [(.int (1 : Int32)), (.ref a0), (.int (1 : Int32)), (.ref b2)] _
    refine oLdI X8 hx hZ e8 F9 (v := (.int u1)) ⟨by decide, by decide⟩ rfl (hb hby own_d2_62) ?_
    show oS p e below T8 m 63 #[oa a0, oi (23 : Int32), oi (4 : Int32), oa b2, oi (1 : Int32)] [(.int u1), (.int (1 : Int32)), (.ref b2)] _
    refine st14 _ ?_
    show oS p e below T14 m 64 #[oa a0, oi (23 : Int32), oi (4 : Int32), oa b2, oi (1 : Int32)] [] _
    refine XS.iinc X14.here hx rfl (hb hby own_d2_64) rfl (l' := #[oa a0, oi (23 : Int32), oi (4 : Int32), oa b2, oi (2 : Int32)]) rfl ?_
    refine XS.iloadN X14.here hx rfl (hb hby own_d2_67) rfl ?_
    refine XS.iconst X14.here hx rfl (hb hby own_d2_68) ?_
    refine XS.iand X14.here hx rfl (hb hby own_d2_69) rfl ?_
    show oS p e below T14 m 70 #[oa a0, oi (23 : Int32), oi (4 : Int32), oa b2, oi (2 : Int32)] [(.int (4 : Int32))] _
    refine XS.ifNo X14.here hx rfl (hb hby own_d2_70) rfl ((if0 _ _).trans (feq b19).1) ?_
    refine XS.aloadN X14.here hx rfl (hb hby own_d2_73) rfl rfl ?_
    refine XS.iload X14.here hx rfl (hb hby own_d2_74) rfl ?_
    refine XS.aloadN X14.here hx rfl (hb hby own_d2_76) rfl rfl ?_
    show oS p e below T14 m 77 #[oa a0, oi (23 : Int32), oi (4 : Int32), oa b2, oi (2 : Int32)] [(.ref a0), (.int (2 : Int32)), (.ref b2)] _
    refine XS.iconst X14.here hx rfl (hb hby own_d2_77) ?_
    show oS p e below T14 m 78 #[oa a0, oi (23 : Int32), oi (4 : Int32), oa b2, oi (2 : Int32)] [(.int (2 : Int32)), (.ref a0), (.int (2 : Int32)), (.ref b2)] _
    refine oLdI X14 hx hZ e14 F15 (v := (.int u2)) ⟨by decide, by decide⟩ rfl (hb hby own_d2_78) ?_
    show oS p e below T14 m 79 #[oa a0, oi (23 : Int32), oi (4 : Int32), oa b2, oi (2 : Int32)] [(.int u2), (.int (2 : Int32)), (.ref b2)] _
    refine st20 _ ?_
    show oS p e below T20 m 80 #[oa a0, oi (23 : Int32), oi (4 : Int32), oa b2, oi (2 : Int32)] [] _
    refine XS.iinc X20.here hx rfl (hb hby own_d2_80) rfl (l' := #[oa a0, oi (23 : Int32), oi (4 : Int32), oa b2, oi (3 : Int32)]) rfl ?_
    refine XS.iloadN X20.here hx rfl (hb hby own_d2_83) rfl ?_
    refine XS.bipush X20.here hx rfl (hb hby own_d2_84) ?_
    refine XS.iand X20.here hx rfl (hb hby own_d2_86) rfl ?_
    show oS p e below T20 m 87 #[oa a0, oi (23 : Int32), oi (4 : Int32), oa b2, oi (3 : Int32)] [(.int (0 : Int32))] _
    refine XS.ifYes X20.here hx rfl (pc0 := 87) (pc' := 100) rfl (hb hby own_d2_87) rfl ((if0 _ _).trans (teq b25).1) (by decide) (by decide) ?_
    refine XS.iloadN X20.here hx rfl (hb hby own_d2_100) rfl ?_
    refine XS.bipush X20.here hx rfl (hb hby own_d2_101) ?_
    refine XS.iand X20.here hx rfl (hb hby own_d2_103) rfl ?_
    show oS p e below T20 m 104 #[oa a0, oi (23 : Int32), oi (4 : Int32), oa b2, oi (3 : Int32)] [(.int (16 : Int32))] _
    refine XS.ifNo X20.here hx rfl (hb hby own_d2_104) rfl ((if0 _ _).trans (feq b26).1) ?_
    refine XS.aloadN X20.here hx rfl (hb hby own_d2_107) rfl rfl ?_
    refine XS.iload X20.here hx rfl (hb hby own_d2_108) rfl ?_
    refine XS.aloadN X20.here hx rfl (hb hby own_d2_110) rfl rfl ?_
    show oS p e below T20 m 111 #[oa a0, oi (23 : Int32), oi (4 : Int32), oa b2, oi (3 : Int32)] [(.ref a0), (.int (3 : Int32)), (.ref b2)] _
    refine XS.iconst X20.here hx rfl (hb hby own_d2_111) ?_
    show oS p e below T20 m 112 #[oa a0, oi (23 : Int32), oi (4 : Int32), oa b2, oi (3 : Int32)] [(.int (4 : Int32)), (.ref a0), (.int (3 : Int32)), (.ref b2)] _
    refine oLdI X20 hx hZ e20 F21 (v := (.int u4)) ⟨by decide, by decide⟩ rfl (hb hby own_d2_112) ?_
    show oS p e below T20 m 113 #[oa a0, oi (23 : Int32), oi (4 : Int32), oa b2, oi (3 : Int32)] [(.int u4), (.int (3 : Int32)), (.ref b2)] _
    refine st27 _ ?_
    show oS p e below T27 m 114 #[oa a0, oi (23 : Int32), oi (4 : Int32), oa b2, oi (3 : Int32)] [] _
    refine XS.iinc X27.here hx rfl (hb hby own_d2_114) rfl (l' := #[oa a0, oi (23 : Int32), oi (4 : Int32), oa b2, oi (4 : Int32)]) rfl ?_
    refine XS.aloadN X27.here hx rfl (hb hby own_d2_117) rfl rfl ?_
    show oS p e below T27 m 118 #[oa a0, oi (23 : Int32), oi (4 : Int32), oa b2, oi (4 : Int32)] [(.ref b2)] _
    exact retOut X27 hx Bd.returns rfl (Or.inr (Or.inr (Or.inr (Or.inr ⟨rfl, rfl, rfl⟩)))) (hb hby own_d2_118) hr
  · show own_Q2 Z a0 p1 k_a0 u0 u1 u2 u3 u4 h0 n0 _ T27.heap _
    rw [e27]
    refine ⟨b2, k2, rfl, N27, K_31, sz_b2, ?_⟩
    rw [km, show own_z (23 : Int32) = (4 : Int32) by decide +kernel, own_pk, show own_idx (23 : Int32) = [0, 1, 2, 4] by decide +kernel]
    exact V_30
set_option maxRecDepth 65536 in
set_option maxHeartbeats 40000000 in
theorem own_rm2_24 (l : Launch) (Z : State) (av : Array Value) (hw : ∀ d ∈ tables_1, d.before av Z = true) (ws : List Jvm.Cond) (a0 : Addr) (p1 : Int32) (k_a0 : ClassId) (u0 : Int32) (u1 : Int32) (u2 : Int32) (u3 : Int32) (u4 : Int32) (h0 : Heap) (n0 : Nat) (Z0 : n0 ≤ h0.size) (V_a0 : Arv Z h0 a0 k_a0 .int (5 : Int32) [(.int u0), (.int u1), (.int u2), (.int u3), (.int u4)] (.int (0 : Int32))) (km : p1 = (24 : Int32)) :
    MetFree l (⟨"com/example/strict_anon/strictanon/service/RecordSetsDifferencePinLaw", "pick", "([II)[I"⟩ : MethodName) (head1 (Jvm.Cond.code (⟨"com/example/strict_anon/strictanon/service/RecordSetsDifferencePinLaw", "pick", "([II)[I"⟩ : MethodName) method_3_code 5 (some (.array .int)) :: ws) ({ frames := 0, cells := 1, slots := 5, locals := 0 } : Room)) (fun a U => a = #[(.ref a0), (.int p1)] ∧ Z.Warmed39 U.vm ∧ U.heap = h0) (fun _ _ _ _ _ => True) (fun _ U o U' => ∃ v L, o = .returned v ∧ own_Q2 Z a0 p1 k_a0 u0 u1 u2 u3 u4 h0 n0 v U'.heap L ∧ FrameEnd U o U' L ({ frames := 0, cells := 1, slots := 5, locals := 0 } : Room).cells ({ frames := 0, cells := 1, slots := 5, locals := 0 } : Room).slots) := by
  refine MetFree.of_bodySF (plainFor_of_name own_pn0) hisR ?_
  intro p e s m args below meth c s₁ Bd hml0 hP hK
  obtain ⟨rfl, hZ, hh⟩ := hP
  have hx := Bd.exec
  have hby := Bd.bytes
  have hml : c.maxLocals = 5 := hml0
  have hown : s.vm.findClass "com/example/strict_anon/strictanon/service/RecordSetsDifferencePinLaw" = some m.cls := findClass_of_methodNamed Bd.named
  have hnm := (name_of_methodNamed Bd.named Bd.method).1
  have X0 : Stand p l e ({ frames := 0, cells := 1, slots := 5, locals := 0 } : Room) s m #[(.ref a0), (.int p1)] below meth c s₁ [] 0 0 := Stand.of_body Bd
  have e0 : s₁.heap = h0 := by rw [← hh, Bd.state]; rfl
  have N0 := Fr.nil n0
  have pre0 : ∀ t, Steps p.tables e below (s₁.setTop (mkF m 0 #[oa a0, oi p1, .unset, .unset, .unset] [])) t → Steps p.tables e below (s₁.setTop (entryFrame m #[(.ref a0), (.int p1)] 5)) t := fun t k => castTop (own_ef2 m a0 p1) k
  have pre1 : ∀ t, Steps p.tables e below (s₁.setTop (mkF m 0 #[oa a0, oi (24 : Int32), .unset, .unset, .unset] [])) t → Steps p.tables e below (s₁.setTop (entryFrame m #[(.ref a0), (.int p1)] 5)) t := by
    intro t k
    refine pre0 t ?_
    rw [km]
    exact k
  obtain ⟨T2, h2, k2, X2, e2, E2, A2, B2, st2⟩ := newPE X0 hx hZ (hw _ (List.mem_of_getElem? (i := 6) rfl)) e0 (g := (mkF m 29 #[oa a0, oi (24 : Int32), oi (2 : Int32), .unset, .unset] [(.int (2 : Int32))])) rfl (hb hby own_d2_29) rfl (by decide) (cap := 2) (by decide) (by decide) (by decide) (by decide) (ad := "[I") rfl
  obtain ⟨b2, g2⟩ : ∃ z, z = h0.size := ⟨_, rfl⟩
  rw [← g2] at A2 st2 B2
  have g_b2 : n0 ≤ b2 := Nat.le_trans Z0 (Nat.le_of_eq g2.symm)
  have ne3 : a0 ≠ b2 := Nat.ne_of_lt (Nat.lt_of_lt_of_le V_a0.lt (Nat.le_of_eq g2.symm))
  have Z2 : n0 ≤ h2.size := Nat.le_trans Z0 E2.1
  have sz_b2 : h0.size ≤ b2 := Nat.le_trans (Keep.refl h0 []).1 (Nat.le_of_eq g2.symm)
  have K_4 : Keep h0 h2 [] := (Keep.refl h0 []).ext E2
  have F5 := V_a0.ext E2
  have V_6 : Arv Z h2 b2 k2 .int (2 : Int32) [(.int (0 : Int32)), (.int (0 : Int32))] (.int (0 : Int32)) := (Arv.new A2 (by decide)).pad (pad_rep [] (.int (0 : Int32)) 2)
  have b7 : (0 : Int32) = (0 : Int32) := (by decide)
  have b8 : (0 : Int32) = (0 : Int32) := (by decide)
  have b9 : (0 : Int32) = (0 : Int32) := (by decide)
  have b10 : ¬ ((8 : Int32) = (0 : Int32)) := (by decide)
  obtain ⟨T11, h11, X11, e11, W11, V11, st11⟩ := oStI X2 hx hZ e2 V_6 (j := (0 : Int32)) ⟨by decide, by decide⟩ 0 rfl (Nat.le_of_ble_eq_true rfl) (g := (mkF m 96 #[oa a0, oi (24 : Int32), oi (2 : Int32), oa b2, oi (0 : Int32)] [(.int u3), (.int (0 : Int32)), (.ref b2)])) rfl rfl (hb hby own_d2_96)
  obtain ⟨Lo11, X11, N11⟩ := oOpq X11 (Fr.snoc X11 N0 g_b2)
  have Z11 := Nat.le_trans Z2 (Keep.of_wr W11).1
  have F12 := F5.other W11 ne3
  have F13 := B2.wr W11
  have V_14 : Arv Z h11 b2 k2 .int (2 : Int32) [(.int u3), (.int (0 : Int32))] (.int (0 : Int32)) := V11
  have K_15 : Keep h0 h11 [] := K_4.wr W11 (Or.inr sz_b2)
  have b16 : ¬ ((16 : Int32) = (0 : Int32)) := (by decide)
  obtain ⟨T17, h17, X17, e17, W17, V17, st17⟩ := oStI X11 hx hZ e11 V_14 (j := (1 : Int32)) ⟨by decide, by decide⟩ 1 rfl (Nat.le_of_ble_eq_true rfl) (g := (mkF m 113 #[oa a0, oi (24 : Int32), oi (2 : Int32), oa b2, oi (1 : Int32)] [(.int u4), (.int (1 : Int32)), (.ref b2)])) rfl rfl (hb hby own_d2_113)
  obtain ⟨Lo17, X17, N17⟩ := oOpq X17 (Fr.snoc X17 N11 g_b2)
  have Z17 := Nat.le_trans Z11 (Keep.of_wr W17).1
  have F18 := F12.other W17 ne3
  have F19 := F13.wr W17
  have V_20 : Arv Z h17 b2 k2 .int (2 : Int32) [(.int u3), (.int u4)] (.int (0 : Int32)) := V17
  have K_21 : Keep h0 h17 [] := K_15.wr W17 (Or.inr sz_b2)
  obtain ⟨fs, hr, hrun, hended, hW, hsame⟩ := X17.leave (v := (some (.ref b2))) (fun h => by rw [Bd.returns] at h; cases h)
  refine ⟨_, _, pre1 _ ?_, hrun, hended, _, _, rfl, ?_, ⟨_, rfl⟩, hW, hsame.mono (by decide) (by decide)⟩
  · show oS p e below s₁ m 0 #[oa a0, oi (24 : Int32), .unset, .unset, .unset] [] _
    refine XS.iloadN X0.here hx rfl (hb hby own_d2_0) rfl ?_
    refine XS.iconst X0.here hx rfl (hb hby own_d2_1) ?_
    refine XS.iand X0.here hx rfl (hb hby own_d2_2) rfl ?_
    refine XS.iloadN X0.here hx rfl (hb hby own_d2_3) rfl ?_
    show oS p e below s₁ m 4 #[oa a0, oi (24 : Int32), .unset, .unset, .unset] [(.int (24 : Int32)), (.int (0 : Int32))] _
    refine XS.iconst X0.here hx rfl (hb hby own_d2_4) ?_
    show oS p e below s₁ m 5 #[oa a0, oi (24 : Int32), .unset, .unset, .unset] [(.int (1 : Int32)), (.int (24 : Int32)), (.int (0 : Int32))] _
    refine XS.iushr X0.here hx rfl (hb hby own_d2_5) rfl ?_
    refine XS.iconst X0.here hx rfl (hb hby own_d2_6) ?_
    refine XS.iand X0.here hx rfl (hb hby own_d2_7) rfl ?_
    refine XS.iadd X0.here hx rfl (hb hby own_d2_8) rfl ?_
    show oS p e below s₁ m 9 #[oa a0, oi (24 : Int32), .unset, .unset, .unset] [(.int (0 : Int32))] _
    refine XS.iloadN X0.here hx rfl (hb hby own_d2_9) rfl ?_
    refine XS.iconst X0.here hx rfl (hb hby own_d2_10) ?_
    show oS p e below s₁ m 11 #[oa a0, oi (24 : Int32), .unset, .unset, .unset] [(.int (2 : Int32)), (.int (24 : Int32)), (.int (0 : Int32))] _
    refine XS.iushr X0.here hx rfl (hb hby own_d2_11) rfl ?_
    refine XS.iconst X0.here hx rfl (hb hby own_d2_12) ?_
    refine XS.iand X0.here hx rfl (hb hby own_d2_13) rfl ?_
    refine XS.iadd X0.here hx rfl (hb hby own_d2_14) rfl ?_
    show oS p e below s₁ m 15 #[oa a0, oi (24 : Int32), .unset, .unset, .unset] [(.int (0 : Int32))] _
    refine XS.iloadN X0.here hx rfl (hb hby own_d2_15) rfl ?_
    refine XS.iconst X0.here hx rfl (hb hby own_d2_16) ?_
    show oS p e below s₁ m 17 #[oa a0, oi (24 : Int32), .unset, .unset, .unset] [(.int (3 : Int32)), (.int (24 : Int32)), (.int (0 : Int32))] _
    refine XS.iushr X0.here hx rfl (hb hby own_d2_17) rfl ?_
    refine XS.iconst X0.here hx rfl (hb hby own_d2_18) ?_
    refine XS.iand X0.here hx rfl (hb hby own_d2_19) rfl ?_
    refine XS.iadd X0.here hx rfl (hb hby own_d2_20) rfl ?_
    show oS p e below s₁ m 21 #[oa a0, oi (24 : Int32), .unset, .unset, .unset] [(.int (1 : Int32))] _
    refine XS.iloadN X0.here hx rfl (hb hby own_d2_21) rfl ?_
    refine XS.iconst X0.here hx rfl (hb hby own_d2_22) ?_
    show oS p e below s₁ m 23 #[oa a0, oi (24 : Int32), .unset, .unset, .unset] [(.int (4 : Int32)), (.int (24 : Int32)), (.int (1 : Int32))] _
    refine XS.iushr X0.here hx rfl (hb hby own_d2_23) rfl ?_
    refine XS.iconst X0.here hx rfl (hb hby own_d2_24) ?_
    refine XS.iand X0.here hx rfl (hb hby own_d2_25) rfl ?_
    refine XS.iadd X0.here hx rfl (hb hby own_d2_26) rfl ?_
    show oS p e below s₁ m 27 #[oa a0, oi (24 : Int32), .unset, .unset, .unset] [(.int (2 : Int32))] _
    refine XS.istoreN X0.here hx rfl (hb hby own_d2_27) rfl (l' := #[oa a0, oi (24 : Int32), oi (2 : Int32), .unset, .unset]) rfl ?_
    refine XS.iloadN X0.here hx rfl (hb hby own_d2_28) rfl ?_
    show oS p e below s₁ m 29 #[oa a0, oi (24 : Int32), oi (2 : Int32), .unset, .unset] [(.int (2 : Int32))] _
    refine st2 _ ?_
    show oS p e below T2 m 31 #[oa a0, oi (24 : Int32), oi (2 : Int32), .unset, .unset] [(.ref b2)] _
    refine XS.astoreN X2.here hx rfl (hb hby own_d2_31) rfl rfl (l' := #[oa a0, oi (24 : Int32), oi (2 : Int32), oa b2, .unset]) rfl ?_
    refine XS.iconst X2.here hx rfl (hb hby own_d2_32) ?_
    refine XS.istore X2.here hx rfl (hb hby own_d2_33) rfl (l' := #[oa a0, oi (24 : Int32), oi (2 : Int32), oa b2, oi (0 : Int32)]) rfl ?_
    refine XS.iloadN X2.here hx rfl (hb hby own_d2_35) rfl ?_
    show oS p e below T2 m 36 #[oa a0, oi (24 : Int32), oi (2 : Int32), oa b2, oi (0 : Int32)] [(.int (24 : Int32))] _
    refine XS.iconst X2.here hx rfl (hb hby own_d2_36) ?_
    refine XS.iand X2.here hx rfl (hb hby own_d2_37) rfl ?_
    show oS p e below T2 m 38 #[oa a0, oi (24 : Int32), oi (2 : Int32), oa b2, oi (0 : Int32)] [(.int (0 : Int32))] _
    refine XS.ifYes X2.here hx rfl (pc0 := 38) (pc' := 51) rfl (hb hby own_d2_38) rfl ((if0 _ _).trans (teq b7).1) (by decide) (by decide) ?_
    refine XS.iloadN X2.here hx rfl (hb hby own_d2_51) rfl ?_
    refine XS.iconst X2.here hx rfl (hb hby own_d2_52) ?_
    refine XS.iand X2.here hx rfl (hb hby own_d2_53) rfl ?_
    show oS p e below T2 m 54 #[oa a0, oi (24 : Int32), oi (2 : Int32), oa b2, oi (0 : Int32)] [(.int (0 : Int32))] _
    refine XS.ifYes X2.here hx rfl (pc0 := 54) (pc' := 67) rfl (hb hby own_d2_54) rfl ((if0 _ _).trans (teq b8).1) (by decide) (by decide) ?_
    refine XS.iloadN X2.here hx rfl (hb hby own_d2_67) rfl ?_
    refine XS.iconst X2.here hx rfl (hb hby own_d2_68) ?_
    refine XS.iand X2.here hx rfl (hb hby own_d2_69) rfl ?_
    show oS p e below T2 m 70 #[oa a0, oi (24 : Int32), oi (2 : Int32), oa b2, oi (0 : Int32)] [(.int (0 : Int32))] _
    refine XS.ifYes X2.here hx rfl (pc0 := 70) (pc' := 83) rfl (hb hby own_d2_70) rfl ((if0 _ _).trans (teq b9).1) (by decide) (by decide) ?_
    refine XS.iloadN X2.here hx rfl (hb hby own_d2_83) rfl ?_
    refine XS.bipush X2.here hx rfl (hb hby own_d2_84) ?_
    refine XS.iand X2.here hx rfl (hb hby own_d2_86) rfl ?_
    show oS p e below T2 m 87 #[oa a0, oi (24 : Int32), oi (2 : Int32), oa b2, oi (0 : Int32)] [(.int (8 : Int32))] _
    refine XS.ifNo X2.here hx rfl (hb hby own_d2_87) rfl ((if0 _ _).trans (feq b10).1) ?_
    refine XS.aloadN X2.here hx rfl (hb hby own_d2_90) rfl rfl ?_
    refine XS.iload X2.here hx rfl (hb hby own_d2_91) rfl ?_
    refine XS.aloadN X2.here hx rfl (hb hby own_d2_93) rfl rfl ?_
    show oS p e below T2 m 94 #[oa a0, oi (24 : Int32), oi (2 : Int32), oa b2, oi (0 : Int32)] [(.ref a0), (.int (0 : Int32)), (.ref b2)] _
    refine XS.iconst X2.here hx rfl (hb hby own_d2_94) ?_
    show oS p e below T2 m 95 #[oa a0, oi (24 : Int32), oi (2 : Int32), oa b2, oi (0 : Int32)] [(.int (3 : Int32)), (.ref a0), (.int (0 : Int32)), (.ref b2)] _
    refine oLdI X2 hx hZ e2 F5 (v := (.int u3)) ⟨by decide, by decide⟩ rfl (hb hby own_d2_95) ?_
    show oS p e below T2 m 96 #[oa a0, oi (24 : Int32), oi (2 : Int32), oa b2, oi (0 : Int32)] [(.int u3), (.int (0 : Int32)), (.ref b2)] _
    refine st11 _ ?_
    show oS p e below T11 m 97 #[oa a0, oi (24 : Int32), oi (2 : Int32), oa b2, oi (0 : Int32)] [] _
    refine XS.iinc X11.here hx rfl (hb hby own_d2_97) rfl (l' := #[oa a0, oi (24 : Int32), oi (2 : Int32), oa b2, oi (1 : Int32)]) rfl ?_
    refine XS.iloadN X11.here hx rfl (hb hby own_d2_100) rfl ?_
    refine XS.bipush X11.here hx rfl (hb hby own_d2_101) ?_
    refine XS.iand X11.here hx rfl (hb hby own_d2_103) rfl ?_
    show oS p e below T11 m 104 #[oa a0, oi (24 : Int32), oi (2 : Int32), oa b2, oi (1 : Int32)] [(.int (16 : Int32))] _
    refine XS.ifNo X11.here hx rfl (hb hby own_d2_104) rfl ((if0 _ _).trans (feq b16).1) ?_
    refine XS.aloadN X11.here hx rfl (hb hby own_d2_107) rfl rfl ?_
    refine XS.iload X11.here hx rfl (hb hby own_d2_108) rfl ?_
    refine XS.aloadN X11.here hx rfl (hb hby own_d2_110) rfl rfl ?_
    show oS p e below T11 m 111 #[oa a0, oi (24 : Int32), oi (2 : Int32), oa b2, oi (1 : Int32)] [(.ref a0), (.int (1 : Int32)), (.ref b2)] _
    refine XS.iconst X11.here hx rfl (hb hby own_d2_111) ?_
    show oS p e below T11 m 112 #[oa a0, oi (24 : Int32), oi (2 : Int32), oa b2, oi (1 : Int32)] [(.int (4 : Int32)), (.ref a0), (.int (1 : Int32)), (.ref b2)] _
    refine oLdI X11 hx hZ e11 F12 (v := (.int u4)) ⟨by decide, by decide⟩ rfl (hb hby own_d2_112) ?_
    show oS p e below T11 m 113 #[oa a0, oi (24 : Int32), oi (2 : Int32), oa b2, oi (1 : Int32)] [(.int u4), (.int (1 : Int32)), (.ref b2)] _
    refine st17 _ ?_
    show oS p e below T17 m 114 #[oa a0, oi (24 : Int32), oi (2 : Int32), oa b2, oi (1 : Int32)] [] _
    refine XS.iinc X17.here hx rfl (hb hby own_d2_114) rfl (l' := #[oa a0, oi (24 : Int32), oi (2 : Int32), oa b2, oi (2 : Int32)]) rfl ?_
    refine XS.aloadN X17.here hx rfl (hb hby own_d2_117) rfl rfl ?_
    show oS p e below T17 m 118 #[oa a0, oi (24 : Int32), oi (2 : Int32), oa b2, oi (2 : Int32)] [(.ref b2)] _
    exact retOut X17 hx Bd.returns rfl (Or.inr (Or.inr (Or.inr (Or.inr ⟨rfl, rfl, rfl⟩)))) (hb hby own_d2_118) hr
  · show own_Q2 Z a0 p1 k_a0 u0 u1 u2 u3 u4 h0 n0 _ T17.heap _
    rw [e17]
    refine ⟨b2, k2, rfl, N17, K_21, sz_b2, ?_⟩
    rw [km, show own_z (24 : Int32) = (2 : Int32) by decide +kernel, own_pk, show own_idx (24 : Int32) = [3, 4] by decide +kernel]
    exact V_20
set_option maxRecDepth 65536 in
set_option maxHeartbeats 40000000 in
theorem own_rm2_25 (l : Launch) (Z : State) (av : Array Value) (hw : ∀ d ∈ tables_1, d.before av Z = true) (ws : List Jvm.Cond) (a0 : Addr) (p1 : Int32) (k_a0 : ClassId) (u0 : Int32) (u1 : Int32) (u2 : Int32) (u3 : Int32) (u4 : Int32) (h0 : Heap) (n0 : Nat) (Z0 : n0 ≤ h0.size) (V_a0 : Arv Z h0 a0 k_a0 .int (5 : Int32) [(.int u0), (.int u1), (.int u2), (.int u3), (.int u4)] (.int (0 : Int32))) (km : p1 = (25 : Int32)) :
    MetFree l (⟨"com/example/strict_anon/strictanon/service/RecordSetsDifferencePinLaw", "pick", "([II)[I"⟩ : MethodName) (head1 (Jvm.Cond.code (⟨"com/example/strict_anon/strictanon/service/RecordSetsDifferencePinLaw", "pick", "([II)[I"⟩ : MethodName) method_3_code 5 (some (.array .int)) :: ws) ({ frames := 0, cells := 1, slots := 5, locals := 0 } : Room)) (fun a U => a = #[(.ref a0), (.int p1)] ∧ Z.Warmed39 U.vm ∧ U.heap = h0) (fun _ _ _ _ _ => True) (fun _ U o U' => ∃ v L, o = .returned v ∧ own_Q2 Z a0 p1 k_a0 u0 u1 u2 u3 u4 h0 n0 v U'.heap L ∧ FrameEnd U o U' L ({ frames := 0, cells := 1, slots := 5, locals := 0 } : Room).cells ({ frames := 0, cells := 1, slots := 5, locals := 0 } : Room).slots) := by
  refine MetFree.of_bodySF (plainFor_of_name own_pn0) hisR ?_
  intro p e s m args below meth c s₁ Bd hml0 hP hK
  obtain ⟨rfl, hZ, hh⟩ := hP
  have hx := Bd.exec
  have hby := Bd.bytes
  have hml : c.maxLocals = 5 := hml0
  have hown : s.vm.findClass "com/example/strict_anon/strictanon/service/RecordSetsDifferencePinLaw" = some m.cls := findClass_of_methodNamed Bd.named
  have hnm := (name_of_methodNamed Bd.named Bd.method).1
  have X0 : Stand p l e ({ frames := 0, cells := 1, slots := 5, locals := 0 } : Room) s m #[(.ref a0), (.int p1)] below meth c s₁ [] 0 0 := Stand.of_body Bd
  have e0 : s₁.heap = h0 := by rw [← hh, Bd.state]; rfl
  have N0 := Fr.nil n0
  have pre0 : ∀ t, Steps p.tables e below (s₁.setTop (mkF m 0 #[oa a0, oi p1, .unset, .unset, .unset] [])) t → Steps p.tables e below (s₁.setTop (entryFrame m #[(.ref a0), (.int p1)] 5)) t := fun t k => castTop (own_ef2 m a0 p1) k
  have pre1 : ∀ t, Steps p.tables e below (s₁.setTop (mkF m 0 #[oa a0, oi (25 : Int32), .unset, .unset, .unset] [])) t → Steps p.tables e below (s₁.setTop (entryFrame m #[(.ref a0), (.int p1)] 5)) t := by
    intro t k
    refine pre0 t ?_
    rw [km]
    exact k
  obtain ⟨T2, h2, k2, X2, e2, E2, A2, B2, st2⟩ := newPE X0 hx hZ (hw _ (List.mem_of_getElem? (i := 6) rfl)) e0 (g := (mkF m 29 #[oa a0, oi (25 : Int32), oi (3 : Int32), .unset, .unset] [(.int (3 : Int32))])) rfl (hb hby own_d2_29) rfl (by decide) (cap := 3) (by decide) (by decide) (by decide) (by decide) (ad := "[I") rfl
  obtain ⟨b2, g2⟩ : ∃ z, z = h0.size := ⟨_, rfl⟩
  rw [← g2] at A2 st2 B2
  have g_b2 : n0 ≤ b2 := Nat.le_trans Z0 (Nat.le_of_eq g2.symm)
  have ne3 : a0 ≠ b2 := Nat.ne_of_lt (Nat.lt_of_lt_of_le V_a0.lt (Nat.le_of_eq g2.symm))
  have Z2 : n0 ≤ h2.size := Nat.le_trans Z0 E2.1
  have sz_b2 : h0.size ≤ b2 := Nat.le_trans (Keep.refl h0 []).1 (Nat.le_of_eq g2.symm)
  have K_4 : Keep h0 h2 [] := (Keep.refl h0 []).ext E2
  have F5 := V_a0.ext E2
  have V_6 : Arv Z h2 b2 k2 .int (3 : Int32) [(.int (0 : Int32)), (.int (0 : Int32)), (.int (0 : Int32))] (.int (0 : Int32)) := (Arv.new A2 (by decide)).pad (pad_rep [] (.int (0 : Int32)) 3)
  have b7 : ¬ ((1 : Int32) = (0 : Int32)) := (by decide)
  obtain ⟨T8, h8, X8, e8, W8, V8, st8⟩ := oStI X2 hx hZ e2 V_6 (j := (0 : Int32)) ⟨by decide, by decide⟩ 0 rfl (Nat.le_of_ble_eq_true rfl) (g := (mkF m 47 #[oa a0, oi (25 : Int32), oi (3 : Int32), oa b2, oi (0 : Int32)] [(.int u0), (.int (0 : Int32)), (.ref b2)])) rfl rfl (hb hby own_d2_47)
  obtain ⟨Lo8, X8, N8⟩ := oOpq X8 (Fr.snoc X8 N0 g_b2)
  have Z8 := Nat.le_trans Z2 (Keep.of_wr W8).1
  have F9 := F5.other W8 ne3
  have F10 := B2.wr W8
  have V_11 : Arv Z h8 b2 k2 .int (3 : Int32) [(.int u0), (.int (0 : Int32)), (.int (0 : Int32))] (.int (0 : Int32)) := V8
  have K_12 : Keep h0 h8 [] := K_4.wr W8 (Or.inr sz_b2)
  have b13 : (0 : Int32) = (0 : Int32) := (by decide)
  have b14 : (0 : Int32) = (0 : Int32) := (by decide)
  have b15 : ¬ ((8 : Int32) = (0 : Int32)) := (by decide)
  obtain ⟨T16, h16, X16, e16, W16, V16, st16⟩ := oStI X8 hx hZ e8 V_11 (j := (1 : Int32)) ⟨by decide, by decide⟩ 1 rfl (Nat.le_of_ble_eq_true rfl) (g := (mkF m 96 #[oa a0, oi (25 : Int32), oi (3 : Int32), oa b2, oi (1 : Int32)] [(.int u3), (.int (1 : Int32)), (.ref b2)])) rfl rfl (hb hby own_d2_96)
  obtain ⟨Lo16, X16, N16⟩ := oOpq X16 (Fr.snoc X16 N8 g_b2)
  have Z16 := Nat.le_trans Z8 (Keep.of_wr W16).1
  have F17 := F9.other W16 ne3
  have F18 := F10.wr W16
  have V_19 : Arv Z h16 b2 k2 .int (3 : Int32) [(.int u0), (.int u3), (.int (0 : Int32))] (.int (0 : Int32)) := V16
  have K_20 : Keep h0 h16 [] := K_12.wr W16 (Or.inr sz_b2)
  have b21 : ¬ ((16 : Int32) = (0 : Int32)) := (by decide)
  obtain ⟨T22, h22, X22, e22, W22, V22, st22⟩ := oStI X16 hx hZ e16 V_19 (j := (2 : Int32)) ⟨by decide, by decide⟩ 2 rfl (Nat.le_of_ble_eq_true rfl) (g := (mkF m 113 #[oa a0, oi (25 : Int32), oi (3 : Int32), oa b2, oi (2 : Int32)] [(.int u4), (.int (2 : Int32)), (.ref b2)])) rfl rfl (hb hby own_d2_113)
  obtain ⟨Lo22, X22, N22⟩ := oOpq X22 (Fr.snoc X22 N16 g_b2)
  have Z22 := Nat.le_trans Z16 (Keep.of_wr W22).1
  have F23 := F17.other W22 ne3
  have F24 := F18.wr W22
  have V_25 : Arv Z h22 b2 k2 .int (3 : Int32) [(.int u0), (.int u3), (.int u4)] (.int (0 : Int32)) := V22
  have K_26 : Keep h0 h22 [] := K_20.wr W22 (Or.inr sz_b2)
  obtain ⟨fs, hr, hrun, hended, hW, hsame⟩ := X22.leave (v := (some (.ref b2))) (fun h => by rw [Bd.returns] at h; cases h)
  refine ⟨_, _, pre1 _ ?_, hrun, hended, _, _, rfl, ?_, ⟨_, rfl⟩, hW, hsame.mono (by decide) (by decide)⟩
  · show oS p e below s₁ m 0 #[oa a0, oi (25 : Int32), .unset, .unset, .unset] [] _
    refine XS.iloadN X0.here hx rfl (hb hby own_d2_0) rfl ?_
    refine XS.iconst X0.here hx rfl (hb hby own_d2_1) ?_
    refine XS.iand X0.here hx rfl (hb hby own_d2_2) rfl ?_
    refine XS.iloadN X0.here hx rfl (hb hby own_d2_3) rfl ?_
    show oS p e below s₁ m 4 #[oa a0, oi (25 : Int32), .unset, .unset, .unset] [(.int (25 : Int32)), (.int (1 : Int32))] _
    refine XS.iconst X0.here hx rfl (hb hby own_d2_4) ?_
    show oS p e below s₁ m 5 #[oa a0, oi (25 : Int32), .unset, .unset, .unset] [(.int (1 : Int32)), (.int (25 : Int32)), (.int (1 : Int32))] _
    refine XS.iushr X0.here hx rfl (hb hby own_d2_5) rfl ?_
    refine XS.iconst X0.here hx rfl (hb hby own_d2_6) ?_
    refine XS.iand X0.here hx rfl (hb hby own_d2_7) rfl ?_
    refine XS.iadd X0.here hx rfl (hb hby own_d2_8) rfl ?_
    show oS p e below s₁ m 9 #[oa a0, oi (25 : Int32), .unset, .unset, .unset] [(.int (1 : Int32))] _
    refine XS.iloadN X0.here hx rfl (hb hby own_d2_9) rfl ?_
    refine XS.iconst X0.here hx rfl (hb hby own_d2_10) ?_
    show oS p e below s₁ m 11 #[oa a0, oi (25 : Int32), .unset, .unset, .unset] [(.int (2 : Int32)), (.int (25 : Int32)), (.int (1 : Int32))] _
    refine XS.iushr X0.here hx rfl (hb hby own_d2_11) rfl ?_
    refine XS.iconst X0.here hx rfl (hb hby own_d2_12) ?_
    refine XS.iand X0.here hx rfl (hb hby own_d2_13) rfl ?_
    refine XS.iadd X0.here hx rfl (hb hby own_d2_14) rfl ?_
    show oS p e below s₁ m 15 #[oa a0, oi (25 : Int32), .unset, .unset, .unset] [(.int (1 : Int32))] _
    refine XS.iloadN X0.here hx rfl (hb hby own_d2_15) rfl ?_
    refine XS.iconst X0.here hx rfl (hb hby own_d2_16) ?_
    show oS p e below s₁ m 17 #[oa a0, oi (25 : Int32), .unset, .unset, .unset] [(.int (3 : Int32)), (.int (25 : Int32)), (.int (1 : Int32))] _
    refine XS.iushr X0.here hx rfl (hb hby own_d2_17) rfl ?_
    refine XS.iconst X0.here hx rfl (hb hby own_d2_18) ?_
    refine XS.iand X0.here hx rfl (hb hby own_d2_19) rfl ?_
    refine XS.iadd X0.here hx rfl (hb hby own_d2_20) rfl ?_
    show oS p e below s₁ m 21 #[oa a0, oi (25 : Int32), .unset, .unset, .unset] [(.int (2 : Int32))] _
    refine XS.iloadN X0.here hx rfl (hb hby own_d2_21) rfl ?_
    refine XS.iconst X0.here hx rfl (hb hby own_d2_22) ?_
    show oS p e below s₁ m 23 #[oa a0, oi (25 : Int32), .unset, .unset, .unset] [(.int (4 : Int32)), (.int (25 : Int32)), (.int (2 : Int32))] _
    refine XS.iushr X0.here hx rfl (hb hby own_d2_23) rfl ?_
    refine XS.iconst X0.here hx rfl (hb hby own_d2_24) ?_
    refine XS.iand X0.here hx rfl (hb hby own_d2_25) rfl ?_
    refine XS.iadd X0.here hx rfl (hb hby own_d2_26) rfl ?_
    show oS p e below s₁ m 27 #[oa a0, oi (25 : Int32), .unset, .unset, .unset] [(.int (3 : Int32))] _
    refine XS.istoreN X0.here hx rfl (hb hby own_d2_27) rfl (l' := #[oa a0, oi (25 : Int32), oi (3 : Int32), .unset, .unset]) rfl ?_
    refine XS.iloadN X0.here hx rfl (hb hby own_d2_28) rfl ?_
    show oS p e below s₁ m 29 #[oa a0, oi (25 : Int32), oi (3 : Int32), .unset, .unset] [(.int (3 : Int32))] _
    refine st2 _ ?_
    show oS p e below T2 m 31 #[oa a0, oi (25 : Int32), oi (3 : Int32), .unset, .unset] [(.ref b2)] _
    refine XS.astoreN X2.here hx rfl (hb hby own_d2_31) rfl rfl (l' := #[oa a0, oi (25 : Int32), oi (3 : Int32), oa b2, .unset]) rfl ?_
    refine XS.iconst X2.here hx rfl (hb hby own_d2_32) ?_
    refine XS.istore X2.here hx rfl (hb hby own_d2_33) rfl (l' := #[oa a0, oi (25 : Int32), oi (3 : Int32), oa b2, oi (0 : Int32)]) rfl ?_
    refine XS.iloadN X2.here hx rfl (hb hby own_d2_35) rfl ?_
    show oS p e below T2 m 36 #[oa a0, oi (25 : Int32), oi (3 : Int32), oa b2, oi (0 : Int32)] [(.int (25 : Int32))] _
    refine XS.iconst X2.here hx rfl (hb hby own_d2_36) ?_
    refine XS.iand X2.here hx rfl (hb hby own_d2_37) rfl ?_
    show oS p e below T2 m 38 #[oa a0, oi (25 : Int32), oi (3 : Int32), oa b2, oi (0 : Int32)] [(.int (1 : Int32))] _
    refine XS.ifNo X2.here hx rfl (hb hby own_d2_38) rfl ((if0 _ _).trans (feq b7).1) ?_
    refine XS.aloadN X2.here hx rfl (hb hby own_d2_41) rfl rfl ?_
    refine XS.iload X2.here hx rfl (hb hby own_d2_42) rfl ?_
    refine XS.aloadN X2.here hx rfl (hb hby own_d2_44) rfl rfl ?_
    show oS p e below T2 m 45 #[oa a0, oi (25 : Int32), oi (3 : Int32), oa b2, oi (0 : Int32)] [(.ref a0), (.int (0 : Int32)), (.ref b2)] _
    refine XS.iconst X2.here hx rfl (hb hby own_d2_45) ?_
    show oS p e below T2 m 46 #[oa a0, oi (25 : Int32), oi (3 : Int32), oa b2, oi (0 : Int32)] [(.int (0 : Int32)), (.ref a0), (.int (0 : Int32)), (.ref b2)] _
    refine oLdI X2 hx hZ e2 F5 (v := (.int u0)) ⟨by decide, by decide⟩ rfl (hb hby own_d2_46) ?_
    show oS p e below T2 m 47 #[oa a0, oi (25 : Int32), oi (3 : Int32), oa b2, oi (0 : Int32)] [(.int u0), (.int (0 : Int32)), (.ref b2)] _
    refine st8 _ ?_
    show oS p e below T8 m 48 #[oa a0, oi (25 : Int32), oi (3 : Int32), oa b2, oi (0 : Int32)] [] _
    refine XS.iinc X8.here hx rfl (hb hby own_d2_48) rfl (l' := #[oa a0, oi (25 : Int32), oi (3 : Int32), oa b2, oi (1 : Int32)]) rfl ?_
    refine XS.iloadN X8.here hx rfl (hb hby own_d2_51) rfl ?_
    refine XS.iconst X8.here hx rfl (hb hby own_d2_52) ?_
    refine XS.iand X8.here hx rfl (hb hby own_d2_53) rfl ?_
    show oS p e below T8 m 54 #[oa a0, oi (25 : Int32), oi (3 : Int32), oa b2, oi (1 : Int32)] [(.int (0 : Int32))] _
    refine XS.ifYes X8.here hx rfl (pc0 := 54) (pc' := 67) rfl (hb hby own_d2_54) rfl ((if0 _ _).trans (teq b13).1) (by decide) (by decide) ?_
    refine XS.iloadN X8.here hx rfl (hb hby own_d2_67) rfl ?_
    refine XS.iconst X8.here hx rfl (hb hby own_d2_68) ?_
    refine XS.iand X8.here hx rfl (hb hby own_d2_69) rfl ?_
    show oS p e below T8 m 70 #[oa a0, oi (25 : Int32), oi (3 : Int32), oa b2, oi (1 : Int32)] [(.int (0 : Int32))] _
    refine XS.ifYes X8.here hx rfl (pc0 := 70) (pc' := 83) rfl (hb hby own_d2_70) rfl ((if0 _ _).trans (teq b14).1) (by decide) (by decide) ?_
    refine XS.iloadN X8.here hx rfl (hb hby own_d2_83) rfl ?_
    refine XS.bipush X8.here hx rfl (hb hby own_d2_84) ?_
    refine XS.iand X8.here hx rfl (hb hby own_d2_86) rfl ?_
    show oS p e below T8 m 87 #[oa a0, oi (25 : Int32), oi (3 : Int32), oa b2, oi (1 : Int32)] [(.int (8 : Int32))] _
    refine XS.ifNo X8.here hx rfl (hb hby own_d2_87) rfl ((if0 _ _).trans (feq b15).1) ?_
    refine XS.aloadN X8.here hx rfl (hb hby own_d2_90) rfl rfl ?_
    refine XS.iload X8.here hx rfl (hb hby own_d2_91) rfl ?_
    refine XS.aloadN X8.here hx rfl (hb hby own_d2_93) rfl rfl ?_
    show oS p e below T8 m 94 #[oa a0, oi (25 : Int32), oi (3 : Int32), oa b2, oi (1 : Int32)] [(.ref a0), (.int (1 : Int32)), (.ref b2)] _
    refine XS.iconst X8.here hx rfl (hb hby own_d2_94) ?_
    show oS p e below T8 m 95 #[oa a0, oi (25 : Int32), oi (3 : Int32), oa b2, oi (1 : Int32)] [(.int (3 : Int32)), (.ref a0), (.int (1 : Int32)), (.ref b2)] _
    refine oLdI X8 hx hZ e8 F9 (v := (.int u3)) ⟨by decide, by decide⟩ rfl (hb hby own_d2_95) ?_
    show oS p e below T8 m 96 #[oa a0, oi (25 : Int32), oi (3 : Int32), oa b2, oi (1 : Int32)] [(.int u3), (.int (1 : Int32)), (.ref b2)] _
    refine st16 _ ?_
    show oS p e below T16 m 97 #[oa a0, oi (25 : Int32), oi (3 : Int32), oa b2, oi (1 : Int32)] [] _
    refine XS.iinc X16.here hx rfl (hb hby own_d2_97) rfl (l' := #[oa a0, oi (25 : Int32), oi (3 : Int32), oa b2, oi (2 : Int32)]) rfl ?_
    refine XS.iloadN X16.here hx rfl (hb hby own_d2_100) rfl ?_
    refine XS.bipush X16.here hx rfl (hb hby own_d2_101) ?_
    refine XS.iand X16.here hx rfl (hb hby own_d2_103) rfl ?_
    show oS p e below T16 m 104 #[oa a0, oi (25 : Int32), oi (3 : Int32), oa b2, oi (2 : Int32)] [(.int (16 : Int32))] _
    refine XS.ifNo X16.here hx rfl (hb hby own_d2_104) rfl ((if0 _ _).trans (feq b21).1) ?_
    refine XS.aloadN X16.here hx rfl (hb hby own_d2_107) rfl rfl ?_
    refine XS.iload X16.here hx rfl (hb hby own_d2_108) rfl ?_
    refine XS.aloadN X16.here hx rfl (hb hby own_d2_110) rfl rfl ?_
    show oS p e below T16 m 111 #[oa a0, oi (25 : Int32), oi (3 : Int32), oa b2, oi (2 : Int32)] [(.ref a0), (.int (2 : Int32)), (.ref b2)] _
    refine XS.iconst X16.here hx rfl (hb hby own_d2_111) ?_
    show oS p e below T16 m 112 #[oa a0, oi (25 : Int32), oi (3 : Int32), oa b2, oi (2 : Int32)] [(.int (4 : Int32)), (.ref a0), (.int (2 : Int32)), (.ref b2)] _
    refine oLdI X16 hx hZ e16 F17 (v := (.int u4)) ⟨by decide, by decide⟩ rfl (hb hby own_d2_112) ?_
    show oS p e below T16 m 113 #[oa a0, oi (25 : Int32), oi (3 : Int32), oa b2, oi (2 : Int32)] [(.int u4), (.int (2 : Int32)), (.ref b2)] _
    refine st22 _ ?_
    show oS p e below T22 m 114 #[oa a0, oi (25 : Int32), oi (3 : Int32), oa b2, oi (2 : Int32)] [] _
    refine XS.iinc X22.here hx rfl (hb hby own_d2_114) rfl (l' := #[oa a0, oi (25 : Int32), oi (3 : Int32), oa b2, oi (3 : Int32)]) rfl ?_
    refine XS.aloadN X22.here hx rfl (hb hby own_d2_117) rfl rfl ?_
    show oS p e below T22 m 118 #[oa a0, oi (25 : Int32), oi (3 : Int32), oa b2, oi (3 : Int32)] [(.ref b2)] _
    exact retOut X22 hx Bd.returns rfl (Or.inr (Or.inr (Or.inr (Or.inr ⟨rfl, rfl, rfl⟩)))) (hb hby own_d2_118) hr
  · show own_Q2 Z a0 p1 k_a0 u0 u1 u2 u3 u4 h0 n0 _ T22.heap _
    rw [e22]
    refine ⟨b2, k2, rfl, N22, K_26, sz_b2, ?_⟩
    rw [km, show own_z (25 : Int32) = (3 : Int32) by decide +kernel, own_pk, show own_idx (25 : Int32) = [0, 3, 4] by decide +kernel]
    exact V_25
set_option maxRecDepth 65536 in
set_option maxHeartbeats 40000000 in
theorem own_rm2_26 (l : Launch) (Z : State) (av : Array Value) (hw : ∀ d ∈ tables_1, d.before av Z = true) (ws : List Jvm.Cond) (a0 : Addr) (p1 : Int32) (k_a0 : ClassId) (u0 : Int32) (u1 : Int32) (u2 : Int32) (u3 : Int32) (u4 : Int32) (h0 : Heap) (n0 : Nat) (Z0 : n0 ≤ h0.size) (V_a0 : Arv Z h0 a0 k_a0 .int (5 : Int32) [(.int u0), (.int u1), (.int u2), (.int u3), (.int u4)] (.int (0 : Int32))) (km : p1 = (26 : Int32)) :
    MetFree l (⟨"com/example/strict_anon/strictanon/service/RecordSetsDifferencePinLaw", "pick", "([II)[I"⟩ : MethodName) (head1 (Jvm.Cond.code (⟨"com/example/strict_anon/strictanon/service/RecordSetsDifferencePinLaw", "pick", "([II)[I"⟩ : MethodName) method_3_code 5 (some (.array .int)) :: ws) ({ frames := 0, cells := 1, slots := 5, locals := 0 } : Room)) (fun a U => a = #[(.ref a0), (.int p1)] ∧ Z.Warmed39 U.vm ∧ U.heap = h0) (fun _ _ _ _ _ => True) (fun _ U o U' => ∃ v L, o = .returned v ∧ own_Q2 Z a0 p1 k_a0 u0 u1 u2 u3 u4 h0 n0 v U'.heap L ∧ FrameEnd U o U' L ({ frames := 0, cells := 1, slots := 5, locals := 0 } : Room).cells ({ frames := 0, cells := 1, slots := 5, locals := 0 } : Room).slots) := by
  refine MetFree.of_bodySF (plainFor_of_name own_pn0) hisR ?_
  intro p e s m args below meth c s₁ Bd hml0 hP hK
  obtain ⟨rfl, hZ, hh⟩ := hP
  have hx := Bd.exec
  have hby := Bd.bytes
  have hml : c.maxLocals = 5 := hml0
  have hown : s.vm.findClass "com/example/strict_anon/strictanon/service/RecordSetsDifferencePinLaw" = some m.cls := findClass_of_methodNamed Bd.named
  have hnm := (name_of_methodNamed Bd.named Bd.method).1
  have X0 : Stand p l e ({ frames := 0, cells := 1, slots := 5, locals := 0 } : Room) s m #[(.ref a0), (.int p1)] below meth c s₁ [] 0 0 := Stand.of_body Bd
  have e0 : s₁.heap = h0 := by rw [← hh, Bd.state]; rfl
  have N0 := Fr.nil n0
  have pre0 : ∀ t, Steps p.tables e below (s₁.setTop (mkF m 0 #[oa a0, oi p1, .unset, .unset, .unset] [])) t → Steps p.tables e below (s₁.setTop (entryFrame m #[(.ref a0), (.int p1)] 5)) t := fun t k => castTop (own_ef2 m a0 p1) k
  have pre1 : ∀ t, Steps p.tables e below (s₁.setTop (mkF m 0 #[oa a0, oi (26 : Int32), .unset, .unset, .unset] [])) t → Steps p.tables e below (s₁.setTop (entryFrame m #[(.ref a0), (.int p1)] 5)) t := by
    intro t k
    refine pre0 t ?_
    rw [km]
    exact k
  obtain ⟨T2, h2, k2, X2, e2, E2, A2, B2, st2⟩ := newPE X0 hx hZ (hw _ (List.mem_of_getElem? (i := 6) rfl)) e0 (g := (mkF m 29 #[oa a0, oi (26 : Int32), oi (3 : Int32), .unset, .unset] [(.int (3 : Int32))])) rfl (hb hby own_d2_29) rfl (by decide) (cap := 3) (by decide) (by decide) (by decide) (by decide) (ad := "[I") rfl
  obtain ⟨b2, g2⟩ : ∃ z, z = h0.size := ⟨_, rfl⟩
  rw [← g2] at A2 st2 B2
  have g_b2 : n0 ≤ b2 := Nat.le_trans Z0 (Nat.le_of_eq g2.symm)
  have ne3 : a0 ≠ b2 := Nat.ne_of_lt (Nat.lt_of_lt_of_le V_a0.lt (Nat.le_of_eq g2.symm))
  have Z2 : n0 ≤ h2.size := Nat.le_trans Z0 E2.1
  have sz_b2 : h0.size ≤ b2 := Nat.le_trans (Keep.refl h0 []).1 (Nat.le_of_eq g2.symm)
  have K_4 : Keep h0 h2 [] := (Keep.refl h0 []).ext E2
  have F5 := V_a0.ext E2
  have V_6 : Arv Z h2 b2 k2 .int (3 : Int32) [(.int (0 : Int32)), (.int (0 : Int32)), (.int (0 : Int32))] (.int (0 : Int32)) := (Arv.new A2 (by decide)).pad (pad_rep [] (.int (0 : Int32)) 3)
  have b7 : (0 : Int32) = (0 : Int32) := (by decide)
  have b8 : ¬ ((2 : Int32) = (0 : Int32)) := (by decide)
  obtain ⟨T9, h9, X9, e9, W9, V9, st9⟩ := oStI X2 hx hZ e2 V_6 (j := (0 : Int32)) ⟨by decide, by decide⟩ 0 rfl (Nat.le_of_ble_eq_true rfl) (g := (mkF m 63 #[oa a0, oi (26 : Int32), oi (3 : Int32), oa b2, oi (0 : Int32)] [(.int u1), (.int (0 : Int32)), (.ref b2)])) rfl rfl (hb hby own_d2_63)
  obtain ⟨Lo9, X9, N9⟩ := oOpq X9 (Fr.snoc X9 N0 g_b2)
  have Z9 := Nat.le_trans Z2 (Keep.of_wr W9).1
  have F10 := F5.other W9 ne3
  have F11 := B2.wr W9
  have V_12 : Arv Z h9 b2 k2 .int (3 : Int32) [(.int u1), (.int (0 : Int32)), (.int (0 : Int32))] (.int (0 : Int32)) := V9
  have K_13 : Keep h0 h9 [] := K_4.wr W9 (Or.inr sz_b2)
  have b14 : (0 : Int32) = (0 : Int32) := (by decide)
  have b15 : ¬ ((8 : Int32) = (0 : Int32)) := (by decide)
  obtain ⟨T16, h16, X16, e16, W16, V16, st16⟩ := oStI X9 hx hZ e9 V_12 (j := (1 : Int32)) ⟨by decide, by decide⟩ 1 rfl (Nat.le_of_ble_eq_true rfl) (g := (mkF m 96 #[oa a0, oi (26 : Int32), oi (3 : Int32), oa b2, oi (1 : Int32)] [(.int u3), (.int (1 : Int32)), (.ref b2)])) rfl rfl (hb hby own_d2_96)
  obtain ⟨Lo16, X16, N16⟩ := oOpq X16 (Fr.snoc X16 N9 g_b2)
  have Z16 := Nat.le_trans Z9 (Keep.of_wr W16).1
  have F17 := F10.other W16 ne3
  have F18 := F11.wr W16
  have V_19 : Arv Z h16 b2 k2 .int (3 : Int32) [(.int u1), (.int u3), (.int (0 : Int32))] (.int (0 : Int32)) := V16
  have K_20 : Keep h0 h16 [] := K_13.wr W16 (Or.inr sz_b2)
  have b21 : ¬ ((16 : Int32) = (0 : Int32)) := (by decide)
  obtain ⟨T22, h22, X22, e22, W22, V22, st22⟩ := oStI X16 hx hZ e16 V_19 (j := (2 : Int32)) ⟨by decide, by decide⟩ 2 rfl (Nat.le_of_ble_eq_true rfl) (g := (mkF m 113 #[oa a0, oi (26 : Int32), oi (3 : Int32), oa b2, oi (2 : Int32)] [(.int u4), (.int (2 : Int32)), (.ref b2)])) rfl rfl (hb hby own_d2_113)
  obtain ⟨Lo22, X22, N22⟩ := oOpq X22 (Fr.snoc X22 N16 g_b2)
  have Z22 := Nat.le_trans Z16 (Keep.of_wr W22).1
  have F23 := F17.other W22 ne3
  have F24 := F18.wr W22
  have V_25 : Arv Z h22 b2 k2 .int (3 : Int32) [(.int u1), (.int u3), (.int u4)] (.int (0 : Int32)) := V22
  have K_26 : Keep h0 h22 [] := K_20.wr W22 (Or.inr sz_b2)
  obtain ⟨fs, hr, hrun, hended, hW, hsame⟩ := X22.leave (v := (some (.ref b2))) (fun h => by rw [Bd.returns] at h; cases h)
  refine ⟨_, _, pre1 _ ?_, hrun, hended, _, _, rfl, ?_, ⟨_, rfl⟩, hW, hsame.mono (by decide) (by decide)⟩
  · show oS p e below s₁ m 0 #[oa a0, oi (26 : Int32), .unset, .unset, .unset] [] _
    refine XS.iloadN X0.here hx rfl (hb hby own_d2_0) rfl ?_
    refine XS.iconst X0.here hx rfl (hb hby own_d2_1) ?_
    refine XS.iand X0.here hx rfl (hb hby own_d2_2) rfl ?_
    refine XS.iloadN X0.here hx rfl (hb hby own_d2_3) rfl ?_
    show oS p e below s₁ m 4 #[oa a0, oi (26 : Int32), .unset, .unset, .unset] [(.int (26 : Int32)), (.int (0 : Int32))] _
    refine XS.iconst X0.here hx rfl (hb hby own_d2_4) ?_
    show oS p e below s₁ m 5 #[oa a0, oi (26 : Int32), .unset, .unset, .unset] [(.int (1 : Int32)), (.int (26 : Int32)), (.int (0 : Int32))] _
    refine XS.iushr X0.here hx rfl (hb hby own_d2_5) rfl ?_
    refine XS.iconst X0.here hx rfl (hb hby own_d2_6) ?_
    refine XS.iand X0.here hx rfl (hb hby own_d2_7) rfl ?_
    refine XS.iadd X0.here hx rfl (hb hby own_d2_8) rfl ?_
    show oS p e below s₁ m 9 #[oa a0, oi (26 : Int32), .unset, .unset, .unset] [(.int (1 : Int32))] _
    refine XS.iloadN X0.here hx rfl (hb hby own_d2_9) rfl ?_
    refine XS.iconst X0.here hx rfl (hb hby own_d2_10) ?_
    show oS p e below s₁ m 11 #[oa a0, oi (26 : Int32), .unset, .unset, .unset] [(.int (2 : Int32)), (.int (26 : Int32)), (.int (1 : Int32))] _
    refine XS.iushr X0.here hx rfl (hb hby own_d2_11) rfl ?_
    refine XS.iconst X0.here hx rfl (hb hby own_d2_12) ?_
    refine XS.iand X0.here hx rfl (hb hby own_d2_13) rfl ?_
    refine XS.iadd X0.here hx rfl (hb hby own_d2_14) rfl ?_
    show oS p e below s₁ m 15 #[oa a0, oi (26 : Int32), .unset, .unset, .unset] [(.int (1 : Int32))] _
    refine XS.iloadN X0.here hx rfl (hb hby own_d2_15) rfl ?_
    refine XS.iconst X0.here hx rfl (hb hby own_d2_16) ?_
    show oS p e below s₁ m 17 #[oa a0, oi (26 : Int32), .unset, .unset, .unset] [(.int (3 : Int32)), (.int (26 : Int32)), (.int (1 : Int32))] _
    refine XS.iushr X0.here hx rfl (hb hby own_d2_17) rfl ?_
    refine XS.iconst X0.here hx rfl (hb hby own_d2_18) ?_
    refine XS.iand X0.here hx rfl (hb hby own_d2_19) rfl ?_
    refine XS.iadd X0.here hx rfl (hb hby own_d2_20) rfl ?_
    show oS p e below s₁ m 21 #[oa a0, oi (26 : Int32), .unset, .unset, .unset] [(.int (2 : Int32))] _
    refine XS.iloadN X0.here hx rfl (hb hby own_d2_21) rfl ?_
    refine XS.iconst X0.here hx rfl (hb hby own_d2_22) ?_
    show oS p e below s₁ m 23 #[oa a0, oi (26 : Int32), .unset, .unset, .unset] [(.int (4 : Int32)), (.int (26 : Int32)), (.int (2 : Int32))] _
    refine XS.iushr X0.here hx rfl (hb hby own_d2_23) rfl ?_
    refine XS.iconst X0.here hx rfl (hb hby own_d2_24) ?_
    refine XS.iand X0.here hx rfl (hb hby own_d2_25) rfl ?_
    refine XS.iadd X0.here hx rfl (hb hby own_d2_26) rfl ?_
    show oS p e below s₁ m 27 #[oa a0, oi (26 : Int32), .unset, .unset, .unset] [(.int (3 : Int32))] _
    refine XS.istoreN X0.here hx rfl (hb hby own_d2_27) rfl (l' := #[oa a0, oi (26 : Int32), oi (3 : Int32), .unset, .unset]) rfl ?_
    refine XS.iloadN X0.here hx rfl (hb hby own_d2_28) rfl ?_
    show oS p e below s₁ m 29 #[oa a0, oi (26 : Int32), oi (3 : Int32), .unset, .unset] [(.int (3 : Int32))] _
    refine st2 _ ?_
    show oS p e below T2 m 31 #[oa a0, oi (26 : Int32), oi (3 : Int32), .unset, .unset] [(.ref b2)] _
    refine XS.astoreN X2.here hx rfl (hb hby own_d2_31) rfl rfl (l' := #[oa a0, oi (26 : Int32), oi (3 : Int32), oa b2, .unset]) rfl ?_
    refine XS.iconst X2.here hx rfl (hb hby own_d2_32) ?_
    refine XS.istore X2.here hx rfl (hb hby own_d2_33) rfl (l' := #[oa a0, oi (26 : Int32), oi (3 : Int32), oa b2, oi (0 : Int32)]) rfl ?_
    refine XS.iloadN X2.here hx rfl (hb hby own_d2_35) rfl ?_
    show oS p e below T2 m 36 #[oa a0, oi (26 : Int32), oi (3 : Int32), oa b2, oi (0 : Int32)] [(.int (26 : Int32))] _
    refine XS.iconst X2.here hx rfl (hb hby own_d2_36) ?_
    refine XS.iand X2.here hx rfl (hb hby own_d2_37) rfl ?_
    show oS p e below T2 m 38 #[oa a0, oi (26 : Int32), oi (3 : Int32), oa b2, oi (0 : Int32)] [(.int (0 : Int32))] _
    refine XS.ifYes X2.here hx rfl (pc0 := 38) (pc' := 51) rfl (hb hby own_d2_38) rfl ((if0 _ _).trans (teq b7).1) (by decide) (by decide) ?_
    refine XS.iloadN X2.here hx rfl (hb hby own_d2_51) rfl ?_
    refine XS.iconst X2.here hx rfl (hb hby own_d2_52) ?_
    refine XS.iand X2.here hx rfl (hb hby own_d2_53) rfl ?_
    show oS p e below T2 m 54 #[oa a0, oi (26 : Int32), oi (3 : Int32), oa b2, oi (0 : Int32)] [(.int (2 : Int32))] _
    refine XS.ifNo X2.here hx rfl (hb hby own_d2_54) rfl ((if0 _ _).trans (feq b8).1) ?_
    refine XS.aloadN X2.here hx rfl (hb hby own_d2_57) rfl rfl ?_
    refine XS.iload X2.here hx rfl (hb hby own_d2_58) rfl ?_
    refine XS.aloadN X2.here hx rfl (hb hby own_d2_60) rfl rfl ?_
    show oS p e below T2 m 61 #[oa a0, oi (26 : Int32), oi (3 : Int32), oa b2, oi (0 : Int32)] [(.ref a0), (.int (0 : Int32)), (.ref b2)] _
    refine XS.iconst X2.here hx rfl (hb hby own_d2_61) ?_
    show oS p e below T2 m 62 #[oa a0, oi (26 : Int32), oi (3 : Int32), oa b2, oi (0 : Int32)] [(.int (1 : Int32)), (.ref a0), (.int (0 : Int32)), (.ref b2)] _
    refine oLdI X2 hx hZ e2 F5 (v := (.int u1)) ⟨by decide, by decide⟩ rfl (hb hby own_d2_62) ?_
    show oS p e below T2 m 63 #[oa a0, oi (26 : Int32), oi (3 : Int32), oa b2, oi (0 : Int32)] [(.int u1), (.int (0 : Int32)), (.ref b2)] _
    refine st9 _ ?_
    show oS p e below T9 m 64 #[oa a0, oi (26 : Int32), oi (3 : Int32), oa b2, oi (0 : Int32)] [] _
    refine XS.iinc X9.here hx rfl (hb hby own_d2_64) rfl (l' := #[oa a0, oi (26 : Int32), oi (3 : Int32), oa b2, oi (1 : Int32)]) rfl ?_
    refine XS.iloadN X9.here hx rfl (hb hby own_d2_67) rfl ?_
    refine XS.iconst X9.here hx rfl (hb hby own_d2_68) ?_
    refine XS.iand X9.here hx rfl (hb hby own_d2_69) rfl ?_
    show oS p e below T9 m 70 #[oa a0, oi (26 : Int32), oi (3 : Int32), oa b2, oi (1 : Int32)] [(.int (0 : Int32))] _
    refine XS.ifYes X9.here hx rfl (pc0 := 70) (pc' := 83) rfl (hb hby own_d2_70) rfl ((if0 _ _).trans (teq b14).1) (by decide) (by decide) ?_
    refine XS.iloadN X9.here hx rfl (hb hby own_d2_83) rfl ?_
    refine XS.bipush X9.here hx rfl (hb hby own_d2_84) ?_
    refine XS.iand X9.here hx rfl (hb hby own_d2_86) rfl ?_
    show oS p e below T9 m 87 #[oa a0, oi (26 : Int32), oi (3 : Int32), oa b2, oi (1 : Int32)] [(.int (8 : Int32))] _
    refine XS.ifNo X9.here hx rfl (hb hby own_d2_87) rfl ((if0 _ _).trans (feq b15).1) ?_
    refine XS.aloadN X9.here hx rfl (hb hby own_d2_90) rfl rfl ?_
    refine XS.iload X9.here hx rfl (hb hby own_d2_91) rfl ?_
    refine XS.aloadN X9.here hx rfl (hb hby own_d2_93) rfl rfl ?_
    show oS p e below T9 m 94 #[oa a0, oi (26 : Int32), oi (3 : Int32), oa b2, oi (1 : Int32)] [(.ref a0), (.int (1 : Int32)), (.ref b2)] _
    refine XS.iconst X9.here hx rfl (hb hby own_d2_94) ?_
    show oS p e below T9 m 95 #[oa a0, oi (26 : Int32), oi (3 : Int32), oa b2, oi (1 : Int32)] [(.int (3 : Int32)), (.ref a0), (.int (1 : Int32)), (.ref b2)] _
    refine oLdI X9 hx hZ e9 F10 (v := (.int u3)) ⟨by decide, by decide⟩ rfl (hb hby own_d2_95) ?_
    show oS p e below T9 m 96 #[oa a0, oi (26 : Int32), oi (3 : Int32), oa b2, oi (1 : Int32)] [(.int u3), (.int (1 : Int32)), (.ref b2)] _
    refine st16 _ ?_
    show oS p e below T16 m 97 #[oa a0, oi (26 : Int32), oi (3 : Int32), oa b2, oi (1 : Int32)] [] _
    refine XS.iinc X16.here hx rfl (hb hby own_d2_97) rfl (l' := #[oa a0, oi (26 : Int32), oi (3 : Int32), oa b2, oi (2 : Int32)]) rfl ?_
    refine XS.iloadN X16.here hx rfl (hb hby own_d2_100) rfl ?_
    refine XS.bipush X16.here hx rfl (hb hby own_d2_101) ?_
    refine XS.iand X16.here hx rfl (hb hby own_d2_103) rfl ?_
    show oS p e below T16 m 104 #[oa a0, oi (26 : Int32), oi (3 : Int32), oa b2, oi (2 : Int32)] [(.int (16 : Int32))] _
    refine XS.ifNo X16.here hx rfl (hb hby own_d2_104) rfl ((if0 _ _).trans (feq b21).1) ?_
    refine XS.aloadN X16.here hx rfl (hb hby own_d2_107) rfl rfl ?_
    refine XS.iload X16.here hx rfl (hb hby own_d2_108) rfl ?_
    refine XS.aloadN X16.here hx rfl (hb hby own_d2_110) rfl rfl ?_
    show oS p e below T16 m 111 #[oa a0, oi (26 : Int32), oi (3 : Int32), oa b2, oi (2 : Int32)] [(.ref a0), (.int (2 : Int32)), (.ref b2)] _
    refine XS.iconst X16.here hx rfl (hb hby own_d2_111) ?_
    show oS p e below T16 m 112 #[oa a0, oi (26 : Int32), oi (3 : Int32), oa b2, oi (2 : Int32)] [(.int (4 : Int32)), (.ref a0), (.int (2 : Int32)), (.ref b2)] _
    refine oLdI X16 hx hZ e16 F17 (v := (.int u4)) ⟨by decide, by decide⟩ rfl (hb hby own_d2_112) ?_
    show oS p e below T16 m 113 #[oa a0, oi (26 : Int32), oi (3 : Int32), oa b2, oi (2 : Int32)] [(.int u4), (.int (2 : Int32)), (.ref b2)] _
    refine st22 _ ?_
    show oS p e below T22 m 114 #[oa a0, oi (26 : Int32), oi (3 : Int32), oa b2, oi (2 : Int32)] [] _
    refine XS.iinc X22.here hx rfl (hb hby own_d2_114) rfl (l' := #[oa a0, oi (26 : Int32), oi (3 : Int32), oa b2, oi (3 : Int32)]) rfl ?_
    refine XS.aloadN X22.here hx rfl (hb hby own_d2_117) rfl rfl ?_
    show oS p e below T22 m 118 #[oa a0, oi (26 : Int32), oi (3 : Int32), oa b2, oi (3 : Int32)] [(.ref b2)] _
    exact retOut X22 hx Bd.returns rfl (Or.inr (Or.inr (Or.inr (Or.inr ⟨rfl, rfl, rfl⟩)))) (hb hby own_d2_118) hr
  · show own_Q2 Z a0 p1 k_a0 u0 u1 u2 u3 u4 h0 n0 _ T22.heap _
    rw [e22]
    refine ⟨b2, k2, rfl, N22, K_26, sz_b2, ?_⟩
    rw [km, show own_z (26 : Int32) = (3 : Int32) by decide +kernel, own_pk, show own_idx (26 : Int32) = [1, 3, 4] by decide +kernel]
    exact V_25
set_option maxRecDepth 65536 in
set_option maxHeartbeats 40000000 in
theorem own_rm2_27 (l : Launch) (Z : State) (av : Array Value) (hw : ∀ d ∈ tables_1, d.before av Z = true) (ws : List Jvm.Cond) (a0 : Addr) (p1 : Int32) (k_a0 : ClassId) (u0 : Int32) (u1 : Int32) (u2 : Int32) (u3 : Int32) (u4 : Int32) (h0 : Heap) (n0 : Nat) (Z0 : n0 ≤ h0.size) (V_a0 : Arv Z h0 a0 k_a0 .int (5 : Int32) [(.int u0), (.int u1), (.int u2), (.int u3), (.int u4)] (.int (0 : Int32))) (km : p1 = (27 : Int32)) :
    MetFree l (⟨"com/example/strict_anon/strictanon/service/RecordSetsDifferencePinLaw", "pick", "([II)[I"⟩ : MethodName) (head1 (Jvm.Cond.code (⟨"com/example/strict_anon/strictanon/service/RecordSetsDifferencePinLaw", "pick", "([II)[I"⟩ : MethodName) method_3_code 5 (some (.array .int)) :: ws) ({ frames := 0, cells := 1, slots := 5, locals := 0 } : Room)) (fun a U => a = #[(.ref a0), (.int p1)] ∧ Z.Warmed39 U.vm ∧ U.heap = h0) (fun _ _ _ _ _ => True) (fun _ U o U' => ∃ v L, o = .returned v ∧ own_Q2 Z a0 p1 k_a0 u0 u1 u2 u3 u4 h0 n0 v U'.heap L ∧ FrameEnd U o U' L ({ frames := 0, cells := 1, slots := 5, locals := 0 } : Room).cells ({ frames := 0, cells := 1, slots := 5, locals := 0 } : Room).slots) := by
  refine MetFree.of_bodySF (plainFor_of_name own_pn0) hisR ?_
  intro p e s m args below meth c s₁ Bd hml0 hP hK
  obtain ⟨rfl, hZ, hh⟩ := hP
  have hx := Bd.exec
  have hby := Bd.bytes
  have hml : c.maxLocals = 5 := hml0
  have hown : s.vm.findClass "com/example/strict_anon/strictanon/service/RecordSetsDifferencePinLaw" = some m.cls := findClass_of_methodNamed Bd.named
  have hnm := (name_of_methodNamed Bd.named Bd.method).1
  have X0 : Stand p l e ({ frames := 0, cells := 1, slots := 5, locals := 0 } : Room) s m #[(.ref a0), (.int p1)] below meth c s₁ [] 0 0 := Stand.of_body Bd
  have e0 : s₁.heap = h0 := by rw [← hh, Bd.state]; rfl
  have N0 := Fr.nil n0
  have pre0 : ∀ t, Steps p.tables e below (s₁.setTop (mkF m 0 #[oa a0, oi p1, .unset, .unset, .unset] [])) t → Steps p.tables e below (s₁.setTop (entryFrame m #[(.ref a0), (.int p1)] 5)) t := fun t k => castTop (own_ef2 m a0 p1) k
  have pre1 : ∀ t, Steps p.tables e below (s₁.setTop (mkF m 0 #[oa a0, oi (27 : Int32), .unset, .unset, .unset] [])) t → Steps p.tables e below (s₁.setTop (entryFrame m #[(.ref a0), (.int p1)] 5)) t := by
    intro t k
    refine pre0 t ?_
    rw [km]
    exact k
  obtain ⟨T2, h2, k2, X2, e2, E2, A2, B2, st2⟩ := newPE X0 hx hZ (hw _ (List.mem_of_getElem? (i := 6) rfl)) e0 (g := (mkF m 29 #[oa a0, oi (27 : Int32), oi (4 : Int32), .unset, .unset] [(.int (4 : Int32))])) rfl (hb hby own_d2_29) rfl (by decide) (cap := 4) (by decide) (by decide) (by decide) (by decide) (ad := "[I") rfl
  obtain ⟨b2, g2⟩ : ∃ z, z = h0.size := ⟨_, rfl⟩
  rw [← g2] at A2 st2 B2
  have g_b2 : n0 ≤ b2 := Nat.le_trans Z0 (Nat.le_of_eq g2.symm)
  have ne3 : a0 ≠ b2 := Nat.ne_of_lt (Nat.lt_of_lt_of_le V_a0.lt (Nat.le_of_eq g2.symm))
  have Z2 : n0 ≤ h2.size := Nat.le_trans Z0 E2.1
  have sz_b2 : h0.size ≤ b2 := Nat.le_trans (Keep.refl h0 []).1 (Nat.le_of_eq g2.symm)
  have K_4 : Keep h0 h2 [] := (Keep.refl h0 []).ext E2
  have F5 := V_a0.ext E2
  have V_6 : Arv Z h2 b2 k2 .int (4 : Int32) [(.int (0 : Int32)), (.int (0 : Int32)), (.int (0 : Int32)), (.int (0 : Int32))] (.int (0 : Int32)) := (Arv.new A2 (by decide)).pad (pad_rep [] (.int (0 : Int32)) 4)
  have b7 : ¬ ((1 : Int32) = (0 : Int32)) := (by decide)
  obtain ⟨T8, h8, X8, e8, W8, V8, st8⟩ := oStI X2 hx hZ e2 V_6 (j := (0 : Int32)) ⟨by decide, by decide⟩ 0 rfl (Nat.le_of_ble_eq_true rfl) (g := (mkF m 47 #[oa a0, oi (27 : Int32), oi (4 : Int32), oa b2, oi (0 : Int32)] [(.int u0), (.int (0 : Int32)), (.ref b2)])) rfl rfl (hb hby own_d2_47)
  obtain ⟨Lo8, X8, N8⟩ := oOpq X8 (Fr.snoc X8 N0 g_b2)
  have Z8 := Nat.le_trans Z2 (Keep.of_wr W8).1
  have F9 := F5.other W8 ne3
  have F10 := B2.wr W8
  have V_11 : Arv Z h8 b2 k2 .int (4 : Int32) [(.int u0), (.int (0 : Int32)), (.int (0 : Int32)), (.int (0 : Int32))] (.int (0 : Int32)) := V8
  have K_12 : Keep h0 h8 [] := K_4.wr W8 (Or.inr sz_b2)
  have b13 : ¬ ((2 : Int32) = (0 : Int32)) := (by decide)
  obtain ⟨T14, h14, X14, e14, W14, V14, st14⟩ := oStI X8 hx hZ e8 V_11 (j := (1 : Int32)) ⟨by decide, by decide⟩ 1 rfl (Nat.le_of_ble_eq_true rfl) (g := (mkF m 63 #[oa a0, oi (27 : Int32), oi (4 : Int32), oa b2, oi (1 : Int32)] [(.int u1), (.int (1 : Int32)), (.ref b2)])) rfl rfl (hb hby own_d2_63)
  obtain ⟨Lo14, X14, N14⟩ := oOpq X14 (Fr.snoc X14 N8 g_b2)
  have Z14 := Nat.le_trans Z8 (Keep.of_wr W14).1
  have F15 := F9.other W14 ne3
  have F16 := F10.wr W14
  have V_17 : Arv Z h14 b2 k2 .int (4 : Int32) [(.int u0), (.int u1), (.int (0 : Int32)), (.int (0 : Int32))] (.int (0 : Int32)) := V14
  have K_18 : Keep h0 h14 [] := K_12.wr W14 (Or.inr sz_b2)
  have b19 : (0 : Int32) = (0 : Int32) := (by decide)
  have b20 : ¬ ((8 : Int32) = (0 : Int32)) := (by decide)
  obtain ⟨T21, h21, X21, e21, W21, V21, st21⟩ := oStI X14 hx hZ e14 V_17 (j := (2 : Int32)) ⟨by decide, by decide⟩ 2 rfl (Nat.le_of_ble_eq_true rfl) (g := (mkF m 96 #[oa a0, oi (27 : Int32), oi (4 : Int32), oa b2, oi (2 : Int32)] [(.int u3), (.int (2 : Int32)), (.ref b2)])) rfl rfl (hb hby own_d2_96)
  obtain ⟨Lo21, X21, N21⟩ := oOpq X21 (Fr.snoc X21 N14 g_b2)
  have Z21 := Nat.le_trans Z14 (Keep.of_wr W21).1
  have F22 := F15.other W21 ne3
  have F23 := F16.wr W21
  have V_24 : Arv Z h21 b2 k2 .int (4 : Int32) [(.int u0), (.int u1), (.int u3), (.int (0 : Int32))] (.int (0 : Int32)) := V21
  have K_25 : Keep h0 h21 [] := K_18.wr W21 (Or.inr sz_b2)
  have b26 : ¬ ((16 : Int32) = (0 : Int32)) := (by decide)
  obtain ⟨T27, h27, X27, e27, W27, V27, st27⟩ := oStI X21 hx hZ e21 V_24 (j := (3 : Int32)) ⟨by decide, by decide⟩ 3 rfl (Nat.le_of_ble_eq_true rfl) (g := (mkF m 113 #[oa a0, oi (27 : Int32), oi (4 : Int32), oa b2, oi (3 : Int32)] [(.int u4), (.int (3 : Int32)), (.ref b2)])) rfl rfl (hb hby own_d2_113)
  obtain ⟨Lo27, X27, N27⟩ := oOpq X27 (Fr.snoc X27 N21 g_b2)
  have Z27 := Nat.le_trans Z21 (Keep.of_wr W27).1
  have F28 := F22.other W27 ne3
  have F29 := F23.wr W27
  have V_30 : Arv Z h27 b2 k2 .int (4 : Int32) [(.int u0), (.int u1), (.int u3), (.int u4)] (.int (0 : Int32)) := V27
  have K_31 : Keep h0 h27 [] := K_25.wr W27 (Or.inr sz_b2)
  obtain ⟨fs, hr, hrun, hended, hW, hsame⟩ := X27.leave (v := (some (.ref b2))) (fun h => by rw [Bd.returns] at h; cases h)
  refine ⟨_, _, pre1 _ ?_, hrun, hended, _, _, rfl, ?_, ⟨_, rfl⟩, hW, hsame.mono (by decide) (by decide)⟩
  · show oS p e below s₁ m 0 #[oa a0, oi (27 : Int32), .unset, .unset, .unset] [] _
    refine XS.iloadN X0.here hx rfl (hb hby own_d2_0) rfl ?_
    refine XS.iconst X0.here hx rfl (hb hby own_d2_1) ?_
    refine XS.iand X0.here hx rfl (hb hby own_d2_2) rfl ?_
    refine XS.iloadN X0.here hx rfl (hb hby own_d2_3) rfl ?_
    show oS p e below s₁ m 4 #[oa a0, oi (27 : Int32), .unset, .unset, .unset] [(.int (27 : Int32)), (.int (1 : Int32))] _
    refine XS.iconst X0.here hx rfl (hb hby own_d2_4) ?_
    show oS p e below s₁ m 5 #[oa a0, oi (27 : Int32), .unset, .unset, .unset] [(.int (1 : Int32)), (.int (27 : Int32)), (.int (1 : Int32))] _
    refine XS.iushr X0.here hx rfl (hb hby own_d2_5) rfl ?_
    refine XS.iconst X0.here hx rfl (hb hby own_d2_6) ?_
    refine XS.iand X0.here hx rfl (hb hby own_d2_7) rfl ?_
    refine XS.iadd X0.here hx rfl (hb hby own_d2_8) rfl ?_
    show oS p e below s₁ m 9 #[oa a0, oi (27 : Int32), .unset, .unset, .unset] [(.int (2 : Int32))] _
    refine XS.iloadN X0.here hx rfl (hb hby own_d2_9) rfl ?_
    refine XS.iconst X0.here hx rfl (hb hby own_d2_10) ?_
    show oS p e below s₁ m 11 #[oa a0, oi (27 : Int32), .unset, .unset, .unset] [(.int (2 : Int32)), (.int (27 : Int32)), (.int (2 : Int32))] _
    refine XS.iushr X0.here hx rfl (hb hby own_d2_11) rfl ?_
    refine XS.iconst X0.here hx rfl (hb hby own_d2_12) ?_
    refine XS.iand X0.here hx rfl (hb hby own_d2_13) rfl ?_
    refine XS.iadd X0.here hx rfl (hb hby own_d2_14) rfl ?_
    show oS p e below s₁ m 15 #[oa a0, oi (27 : Int32), .unset, .unset, .unset] [(.int (2 : Int32))] _
    refine XS.iloadN X0.here hx rfl (hb hby own_d2_15) rfl ?_
    refine XS.iconst X0.here hx rfl (hb hby own_d2_16) ?_
    show oS p e below s₁ m 17 #[oa a0, oi (27 : Int32), .unset, .unset, .unset] [(.int (3 : Int32)), (.int (27 : Int32)), (.int (2 : Int32))] _
    refine XS.iushr X0.here hx rfl (hb hby own_d2_17) rfl ?_
    refine XS.iconst X0.here hx rfl (hb hby own_d2_18) ?_
    refine XS.iand X0.here hx rfl (hb hby own_d2_19) rfl ?_
    refine XS.iadd X0.here hx rfl (hb hby own_d2_20) rfl ?_
    show oS p e below s₁ m 21 #[oa a0, oi (27 : Int32), .unset, .unset, .unset] [(.int (3 : Int32))] _
    refine XS.iloadN X0.here hx rfl (hb hby own_d2_21) rfl ?_
    refine XS.iconst X0.here hx rfl (hb hby own_d2_22) ?_
    show oS p e below s₁ m 23 #[oa a0, oi (27 : Int32), .unset, .unset, .unset] [(.int (4 : Int32)), (.int (27 : Int32)), (.int (3 : Int32))] _
    refine XS.iushr X0.here hx rfl (hb hby own_d2_23) rfl ?_
    refine XS.iconst X0.here hx rfl (hb hby own_d2_24) ?_
    refine XS.iand X0.here hx rfl (hb hby own_d2_25) rfl ?_
    refine XS.iadd X0.here hx rfl (hb hby own_d2_26) rfl ?_
    show oS p e below s₁ m 27 #[oa a0, oi (27 : Int32), .unset, .unset, .unset] [(.int (4 : Int32))] _
    refine XS.istoreN X0.here hx rfl (hb hby own_d2_27) rfl (l' := #[oa a0, oi (27 : Int32), oi (4 : Int32), .unset, .unset]) rfl ?_
    refine XS.iloadN X0.here hx rfl (hb hby own_d2_28) rfl ?_
    show oS p e below s₁ m 29 #[oa a0, oi (27 : Int32), oi (4 : Int32), .unset, .unset] [(.int (4 : Int32))] _
    refine st2 _ ?_
    show oS p e below T2 m 31 #[oa a0, oi (27 : Int32), oi (4 : Int32), .unset, .unset] [(.ref b2)] _
    refine XS.astoreN X2.here hx rfl (hb hby own_d2_31) rfl rfl (l' := #[oa a0, oi (27 : Int32), oi (4 : Int32), oa b2, .unset]) rfl ?_
    refine XS.iconst X2.here hx rfl (hb hby own_d2_32) ?_
    refine XS.istore X2.here hx rfl (hb hby own_d2_33) rfl (l' := #[oa a0, oi (27 : Int32), oi (4 : Int32), oa b2, oi (0 : Int32)]) rfl ?_
    refine XS.iloadN X2.here hx rfl (hb hby own_d2_35) rfl ?_
    show oS p e below T2 m 36 #[oa a0, oi (27 : Int32), oi (4 : Int32), oa b2, oi (0 : Int32)] [(.int (27 : Int32))] _
    refine XS.iconst X2.here hx rfl (hb hby own_d2_36) ?_
    refine XS.iand X2.here hx rfl (hb hby own_d2_37) rfl ?_
    show oS p e below T2 m 38 #[oa a0, oi (27 : Int32), oi (4 : Int32), oa b2, oi (0 : Int32)] [(.int (1 : Int32))] _
    refine XS.ifNo X2.here hx rfl (hb hby own_d2_38) rfl ((if0 _ _).trans (feq b7).1) ?_
    refine XS.aloadN X2.here hx rfl (hb hby own_d2_41) rfl rfl ?_
    refine XS.iload X2.here hx rfl (hb hby own_d2_42) rfl ?_
    refine XS.aloadN X2.here hx rfl (hb hby own_d2_44) rfl rfl ?_
    show oS p e below T2 m 45 #[oa a0, oi (27 : Int32), oi (4 : Int32), oa b2, oi (0 : Int32)] [(.ref a0), (.int (0 : Int32)), (.ref b2)] _
    refine XS.iconst X2.here hx rfl (hb hby own_d2_45) ?_
    show oS p e below T2 m 46 #[oa a0, oi (27 : Int32), oi (4 : Int32), oa b2, oi (0 : Int32)] [(.int (0 : Int32)), (.ref a0), (.int (0 : Int32)), (.ref b2)] _
    refine oLdI X2 hx hZ e2 F5 (v := (.int u0)) ⟨by decide, by decide⟩ rfl (hb hby own_d2_46) ?_
    show oS p e below T2 m 47 #[oa a0, oi (27 : Int32), oi (4 : Int32), oa b2, oi (0 : Int32)] [(.int u0), (.int (0 : Int32)), (.ref b2)] _
    refine st8 _ ?_
    show oS p e below T8 m 48 #[oa a0, oi (27 : Int32), oi (4 : Int32), oa b2, oi (0 : Int32)] [] _
    refine XS.iinc X8.here hx rfl (hb hby own_d2_48) rfl (l' := #[oa a0, oi (27 : Int32), oi (4 : Int32), oa b2, oi (1 : Int32)]) rfl ?_
    refine XS.iloadN X8.here hx rfl (hb hby own_d2_51) rfl ?_
    refine XS.iconst X8.here hx rfl (hb hby own_d2_52) ?_
    refine XS.iand X8.here hx rfl (hb hby own_d2_53) rfl ?_
    show oS p e below T8 m 54 #[oa a0, oi (27 : Int32), oi (4 : Int32), oa b2, oi (1 : Int32)] [(.int (2 : Int32))] _
    refine XS.ifNo X8.here hx rfl (hb hby own_d2_54) rfl ((if0 _ _).trans (feq b13).1) ?_
    refine XS.aloadN X8.here hx rfl (hb hby own_d2_57) rfl rfl ?_
    refine XS.iload X8.here hx rfl (hb hby own_d2_58) rfl ?_
    refine XS.aloadN X8.here hx rfl (hb hby own_d2_60) rfl rfl ?_
    show oS p e below T8 m 61 #[oa a0, oi (27 : Int32), oi (4 : Int32), oa b2, oi (1 : Int32)] [(.ref a0), (.int (1 : Int32)), (.ref b2)] _
    refine XS.iconst X8.here hx rfl (hb hby own_d2_61) ?_
    show oS p e below T8 m 62 #[oa a0, oi (27 : Int32), oi (4 : Int32), oa b2, oi (1 : Int32)] [(.int (1 : Int32)), (.ref a0), (.int (1 : Int32)), (.ref b2)] _
    refine oLdI X8 hx hZ e8 F9 (v := (.int u1)) ⟨by decide, by decide⟩ rfl (hb hby own_d2_62) ?_
    show oS p e below T8 m 63 #[oa a0, oi (27 : Int32), oi (4 : Int32), oa b2, oi (1 : Int32)] [(.int u1), (.int (1 : Int32)), (.ref b2)] _
    refine st14 _ ?_
    show oS p e below T14 m 64 #[oa a0, oi (27 : Int32), oi (4 : Int32), oa b2, oi (1 : Int32)] [] _
    refine XS.iinc X14.here hx rfl (hb hby own_d2_64) rfl (l' := #[oa a0, oi (27 : Int32), oi (4 : Int32), oa b2, oi (2 : Int32)]) rfl ?_
    refine XS.iloadN X14.here hx rfl (hb hby own_d2_67) rfl ?_
    refine XS.iconst X14.here hx rfl (hb hby own_d2_68) ?_
    refine XS.iand X14.here hx rfl (hb hby own_d2_69) rfl ?_
    show oS p e below T14 m 70 #[oa a0, oi (27 : Int32), oi (4 : Int32), oa b2, oi (2 : Int32)] [(.int (0 : Int32))] _
    refine XS.ifYes X14.here hx rfl (pc0 := 70) (pc' := 83) rfl (hb hby own_d2_70) rfl ((if0 _ _).trans (teq b19).1) (by decide) (by decide) ?_
    refine XS.iloadN X14.here hx rfl (hb hby own_d2_83) rfl ?_
    refine XS.bipush X14.here hx rfl (hb hby own_d2_84) ?_
    refine XS.iand X14.here hx rfl (hb hby own_d2_86) rfl ?_
    show oS p e below T14 m 87 #[oa a0, oi (27 : Int32), oi (4 : Int32), oa b2, oi (2 : Int32)] [(.int (8 : Int32))] _
    refine XS.ifNo X14.here hx rfl (hb hby own_d2_87) rfl ((if0 _ _).trans (feq b20).1) ?_
    refine XS.aloadN X14.here hx rfl (hb hby own_d2_90) rfl rfl ?_
    refine XS.iload X14.here hx rfl (hb hby own_d2_91) rfl ?_
    refine XS.aloadN X14.here hx rfl (hb hby own_d2_93) rfl rfl ?_
    show oS p e below T14 m 94 #[oa a0, oi (27 : Int32), oi (4 : Int32), oa b2, oi (2 : Int32)] [(.ref a0), (.int (2 : Int32)), (.ref b2)] _
    refine XS.iconst X14.here hx rfl (hb hby own_d2_94) ?_
    show oS p e below T14 m 95 #[oa a0, oi (27 : Int32), oi (4 : Int32), oa b2, oi (2 : Int32)] [(.int (3 : Int32)), (.ref a0), (.int (2 : Int32)), (.ref b2)] _
    refine oLdI X14 hx hZ e14 F15 (v := (.int u3)) ⟨by decide, by decide⟩ rfl (hb hby own_d2_95) ?_
    show oS p e below T14 m 96 #[oa a0, oi (27 : Int32), oi (4 : Int32), oa b2, oi (2 : Int32)] [(.int u3), (.int (2 : Int32)), (.ref b2)] _
    refine st21 _ ?_
    show oS p e below T21 m 97 #[oa a0, oi (27 : Int32), oi (4 : Int32), oa b2, oi (2 : Int32)] [] _
    refine XS.iinc X21.here hx rfl (hb hby own_d2_97) rfl (l' := #[oa a0, oi (27 : Int32), oi (4 : Int32), oa b2, oi (3 : Int32)]) rfl ?_
    refine XS.iloadN X21.here hx rfl (hb hby own_d2_100) rfl ?_
    refine XS.bipush X21.here hx rfl (hb hby own_d2_101) ?_
    refine XS.iand X21.here hx rfl (hb hby own_d2_103) rfl ?_
    show oS p e below T21 m 104 #[oa a0, oi (27 : Int32), oi (4 : Int32), oa b2, oi (3 : Int32)] [(.int (16 : Int32))] _
    refine XS.ifNo X21.here hx rfl (hb hby own_d2_104) rfl ((if0 _ _).trans (feq b26).1) ?_
    refine XS.aloadN X21.here hx rfl (hb hby own_d2_107) rfl rfl ?_
    refine XS.iload X21.here hx rfl (hb hby own_d2_108) rfl ?_
    refine XS.aloadN X21.here hx rfl (hb hby own_d2_110) rfl rfl ?_
    show oS p e below T21 m 111 #[oa a0, oi (27 : Int32), oi (4 : Int32), oa b2, oi (3 : Int32)] [(.ref a0), (.int (3 : Int32)), (.ref b2)] _
    refine XS.iconst X21.here hx rfl (hb hby own_d2_111) ?_
    show oS p e below T21 m 112 #[oa a0, oi (27 : Int32), oi (4 : Int32), oa b2, oi (3 : Int32)] [(.int (4 : Int32)), (.ref a0), (.int (3 : Int32)), (.ref b2)] _
    refine oLdI X21 hx hZ e21 F22 (v := (.int u4)) ⟨by decide, by decide⟩ rfl (hb hby own_d2_112) ?_
    show oS p e below T21 m 113 #[oa a0, oi (27 : Int32), oi (4 : Int32), oa b2, oi (3 : Int32)] [(.int u4), (.int (3 : Int32)), (.ref b2)] _
    refine st27 _ ?_
    show oS p e below T27 m 114 #[oa a0, oi (27 : Int32), oi (4 : Int32), oa b2, oi (3 : Int32)] [] _
    refine XS.iinc X27.here hx rfl (hb hby own_d2_114) rfl (l' := #[oa a0, oi (27 : Int32), oi (4 : Int32), oa b2, oi (4 : Int32)]) rfl ?_
    refine XS.aloadN X27.here hx rfl (hb hby own_d2_117) rfl rfl ?_
    show oS p e below T27 m 118 #[oa a0, oi (27 : Int32), oi (4 : Int32), oa b2, oi (4 : Int32)] [(.ref b2)] _
    exact retOut X27 hx Bd.returns rfl (Or.inr (Or.inr (Or.inr (Or.inr ⟨rfl, rfl, rfl⟩)))) (hb hby own_d2_118) hr
  · show own_Q2 Z a0 p1 k_a0 u0 u1 u2 u3 u4 h0 n0 _ T27.heap _
    rw [e27]
    refine ⟨b2, k2, rfl, N27, K_31, sz_b2, ?_⟩
    rw [km, show own_z (27 : Int32) = (4 : Int32) by decide +kernel, own_pk, show own_idx (27 : Int32) = [0, 1, 3, 4] by decide +kernel]
    exact V_30
set_option maxRecDepth 65536 in
set_option maxHeartbeats 40000000 in
theorem own_rm2_28 (l : Launch) (Z : State) (av : Array Value) (hw : ∀ d ∈ tables_1, d.before av Z = true) (ws : List Jvm.Cond) (a0 : Addr) (p1 : Int32) (k_a0 : ClassId) (u0 : Int32) (u1 : Int32) (u2 : Int32) (u3 : Int32) (u4 : Int32) (h0 : Heap) (n0 : Nat) (Z0 : n0 ≤ h0.size) (V_a0 : Arv Z h0 a0 k_a0 .int (5 : Int32) [(.int u0), (.int u1), (.int u2), (.int u3), (.int u4)] (.int (0 : Int32))) (km : p1 = (28 : Int32)) :
    MetFree l (⟨"com/example/strict_anon/strictanon/service/RecordSetsDifferencePinLaw", "pick", "([II)[I"⟩ : MethodName) (head1 (Jvm.Cond.code (⟨"com/example/strict_anon/strictanon/service/RecordSetsDifferencePinLaw", "pick", "([II)[I"⟩ : MethodName) method_3_code 5 (some (.array .int)) :: ws) ({ frames := 0, cells := 1, slots := 5, locals := 0 } : Room)) (fun a U => a = #[(.ref a0), (.int p1)] ∧ Z.Warmed39 U.vm ∧ U.heap = h0) (fun _ _ _ _ _ => True) (fun _ U o U' => ∃ v L, o = .returned v ∧ own_Q2 Z a0 p1 k_a0 u0 u1 u2 u3 u4 h0 n0 v U'.heap L ∧ FrameEnd U o U' L ({ frames := 0, cells := 1, slots := 5, locals := 0 } : Room).cells ({ frames := 0, cells := 1, slots := 5, locals := 0 } : Room).slots) := by
  refine MetFree.of_bodySF (plainFor_of_name own_pn0) hisR ?_
  intro p e s m args below meth c s₁ Bd hml0 hP hK
  obtain ⟨rfl, hZ, hh⟩ := hP
  have hx := Bd.exec
  have hby := Bd.bytes
  have hml : c.maxLocals = 5 := hml0
  have hown : s.vm.findClass "com/example/strict_anon/strictanon/service/RecordSetsDifferencePinLaw" = some m.cls := findClass_of_methodNamed Bd.named
  have hnm := (name_of_methodNamed Bd.named Bd.method).1
  have X0 : Stand p l e ({ frames := 0, cells := 1, slots := 5, locals := 0 } : Room) s m #[(.ref a0), (.int p1)] below meth c s₁ [] 0 0 := Stand.of_body Bd
  have e0 : s₁.heap = h0 := by rw [← hh, Bd.state]; rfl
  have N0 := Fr.nil n0
  have pre0 : ∀ t, Steps p.tables e below (s₁.setTop (mkF m 0 #[oa a0, oi p1, .unset, .unset, .unset] [])) t → Steps p.tables e below (s₁.setTop (entryFrame m #[(.ref a0), (.int p1)] 5)) t := fun t k => castTop (own_ef2 m a0 p1) k
  have pre1 : ∀ t, Steps p.tables e below (s₁.setTop (mkF m 0 #[oa a0, oi (28 : Int32), .unset, .unset, .unset] [])) t → Steps p.tables e below (s₁.setTop (entryFrame m #[(.ref a0), (.int p1)] 5)) t := by
    intro t k
    refine pre0 t ?_
    rw [km]
    exact k
  obtain ⟨T2, h2, k2, X2, e2, E2, A2, B2, st2⟩ := newPE X0 hx hZ (hw _ (List.mem_of_getElem? (i := 6) rfl)) e0 (g := (mkF m 29 #[oa a0, oi (28 : Int32), oi (3 : Int32), .unset, .unset] [(.int (3 : Int32))])) rfl (hb hby own_d2_29) rfl (by decide) (cap := 3) (by decide) (by decide) (by decide) (by decide) (ad := "[I") rfl
  obtain ⟨b2, g2⟩ : ∃ z, z = h0.size := ⟨_, rfl⟩
  rw [← g2] at A2 st2 B2
  have g_b2 : n0 ≤ b2 := Nat.le_trans Z0 (Nat.le_of_eq g2.symm)
  have ne3 : a0 ≠ b2 := Nat.ne_of_lt (Nat.lt_of_lt_of_le V_a0.lt (Nat.le_of_eq g2.symm))
  have Z2 : n0 ≤ h2.size := Nat.le_trans Z0 E2.1
  have sz_b2 : h0.size ≤ b2 := Nat.le_trans (Keep.refl h0 []).1 (Nat.le_of_eq g2.symm)
  have K_4 : Keep h0 h2 [] := (Keep.refl h0 []).ext E2
  have F5 := V_a0.ext E2
  have V_6 : Arv Z h2 b2 k2 .int (3 : Int32) [(.int (0 : Int32)), (.int (0 : Int32)), (.int (0 : Int32))] (.int (0 : Int32)) := (Arv.new A2 (by decide)).pad (pad_rep [] (.int (0 : Int32)) 3)
  have b7 : (0 : Int32) = (0 : Int32) := (by decide)
  have b8 : (0 : Int32) = (0 : Int32) := (by decide)
  have b9 : ¬ ((4 : Int32) = (0 : Int32)) := (by decide)
  obtain ⟨T10, h10, X10, e10, W10, V10, st10⟩ := oStI X2 hx hZ e2 V_6 (j := (0 : Int32)) ⟨by decide, by decide⟩ 0 rfl (Nat.le_of_ble_eq_true rfl) (g := (mkF m 79 #[oa a0, oi (28 : Int32), oi (3 : Int32), oa b2, oi (0 : Int32)] [(.int u2), (.int (0 : Int32)), (.ref b2)])) rfl rfl (hb hby own_d2_79)
  obtain ⟨Lo10, X10, N10⟩ := oOpq X10 (Fr.snoc X10 N0 g_b2)
  have Z10 := Nat.le_trans Z2 (Keep.of_wr W10).1
  have F11 := F5.other W10 ne3
  have F12 := B2.wr W10
  have V_13 : Arv Z h10 b2 k2 .int (3 : Int32) [(.int u2), (.int (0 : Int32)), (.int (0 : Int32))] (.int (0 : Int32)) := V10
  have K_14 : Keep h0 h10 [] := K_4.wr W10 (Or.inr sz_b2)
  have b15 : ¬ ((8 : Int32) = (0 : Int32)) := (by decide)
  obtain ⟨T16, h16, X16, e16, W16, V16, st16⟩ := oStI X10 hx hZ e10 V_13 (j := (1 : Int32)) ⟨by decide, by decide⟩ 1 rfl (Nat.le_of_ble_eq_true rfl) (g := (mkF m 96 #[oa a0, oi (28 : Int32), oi (3 : Int32), oa b2, oi (1 : Int32)] [(.int u3), (.int (1 : Int32)), (.ref b2)])) rfl rfl (hb hby own_d2_96)
  obtain ⟨Lo16, X16, N16⟩ := oOpq X16 (Fr.snoc X16 N10 g_b2)
  have Z16 := Nat.le_trans Z10 (Keep.of_wr W16).1
  have F17 := F11.other W16 ne3
  have F18 := F12.wr W16
  have V_19 : Arv Z h16 b2 k2 .int (3 : Int32) [(.int u2), (.int u3), (.int (0 : Int32))] (.int (0 : Int32)) := V16
  have K_20 : Keep h0 h16 [] := K_14.wr W16 (Or.inr sz_b2)
  have b21 : ¬ ((16 : Int32) = (0 : Int32)) := (by decide)
  obtain ⟨T22, h22, X22, e22, W22, V22, st22⟩ := oStI X16 hx hZ e16 V_19 (j := (2 : Int32)) ⟨by decide, by decide⟩ 2 rfl (Nat.le_of_ble_eq_true rfl) (g := (mkF m 113 #[oa a0, oi (28 : Int32), oi (3 : Int32), oa b2, oi (2 : Int32)] [(.int u4), (.int (2 : Int32)), (.ref b2)])) rfl rfl (hb hby own_d2_113)
  obtain ⟨Lo22, X22, N22⟩ := oOpq X22 (Fr.snoc X22 N16 g_b2)
  have Z22 := Nat.le_trans Z16 (Keep.of_wr W22).1
  have F23 := F17.other W22 ne3
  have F24 := F18.wr W22
  have V_25 : Arv Z h22 b2 k2 .int (3 : Int32) [(.int u2), (.int u3), (.int u4)] (.int (0 : Int32)) := V22
  have K_26 : Keep h0 h22 [] := K_20.wr W22 (Or.inr sz_b2)
  obtain ⟨fs, hr, hrun, hended, hW, hsame⟩ := X22.leave (v := (some (.ref b2))) (fun h => by rw [Bd.returns] at h; cases h)
  refine ⟨_, _, pre1 _ ?_, hrun, hended, _, _, rfl, ?_, ⟨_, rfl⟩, hW, hsame.mono (by decide) (by decide)⟩
  · show oS p e below s₁ m 0 #[oa a0, oi (28 : Int32), .unset, .unset, .unset] [] _
    refine XS.iloadN X0.here hx rfl (hb hby own_d2_0) rfl ?_
    refine XS.iconst X0.here hx rfl (hb hby own_d2_1) ?_
    refine XS.iand X0.here hx rfl (hb hby own_d2_2) rfl ?_
    refine XS.iloadN X0.here hx rfl (hb hby own_d2_3) rfl ?_
    show oS p e below s₁ m 4 #[oa a0, oi (28 : Int32), .unset, .unset, .unset] [(.int (28 : Int32)), (.int (0 : Int32))] _
    refine XS.iconst X0.here hx rfl (hb hby own_d2_4) ?_
    show oS p e below s₁ m 5 #[oa a0, oi (28 : Int32), .unset, .unset, .unset] [(.int (1 : Int32)), (.int (28 : Int32)), (.int (0 : Int32))] _
    refine XS.iushr X0.here hx rfl (hb hby own_d2_5) rfl ?_
    refine XS.iconst X0.here hx rfl (hb hby own_d2_6) ?_
    refine XS.iand X0.here hx rfl (hb hby own_d2_7) rfl ?_
    refine XS.iadd X0.here hx rfl (hb hby own_d2_8) rfl ?_
    show oS p e below s₁ m 9 #[oa a0, oi (28 : Int32), .unset, .unset, .unset] [(.int (0 : Int32))] _
    refine XS.iloadN X0.here hx rfl (hb hby own_d2_9) rfl ?_
    refine XS.iconst X0.here hx rfl (hb hby own_d2_10) ?_
    show oS p e below s₁ m 11 #[oa a0, oi (28 : Int32), .unset, .unset, .unset] [(.int (2 : Int32)), (.int (28 : Int32)), (.int (0 : Int32))] _
    refine XS.iushr X0.here hx rfl (hb hby own_d2_11) rfl ?_
    refine XS.iconst X0.here hx rfl (hb hby own_d2_12) ?_
    refine XS.iand X0.here hx rfl (hb hby own_d2_13) rfl ?_
    refine XS.iadd X0.here hx rfl (hb hby own_d2_14) rfl ?_
    show oS p e below s₁ m 15 #[oa a0, oi (28 : Int32), .unset, .unset, .unset] [(.int (1 : Int32))] _
    refine XS.iloadN X0.here hx rfl (hb hby own_d2_15) rfl ?_
    refine XS.iconst X0.here hx rfl (hb hby own_d2_16) ?_
    show oS p e below s₁ m 17 #[oa a0, oi (28 : Int32), .unset, .unset, .unset] [(.int (3 : Int32)), (.int (28 : Int32)), (.int (1 : Int32))] _
    refine XS.iushr X0.here hx rfl (hb hby own_d2_17) rfl ?_
    refine XS.iconst X0.here hx rfl (hb hby own_d2_18) ?_
    refine XS.iand X0.here hx rfl (hb hby own_d2_19) rfl ?_
    refine XS.iadd X0.here hx rfl (hb hby own_d2_20) rfl ?_
    show oS p e below s₁ m 21 #[oa a0, oi (28 : Int32), .unset, .unset, .unset] [(.int (2 : Int32))] _
    refine XS.iloadN X0.here hx rfl (hb hby own_d2_21) rfl ?_
    refine XS.iconst X0.here hx rfl (hb hby own_d2_22) ?_
    show oS p e below s₁ m 23 #[oa a0, oi (28 : Int32), .unset, .unset, .unset] [(.int (4 : Int32)), (.int (28 : Int32)), (.int (2 : Int32))] _
    refine XS.iushr X0.here hx rfl (hb hby own_d2_23) rfl ?_
    refine XS.iconst X0.here hx rfl (hb hby own_d2_24) ?_
    refine XS.iand X0.here hx rfl (hb hby own_d2_25) rfl ?_
    refine XS.iadd X0.here hx rfl (hb hby own_d2_26) rfl ?_
    show oS p e below s₁ m 27 #[oa a0, oi (28 : Int32), .unset, .unset, .unset] [(.int (3 : Int32))] _
    refine XS.istoreN X0.here hx rfl (hb hby own_d2_27) rfl (l' := #[oa a0, oi (28 : Int32), oi (3 : Int32), .unset, .unset]) rfl ?_
    refine XS.iloadN X0.here hx rfl (hb hby own_d2_28) rfl ?_
    show oS p e below s₁ m 29 #[oa a0, oi (28 : Int32), oi (3 : Int32), .unset, .unset] [(.int (3 : Int32))] _
    refine st2 _ ?_
    show oS p e below T2 m 31 #[oa a0, oi (28 : Int32), oi (3 : Int32), .unset, .unset] [(.ref b2)] _
    refine XS.astoreN X2.here hx rfl (hb hby own_d2_31) rfl rfl (l' := #[oa a0, oi (28 : Int32), oi (3 : Int32), oa b2, .unset]) rfl ?_
    refine XS.iconst X2.here hx rfl (hb hby own_d2_32) ?_
    refine XS.istore X2.here hx rfl (hb hby own_d2_33) rfl (l' := #[oa a0, oi (28 : Int32), oi (3 : Int32), oa b2, oi (0 : Int32)]) rfl ?_
    refine XS.iloadN X2.here hx rfl (hb hby own_d2_35) rfl ?_
    show oS p e below T2 m 36 #[oa a0, oi (28 : Int32), oi (3 : Int32), oa b2, oi (0 : Int32)] [(.int (28 : Int32))] _
    refine XS.iconst X2.here hx rfl (hb hby own_d2_36) ?_
    refine XS.iand X2.here hx rfl (hb hby own_d2_37) rfl ?_
    show oS p e below T2 m 38 #[oa a0, oi (28 : Int32), oi (3 : Int32), oa b2, oi (0 : Int32)] [(.int (0 : Int32))] _
    refine XS.ifYes X2.here hx rfl (pc0 := 38) (pc' := 51) rfl (hb hby own_d2_38) rfl ((if0 _ _).trans (teq b7).1) (by decide) (by decide) ?_
    refine XS.iloadN X2.here hx rfl (hb hby own_d2_51) rfl ?_
    refine XS.iconst X2.here hx rfl (hb hby own_d2_52) ?_
    refine XS.iand X2.here hx rfl (hb hby own_d2_53) rfl ?_
    show oS p e below T2 m 54 #[oa a0, oi (28 : Int32), oi (3 : Int32), oa b2, oi (0 : Int32)] [(.int (0 : Int32))] _
    refine XS.ifYes X2.here hx rfl (pc0 := 54) (pc' := 67) rfl (hb hby own_d2_54) rfl ((if0 _ _).trans (teq b8).1) (by decide) (by decide) ?_
    refine XS.iloadN X2.here hx rfl (hb hby own_d2_67) rfl ?_
    refine XS.iconst X2.here hx rfl (hb hby own_d2_68) ?_
    refine XS.iand X2.here hx rfl (hb hby own_d2_69) rfl ?_
    show oS p e below T2 m 70 #[oa a0, oi (28 : Int32), oi (3 : Int32), oa b2, oi (0 : Int32)] [(.int (4 : Int32))] _
    refine XS.ifNo X2.here hx rfl (hb hby own_d2_70) rfl ((if0 _ _).trans (feq b9).1) ?_
    refine XS.aloadN X2.here hx rfl (hb hby own_d2_73) rfl rfl ?_
    refine XS.iload X2.here hx rfl (hb hby own_d2_74) rfl ?_
    refine XS.aloadN X2.here hx rfl (hb hby own_d2_76) rfl rfl ?_
    show oS p e below T2 m 77 #[oa a0, oi (28 : Int32), oi (3 : Int32), oa b2, oi (0 : Int32)] [(.ref a0), (.int (0 : Int32)), (.ref b2)] _
    refine XS.iconst X2.here hx rfl (hb hby own_d2_77) ?_
    show oS p e below T2 m 78 #[oa a0, oi (28 : Int32), oi (3 : Int32), oa b2, oi (0 : Int32)] [(.int (2 : Int32)), (.ref a0), (.int (0 : Int32)), (.ref b2)] _
    refine oLdI X2 hx hZ e2 F5 (v := (.int u2)) ⟨by decide, by decide⟩ rfl (hb hby own_d2_78) ?_
    show oS p e below T2 m 79 #[oa a0, oi (28 : Int32), oi (3 : Int32), oa b2, oi (0 : Int32)] [(.int u2), (.int (0 : Int32)), (.ref b2)] _
    refine st10 _ ?_
    show oS p e below T10 m 80 #[oa a0, oi (28 : Int32), oi (3 : Int32), oa b2, oi (0 : Int32)] [] _
    refine XS.iinc X10.here hx rfl (hb hby own_d2_80) rfl (l' := #[oa a0, oi (28 : Int32), oi (3 : Int32), oa b2, oi (1 : Int32)]) rfl ?_
    refine XS.iloadN X10.here hx rfl (hb hby own_d2_83) rfl ?_
    refine XS.bipush X10.here hx rfl (hb hby own_d2_84) ?_
    refine XS.iand X10.here hx rfl (hb hby own_d2_86) rfl ?_
    show oS p e below T10 m 87 #[oa a0, oi (28 : Int32), oi (3 : Int32), oa b2, oi (1 : Int32)] [(.int (8 : Int32))] _
    refine XS.ifNo X10.here hx rfl (hb hby own_d2_87) rfl ((if0 _ _).trans (feq b15).1) ?_
    refine XS.aloadN X10.here hx rfl (hb hby own_d2_90) rfl rfl ?_
    refine XS.iload X10.here hx rfl (hb hby own_d2_91) rfl ?_
    refine XS.aloadN X10.here hx rfl (hb hby own_d2_93) rfl rfl ?_
    show oS p e below T10 m 94 #[oa a0, oi (28 : Int32), oi (3 : Int32), oa b2, oi (1 : Int32)] [(.ref a0), (.int (1 : Int32)), (.ref b2)] _
    refine XS.iconst X10.here hx rfl (hb hby own_d2_94) ?_
    show oS p e below T10 m 95 #[oa a0, oi (28 : Int32), oi (3 : Int32), oa b2, oi (1 : Int32)] [(.int (3 : Int32)), (.ref a0), (.int (1 : Int32)), (.ref b2)] _
    refine oLdI X10 hx hZ e10 F11 (v := (.int u3)) ⟨by decide, by decide⟩ rfl (hb hby own_d2_95) ?_
    show oS p e below T10 m 96 #[oa a0, oi (28 : Int32), oi (3 : Int32), oa b2, oi (1 : Int32)] [(.int u3), (.int (1 : Int32)), (.ref b2)] _
    refine st16 _ ?_
    show oS p e below T16 m 97 #[oa a0, oi (28 : Int32), oi (3 : Int32), oa b2, oi (1 : Int32)] [] _
    refine XS.iinc X16.here hx rfl (hb hby own_d2_97) rfl (l' := #[oa a0, oi (28 : Int32), oi (3 : Int32), oa b2, oi (2 : Int32)]) rfl ?_
    refine XS.iloadN X16.here hx rfl (hb hby own_d2_100) rfl ?_
    refine XS.bipush X16.here hx rfl (hb hby own_d2_101) ?_
    refine XS.iand X16.here hx rfl (hb hby own_d2_103) rfl ?_
    show oS p e below T16 m 104 #[oa a0, oi (28 : Int32), oi (3 : Int32), oa b2, oi (2 : Int32)] [(.int (16 : Int32))] _
    refine XS.ifNo X16.here hx rfl (hb hby own_d2_104) rfl ((if0 _ _).trans (feq b21).1) ?_
    refine XS.aloadN X16.here hx rfl (hb hby own_d2_107) rfl rfl ?_
    refine XS.iload X16.here hx rfl (hb hby own_d2_108) rfl ?_
    refine XS.aloadN X16.here hx rfl (hb hby own_d2_110) rfl rfl ?_
    show oS p e below T16 m 111 #[oa a0, oi (28 : Int32), oi (3 : Int32), oa b2, oi (2 : Int32)] [(.ref a0), (.int (2 : Int32)), (.ref b2)] _
    refine XS.iconst X16.here hx rfl (hb hby own_d2_111) ?_
    show oS p e below T16 m 112 #[oa a0, oi (28 : Int32), oi (3 : Int32), oa b2, oi (2 : Int32)] [(.int (4 : Int32)), (.ref a0), (.int (2 : Int32)), (.ref b2)] _
    refine oLdI X16 hx hZ e16 F17 (v := (.int u4)) ⟨by decide, by decide⟩ rfl (hb hby own_d2_112) ?_
    show oS p e below T16 m 113 #[oa a0, oi (28 : Int32), oi (3 : Int32), oa b2, oi (2 : Int32)] [(.int u4), (.int (2 : Int32)), (.ref b2)] _
    refine st22 _ ?_
    show oS p e below T22 m 114 #[oa a0, oi (28 : Int32), oi (3 : Int32), oa b2, oi (2 : Int32)] [] _
    refine XS.iinc X22.here hx rfl (hb hby own_d2_114) rfl (l' := #[oa a0, oi (28 : Int32), oi (3 : Int32), oa b2, oi (3 : Int32)]) rfl ?_
    refine XS.aloadN X22.here hx rfl (hb hby own_d2_117) rfl rfl ?_
    show oS p e below T22 m 118 #[oa a0, oi (28 : Int32), oi (3 : Int32), oa b2, oi (3 : Int32)] [(.ref b2)] _
    exact retOut X22 hx Bd.returns rfl (Or.inr (Or.inr (Or.inr (Or.inr ⟨rfl, rfl, rfl⟩)))) (hb hby own_d2_118) hr
  · show own_Q2 Z a0 p1 k_a0 u0 u1 u2 u3 u4 h0 n0 _ T22.heap _
    rw [e22]
    refine ⟨b2, k2, rfl, N22, K_26, sz_b2, ?_⟩
    rw [km, show own_z (28 : Int32) = (3 : Int32) by decide +kernel, own_pk, show own_idx (28 : Int32) = [2, 3, 4] by decide +kernel]
    exact V_25
set_option maxRecDepth 65536 in
set_option maxHeartbeats 40000000 in
theorem own_rm2_29 (l : Launch) (Z : State) (av : Array Value) (hw : ∀ d ∈ tables_1, d.before av Z = true) (ws : List Jvm.Cond) (a0 : Addr) (p1 : Int32) (k_a0 : ClassId) (u0 : Int32) (u1 : Int32) (u2 : Int32) (u3 : Int32) (u4 : Int32) (h0 : Heap) (n0 : Nat) (Z0 : n0 ≤ h0.size) (V_a0 : Arv Z h0 a0 k_a0 .int (5 : Int32) [(.int u0), (.int u1), (.int u2), (.int u3), (.int u4)] (.int (0 : Int32))) (km : p1 = (29 : Int32)) :
    MetFree l (⟨"com/example/strict_anon/strictanon/service/RecordSetsDifferencePinLaw", "pick", "([II)[I"⟩ : MethodName) (head1 (Jvm.Cond.code (⟨"com/example/strict_anon/strictanon/service/RecordSetsDifferencePinLaw", "pick", "([II)[I"⟩ : MethodName) method_3_code 5 (some (.array .int)) :: ws) ({ frames := 0, cells := 1, slots := 5, locals := 0 } : Room)) (fun a U => a = #[(.ref a0), (.int p1)] ∧ Z.Warmed39 U.vm ∧ U.heap = h0) (fun _ _ _ _ _ => True) (fun _ U o U' => ∃ v L, o = .returned v ∧ own_Q2 Z a0 p1 k_a0 u0 u1 u2 u3 u4 h0 n0 v U'.heap L ∧ FrameEnd U o U' L ({ frames := 0, cells := 1, slots := 5, locals := 0 } : Room).cells ({ frames := 0, cells := 1, slots := 5, locals := 0 } : Room).slots) := by
  refine MetFree.of_bodySF (plainFor_of_name own_pn0) hisR ?_
  intro p e s m args below meth c s₁ Bd hml0 hP hK
  obtain ⟨rfl, hZ, hh⟩ := hP
  have hx := Bd.exec
  have hby := Bd.bytes
  have hml : c.maxLocals = 5 := hml0
  have hown : s.vm.findClass "com/example/strict_anon/strictanon/service/RecordSetsDifferencePinLaw" = some m.cls := findClass_of_methodNamed Bd.named
  have hnm := (name_of_methodNamed Bd.named Bd.method).1
  have X0 : Stand p l e ({ frames := 0, cells := 1, slots := 5, locals := 0 } : Room) s m #[(.ref a0), (.int p1)] below meth c s₁ [] 0 0 := Stand.of_body Bd
  have e0 : s₁.heap = h0 := by rw [← hh, Bd.state]; rfl
  have N0 := Fr.nil n0
  have pre0 : ∀ t, Steps p.tables e below (s₁.setTop (mkF m 0 #[oa a0, oi p1, .unset, .unset, .unset] [])) t → Steps p.tables e below (s₁.setTop (entryFrame m #[(.ref a0), (.int p1)] 5)) t := fun t k => castTop (own_ef2 m a0 p1) k
  have pre1 : ∀ t, Steps p.tables e below (s₁.setTop (mkF m 0 #[oa a0, oi (29 : Int32), .unset, .unset, .unset] [])) t → Steps p.tables e below (s₁.setTop (entryFrame m #[(.ref a0), (.int p1)] 5)) t := by
    intro t k
    refine pre0 t ?_
    rw [km]
    exact k
  obtain ⟨T2, h2, k2, X2, e2, E2, A2, B2, st2⟩ := newPE X0 hx hZ (hw _ (List.mem_of_getElem? (i := 6) rfl)) e0 (g := (mkF m 29 #[oa a0, oi (29 : Int32), oi (4 : Int32), .unset, .unset] [(.int (4 : Int32))])) rfl (hb hby own_d2_29) rfl (by decide) (cap := 4) (by decide) (by decide) (by decide) (by decide) (ad := "[I") rfl
  obtain ⟨b2, g2⟩ : ∃ z, z = h0.size := ⟨_, rfl⟩
  rw [← g2] at A2 st2 B2
  have g_b2 : n0 ≤ b2 := Nat.le_trans Z0 (Nat.le_of_eq g2.symm)
  have ne3 : a0 ≠ b2 := Nat.ne_of_lt (Nat.lt_of_lt_of_le V_a0.lt (Nat.le_of_eq g2.symm))
  have Z2 : n0 ≤ h2.size := Nat.le_trans Z0 E2.1
  have sz_b2 : h0.size ≤ b2 := Nat.le_trans (Keep.refl h0 []).1 (Nat.le_of_eq g2.symm)
  have K_4 : Keep h0 h2 [] := (Keep.refl h0 []).ext E2
  have F5 := V_a0.ext E2
  have V_6 : Arv Z h2 b2 k2 .int (4 : Int32) [(.int (0 : Int32)), (.int (0 : Int32)), (.int (0 : Int32)), (.int (0 : Int32))] (.int (0 : Int32)) := (Arv.new A2 (by decide)).pad (pad_rep [] (.int (0 : Int32)) 4)
  have b7 : ¬ ((1 : Int32) = (0 : Int32)) := (by decide)
  obtain ⟨T8, h8, X8, e8, W8, V8, st8⟩ := oStI X2 hx hZ e2 V_6 (j := (0 : Int32)) ⟨by decide, by decide⟩ 0 rfl (Nat.le_of_ble_eq_true rfl) (g := (mkF m 47 #[oa a0, oi (29 : Int32), oi (4 : Int32), oa b2, oi (0 : Int32)] [(.int u0), (.int (0 : Int32)), (.ref b2)])) rfl rfl (hb hby own_d2_47)
  obtain ⟨Lo8, X8, N8⟩ := oOpq X8 (Fr.snoc X8 N0 g_b2)
  have Z8 := Nat.le_trans Z2 (Keep.of_wr W8).1
  have F9 := F5.other W8 ne3
  have F10 := B2.wr W8
  have V_11 : Arv Z h8 b2 k2 .int (4 : Int32) [(.int u0), (.int (0 : Int32)), (.int (0 : Int32)), (.int (0 : Int32))] (.int (0 : Int32)) := V8
  have K_12 : Keep h0 h8 [] := K_4.wr W8 (Or.inr sz_b2)
  have b13 : (0 : Int32) = (0 : Int32) := (by decide)
  have b14 : ¬ ((4 : Int32) = (0 : Int32)) := (by decide)
  obtain ⟨T15, h15, X15, e15, W15, V15, st15⟩ := oStI X8 hx hZ e8 V_11 (j := (1 : Int32)) ⟨by decide, by decide⟩ 1 rfl (Nat.le_of_ble_eq_true rfl) (g := (mkF m 79 #[oa a0, oi (29 : Int32), oi (4 : Int32), oa b2, oi (1 : Int32)] [(.int u2), (.int (1 : Int32)), (.ref b2)])) rfl rfl (hb hby own_d2_79)
  obtain ⟨Lo15, X15, N15⟩ := oOpq X15 (Fr.snoc X15 N8 g_b2)
  have Z15 := Nat.le_trans Z8 (Keep.of_wr W15).1
  have F16 := F9.other W15 ne3
  have F17 := F10.wr W15
  have V_18 : Arv Z h15 b2 k2 .int (4 : Int32) [(.int u0), (.int u2), (.int (0 : Int32)), (.int (0 : Int32))] (.int (0 : Int32)) := V15
  have K_19 : Keep h0 h15 [] := K_12.wr W15 (Or.inr sz_b2)
  have b20 : ¬ ((8 : Int32) = (0 : Int32)) := (by decide)
  obtain ⟨T21, h21, X21, e21, W21, V21, st21⟩ := oStI X15 hx hZ e15 V_18 (j := (2 : Int32)) ⟨by decide, by decide⟩ 2 rfl (Nat.le_of_ble_eq_true rfl) (g := (mkF m 96 #[oa a0, oi (29 : Int32), oi (4 : Int32), oa b2, oi (2 : Int32)] [(.int u3), (.int (2 : Int32)), (.ref b2)])) rfl rfl (hb hby own_d2_96)
  obtain ⟨Lo21, X21, N21⟩ := oOpq X21 (Fr.snoc X21 N15 g_b2)
  have Z21 := Nat.le_trans Z15 (Keep.of_wr W21).1
  have F22 := F16.other W21 ne3
  have F23 := F17.wr W21
  have V_24 : Arv Z h21 b2 k2 .int (4 : Int32) [(.int u0), (.int u2), (.int u3), (.int (0 : Int32))] (.int (0 : Int32)) := V21
  have K_25 : Keep h0 h21 [] := K_19.wr W21 (Or.inr sz_b2)
  have b26 : ¬ ((16 : Int32) = (0 : Int32)) := (by decide)
  obtain ⟨T27, h27, X27, e27, W27, V27, st27⟩ := oStI X21 hx hZ e21 V_24 (j := (3 : Int32)) ⟨by decide, by decide⟩ 3 rfl (Nat.le_of_ble_eq_true rfl) (g := (mkF m 113 #[oa a0, oi (29 : Int32), oi (4 : Int32), oa b2, oi (3 : Int32)] [(.int u4), (.int (3 : Int32)), (.ref b2)])) rfl rfl (hb hby own_d2_113)
  obtain ⟨Lo27, X27, N27⟩ := oOpq X27 (Fr.snoc X27 N21 g_b2)
  have Z27 := Nat.le_trans Z21 (Keep.of_wr W27).1
  have F28 := F22.other W27 ne3
  have F29 := F23.wr W27
  have V_30 : Arv Z h27 b2 k2 .int (4 : Int32) [(.int u0), (.int u2), (.int u3), (.int u4)] (.int (0 : Int32)) := V27
  have K_31 : Keep h0 h27 [] := K_25.wr W27 (Or.inr sz_b2)
  obtain ⟨fs, hr, hrun, hended, hW, hsame⟩ := X27.leave (v := (some (.ref b2))) (fun h => by rw [Bd.returns] at h; cases h)
  refine ⟨_, _, pre1 _ ?_, hrun, hended, _, _, rfl, ?_, ⟨_, rfl⟩, hW, hsame.mono (by decide) (by decide)⟩
  · show oS p e below s₁ m 0 #[oa a0, oi (29 : Int32), .unset, .unset, .unset] [] _
    refine XS.iloadN X0.here hx rfl (hb hby own_d2_0) rfl ?_
    refine XS.iconst X0.here hx rfl (hb hby own_d2_1) ?_
    refine XS.iand X0.here hx rfl (hb hby own_d2_2) rfl ?_
    refine XS.iloadN X0.here hx rfl (hb hby own_d2_3) rfl ?_
    show oS p e below s₁ m 4 #[oa a0, oi (29 : Int32), .unset, .unset, .unset] [(.int (29 : Int32)), (.int (1 : Int32))] _
    refine XS.iconst X0.here hx rfl (hb hby own_d2_4) ?_
    show oS p e below s₁ m 5 #[oa a0, oi (29 : Int32), .unset, .unset, .unset] [(.int (1 : Int32)), (.int (29 : Int32)), (.int (1 : Int32))] _
    refine XS.iushr X0.here hx rfl (hb hby own_d2_5) rfl ?_
    refine XS.iconst X0.here hx rfl (hb hby own_d2_6) ?_
    refine XS.iand X0.here hx rfl (hb hby own_d2_7) rfl ?_
    refine XS.iadd X0.here hx rfl (hb hby own_d2_8) rfl ?_
    show oS p e below s₁ m 9 #[oa a0, oi (29 : Int32), .unset, .unset, .unset] [(.int (1 : Int32))] _
    refine XS.iloadN X0.here hx rfl (hb hby own_d2_9) rfl ?_
    refine XS.iconst X0.here hx rfl (hb hby own_d2_10) ?_
    show oS p e below s₁ m 11 #[oa a0, oi (29 : Int32), .unset, .unset, .unset] [(.int (2 : Int32)), (.int (29 : Int32)), (.int (1 : Int32))] _
    refine XS.iushr X0.here hx rfl (hb hby own_d2_11) rfl ?_
    refine XS.iconst X0.here hx rfl (hb hby own_d2_12) ?_
    refine XS.iand X0.here hx rfl (hb hby own_d2_13) rfl ?_
    refine XS.iadd X0.here hx rfl (hb hby own_d2_14) rfl ?_
    show oS p e below s₁ m 15 #[oa a0, oi (29 : Int32), .unset, .unset, .unset] [(.int (2 : Int32))] _
    refine XS.iloadN X0.here hx rfl (hb hby own_d2_15) rfl ?_
    refine XS.iconst X0.here hx rfl (hb hby own_d2_16) ?_
    show oS p e below s₁ m 17 #[oa a0, oi (29 : Int32), .unset, .unset, .unset] [(.int (3 : Int32)), (.int (29 : Int32)), (.int (2 : Int32))] _
    refine XS.iushr X0.here hx rfl (hb hby own_d2_17) rfl ?_
    refine XS.iconst X0.here hx rfl (hb hby own_d2_18) ?_
    refine XS.iand X0.here hx rfl (hb hby own_d2_19) rfl ?_
    refine XS.iadd X0.here hx rfl (hb hby own_d2_20) rfl ?_
    show oS p e below s₁ m 21 #[oa a0, oi (29 : Int32), .unset, .unset, .unset] [(.int (3 : Int32))] _
    refine XS.iloadN X0.here hx rfl (hb hby own_d2_21) rfl ?_
    refine XS.iconst X0.here hx rfl (hb hby own_d2_22) ?_
    show oS p e below s₁ m 23 #[oa a0, oi (29 : Int32), .unset, .unset, .unset] [(.int (4 : Int32)), (.int (29 : Int32)), (.int (3 : Int32))] _
    refine XS.iushr X0.here hx rfl (hb hby own_d2_23) rfl ?_
    refine XS.iconst X0.here hx rfl (hb hby own_d2_24) ?_
    refine XS.iand X0.here hx rfl (hb hby own_d2_25) rfl ?_
    refine XS.iadd X0.here hx rfl (hb hby own_d2_26) rfl ?_
    show oS p e below s₁ m 27 #[oa a0, oi (29 : Int32), .unset, .unset, .unset] [(.int (4 : Int32))] _
    refine XS.istoreN X0.here hx rfl (hb hby own_d2_27) rfl (l' := #[oa a0, oi (29 : Int32), oi (4 : Int32), .unset, .unset]) rfl ?_
    refine XS.iloadN X0.here hx rfl (hb hby own_d2_28) rfl ?_
    show oS p e below s₁ m 29 #[oa a0, oi (29 : Int32), oi (4 : Int32), .unset, .unset] [(.int (4 : Int32))] _
    refine st2 _ ?_
    show oS p e below T2 m 31 #[oa a0, oi (29 : Int32), oi (4 : Int32), .unset, .unset] [(.ref b2)] _
    refine XS.astoreN X2.here hx rfl (hb hby own_d2_31) rfl rfl (l' := #[oa a0, oi (29 : Int32), oi (4 : Int32), oa b2, .unset]) rfl ?_
    refine XS.iconst X2.here hx rfl (hb hby own_d2_32) ?_
    refine XS.istore X2.here hx rfl (hb hby own_d2_33) rfl (l' := #[oa a0, oi (29 : Int32), oi (4 : Int32), oa b2, oi (0 : Int32)]) rfl ?_
    refine XS.iloadN X2.here hx rfl (hb hby own_d2_35) rfl ?_
    show oS p e below T2 m 36 #[oa a0, oi (29 : Int32), oi (4 : Int32), oa b2, oi (0 : Int32)] [(.int (29 : Int32))] _
    refine XS.iconst X2.here hx rfl (hb hby own_d2_36) ?_
    refine XS.iand X2.here hx rfl (hb hby own_d2_37) rfl ?_
    show oS p e below T2 m 38 #[oa a0, oi (29 : Int32), oi (4 : Int32), oa b2, oi (0 : Int32)] [(.int (1 : Int32))] _
    refine XS.ifNo X2.here hx rfl (hb hby own_d2_38) rfl ((if0 _ _).trans (feq b7).1) ?_
    refine XS.aloadN X2.here hx rfl (hb hby own_d2_41) rfl rfl ?_
    refine XS.iload X2.here hx rfl (hb hby own_d2_42) rfl ?_
    refine XS.aloadN X2.here hx rfl (hb hby own_d2_44) rfl rfl ?_
    show oS p e below T2 m 45 #[oa a0, oi (29 : Int32), oi (4 : Int32), oa b2, oi (0 : Int32)] [(.ref a0), (.int (0 : Int32)), (.ref b2)] _
    refine XS.iconst X2.here hx rfl (hb hby own_d2_45) ?_
    show oS p e below T2 m 46 #[oa a0, oi (29 : Int32), oi (4 : Int32), oa b2, oi (0 : Int32)] [(.int (0 : Int32)), (.ref a0), (.int (0 : Int32)), (.ref b2)] _
    refine oLdI X2 hx hZ e2 F5 (v := (.int u0)) ⟨by decide, by decide⟩ rfl (hb hby own_d2_46) ?_
    show oS p e below T2 m 47 #[oa a0, oi (29 : Int32), oi (4 : Int32), oa b2, oi (0 : Int32)] [(.int u0), (.int (0 : Int32)), (.ref b2)] _
    refine st8 _ ?_
    show oS p e below T8 m 48 #[oa a0, oi (29 : Int32), oi (4 : Int32), oa b2, oi (0 : Int32)] [] _
    refine XS.iinc X8.here hx rfl (hb hby own_d2_48) rfl (l' := #[oa a0, oi (29 : Int32), oi (4 : Int32), oa b2, oi (1 : Int32)]) rfl ?_
    refine XS.iloadN X8.here hx rfl (hb hby own_d2_51) rfl ?_
    refine XS.iconst X8.here hx rfl (hb hby own_d2_52) ?_
    refine XS.iand X8.here hx rfl (hb hby own_d2_53) rfl ?_
    show oS p e below T8 m 54 #[oa a0, oi (29 : Int32), oi (4 : Int32), oa b2, oi (1 : Int32)] [(.int (0 : Int32))] _
    refine XS.ifYes X8.here hx rfl (pc0 := 54) (pc' := 67) rfl (hb hby own_d2_54) rfl ((if0 _ _).trans (teq b13).1) (by decide) (by decide) ?_
    refine XS.iloadN X8.here hx rfl (hb hby own_d2_67) rfl ?_
    refine XS.iconst X8.here hx rfl (hb hby own_d2_68) ?_
    refine XS.iand X8.here hx rfl (hb hby own_d2_69) rfl ?_
    show oS p e below T8 m 70 #[oa a0, oi (29 : Int32), oi (4 : Int32), oa b2, oi (1 : Int32)] [(.int (4 : Int32))] _
    refine XS.ifNo X8.here hx rfl (hb hby own_d2_70) rfl ((if0 _ _).trans (feq b14).1) ?_
    refine XS.aloadN X8.here hx rfl (hb hby own_d2_73) rfl rfl ?_
    refine XS.iload X8.here hx rfl (hb hby own_d2_74) rfl ?_
    refine XS.aloadN X8.here hx rfl (hb hby own_d2_76) rfl rfl ?_
    show oS p e below T8 m 77 #[oa a0, oi (29 : Int32), oi (4 : Int32), oa b2, oi (1 : Int32)] [(.ref a0), (.int (1 : Int32)), (.ref b2)] _
    refine XS.iconst X8.here hx rfl (hb hby own_d2_77) ?_
    show oS p e below T8 m 78 #[oa a0, oi (29 : Int32), oi (4 : Int32), oa b2, oi (1 : Int32)] [(.int (2 : Int32)), (.ref a0), (.int (1 : Int32)), (.ref b2)] _
    refine oLdI X8 hx hZ e8 F9 (v := (.int u2)) ⟨by decide, by decide⟩ rfl (hb hby own_d2_78) ?_
    show oS p e below T8 m 79 #[oa a0, oi (29 : Int32), oi (4 : Int32), oa b2, oi (1 : Int32)] [(.int u2), (.int (1 : Int32)), (.ref b2)] _
    refine st15 _ ?_
    show oS p e below T15 m 80 #[oa a0, oi (29 : Int32), oi (4 : Int32), oa b2, oi (1 : Int32)] [] _
    refine XS.iinc X15.here hx rfl (hb hby own_d2_80) rfl (l' := #[oa a0, oi (29 : Int32), oi (4 : Int32), oa b2, oi (2 : Int32)]) rfl ?_
    refine XS.iloadN X15.here hx rfl (hb hby own_d2_83) rfl ?_
    refine XS.bipush X15.here hx rfl (hb hby own_d2_84) ?_
    refine XS.iand X15.here hx rfl (hb hby own_d2_86) rfl ?_
    show oS p e below T15 m 87 #[oa a0, oi (29 : Int32), oi (4 : Int32), oa b2, oi (2 : Int32)] [(.int (8 : Int32))] _
    refine XS.ifNo X15.here hx rfl (hb hby own_d2_87) rfl ((if0 _ _).trans (feq b20).1) ?_
    refine XS.aloadN X15.here hx rfl (hb hby own_d2_90) rfl rfl ?_
    refine XS.iload X15.here hx rfl (hb hby own_d2_91) rfl ?_
    refine XS.aloadN X15.here hx rfl (hb hby own_d2_93) rfl rfl ?_
    show oS p e below T15 m 94 #[oa a0, oi (29 : Int32), oi (4 : Int32), oa b2, oi (2 : Int32)] [(.ref a0), (.int (2 : Int32)), (.ref b2)] _
    refine XS.iconst X15.here hx rfl (hb hby own_d2_94) ?_
    show oS p e below T15 m 95 #[oa a0, oi (29 : Int32), oi (4 : Int32), oa b2, oi (2 : Int32)] [(.int (3 : Int32)), (.ref a0), (.int (2 : Int32)), (.ref b2)] _
    refine oLdI X15 hx hZ e15 F16 (v := (.int u3)) ⟨by decide, by decide⟩ rfl (hb hby own_d2_95) ?_
    show oS p e below T15 m 96 #[oa a0, oi (29 : Int32), oi (4 : Int32), oa b2, oi (2 : Int32)] [(.int u3), (.int (2 : Int32)), (.ref b2)] _
    refine st21 _ ?_
    show oS p e below T21 m 97 #[oa a0, oi (29 : Int32), oi (4 : Int32), oa b2, oi (2 : Int32)] [] _
    refine XS.iinc X21.here hx rfl (hb hby own_d2_97) rfl (l' := #[oa a0, oi (29 : Int32), oi (4 : Int32), oa b2, oi (3 : Int32)]) rfl ?_
    refine XS.iloadN X21.here hx rfl (hb hby own_d2_100) rfl ?_
    refine XS.bipush X21.here hx rfl (hb hby own_d2_101) ?_
    refine XS.iand X21.here hx rfl (hb hby own_d2_103) rfl ?_
    show oS p e below T21 m 104 #[oa a0, oi (29 : Int32), oi (4 : Int32), oa b2, oi (3 : Int32)] [(.int (16 : Int32))] _
    refine XS.ifNo X21.here hx rfl (hb hby own_d2_104) rfl ((if0 _ _).trans (feq b26).1) ?_
    refine XS.aloadN X21.here hx rfl (hb hby own_d2_107) rfl rfl ?_
    refine XS.iload X21.here hx rfl (hb hby own_d2_108) rfl ?_
    refine XS.aloadN X21.here hx rfl (hb hby own_d2_110) rfl rfl ?_
    show oS p e below T21 m 111 #[oa a0, oi (29 : Int32), oi (4 : Int32), oa b2, oi (3 : Int32)] [(.ref a0), (.int (3 : Int32)), (.ref b2)] _
    refine XS.iconst X21.here hx rfl (hb hby own_d2_111) ?_
    show oS p e below T21 m 112 #[oa a0, oi (29 : Int32), oi (4 : Int32), oa b2, oi (3 : Int32)] [(.int (4 : Int32)), (.ref a0), (.int (3 : Int32)), (.ref b2)] _
    refine oLdI X21 hx hZ e21 F22 (v := (.int u4)) ⟨by decide, by decide⟩ rfl (hb hby own_d2_112) ?_
    show oS p e below T21 m 113 #[oa a0, oi (29 : Int32), oi (4 : Int32), oa b2, oi (3 : Int32)] [(.int u4), (.int (3 : Int32)), (.ref b2)] _
    refine st27 _ ?_
    show oS p e below T27 m 114 #[oa a0, oi (29 : Int32), oi (4 : Int32), oa b2, oi (3 : Int32)] [] _
    refine XS.iinc X27.here hx rfl (hb hby own_d2_114) rfl (l' := #[oa a0, oi (29 : Int32), oi (4 : Int32), oa b2, oi (4 : Int32)]) rfl ?_
    refine XS.aloadN X27.here hx rfl (hb hby own_d2_117) rfl rfl ?_
    show oS p e below T27 m 118 #[oa a0, oi (29 : Int32), oi (4 : Int32), oa b2, oi (4 : Int32)] [(.ref b2)] _
    exact retOut X27 hx Bd.returns rfl (Or.inr (Or.inr (Or.inr (Or.inr ⟨rfl, rfl, rfl⟩)))) (hb hby own_d2_118) hr
  · show own_Q2 Z a0 p1 k_a0 u0 u1 u2 u3 u4 h0 n0 _ T27.heap _
    rw [e27]
    refine ⟨b2, k2, rfl, N27, K_31, sz_b2, ?_⟩
    rw [km, show own_z (29 : Int32) = (4 : Int32) by decide +kernel, own_pk, show own_idx (29 : Int32) = [0, 2, 3, 4] by decide +kernel]
    exact V_30
set_option maxRecDepth 65536 in
set_option maxHeartbeats 40000000 in
theorem own_rm2_30 (l : Launch) (Z : State) (av : Array Value) (hw : ∀ d ∈ tables_1, d.before av Z = true) (ws : List Jvm.Cond) (a0 : Addr) (p1 : Int32) (k_a0 : ClassId) (u0 : Int32) (u1 : Int32) (u2 : Int32) (u3 : Int32) (u4 : Int32) (h0 : Heap) (n0 : Nat) (Z0 : n0 ≤ h0.size) (V_a0 : Arv Z h0 a0 k_a0 .int (5 : Int32) [(.int u0), (.int u1), (.int u2), (.int u3), (.int u4)] (.int (0 : Int32))) (km : p1 = (30 : Int32)) :
    MetFree l (⟨"com/example/strict_anon/strictanon/service/RecordSetsDifferencePinLaw", "pick", "([II)[I"⟩ : MethodName) (head1 (Jvm.Cond.code (⟨"com/example/strict_anon/strictanon/service/RecordSetsDifferencePinLaw", "pick", "([II)[I"⟩ : MethodName) method_3_code 5 (some (.array .int)) :: ws) ({ frames := 0, cells := 1, slots := 5, locals := 0 } : Room)) (fun a U => a = #[(.ref a0), (.int p1)] ∧ Z.Warmed39 U.vm ∧ U.heap = h0) (fun _ _ _ _ _ => True) (fun _ U o U' => ∃ v L, o = .returned v ∧ own_Q2 Z a0 p1 k_a0 u0 u1 u2 u3 u4 h0 n0 v U'.heap L ∧ FrameEnd U o U' L ({ frames := 0, cells := 1, slots := 5, locals := 0 } : Room).cells ({ frames := 0, cells := 1, slots := 5, locals := 0 } : Room).slots) := by
  refine MetFree.of_bodySF (plainFor_of_name own_pn0) hisR ?_
  intro p e s m args below meth c s₁ Bd hml0 hP hK
  obtain ⟨rfl, hZ, hh⟩ := hP
  have hx := Bd.exec
  have hby := Bd.bytes
  have hml : c.maxLocals = 5 := hml0
  have hown : s.vm.findClass "com/example/strict_anon/strictanon/service/RecordSetsDifferencePinLaw" = some m.cls := findClass_of_methodNamed Bd.named
  have hnm := (name_of_methodNamed Bd.named Bd.method).1
  have X0 : Stand p l e ({ frames := 0, cells := 1, slots := 5, locals := 0 } : Room) s m #[(.ref a0), (.int p1)] below meth c s₁ [] 0 0 := Stand.of_body Bd
  have e0 : s₁.heap = h0 := by rw [← hh, Bd.state]; rfl
  have N0 := Fr.nil n0
  have pre0 : ∀ t, Steps p.tables e below (s₁.setTop (mkF m 0 #[oa a0, oi p1, .unset, .unset, .unset] [])) t → Steps p.tables e below (s₁.setTop (entryFrame m #[(.ref a0), (.int p1)] 5)) t := fun t k => castTop (own_ef2 m a0 p1) k
  have pre1 : ∀ t, Steps p.tables e below (s₁.setTop (mkF m 0 #[oa a0, oi (30 : Int32), .unset, .unset, .unset] [])) t → Steps p.tables e below (s₁.setTop (entryFrame m #[(.ref a0), (.int p1)] 5)) t := by
    intro t k
    refine pre0 t ?_
    rw [km]
    exact k
  obtain ⟨T2, h2, k2, X2, e2, E2, A2, B2, st2⟩ := newPE X0 hx hZ (hw _ (List.mem_of_getElem? (i := 6) rfl)) e0 (g := (mkF m 29 #[oa a0, oi (30 : Int32), oi (4 : Int32), .unset, .unset] [(.int (4 : Int32))])) rfl (hb hby own_d2_29) rfl (by decide) (cap := 4) (by decide) (by decide) (by decide) (by decide) (ad := "[I") rfl
  obtain ⟨b2, g2⟩ : ∃ z, z = h0.size := ⟨_, rfl⟩
  rw [← g2] at A2 st2 B2
  have g_b2 : n0 ≤ b2 := Nat.le_trans Z0 (Nat.le_of_eq g2.symm)
  have ne3 : a0 ≠ b2 := Nat.ne_of_lt (Nat.lt_of_lt_of_le V_a0.lt (Nat.le_of_eq g2.symm))
  have Z2 : n0 ≤ h2.size := Nat.le_trans Z0 E2.1
  have sz_b2 : h0.size ≤ b2 := Nat.le_trans (Keep.refl h0 []).1 (Nat.le_of_eq g2.symm)
  have K_4 : Keep h0 h2 [] := (Keep.refl h0 []).ext E2
  have F5 := V_a0.ext E2
  have V_6 : Arv Z h2 b2 k2 .int (4 : Int32) [(.int (0 : Int32)), (.int (0 : Int32)), (.int (0 : Int32)), (.int (0 : Int32))] (.int (0 : Int32)) := (Arv.new A2 (by decide)).pad (pad_rep [] (.int (0 : Int32)) 4)
  have b7 : (0 : Int32) = (0 : Int32) := (by decide)
  have b8 : ¬ ((2 : Int32) = (0 : Int32)) := (by decide)
  obtain ⟨T9, h9, X9, e9, W9, V9, st9⟩ := oStI X2 hx hZ e2 V_6 (j := (0 : Int32)) ⟨by decide, by decide⟩ 0 rfl (Nat.le_of_ble_eq_true rfl) (g := (mkF m 63 #[oa a0, oi (30 : Int32), oi (4 : Int32), oa b2, oi (0 : Int32)] [(.int u1), (.int (0 : Int32)), (.ref b2)])) rfl rfl (hb hby own_d2_63)
  obtain ⟨Lo9, X9, N9⟩ := oOpq X9 (Fr.snoc X9 N0 g_b2)
  have Z9 := Nat.le_trans Z2 (Keep.of_wr W9).1
  have F10 := F5.other W9 ne3
  have F11 := B2.wr W9
  have V_12 : Arv Z h9 b2 k2 .int (4 : Int32) [(.int u1), (.int (0 : Int32)), (.int (0 : Int32)), (.int (0 : Int32))] (.int (0 : Int32)) := V9
  have K_13 : Keep h0 h9 [] := K_4.wr W9 (Or.inr sz_b2)
  have b14 : ¬ ((4 : Int32) = (0 : Int32)) := (by decide)
  obtain ⟨T15, h15, X15, e15, W15, V15, st15⟩ := oStI X9 hx hZ e9 V_12 (j := (1 : Int32)) ⟨by decide, by decide⟩ 1 rfl (Nat.le_of_ble_eq_true rfl) (g := (mkF m 79 #[oa a0, oi (30 : Int32), oi (4 : Int32), oa b2, oi (1 : Int32)] [(.int u2), (.int (1 : Int32)), (.ref b2)])) rfl rfl (hb hby own_d2_79)
  obtain ⟨Lo15, X15, N15⟩ := oOpq X15 (Fr.snoc X15 N9 g_b2)
  have Z15 := Nat.le_trans Z9 (Keep.of_wr W15).1
  have F16 := F10.other W15 ne3
  have F17 := F11.wr W15
  have V_18 : Arv Z h15 b2 k2 .int (4 : Int32) [(.int u1), (.int u2), (.int (0 : Int32)), (.int (0 : Int32))] (.int (0 : Int32)) := V15
  have K_19 : Keep h0 h15 [] := K_13.wr W15 (Or.inr sz_b2)
  have b20 : ¬ ((8 : Int32) = (0 : Int32)) := (by decide)
  obtain ⟨T21, h21, X21, e21, W21, V21, st21⟩ := oStI X15 hx hZ e15 V_18 (j := (2 : Int32)) ⟨by decide, by decide⟩ 2 rfl (Nat.le_of_ble_eq_true rfl) (g := (mkF m 96 #[oa a0, oi (30 : Int32), oi (4 : Int32), oa b2, oi (2 : Int32)] [(.int u3), (.int (2 : Int32)), (.ref b2)])) rfl rfl (hb hby own_d2_96)
  obtain ⟨Lo21, X21, N21⟩ := oOpq X21 (Fr.snoc X21 N15 g_b2)
  have Z21 := Nat.le_trans Z15 (Keep.of_wr W21).1
  have F22 := F16.other W21 ne3
  have F23 := F17.wr W21
  have V_24 : Arv Z h21 b2 k2 .int (4 : Int32) [(.int u1), (.int u2), (.int u3), (.int (0 : Int32))] (.int (0 : Int32)) := V21
  have K_25 : Keep h0 h21 [] := K_19.wr W21 (Or.inr sz_b2)
  have b26 : ¬ ((16 : Int32) = (0 : Int32)) := (by decide)
  obtain ⟨T27, h27, X27, e27, W27, V27, st27⟩ := oStI X21 hx hZ e21 V_24 (j := (3 : Int32)) ⟨by decide, by decide⟩ 3 rfl (Nat.le_of_ble_eq_true rfl) (g := (mkF m 113 #[oa a0, oi (30 : Int32), oi (4 : Int32), oa b2, oi (3 : Int32)] [(.int u4), (.int (3 : Int32)), (.ref b2)])) rfl rfl (hb hby own_d2_113)
  obtain ⟨Lo27, X27, N27⟩ := oOpq X27 (Fr.snoc X27 N21 g_b2)
  have Z27 := Nat.le_trans Z21 (Keep.of_wr W27).1
  have F28 := F22.other W27 ne3
  have F29 := F23.wr W27
  have V_30 : Arv Z h27 b2 k2 .int (4 : Int32) [(.int u1), (.int u2), (.int u3), (.int u4)] (.int (0 : Int32)) := V27
  have K_31 : Keep h0 h27 [] := K_25.wr W27 (Or.inr sz_b2)
  obtain ⟨fs, hr, hrun, hended, hW, hsame⟩ := X27.leave (v := (some (.ref b2))) (fun h => by rw [Bd.returns] at h; cases h)
  refine ⟨_, _, pre1 _ ?_, hrun, hended, _, _, rfl, ?_, ⟨_, rfl⟩, hW, hsame.mono (by decide) (by decide)⟩
  · show oS p e below s₁ m 0 #[oa a0, oi (30 : Int32), .unset, .unset, .unset] [] _
    refine XS.iloadN X0.here hx rfl (hb hby own_d2_0) rfl ?_
    refine XS.iconst X0.here hx rfl (hb hby own_d2_1) ?_
    refine XS.iand X0.here hx rfl (hb hby own_d2_2) rfl ?_
    refine XS.iloadN X0.here hx rfl (hb hby own_d2_3) rfl ?_
    show oS p e below s₁ m 4 #[oa a0, oi (30 : Int32), .unset, .unset, .unset] [(.int (30 : Int32)), (.int (0 : Int32))] _
    refine XS.iconst X0.here hx rfl (hb hby own_d2_4) ?_
    show oS p e below s₁ m 5 #[oa a0, oi (30 : Int32), .unset, .unset, .unset] [(.int (1 : Int32)), (.int (30 : Int32)), (.int (0 : Int32))] _
    refine XS.iushr X0.here hx rfl (hb hby own_d2_5) rfl ?_
    refine XS.iconst X0.here hx rfl (hb hby own_d2_6) ?_
    refine XS.iand X0.here hx rfl (hb hby own_d2_7) rfl ?_
    refine XS.iadd X0.here hx rfl (hb hby own_d2_8) rfl ?_
    show oS p e below s₁ m 9 #[oa a0, oi (30 : Int32), .unset, .unset, .unset] [(.int (1 : Int32))] _
    refine XS.iloadN X0.here hx rfl (hb hby own_d2_9) rfl ?_
    refine XS.iconst X0.here hx rfl (hb hby own_d2_10) ?_
    show oS p e below s₁ m 11 #[oa a0, oi (30 : Int32), .unset, .unset, .unset] [(.int (2 : Int32)), (.int (30 : Int32)), (.int (1 : Int32))] _
    refine XS.iushr X0.here hx rfl (hb hby own_d2_11) rfl ?_
    refine XS.iconst X0.here hx rfl (hb hby own_d2_12) ?_
    refine XS.iand X0.here hx rfl (hb hby own_d2_13) rfl ?_
    refine XS.iadd X0.here hx rfl (hb hby own_d2_14) rfl ?_
    show oS p e below s₁ m 15 #[oa a0, oi (30 : Int32), .unset, .unset, .unset] [(.int (2 : Int32))] _
    refine XS.iloadN X0.here hx rfl (hb hby own_d2_15) rfl ?_
    refine XS.iconst X0.here hx rfl (hb hby own_d2_16) ?_
    show oS p e below s₁ m 17 #[oa a0, oi (30 : Int32), .unset, .unset, .unset] [(.int (3 : Int32)), (.int (30 : Int32)), (.int (2 : Int32))] _
    refine XS.iushr X0.here hx rfl (hb hby own_d2_17) rfl ?_
    refine XS.iconst X0.here hx rfl (hb hby own_d2_18) ?_
    refine XS.iand X0.here hx rfl (hb hby own_d2_19) rfl ?_
    refine XS.iadd X0.here hx rfl (hb hby own_d2_20) rfl ?_
    show oS p e below s₁ m 21 #[oa a0, oi (30 : Int32), .unset, .unset, .unset] [(.int (3 : Int32))] _
    refine XS.iloadN X0.here hx rfl (hb hby own_d2_21) rfl ?_
    refine XS.iconst X0.here hx rfl (hb hby own_d2_22) ?_
    show oS p e below s₁ m 23 #[oa a0, oi (30 : Int32), .unset, .unset, .unset] [(.int (4 : Int32)), (.int (30 : Int32)), (.int (3 : Int32))] _
    refine XS.iushr X0.here hx rfl (hb hby own_d2_23) rfl ?_
    refine XS.iconst X0.here hx rfl (hb hby own_d2_24) ?_
    refine XS.iand X0.here hx rfl (hb hby own_d2_25) rfl ?_
    refine XS.iadd X0.here hx rfl (hb hby own_d2_26) rfl ?_
    show oS p e below s₁ m 27 #[oa a0, oi (30 : Int32), .unset, .unset, .unset] [(.int (4 : Int32))] _
    refine XS.istoreN X0.here hx rfl (hb hby own_d2_27) rfl (l' := #[oa a0, oi (30 : Int32), oi (4 : Int32), .unset, .unset]) rfl ?_
    refine XS.iloadN X0.here hx rfl (hb hby own_d2_28) rfl ?_
    show oS p e below s₁ m 29 #[oa a0, oi (30 : Int32), oi (4 : Int32), .unset, .unset] [(.int (4 : Int32))] _
    refine st2 _ ?_
    show oS p e below T2 m 31 #[oa a0, oi (30 : Int32), oi (4 : Int32), .unset, .unset] [(.ref b2)] _
    refine XS.astoreN X2.here hx rfl (hb hby own_d2_31) rfl rfl (l' := #[oa a0, oi (30 : Int32), oi (4 : Int32), oa b2, .unset]) rfl ?_
    refine XS.iconst X2.here hx rfl (hb hby own_d2_32) ?_
    refine XS.istore X2.here hx rfl (hb hby own_d2_33) rfl (l' := #[oa a0, oi (30 : Int32), oi (4 : Int32), oa b2, oi (0 : Int32)]) rfl ?_
    refine XS.iloadN X2.here hx rfl (hb hby own_d2_35) rfl ?_
    show oS p e below T2 m 36 #[oa a0, oi (30 : Int32), oi (4 : Int32), oa b2, oi (0 : Int32)] [(.int (30 : Int32))] _
    refine XS.iconst X2.here hx rfl (hb hby own_d2_36) ?_
    refine XS.iand X2.here hx rfl (hb hby own_d2_37) rfl ?_
    show oS p e below T2 m 38 #[oa a0, oi (30 : Int32), oi (4 : Int32), oa b2, oi (0 : Int32)] [(.int (0 : Int32))] _
    refine XS.ifYes X2.here hx rfl (pc0 := 38) (pc' := 51) rfl (hb hby own_d2_38) rfl ((if0 _ _).trans (teq b7).1) (by decide) (by decide) ?_
    refine XS.iloadN X2.here hx rfl (hb hby own_d2_51) rfl ?_
    refine XS.iconst X2.here hx rfl (hb hby own_d2_52) ?_
    refine XS.iand X2.here hx rfl (hb hby own_d2_53) rfl ?_
    show oS p e below T2 m 54 #[oa a0, oi (30 : Int32), oi (4 : Int32), oa b2, oi (0 : Int32)] [(.int (2 : Int32))] _
    refine XS.ifNo X2.here hx rfl (hb hby own_d2_54) rfl ((if0 _ _).trans (feq b8).1) ?_
    refine XS.aloadN X2.here hx rfl (hb hby own_d2_57) rfl rfl ?_
    refine XS.iload X2.here hx rfl (hb hby own_d2_58) rfl ?_
    refine XS.aloadN X2.here hx rfl (hb hby own_d2_60) rfl rfl ?_
    show oS p e below T2 m 61 #[oa a0, oi (30 : Int32), oi (4 : Int32), oa b2, oi (0 : Int32)] [(.ref a0), (.int (0 : Int32)), (.ref b2)] _
    refine XS.iconst X2.here hx rfl (hb hby own_d2_61) ?_
    show oS p e below T2 m 62 #[oa a0, oi (30 : Int32), oi (4 : Int32), oa b2, oi (0 : Int32)] [(.int (1 : Int32)), (.ref a0), (.int (0 : Int32)), (.ref b2)] _
    refine oLdI X2 hx hZ e2 F5 (v := (.int u1)) ⟨by decide, by decide⟩ rfl (hb hby own_d2_62) ?_
    show oS p e below T2 m 63 #[oa a0, oi (30 : Int32), oi (4 : Int32), oa b2, oi (0 : Int32)] [(.int u1), (.int (0 : Int32)), (.ref b2)] _
    refine st9 _ ?_
    show oS p e below T9 m 64 #[oa a0, oi (30 : Int32), oi (4 : Int32), oa b2, oi (0 : Int32)] [] _
    refine XS.iinc X9.here hx rfl (hb hby own_d2_64) rfl (l' := #[oa a0, oi (30 : Int32), oi (4 : Int32), oa b2, oi (1 : Int32)]) rfl ?_
    refine XS.iloadN X9.here hx rfl (hb hby own_d2_67) rfl ?_
    refine XS.iconst X9.here hx rfl (hb hby own_d2_68) ?_
    refine XS.iand X9.here hx rfl (hb hby own_d2_69) rfl ?_
    show oS p e below T9 m 70 #[oa a0, oi (30 : Int32), oi (4 : Int32), oa b2, oi (1 : Int32)] [(.int (4 : Int32))] _
    refine XS.ifNo X9.here hx rfl (hb hby own_d2_70) rfl ((if0 _ _).trans (feq b14).1) ?_
    refine XS.aloadN X9.here hx rfl (hb hby own_d2_73) rfl rfl ?_
    refine XS.iload X9.here hx rfl (hb hby own_d2_74) rfl ?_
    refine XS.aloadN X9.here hx rfl (hb hby own_d2_76) rfl rfl ?_
    show oS p e below T9 m 77 #[oa a0, oi (30 : Int32), oi (4 : Int32), oa b2, oi (1 : Int32)] [(.ref a0), (.int (1 : Int32)), (.ref b2)] _
    refine XS.iconst X9.here hx rfl (hb hby own_d2_77) ?_
    show oS p e below T9 m 78 #[oa a0, oi (30 : Int32), oi (4 : Int32), oa b2, oi (1 : Int32)] [(.int (2 : Int32)), (.ref a0), (.int (1 : Int32)), (.ref b2)] _
    refine oLdI X9 hx hZ e9 F10 (v := (.int u2)) ⟨by decide, by decide⟩ rfl (hb hby own_d2_78) ?_
    show oS p e below T9 m 79 #[oa a0, oi (30 : Int32), oi (4 : Int32), oa b2, oi (1 : Int32)] [(.int u2), (.int (1 : Int32)), (.ref b2)] _
    refine st15 _ ?_
    show oS p e below T15 m 80 #[oa a0, oi (30 : Int32), oi (4 : Int32), oa b2, oi (1 : Int32)] [] _
    refine XS.iinc X15.here hx rfl (hb hby own_d2_80) rfl (l' := #[oa a0, oi (30 : Int32), oi (4 : Int32), oa b2, oi (2 : Int32)]) rfl ?_
    refine XS.iloadN X15.here hx rfl (hb hby own_d2_83) rfl ?_
    refine XS.bipush X15.here hx rfl (hb hby own_d2_84) ?_
    refine XS.iand X15.here hx rfl (hb hby own_d2_86) rfl ?_
    show oS p e below T15 m 87 #[oa a0, oi (30 : Int32), oi (4 : Int32), oa b2, oi (2 : Int32)] [(.int (8 : Int32))] _
    refine XS.ifNo X15.here hx rfl (hb hby own_d2_87) rfl ((if0 _ _).trans (feq b20).1) ?_
    refine XS.aloadN X15.here hx rfl (hb hby own_d2_90) rfl rfl ?_
    refine XS.iload X15.here hx rfl (hb hby own_d2_91) rfl ?_
    refine XS.aloadN X15.here hx rfl (hb hby own_d2_93) rfl rfl ?_
    show oS p e below T15 m 94 #[oa a0, oi (30 : Int32), oi (4 : Int32), oa b2, oi (2 : Int32)] [(.ref a0), (.int (2 : Int32)), (.ref b2)] _
    refine XS.iconst X15.here hx rfl (hb hby own_d2_94) ?_
    show oS p e below T15 m 95 #[oa a0, oi (30 : Int32), oi (4 : Int32), oa b2, oi (2 : Int32)] [(.int (3 : Int32)), (.ref a0), (.int (2 : Int32)), (.ref b2)] _
    refine oLdI X15 hx hZ e15 F16 (v := (.int u3)) ⟨by decide, by decide⟩ rfl (hb hby own_d2_95) ?_
    show oS p e below T15 m 96 #[oa a0, oi (30 : Int32), oi (4 : Int32), oa b2, oi (2 : Int32)] [(.int u3), (.int (2 : Int32)), (.ref b2)] _
    refine st21 _ ?_
    show oS p e below T21 m 97 #[oa a0, oi (30 : Int32), oi (4 : Int32), oa b2, oi (2 : Int32)] [] _
    refine XS.iinc X21.here hx rfl (hb hby own_d2_97) rfl (l' := #[oa a0, oi (30 : Int32), oi (4 : Int32), oa b2, oi (3 : Int32)]) rfl ?_
    refine XS.iloadN X21.here hx rfl (hb hby own_d2_100) rfl ?_
    refine XS.bipush X21.here hx rfl (hb hby own_d2_101) ?_
    refine XS.iand X21.here hx rfl (hb hby own_d2_103) rfl ?_
    show oS p e below T21 m 104 #[oa a0, oi (30 : Int32), oi (4 : Int32), oa b2, oi (3 : Int32)] [(.int (16 : Int32))] _
    refine XS.ifNo X21.here hx rfl (hb hby own_d2_104) rfl ((if0 _ _).trans (feq b26).1) ?_
    refine XS.aloadN X21.here hx rfl (hb hby own_d2_107) rfl rfl ?_
    refine XS.iload X21.here hx rfl (hb hby own_d2_108) rfl ?_
    refine XS.aloadN X21.here hx rfl (hb hby own_d2_110) rfl rfl ?_
    show oS p e below T21 m 111 #[oa a0, oi (30 : Int32), oi (4 : Int32), oa b2, oi (3 : Int32)] [(.ref a0), (.int (3 : Int32)), (.ref b2)] _
    refine XS.iconst X21.here hx rfl (hb hby own_d2_111) ?_
    show oS p e below T21 m 112 #[oa a0, oi (30 : Int32), oi (4 : Int32), oa b2, oi (3 : Int32)] [(.int (4 : Int32)), (.ref a0), (.int (3 : Int32)), (.ref b2)] _
    refine oLdI X21 hx hZ e21 F22 (v := (.int u4)) ⟨by decide, by decide⟩ rfl (hb hby own_d2_112) ?_
    show oS p e below T21 m 113 #[oa a0, oi (30 : Int32), oi (4 : Int32), oa b2, oi (3 : Int32)] [(.int u4), (.int (3 : Int32)), (.ref b2)] _
    refine st27 _ ?_
    show oS p e below T27 m 114 #[oa a0, oi (30 : Int32), oi (4 : Int32), oa b2, oi (3 : Int32)] [] _
    refine XS.iinc X27.here hx rfl (hb hby own_d2_114) rfl (l' := #[oa a0, oi (30 : Int32), oi (4 : Int32), oa b2, oi (4 : Int32)]) rfl ?_
    refine XS.aloadN X27.here hx rfl (hb hby own_d2_117) rfl rfl ?_
    show oS p e below T27 m 118 #[oa a0, oi (30 : Int32), oi (4 : Int32), oa b2, oi (4 : Int32)] [(.ref b2)] _
    exact retOut X27 hx Bd.returns rfl (Or.inr (Or.inr (Or.inr (Or.inr ⟨rfl, rfl, rfl⟩)))) (hb hby own_d2_118) hr
  · show own_Q2 Z a0 p1 k_a0 u0 u1 u2 u3 u4 h0 n0 _ T27.heap _
    rw [e27]
    refine ⟨b2, k2, rfl, N27, K_31, sz_b2, ?_⟩
    rw [km, show own_z (30 : Int32) = (4 : Int32) by decide +kernel, own_pk, show own_idx (30 : Int32) = [1, 2, 3, 4] by decide +kernel]
    exact V_30
set_option maxRecDepth 65536 in
set_option maxHeartbeats 40000000 in
theorem own_rm2_31 (l : Launch) (Z : State) (av : Array Value) (hw : ∀ d ∈ tables_1, d.before av Z = true) (ws : List Jvm.Cond) (a0 : Addr) (p1 : Int32) (k_a0 : ClassId) (u0 : Int32) (u1 : Int32) (u2 : Int32) (u3 : Int32) (u4 : Int32) (h0 : Heap) (n0 : Nat) (Z0 : n0 ≤ h0.size) (V_a0 : Arv Z h0 a0 k_a0 .int (5 : Int32) [(.int u0), (.int u1), (.int u2), (.int u3), (.int u4)] (.int (0 : Int32))) (km : p1 = (31 : Int32)) :
    MetFree l (⟨"com/example/strict_anon/strictanon/service/RecordSetsDifferencePinLaw", "pick", "([II)[I"⟩ : MethodName) (head1 (Jvm.Cond.code (⟨"com/example/strict_anon/strictanon/service/RecordSetsDifferencePinLaw", "pick", "([II)[I"⟩ : MethodName) method_3_code 5 (some (.array .int)) :: ws) ({ frames := 0, cells := 1, slots := 5, locals := 0 } : Room)) (fun a U => a = #[(.ref a0), (.int p1)] ∧ Z.Warmed39 U.vm ∧ U.heap = h0) (fun _ _ _ _ _ => True) (fun _ U o U' => ∃ v L, o = .returned v ∧ own_Q2 Z a0 p1 k_a0 u0 u1 u2 u3 u4 h0 n0 v U'.heap L ∧ FrameEnd U o U' L ({ frames := 0, cells := 1, slots := 5, locals := 0 } : Room).cells ({ frames := 0, cells := 1, slots := 5, locals := 0 } : Room).slots) := by
  refine MetFree.of_bodySF (plainFor_of_name own_pn0) hisR ?_
  intro p e s m args below meth c s₁ Bd hml0 hP hK
  obtain ⟨rfl, hZ, hh⟩ := hP
  have hx := Bd.exec
  have hby := Bd.bytes
  have hml : c.maxLocals = 5 := hml0
  have hown : s.vm.findClass "com/example/strict_anon/strictanon/service/RecordSetsDifferencePinLaw" = some m.cls := findClass_of_methodNamed Bd.named
  have hnm := (name_of_methodNamed Bd.named Bd.method).1
  have X0 : Stand p l e ({ frames := 0, cells := 1, slots := 5, locals := 0 } : Room) s m #[(.ref a0), (.int p1)] below meth c s₁ [] 0 0 := Stand.of_body Bd
  have e0 : s₁.heap = h0 := by rw [← hh, Bd.state]; rfl
  have N0 := Fr.nil n0
  have pre0 : ∀ t, Steps p.tables e below (s₁.setTop (mkF m 0 #[oa a0, oi p1, .unset, .unset, .unset] [])) t → Steps p.tables e below (s₁.setTop (entryFrame m #[(.ref a0), (.int p1)] 5)) t := fun t k => castTop (own_ef2 m a0 p1) k
  have pre1 : ∀ t, Steps p.tables e below (s₁.setTop (mkF m 0 #[oa a0, oi (31 : Int32), .unset, .unset, .unset] [])) t → Steps p.tables e below (s₁.setTop (entryFrame m #[(.ref a0), (.int p1)] 5)) t := by
    intro t k
    refine pre0 t ?_
    rw [km]
    exact k
  obtain ⟨T2, h2, k2, X2, e2, E2, A2, B2, st2⟩ := newPE X0 hx hZ (hw _ (List.mem_of_getElem? (i := 6) rfl)) e0 (g := (mkF m 29 #[oa a0, oi (31 : Int32), oi (5 : Int32), .unset, .unset] [(.int (5 : Int32))])) rfl (hb hby own_d2_29) rfl (by decide) (cap := 5) (by decide) (by decide) (by decide) (by decide) (ad := "[I") rfl
  obtain ⟨b2, g2⟩ : ∃ z, z = h0.size := ⟨_, rfl⟩
  rw [← g2] at A2 st2 B2
  have g_b2 : n0 ≤ b2 := Nat.le_trans Z0 (Nat.le_of_eq g2.symm)
  have ne3 : a0 ≠ b2 := Nat.ne_of_lt (Nat.lt_of_lt_of_le V_a0.lt (Nat.le_of_eq g2.symm))
  have Z2 : n0 ≤ h2.size := Nat.le_trans Z0 E2.1
  have sz_b2 : h0.size ≤ b2 := Nat.le_trans (Keep.refl h0 []).1 (Nat.le_of_eq g2.symm)
  have K_4 : Keep h0 h2 [] := (Keep.refl h0 []).ext E2
  have F5 := V_a0.ext E2
  have V_6 : Arv Z h2 b2 k2 .int (5 : Int32) [(.int (0 : Int32)), (.int (0 : Int32)), (.int (0 : Int32)), (.int (0 : Int32)), (.int (0 : Int32))] (.int (0 : Int32)) := (Arv.new A2 (by decide)).pad (pad_rep [] (.int (0 : Int32)) 5)
  have b7 : ¬ ((1 : Int32) = (0 : Int32)) := (by decide)
  obtain ⟨T8, h8, X8, e8, W8, V8, st8⟩ := oStI X2 hx hZ e2 V_6 (j := (0 : Int32)) ⟨by decide, by decide⟩ 0 rfl (Nat.le_of_ble_eq_true rfl) (g := (mkF m 47 #[oa a0, oi (31 : Int32), oi (5 : Int32), oa b2, oi (0 : Int32)] [(.int u0), (.int (0 : Int32)), (.ref b2)])) rfl rfl (hb hby own_d2_47)
  obtain ⟨Lo8, X8, N8⟩ := oOpq X8 (Fr.snoc X8 N0 g_b2)
  have Z8 := Nat.le_trans Z2 (Keep.of_wr W8).1
  have F9 := F5.other W8 ne3
  have F10 := B2.wr W8
  have V_11 : Arv Z h8 b2 k2 .int (5 : Int32) [(.int u0), (.int (0 : Int32)), (.int (0 : Int32)), (.int (0 : Int32)), (.int (0 : Int32))] (.int (0 : Int32)) := V8
  have K_12 : Keep h0 h8 [] := K_4.wr W8 (Or.inr sz_b2)
  have b13 : ¬ ((2 : Int32) = (0 : Int32)) := (by decide)
  obtain ⟨T14, h14, X14, e14, W14, V14, st14⟩ := oStI X8 hx hZ e8 V_11 (j := (1 : Int32)) ⟨by decide, by decide⟩ 1 rfl (Nat.le_of_ble_eq_true rfl) (g := (mkF m 63 #[oa a0, oi (31 : Int32), oi (5 : Int32), oa b2, oi (1 : Int32)] [(.int u1), (.int (1 : Int32)), (.ref b2)])) rfl rfl (hb hby own_d2_63)
  obtain ⟨Lo14, X14, N14⟩ := oOpq X14 (Fr.snoc X14 N8 g_b2)
  have Z14 := Nat.le_trans Z8 (Keep.of_wr W14).1
  have F15 := F9.other W14 ne3
  have F16 := F10.wr W14
  have V_17 : Arv Z h14 b2 k2 .int (5 : Int32) [(.int u0), (.int u1), (.int (0 : Int32)), (.int (0 : Int32)), (.int (0 : Int32))] (.int (0 : Int32)) := V14
  have K_18 : Keep h0 h14 [] := K_12.wr W14 (Or.inr sz_b2)
  have b19 : ¬ ((4 : Int32) = (0 : Int32)) := (by decide)
  obtain ⟨T20, h20, X20, e20, W20, V20, st20⟩ := oStI X14 hx hZ e14 V_17 (j := (2 : Int32)) ⟨by decide, by decide⟩ 2 rfl (Nat.le_of_ble_eq_true rfl) (g := (mkF m 79 #[oa a0, oi (31 : Int32), oi (5 : Int32), oa b2, oi (2 : Int32)] [(.int u2), (.int (2 : Int32)), (.ref b2)])) rfl rfl (hb hby own_d2_79)
  obtain ⟨Lo20, X20, N20⟩ := oOpq X20 (Fr.snoc X20 N14 g_b2)
  have Z20 := Nat.le_trans Z14 (Keep.of_wr W20).1
  have F21 := F15.other W20 ne3
  have F22 := F16.wr W20
  have V_23 : Arv Z h20 b2 k2 .int (5 : Int32) [(.int u0), (.int u1), (.int u2), (.int (0 : Int32)), (.int (0 : Int32))] (.int (0 : Int32)) := V20
  have K_24 : Keep h0 h20 [] := K_18.wr W20 (Or.inr sz_b2)
  have b25 : ¬ ((8 : Int32) = (0 : Int32)) := (by decide)
  obtain ⟨T26, h26, X26, e26, W26, V26, st26⟩ := oStI X20 hx hZ e20 V_23 (j := (3 : Int32)) ⟨by decide, by decide⟩ 3 rfl (Nat.le_of_ble_eq_true rfl) (g := (mkF m 96 #[oa a0, oi (31 : Int32), oi (5 : Int32), oa b2, oi (3 : Int32)] [(.int u3), (.int (3 : Int32)), (.ref b2)])) rfl rfl (hb hby own_d2_96)
  obtain ⟨Lo26, X26, N26⟩ := oOpq X26 (Fr.snoc X26 N20 g_b2)
  have Z26 := Nat.le_trans Z20 (Keep.of_wr W26).1
  have F27 := F21.other W26 ne3
  have F28 := F22.wr W26
  have V_29 : Arv Z h26 b2 k2 .int (5 : Int32) [(.int u0), (.int u1), (.int u2), (.int u3), (.int (0 : Int32))] (.int (0 : Int32)) := V26
  have K_30 : Keep h0 h26 [] := K_24.wr W26 (Or.inr sz_b2)
  have b31 : ¬ ((16 : Int32) = (0 : Int32)) := (by decide)
  obtain ⟨T32, h32, X32, e32, W32, V32, st32⟩ := oStI X26 hx hZ e26 V_29 (j := (4 : Int32)) ⟨by decide, by decide⟩ 4 rfl (Nat.le_of_ble_eq_true rfl) (g := (mkF m 113 #[oa a0, oi (31 : Int32), oi (5 : Int32), oa b2, oi (4 : Int32)] [(.int u4), (.int (4 : Int32)), (.ref b2)])) rfl rfl (hb hby own_d2_113)
  obtain ⟨Lo32, X32, N32⟩ := oOpq X32 (Fr.snoc X32 N26 g_b2)
  have Z32 := Nat.le_trans Z26 (Keep.of_wr W32).1
  have F33 := F27.other W32 ne3
  have F34 := F28.wr W32
  have V_35 : Arv Z h32 b2 k2 .int (5 : Int32) [(.int u0), (.int u1), (.int u2), (.int u3), (.int u4)] (.int (0 : Int32)) := V32
  have K_36 : Keep h0 h32 [] := K_30.wr W32 (Or.inr sz_b2)
  obtain ⟨fs, hr, hrun, hended, hW, hsame⟩ := X32.leave (v := (some (.ref b2))) (fun h => by rw [Bd.returns] at h; cases h)
  refine ⟨_, _, pre1 _ ?_, hrun, hended, _, _, rfl, ?_, ⟨_, rfl⟩, hW, hsame.mono (by decide) (by decide)⟩
  · show oS p e below s₁ m 0 #[oa a0, oi (31 : Int32), .unset, .unset, .unset] [] _
    refine XS.iloadN X0.here hx rfl (hb hby own_d2_0) rfl ?_
    refine XS.iconst X0.here hx rfl (hb hby own_d2_1) ?_
    refine XS.iand X0.here hx rfl (hb hby own_d2_2) rfl ?_
    refine XS.iloadN X0.here hx rfl (hb hby own_d2_3) rfl ?_
    show oS p e below s₁ m 4 #[oa a0, oi (31 : Int32), .unset, .unset, .unset] [(.int (31 : Int32)), (.int (1 : Int32))] _
    refine XS.iconst X0.here hx rfl (hb hby own_d2_4) ?_
    show oS p e below s₁ m 5 #[oa a0, oi (31 : Int32), .unset, .unset, .unset] [(.int (1 : Int32)), (.int (31 : Int32)), (.int (1 : Int32))] _
    refine XS.iushr X0.here hx rfl (hb hby own_d2_5) rfl ?_
    refine XS.iconst X0.here hx rfl (hb hby own_d2_6) ?_
    refine XS.iand X0.here hx rfl (hb hby own_d2_7) rfl ?_
    refine XS.iadd X0.here hx rfl (hb hby own_d2_8) rfl ?_
    show oS p e below s₁ m 9 #[oa a0, oi (31 : Int32), .unset, .unset, .unset] [(.int (2 : Int32))] _
    refine XS.iloadN X0.here hx rfl (hb hby own_d2_9) rfl ?_
    refine XS.iconst X0.here hx rfl (hb hby own_d2_10) ?_
    show oS p e below s₁ m 11 #[oa a0, oi (31 : Int32), .unset, .unset, .unset] [(.int (2 : Int32)), (.int (31 : Int32)), (.int (2 : Int32))] _
    refine XS.iushr X0.here hx rfl (hb hby own_d2_11) rfl ?_
    refine XS.iconst X0.here hx rfl (hb hby own_d2_12) ?_
    refine XS.iand X0.here hx rfl (hb hby own_d2_13) rfl ?_
    refine XS.iadd X0.here hx rfl (hb hby own_d2_14) rfl ?_
    show oS p e below s₁ m 15 #[oa a0, oi (31 : Int32), .unset, .unset, .unset] [(.int (3 : Int32))] _
    refine XS.iloadN X0.here hx rfl (hb hby own_d2_15) rfl ?_
    refine XS.iconst X0.here hx rfl (hb hby own_d2_16) ?_
    show oS p e below s₁ m 17 #[oa a0, oi (31 : Int32), .unset, .unset, .unset] [(.int (3 : Int32)), (.int (31 : Int32)), (.int (3 : Int32))] _
    refine XS.iushr X0.here hx rfl (hb hby own_d2_17) rfl ?_
    refine XS.iconst X0.here hx rfl (hb hby own_d2_18) ?_
    refine XS.iand X0.here hx rfl (hb hby own_d2_19) rfl ?_
    refine XS.iadd X0.here hx rfl (hb hby own_d2_20) rfl ?_
    show oS p e below s₁ m 21 #[oa a0, oi (31 : Int32), .unset, .unset, .unset] [(.int (4 : Int32))] _
    refine XS.iloadN X0.here hx rfl (hb hby own_d2_21) rfl ?_
    refine XS.iconst X0.here hx rfl (hb hby own_d2_22) ?_
    show oS p e below s₁ m 23 #[oa a0, oi (31 : Int32), .unset, .unset, .unset] [(.int (4 : Int32)), (.int (31 : Int32)), (.int (4 : Int32))] _
    refine XS.iushr X0.here hx rfl (hb hby own_d2_23) rfl ?_
    refine XS.iconst X0.here hx rfl (hb hby own_d2_24) ?_
    refine XS.iand X0.here hx rfl (hb hby own_d2_25) rfl ?_
    refine XS.iadd X0.here hx rfl (hb hby own_d2_26) rfl ?_
    show oS p e below s₁ m 27 #[oa a0, oi (31 : Int32), .unset, .unset, .unset] [(.int (5 : Int32))] _
    refine XS.istoreN X0.here hx rfl (hb hby own_d2_27) rfl (l' := #[oa a0, oi (31 : Int32), oi (5 : Int32), .unset, .unset]) rfl ?_
    refine XS.iloadN X0.here hx rfl (hb hby own_d2_28) rfl ?_
    show oS p e below s₁ m 29 #[oa a0, oi (31 : Int32), oi (5 : Int32), .unset, .unset] [(.int (5 : Int32))] _
    refine st2 _ ?_
    show oS p e below T2 m 31 #[oa a0, oi (31 : Int32), oi (5 : Int32), .unset, .unset] [(.ref b2)] _
    refine XS.astoreN X2.here hx rfl (hb hby own_d2_31) rfl rfl (l' := #[oa a0, oi (31 : Int32), oi (5 : Int32), oa b2, .unset]) rfl ?_
    refine XS.iconst X2.here hx rfl (hb hby own_d2_32) ?_
    refine XS.istore X2.here hx rfl (hb hby own_d2_33) rfl (l' := #[oa a0, oi (31 : Int32), oi (5 : Int32), oa b2, oi (0 : Int32)]) rfl ?_
    refine XS.iloadN X2.here hx rfl (hb hby own_d2_35) rfl ?_
    show oS p e below T2 m 36 #[oa a0, oi (31 : Int32), oi (5 : Int32), oa b2, oi (0 : Int32)] [(.int (31 : Int32))] _
    refine XS.iconst X2.here hx rfl (hb hby own_d2_36) ?_
    refine XS.iand X2.here hx rfl (hb hby own_d2_37) rfl ?_
    show oS p e below T2 m 38 #[oa a0, oi (31 : Int32), oi (5 : Int32), oa b2, oi (0 : Int32)] [(.int (1 : Int32))] _
    refine XS.ifNo X2.here hx rfl (hb hby own_d2_38) rfl ((if0 _ _).trans (feq b7).1) ?_
    refine XS.aloadN X2.here hx rfl (hb hby own_d2_41) rfl rfl ?_
    refine XS.iload X2.here hx rfl (hb hby own_d2_42) rfl ?_
    refine XS.aloadN X2.here hx rfl (hb hby own_d2_44) rfl rfl ?_
    show oS p e below T2 m 45 #[oa a0, oi (31 : Int32), oi (5 : Int32), oa b2, oi (0 : Int32)] [(.ref a0), (.int (0 : Int32)), (.ref b2)] _
    refine XS.iconst X2.here hx rfl (hb hby own_d2_45) ?_
    show oS p e below T2 m 46 #[oa a0, oi (31 : Int32), oi (5 : Int32), oa b2, oi (0 : Int32)] [(.int (0 : Int32)), (.ref a0), (.int (0 : Int32)), (.ref b2)] _
    refine oLdI X2 hx hZ e2 F5 (v := (.int u0)) ⟨by decide, by decide⟩ rfl (hb hby own_d2_46) ?_
    show oS p e below T2 m 47 #[oa a0, oi (31 : Int32), oi (5 : Int32), oa b2, oi (0 : Int32)] [(.int u0), (.int (0 : Int32)), (.ref b2)] _
    refine st8 _ ?_
    show oS p e below T8 m 48 #[oa a0, oi (31 : Int32), oi (5 : Int32), oa b2, oi (0 : Int32)] [] _
    refine XS.iinc X8.here hx rfl (hb hby own_d2_48) rfl (l' := #[oa a0, oi (31 : Int32), oi (5 : Int32), oa b2, oi (1 : Int32)]) rfl ?_
    refine XS.iloadN X8.here hx rfl (hb hby own_d2_51) rfl ?_
    refine XS.iconst X8.here hx rfl (hb hby own_d2_52) ?_
    refine XS.iand X8.here hx rfl (hb hby own_d2_53) rfl ?_
    show oS p e below T8 m 54 #[oa a0, oi (31 : Int32), oi (5 : Int32), oa b2, oi (1 : Int32)] [(.int (2 : Int32))] _
    refine XS.ifNo X8.here hx rfl (hb hby own_d2_54) rfl ((if0 _ _).trans (feq b13).1) ?_
    refine XS.aloadN X8.here hx rfl (hb hby own_d2_57) rfl rfl ?_
    refine XS.iload X8.here hx rfl (hb hby own_d2_58) rfl ?_
    refine XS.aloadN X8.here hx rfl (hb hby own_d2_60) rfl rfl ?_
    show oS p e below T8 m 61 #[oa a0, oi (31 : Int32), oi (5 : Int32), oa b2, oi (1 : Int32)] [(.ref a0), (.int (1 : Int32)), (.ref b2)] _
    refine XS.iconst X8.here hx rfl (hb hby own_d2_61) ?_
    show oS p e below T8 m 62 #[oa a0, oi (31 : Int32), oi (5 : Int32), oa b2, oi (1 : Int32)] [(.int (1 : Int32)), (.ref a0), (.int (1 : Int32)), (.ref b2)] _
    refine oLdI X8 hx hZ e8 F9 (v := (.int u1)) ⟨by decide, by decide⟩ rfl (hb hby own_d2_62) ?_
    show oS p e below T8 m 63 #[oa a0, oi (31 : Int32), oi (5 : Int32), oa b2, oi (1 : Int32)] [(.int u1), (.int (1 : Int32)), (.ref b2)] _
    refine st14 _ ?_
    show oS p e below T14 m 64 #[oa a0, oi (31 : Int32), oi (5 : Int32), oa b2, oi (1 : Int32)] [] _
    refine XS.iinc X14.here hx rfl (hb hby own_d2_64) rfl (l' := #[oa a0, oi (31 : Int32), oi (5 : Int32), oa b2, oi (2 : Int32)]) rfl ?_
    refine XS.iloadN X14.here hx rfl (hb hby own_d2_67) rfl ?_
    refine XS.iconst X14.here hx rfl (hb hby own_d2_68) ?_
    refine XS.iand X14.here hx rfl (hb hby own_d2_69) rfl ?_
    show oS p e below T14 m 70 #[oa a0, oi (31 : Int32), oi (5 : Int32), oa b2, oi (2 : Int32)] [(.int (4 : Int32))] _
    refine XS.ifNo X14.here hx rfl (hb hby own_d2_70) rfl ((if0 _ _).trans (feq b19).1) ?_
    refine XS.aloadN X14.here hx rfl (hb hby own_d2_73) rfl rfl ?_
    refine XS.iload X14.here hx rfl (hb hby own_d2_74) rfl ?_
    refine XS.aloadN X14.here hx rfl (hb hby own_d2_76) rfl rfl ?_
    show oS p e below T14 m 77 #[oa a0, oi (31 : Int32), oi (5 : Int32), oa b2, oi (2 : Int32)] [(.ref a0), (.int (2 : Int32)), (.ref b2)] _
    refine XS.iconst X14.here hx rfl (hb hby own_d2_77) ?_
    show oS p e below T14 m 78 #[oa a0, oi (31 : Int32), oi (5 : Int32), oa b2, oi (2 : Int32)] [(.int (2 : Int32)), (.ref a0), (.int (2 : Int32)), (.ref b2)] _
    refine oLdI X14 hx hZ e14 F15 (v := (.int u2)) ⟨by decide, by decide⟩ rfl (hb hby own_d2_78) ?_
    show oS p e below T14 m 79 #[oa a0, oi (31 : Int32), oi (5 : Int32), oa b2, oi (2 : Int32)] [(.int u2), (.int (2 : Int32)), (.ref b2)] _
    refine st20 _ ?_
    show oS p e below T20 m 80 #[oa a0, oi (31 : Int32), oi (5 : Int32), oa b2, oi (2 : Int32)] [] _
    refine XS.iinc X20.here hx rfl (hb hby own_d2_80) rfl (l' := #[oa a0, oi (31 : Int32), oi (5 : Int32), oa b2, oi (3 : Int32)]) rfl ?_
    refine XS.iloadN X20.here hx rfl (hb hby own_d2_83) rfl ?_
    refine XS.bipush X20.here hx rfl (hb hby own_d2_84) ?_
    refine XS.iand X20.here hx rfl (hb hby own_d2_86) rfl ?_
    show oS p e below T20 m 87 #[oa a0, oi (31 : Int32), oi (5 : Int32), oa b2, oi (3 : Int32)] [(.int (8 : Int32))] _
    refine XS.ifNo X20.here hx rfl (hb hby own_d2_87) rfl ((if0 _ _).trans (feq b25).1) ?_
    refine XS.aloadN X20.here hx rfl (hb hby own_d2_90) rfl rfl ?_
    refine XS.iload X20.here hx rfl (hb hby own_d2_91) rfl ?_
    refine XS.aloadN X20.here hx rfl (hb hby own_d2_93) rfl rfl ?_
    show oS p e below T20 m 94 #[oa a0, oi (31 : Int32), oi (5 : Int32), oa b2, oi (3 : Int32)] [(.ref a0), (.int (3 : Int32)), (.ref b2)] _
    refine XS.iconst X20.here hx rfl (hb hby own_d2_94) ?_
    show oS p e below T20 m 95 #[oa a0, oi (31 : Int32), oi (5 : Int32), oa b2, oi (3 : Int32)] [(.int (3 : Int32)), (.ref a0), (.int (3 : Int32)), (.ref b2)] _
    refine oLdI X20 hx hZ e20 F21 (v := (.int u3)) ⟨by decide, by decide⟩ rfl (hb hby own_d2_95) ?_
    show oS p e below T20 m 96 #[oa a0, oi (31 : Int32), oi (5 : Int32), oa b2, oi (3 : Int32)] [(.int u3), (.int (3 : Int32)), (.ref b2)] _
    refine st26 _ ?_
    show oS p e below T26 m 97 #[oa a0, oi (31 : Int32), oi (5 : Int32), oa b2, oi (3 : Int32)] [] _
    refine XS.iinc X26.here hx rfl (hb hby own_d2_97) rfl (l' := #[oa a0, oi (31 : Int32), oi (5 : Int32), oa b2, oi (4 : Int32)]) rfl ?_
    refine XS.iloadN X26.here hx rfl (hb hby own_d2_100) rfl ?_
    refine XS.bipush X26.here hx rfl (hb hby own_d2_101) ?_
    refine XS.iand X26.here hx rfl (hb hby own_d2_103) rfl ?_
    show oS p e below T26 m 104 #[oa a0, oi (31 : Int32), oi (5 : Int32), oa b2, oi (4 : Int32)] [(.int (16 : Int32))] _
    refine XS.ifNo X26.here hx rfl (hb hby own_d2_104) rfl ((if0 _ _).trans (feq b31).1) ?_
    refine XS.aloadN X26.here hx rfl (hb hby own_d2_107) rfl rfl ?_
    refine XS.iload X26.here hx rfl (hb hby own_d2_108) rfl ?_
    refine XS.aloadN X26.here hx rfl (hb hby own_d2_110) rfl rfl ?_
    show oS p e below T26 m 111 #[oa a0, oi (31 : Int32), oi (5 : Int32), oa b2, oi (4 : Int32)] [(.ref a0), (.int (4 : Int32)), (.ref b2)] _
    refine XS.iconst X26.here hx rfl (hb hby own_d2_111) ?_
    show oS p e below T26 m 112 #[oa a0, oi (31 : Int32), oi (5 : Int32), oa b2, oi (4 : Int32)] [(.int (4 : Int32)), (.ref a0), (.int (4 : Int32)), (.ref b2)] _
    refine oLdI X26 hx hZ e26 F27 (v := (.int u4)) ⟨by decide, by decide⟩ rfl (hb hby own_d2_112) ?_
    show oS p e below T26 m 113 #[oa a0, oi (31 : Int32), oi (5 : Int32), oa b2, oi (4 : Int32)] [(.int u4), (.int (4 : Int32)), (.ref b2)] _
    refine st32 _ ?_
    show oS p e below T32 m 114 #[oa a0, oi (31 : Int32), oi (5 : Int32), oa b2, oi (4 : Int32)] [] _
    refine XS.iinc X32.here hx rfl (hb hby own_d2_114) rfl (l' := #[oa a0, oi (31 : Int32), oi (5 : Int32), oa b2, oi (5 : Int32)]) rfl ?_
    refine XS.aloadN X32.here hx rfl (hb hby own_d2_117) rfl rfl ?_
    show oS p e below T32 m 118 #[oa a0, oi (31 : Int32), oi (5 : Int32), oa b2, oi (5 : Int32)] [(.ref b2)] _
    exact retOut X32 hx Bd.returns rfl (Or.inr (Or.inr (Or.inr (Or.inr ⟨rfl, rfl, rfl⟩)))) (hb hby own_d2_118) hr
  · show own_Q2 Z a0 p1 k_a0 u0 u1 u2 u3 u4 h0 n0 _ T32.heap _
    rw [e32]
    refine ⟨b2, k2, rfl, N32, K_36, sz_b2, ?_⟩
    rw [km, show own_z (31 : Int32) = (5 : Int32) by decide +kernel, own_pk, show own_idx (31 : Int32) = [0, 1, 2, 3, 4] by decide +kernel]
    exact V_35
theorem own_rm2 (l : Launch) (Z : State) (av : Array Value) (hw : ∀ d ∈ tables_1, d.before av Z = true) (ws : List Jvm.Cond) (a0 : Addr) (p1 : Int32) (k_a0 : ClassId) (u0 : Int32) (u1 : Int32) (u2 : Int32) (u3 : Int32) (u4 : Int32) (h0 : Heap) (n0 : Nat) (Z0 : n0 ≤ h0.size) (V_a0 : Arv Z h0 a0 k_a0 .int (5 : Int32) [(.int u0), (.int u1), (.int u2), (.int u3), (.int u4)] (.int (0 : Int32))) (hm : 0 ≤ p1.toInt ∧ p1.toInt < 32) :
    MetFree l (⟨"com/example/strict_anon/strictanon/service/RecordSetsDifferencePinLaw", "pick", "([II)[I"⟩ : MethodName) (head1 (Jvm.Cond.code (⟨"com/example/strict_anon/strictanon/service/RecordSetsDifferencePinLaw", "pick", "([II)[I"⟩ : MethodName) method_3_code 5 (some (.array .int)) :: ws) ({ frames := 0, cells := 1, slots := 5, locals := 0 } : Room)) (fun a U => a = #[(.ref a0), (.int p1)] ∧ Z.Warmed39 U.vm ∧ U.heap = h0) (fun _ _ _ _ _ => True) (fun _ U o U' => ∃ v L, o = .returned v ∧ own_Q2 Z a0 p1 k_a0 u0 u1 u2 u3 u4 h0 n0 v U'.heap L ∧ FrameEnd U o U' L ({ frames := 0, cells := 1, slots := 5, locals := 0 } : Room).cells ({ frames := 0, cells := 1, slots := 5, locals := 0 } : Room).slots) := by
  rcases own_m32 hm with km | km | km | km | km | km | km | km | km | km | km | km | km | km | km | km | km | km | km | km | km | km | km | km | km | km | km | km | km | km | km | km
  · exact own_rm2_0 l Z av hw ws a0 p1 k_a0 u0 u1 u2 u3 u4 h0 n0 Z0 V_a0 km
  · exact own_rm2_1 l Z av hw ws a0 p1 k_a0 u0 u1 u2 u3 u4 h0 n0 Z0 V_a0 km
  · exact own_rm2_2 l Z av hw ws a0 p1 k_a0 u0 u1 u2 u3 u4 h0 n0 Z0 V_a0 km
  · exact own_rm2_3 l Z av hw ws a0 p1 k_a0 u0 u1 u2 u3 u4 h0 n0 Z0 V_a0 km
  · exact own_rm2_4 l Z av hw ws a0 p1 k_a0 u0 u1 u2 u3 u4 h0 n0 Z0 V_a0 km
  · exact own_rm2_5 l Z av hw ws a0 p1 k_a0 u0 u1 u2 u3 u4 h0 n0 Z0 V_a0 km
  · exact own_rm2_6 l Z av hw ws a0 p1 k_a0 u0 u1 u2 u3 u4 h0 n0 Z0 V_a0 km
  · exact own_rm2_7 l Z av hw ws a0 p1 k_a0 u0 u1 u2 u3 u4 h0 n0 Z0 V_a0 km
  · exact own_rm2_8 l Z av hw ws a0 p1 k_a0 u0 u1 u2 u3 u4 h0 n0 Z0 V_a0 km
  · exact own_rm2_9 l Z av hw ws a0 p1 k_a0 u0 u1 u2 u3 u4 h0 n0 Z0 V_a0 km
  · exact own_rm2_10 l Z av hw ws a0 p1 k_a0 u0 u1 u2 u3 u4 h0 n0 Z0 V_a0 km
  · exact own_rm2_11 l Z av hw ws a0 p1 k_a0 u0 u1 u2 u3 u4 h0 n0 Z0 V_a0 km
  · exact own_rm2_12 l Z av hw ws a0 p1 k_a0 u0 u1 u2 u3 u4 h0 n0 Z0 V_a0 km
  · exact own_rm2_13 l Z av hw ws a0 p1 k_a0 u0 u1 u2 u3 u4 h0 n0 Z0 V_a0 km
  · exact own_rm2_14 l Z av hw ws a0 p1 k_a0 u0 u1 u2 u3 u4 h0 n0 Z0 V_a0 km
  · exact own_rm2_15 l Z av hw ws a0 p1 k_a0 u0 u1 u2 u3 u4 h0 n0 Z0 V_a0 km
  · exact own_rm2_16 l Z av hw ws a0 p1 k_a0 u0 u1 u2 u3 u4 h0 n0 Z0 V_a0 km
  · exact own_rm2_17 l Z av hw ws a0 p1 k_a0 u0 u1 u2 u3 u4 h0 n0 Z0 V_a0 km
  · exact own_rm2_18 l Z av hw ws a0 p1 k_a0 u0 u1 u2 u3 u4 h0 n0 Z0 V_a0 km
  · exact own_rm2_19 l Z av hw ws a0 p1 k_a0 u0 u1 u2 u3 u4 h0 n0 Z0 V_a0 km
  · exact own_rm2_20 l Z av hw ws a0 p1 k_a0 u0 u1 u2 u3 u4 h0 n0 Z0 V_a0 km
  · exact own_rm2_21 l Z av hw ws a0 p1 k_a0 u0 u1 u2 u3 u4 h0 n0 Z0 V_a0 km
  · exact own_rm2_22 l Z av hw ws a0 p1 k_a0 u0 u1 u2 u3 u4 h0 n0 Z0 V_a0 km
  · exact own_rm2_23 l Z av hw ws a0 p1 k_a0 u0 u1 u2 u3 u4 h0 n0 Z0 V_a0 km
  · exact own_rm2_24 l Z av hw ws a0 p1 k_a0 u0 u1 u2 u3 u4 h0 n0 Z0 V_a0 km
  · exact own_rm2_25 l Z av hw ws a0 p1 k_a0 u0 u1 u2 u3 u4 h0 n0 Z0 V_a0 km
  · exact own_rm2_26 l Z av hw ws a0 p1 k_a0 u0 u1 u2 u3 u4 h0 n0 Z0 V_a0 km
  · exact own_rm2_27 l Z av hw ws a0 p1 k_a0 u0 u1 u2 u3 u4 h0 n0 Z0 V_a0 km
  · exact own_rm2_28 l Z av hw ws a0 p1 k_a0 u0 u1 u2 u3 u4 h0 n0 Z0 V_a0 km
  · exact own_rm2_29 l Z av hw ws a0 p1 k_a0 u0 u1 u2 u3 u4 h0 n0 Z0 V_a0 km
  · exact own_rm2_30 l Z av hw ws a0 p1 k_a0 u0 u1 u2 u3 u4 h0 n0 Z0 V_a0 km
  · exact own_rm2_31 l Z av hw ws a0 p1 k_a0 u0 u1 u2 u3 u4 h0 n0 Z0 V_a0 km
theorem own_mn {z p : Int32} (h1 : ¬ p < 0) (h2 : ¬ z < p) : own_f6 z p = p := by
  unfold own_f6
  by_cases c : p < z
  · rw [if_pos c]
  · rw [if_neg c]
    simp only [own_ltp] at c h2
    exact Int32.toInt_inj.mp (by omega)
theorem own_cl {z : Int32} (h : ¬ z < 0) : (z.toNatClampNeg : Int) = z.toInt := (nat_of h).symm
theorem own_cn1 {z p : Int32} (h2 : ¬ z < p) : (0 : Int32).toNatClampNeg + p.toNatClampNeg ≤ z.toNatClampNeg := by
  simp only [own_ltp] at h2
  show 0 + p.toNatClampNeg ≤ z.toNatClampNeg
  simp only [Int32.toNatClampNeg]; omega
theorem own_cn2 (p : Int32) : (0 : Int32).toNatClampNeg + p.toNatClampNeg ≤ p.toNatClampNeg := by
  show 0 + p.toNatClampNeg ≤ p.toNatClampNeg; omega
theorem own_cn3 (p : Int32) : (0 : Int32).toNatClampNeg + p.toNatClampNeg ≤ (List.replicate p.toNatClampNeg (Value.int (0 : Int32))).length := by
  rw [List.length_replicate]; exact own_cn2 p
theorem own_cn4 {ws out rr : List Int32} {p : Int32} (hws : ws = out ++ rr) (hc : p.toInt = (out.length : Int)) : ∀ i, (out.map Value.int).getD i (.int (0 : Int32)) = ((List.replicate p.toNatClampNeg (Value.int (0 : Int32))).take (0 : Int32).toNatClampNeg ++ (List.range p.toNatClampNeg).map (fun i => (ws.map Value.int).getD ((0 : Int32).toNatClampNeg + i) (.int (0 : Int32))) ++ (List.replicate p.toNatClampNeg (Value.int (0 : Int32))).drop ((0 : Int32).toNatClampNeg + p.toNatClampNeg)).getD i (.int (0 : Int32)) := by
  intro i
  have e : p.toNatClampNeg = out.length := own_nat hc
  rw [e]
  have z0 : (0 : Int32).toNatClampNeg = 0 := by decide
  rw [z0, List.take_zero, List.nil_append, List.drop_eq_nil_of_le (by rw [List.length_replicate]; omega), List.append_nil, own_getD]
  simp only [List.getD_eq_getElem?_getD, List.getElem?_map, Nat.zero_add]
  by_cases hi : i < out.length
  · rw [List.getElem?_range hi, hws]; simp only [Option.map_some, Option.getD_some]; rw [List.getElem?_append_left hi, List.getElem?_eq_getElem hi]; all_goals rfl
  · rw [List.getElem?_eq_none (by omega), List.getElem?_eq_none (by rw [List.length_range]; omega)]; rfl
theorem own_cn5 {ws out rr : List Int32} {p z : Int32} (hws : ws = out ++ rr) (hz : z.toInt = (ws.length : Int)) (hc : p.toInt = (out.length : Int)) (h : p = z) : ws.map Value.int = out.map Value.int := by
  subst h
  have : rr = [] := by
    have e : ws.length = out.length + rr.length := by rw [hws, List.length_append]
    exact List.eq_nil_of_length_eq_zero (by omega)
  rw [hws, this, List.append_nil]
theorem own_cap {z : Int32} {n : Nat} (hz : z.toInt = (n : Int)) (h5 : n ≤ 5) : z.toNatClampNeg ≤ 5 := by
  rw [own_nat hz]; exact h5
theorem own_pd0 : parseMethodDescriptor "(II)I" = some ⟨[.int, .int], some .int⟩ := by decide +kernel
theorem own_pn1 : plainName "java/util/Arrays" = true := by first | (simp [plainName, overriddenIn]; done) | decide +kernel
theorem own_d4_0 : decode jdk_65_method_123_code 0 = .ok (.iload_n 1, 1) := by decide +kernel
theorem own_d4_1 : decode jdk_65_method_123_code 1 = .ok (.aload_n 0, 1) := by decide +kernel
theorem own_d4_2 : decode jdk_65_method_123_code 2 = .ok (.arraylength, 1) := by decide +kernel
theorem own_d4_3 : decode jdk_65_method_123_code 3 = .ok (.if_icmp .ne 11, 3) := by decide +kernel
theorem own_d4_6 : decode jdk_65_method_123_code 6 = .ok (.aload_n 0, 1) := by decide +kernel
theorem own_d4_7 : decode jdk_65_method_123_code 7 = .ok (.invokevirtual 316, 3) := by decide +kernel
theorem own_d4_10 : decode jdk_65_method_123_code 10 = .ok (.checkcast 317, 3) := by decide +kernel
theorem own_d4_13 : decode jdk_65_method_123_code 13 = .ok (.areturn, 1) := by decide +kernel
theorem own_d4_14 : decode jdk_65_method_123_code 14 = .ok (.iload_n 1, 1) := by decide +kernel
theorem own_d4_15 : decode jdk_65_method_123_code 15 = .ok (.newarray .int, 2) := by decide +kernel
theorem own_d4_17 : decode jdk_65_method_123_code 17 = .ok (.astore_n 2, 1) := by decide +kernel
theorem own_d4_18 : decode jdk_65_method_123_code 18 = .ok (.aload_n 0, 1) := by decide +kernel
theorem own_d4_19 : decode jdk_65_method_123_code 19 = .ok (.iconst 0, 1) := by decide +kernel
theorem own_d4_20 : decode jdk_65_method_123_code 20 = .ok (.aload_n 2, 1) := by decide +kernel
theorem own_d4_21 : decode jdk_65_method_123_code 21 = .ok (.iconst 0, 1) := by decide +kernel
theorem own_d4_22 : decode jdk_65_method_123_code 22 = .ok (.aload_n 0, 1) := by decide +kernel
theorem own_d4_23 : decode jdk_65_method_123_code 23 = .ok (.arraylength, 1) := by decide +kernel
theorem own_d4_24 : decode jdk_65_method_123_code 24 = .ok (.iload_n 1, 1) := by decide +kernel
theorem own_d4_25 : decode jdk_65_method_123_code 25 = .ok (.invokestatic 304, 3) := by decide +kernel
theorem own_d4_28 : decode jdk_65_method_123_code 28 = .ok (.invokestatic 150, 3) := by decide +kernel
theorem own_d4_31 : decode jdk_65_method_123_code 31 = .ok (.aload_n 2, 1) := by decide +kernel
theorem own_d4_32 : decode jdk_65_method_123_code 32 = .ok (.areturn, 1) := by decide +kernel
theorem own_ef4 (m : MethodId) (a0 : Addr) (p1 : Int32) : entryFrame m #[(.ref a0), (.int p1)] 3 = mkF m 0 #[oa a0, oi p1, .unset] [] := by first | (simp [entryFrame, mkF, argsToLocals, Value.category]; done) | rfl
def own_Q4 (Z : State) (a0 : Addr) (p1 : Int32) (k_a0 : ClassId) (z_a0 : Int32) (ws_a0 : List Int32) (out : List Int32) (rr : List Int32) (h0 : Heap) (n0 : Nat) (v : Option Value) (h : Heap) (L : List Loc) : Prop := ∃ (r : Addr) (k_r : ClassId), v = some (.ref r) ∧ Fr n0 L ∧ Keep h0 h [] ∧ h0.size ≤ r ∧ Arv Z h r k_r .int p1 (out.map Value.int) (.int (0 : Int32))
set_option maxRecDepth 65536 in
set_option maxHeartbeats 40000000 in
theorem own_rm4 (l : Launch) (Z : State) (av : Array Value) (hw : ∀ d ∈ tables_1, d.before av Z = true) (ws : List Jvm.Cond) (a0 : Addr) (p1 : Int32) (k_a0 : ClassId) (z_a0 : Int32) (ws_a0 : List Int32) (out : List Int32) (rr : List Int32) (h0 : Heap) (n0 : Nat) (Z0 : n0 ≤ h0.size) (V_a0 : Arv Z h0 a0 k_a0 .int z_a0 (ws_a0.map Value.int) (.int (0 : Int32))) (E_a0 : Exa Z h0 a0 "[I") (hws : ws_a0 = out ++ rr) (hz : z_a0.toInt = (ws_a0.length : Int)) (h5 : ws_a0.length ≤ 5) (hc : p1.toInt = (out.length : Int)) (hp1 : ¬ p1 < 0) (hp2 : ¬ z_a0 < p1) (hp5 : p1.toNatClampNeg ≤ 5) :
    MetFree l (⟨"java/util/Arrays", "copyOf", "([II)[I"⟩ : MethodName) (head1 (Jvm.Cond.code (⟨"java/util/Arrays", "copyOf", "([II)[I"⟩ : MethodName) jdk_65_method_123_code 3 (some (.array .int)) :: ws) ({ frames := 1, cells := 1, slots := 5, locals := 40 } : Room)) (fun a U => a = #[(.ref a0), (.int p1)] ∧ Z.Warmed39 U.vm ∧ U.heap = h0) (fun _ _ _ _ _ => True) (fun _ U o U' => ∃ v L, o = .returned v ∧ own_Q4 Z a0 p1 k_a0 z_a0 ws_a0 out rr h0 n0 v U'.heap L ∧ FrameEnd U o U' L ({ frames := 1, cells := 1, slots := 5, locals := 40 } : Room).cells ({ frames := 1, cells := 1, slots := 5, locals := 40 } : Room).slots) := by
  refine MetFree.of_bodySF (plainFor_of_name own_pn1) hisR ?_
  intro p e s m args below meth c s₁ Bd hml0 hP hK
  obtain ⟨rfl, hZ, hh⟩ := hP
  have hx := Bd.exec
  have hby := Bd.bytes
  have hml : c.maxLocals = 3 := hml0
  have hown : s.vm.findClass "java/util/Arrays" = some m.cls := findClass_of_methodNamed Bd.named
  have hnm := (name_of_methodNamed Bd.named Bd.method).1
  have X0 : Stand p l e ({ frames := 1, cells := 1, slots := 5, locals := 40 } : Room) s m #[(.ref a0), (.int p1)] below meth c s₁ [] 0 0 := Stand.of_body Bd
  have e0 : s₁.heap = h0 := by rw [← hh, Bd.state]; rfl
  have N0 := Fr.nil n0
  have pre0 : ∀ t, Steps p.tables e below (s₁.setTop (mkF m 0 #[oa a0, oi p1, .unset] [])) t → Steps p.tables e below (s₁.setTop (entryFrame m #[(.ref a0), (.int p1)] 3)) t := fun t k => castTop (own_ef4 m a0 p1) k
  have pre1 : ∀ t, Steps p.tables e below (s₁.setTop (mkF m 3 #[oa a0, oi p1, .unset] [(.int z_a0), (.int p1)])) t → Steps p.tables e below (s₁.setTop (entryFrame m #[(.ref a0), (.int p1)] 3)) t := by
    intro t k
    refine pre0 t ?_
    show oS p e below s₁ m 0 #[oa a0, oi p1, .unset] [] _
    refine XS.iloadN X0.here hx rfl (hb hby own_d4_0) rfl ?_
    show oS p e below s₁ m 1 #[oa a0, oi p1, .unset] [(.int p1)] _
    refine XS.aloadN X0.here hx rfl (hb hby own_d4_1) rfl rfl ?_
    show oS p e below s₁ m 2 #[oa a0, oi p1, .unset] [(.ref a0), (.int p1)] _
    refine oLen X0 hx hZ e0 V_a0 (hb hby own_d4_2) ?_
    exact k
  by_cases c2 : p1 = z_a0
  · skip
    obtain ⟨T3, h3, X3, e3, E3, A3, B3, st3⟩ := cloneH X0 hx hZ hown (hw _ (List.mem_of_getElem? (i := 19) rfl)) (hw _ (List.mem_of_getElem? (i := 20) rfl)) (hw _ (List.mem_of_getElem? (i := 24) rfl)) (hw _ (List.mem_of_getElem? (i := 22) rfl)) (hw _ (List.mem_of_getElem? (i := 23) rfl)) (hw _ (List.mem_of_getElem? (i := 25) rfl)) e0 (Arv.arh V_a0) E_a0 (g := (mkF m 7 #[oa a0, oi p1, .unset] [(.ref a0)])) rfl (by rw [hml]; rfl) rfl (hb hby own_d4_7) (by decide) (W := 0) (by show 2 * 0 + _ ≤ _; exact Nat.le_of_eq rfl) (by decide) (cap := 5) (own_cap hz h5) (by decide) (by decide)
    obtain ⟨b3, g3⟩ : ∃ z, z = h0.size := ⟨_, rfl⟩
    rw [← g3] at A3 B3 st3
    have g_b3 : n0 ≤ b3 := Nat.le_trans Z0 (Nat.le_of_eq g3.symm)
    have ne4 : a0 ≠ b3 := Nat.ne_of_lt (Nat.lt_of_lt_of_le V_a0.lt (Nat.le_of_eq g3.symm))
    have Z3 : n0 ≤ h3.size := Nat.le_trans Z0 E3.1
    have sz_b3 : h0.size ≤ b3 := Nat.le_trans (Keep.refl h0 []).1 (Nat.le_of_eq g3.symm)
    have K_5 : Keep h0 h3 [] := (Keep.refl h0 []).ext E3
    have F6 := V_a0.ext E3
    have F7 := E_a0.ext E3
    have V_8 : Arv Z h3 b3 k_a0 .int z_a0 (ws_a0.map Value.int) (.int (0 : Int32)) := A3
    obtain ⟨T9, X9, e9, st9⟩ := castY X3 hx hZ hown (hw _ (List.mem_of_getElem? (i := 26) rfl)) e3 (Ins.self B3) (g := (mkF m 10 #[oa a0, oi p1, .unset] [(.ref b3)])) rfl rfl (hb hby own_d4_10)
    obtain ⟨fs, hr, hrun, hended, hW, hsame⟩ := X9.leave (v := (some (.ref b3))) (fun h => by rw [Bd.returns] at h; cases h)
    refine ⟨_, _, pre1 _ ?_, hrun, hended, _, _, rfl, ?_, ⟨_, rfl⟩, hW, hsame.mono (by decide) (by decide)⟩
    · show oS p e below s₁ m 3 #[oa a0, oi p1, .unset] [(.int z_a0), (.int p1)] _
      refine XS.icmpNo X0.here hx rfl (hb hby own_d4_3) rfl (teq c2).2 ?_
      show oS p e below s₁ m 6 #[oa a0, oi p1, .unset] [] _
      refine XS.aloadN X0.here hx rfl (hb hby own_d4_6) rfl rfl ?_
      show oS p e below s₁ m 7 #[oa a0, oi p1, .unset] [(.ref a0)] _
      refine st3 _ ?_
      show oS p e below T3 m 10 #[oa a0, oi p1, .unset] [(.ref b3)] _
      refine st9 _ ?_
      show oS p e below T9 m 13 #[oa a0, oi p1, .unset] [(.ref b3)] _
      exact retOut X9 hx Bd.returns rfl (Or.inr (Or.inr (Or.inr (Or.inr ⟨rfl, rfl, rfl⟩)))) (hb hby own_d4_13) hr
    · show own_Q4 Z a0 p1 k_a0 z_a0 ws_a0 out rr h0 n0 _ T9.heap _
      rw [e9]
      refine ⟨b3, k_a0, rfl, N0, K_5, sz_b3, ?_⟩
      rw [c2, ← own_cn5 hws hz hc c2]
      exact V_8
  · skip
    obtain ⟨T10, h10, k10, X10, e10, E10, A10, B10, st10⟩ := newPE X0 hx hZ (hw _ (List.mem_of_getElem? (i := 6) rfl)) e0 (g := (mkF m 15 #[oa a0, oi p1, .unset] [(.int p1)])) rfl (hb hby own_d4_15) rfl hp1 (cap := 5) hp5 (by decide) (by decide) (by decide) (ad := "[I") rfl
    obtain ⟨b10, g10⟩ : ∃ z, z = h0.size := ⟨_, rfl⟩
    rw [← g10] at A10 st10 B10
    have g_b10 : n0 ≤ b10 := Nat.le_trans Z0 (Nat.le_of_eq g10.symm)
    have ne11 : a0 ≠ b10 := Nat.ne_of_lt (Nat.lt_of_lt_of_le V_a0.lt (Nat.le_of_eq g10.symm))
    have Z10 : n0 ≤ h10.size := Nat.le_trans Z0 E10.1
    have sz_b10 : h0.size ≤ b10 := Nat.le_trans (Keep.refl h0 []).1 (Nat.le_of_eq g10.symm)
    have K_12 : Keep h0 h10 [] := (Keep.refl h0 []).ext E10
    have F13 := V_a0.ext E10
    have F14 := E_a0.ext E10
    have V_15 : Arv Z h10 b10 k10 .int p1 [] (.int (0 : Int32)) := (Arv.new A10 hp1)
    obtain ⟨_, _, ⟨T16, L16, k16, n16⟩, -, X16, ⟨Lc16, hQ16, l16, y16, z16⟩, st16⟩ := Jvm.LawKit.callS X10 hx (y := (⟨"java/lang/Math", "min", "(II)I"⟩ : MethodName)) hown (mvT hZ (hw _ (List.mem_of_getElem? (i := 31) rfl))) (mvT hZ (hw _ (List.mem_of_getElem? (i := 32) rfl))) (mvT hZ (hw _ (List.mem_of_getElem? (i := 4) rfl))) (mvT hZ (hw _ (List.mem_of_getElem? (i := 33) rfl))) (by decide) (backOf (W := 4) (own_rm6 l Z av hw [] z_a0 p1 h10 n0 Z10 ) hZ (hw _ (List.mem_of_getElem? (i := 33) rfl)) (hw _ (List.mem_of_getElem? (i := 4) rfl)) (by decide) (by decide)) (g := (mkF m 25 #[oa a0, oi p1, oa b10] [(.int p1), (.int z_a0), (.int (0 : Int32)), (.ref b10), (.int (0 : Int32)), (.ref a0)])) rfl (by rw [hml]; rfl) (argsL := [(.int z_a0), (.int p1)]) (rest := [(.int (0 : Int32)), (.ref b10), (.int (0 : Int32)), (.ref a0)]) (lenOf own_pd0 rfl) rfl (by show 2 * 0 + _ ≤ _; exact Nat.le_of_eq rfl) (hb hby own_d4_25) (fun _ _ => ⟨rfl, e10, (by decide : 1 + 0 ≤ _), (by decide : 5 + 0 ≤ _)⟩)
    dsimp only [Pt.U, Pt.locs, Pt.cells, Pt.slots] at X16 l16 y16 z16 st16 hQ16
    have yq16 : k16 = 1 := y16
    have zq16 : n16 = 5 := z16
    subst yq16 zq16
    obtain ⟨rfl, Nq16, eq16⟩ := hQ16
    have N16 : Fr n0 L16 := by rw [l16]; exact Fr.app N0 Nq16
    have pre17 : ∀ t, Steps p.tables e below (T16.setTop (mkF m 28 #[oa a0, oi p1, oa b10] [(.int (own_f6 z_a0 p1)), (.int (0 : Int32)), (.ref b10), (.int (0 : Int32)), (.ref a0)])) t → Steps p.tables e below (s₁.setTop (entryFrame m #[(.ref a0), (.int p1)] 3)) t := by
      intro t k
      refine pre1 t ?_
      show oS p e below s₁ m 3 #[oa a0, oi p1, .unset] [(.int z_a0), (.int p1)] _
      refine XS.icmpYes X0.here hx rfl (pc0 := 3) (pc' := 14) rfl (hb hby own_d4_3) rfl (feq c2).2 (by decide) (by decide) ?_
      show oS p e below s₁ m 14 #[oa a0, oi p1, .unset] [] _
      refine XS.iloadN X0.here hx rfl (hb hby own_d4_14) rfl ?_
      show oS p e below s₁ m 15 #[oa a0, oi p1, .unset] [(.int p1)] _
      refine st10 _ ?_
      show oS p e below T10 m 17 #[oa a0, oi p1, .unset] [(.ref b10)] _
      refine XS.astoreN X10.here hx rfl (hb hby own_d4_17) rfl rfl (l' := #[oa a0, oi p1, oa b10]) rfl ?_
      show oS p e below T10 m 18 #[oa a0, oi p1, oa b10] [] _
      refine XS.aloadN X10.here hx rfl (hb hby own_d4_18) rfl rfl ?_
      show oS p e below T10 m 19 #[oa a0, oi p1, oa b10] [(.ref a0)] _
      refine XS.iconst X10.here hx rfl (hb hby own_d4_19) ?_
      show oS p e below T10 m 20 #[oa a0, oi p1, oa b10] [(.int (0 : Int32)), (.ref a0)] _
      refine XS.aloadN X10.here hx rfl (hb hby own_d4_20) rfl rfl ?_
      show oS p e below T10 m 21 #[oa a0, oi p1, oa b10] [(.ref b10), (.int (0 : Int32)), (.ref a0)] _
      refine XS.iconst X10.here hx rfl (hb hby own_d4_21) ?_
      show oS p e below T10 m 22 #[oa a0, oi p1, oa b10] [(.int (0 : Int32)), (.ref b10), (.int (0 : Int32)), (.ref a0)] _
      refine XS.aloadN X10.here hx rfl (hb hby own_d4_22) rfl rfl ?_
      show oS p e below T10 m 23 #[oa a0, oi p1, oa b10] [(.ref a0), (.int (0 : Int32)), (.ref b10), (.int (0 : Int32)), (.ref a0)] _
      refine oLen X10 hx hZ e10 F13 (hb hby own_d4_23) ?_
      show oS p e below T10 m 24 #[oa a0, oi p1, oa b10] [(.int z_a0), (.int (0 : Int32)), (.ref b10), (.int (0 : Int32)), (.ref a0)] _
      refine XS.iloadN X10.here hx rfl (hb hby own_d4_24) rfl ?_
      show oS p e below T10 m 25 #[oa a0, oi p1, oa b10] [(.int p1), (.int z_a0), (.int (0 : Int32)), (.ref b10), (.int (0 : Int32)), (.ref a0)] _
      refine st16 _ ?_
      exact k
    have rw_18 : (own_f6 z_a0 p1) = p1 := own_mn hp1 hp2
    rw [rw_18] at pre17
    have Vp : Arv Z h10 b10 k10 .int p1 (List.replicate p1.toNatClampNeg (.int (0 : Int32))) (.int (0 : Int32)) := V_15.pad (fun i => by have q := pad_rep [] (.int (0 : Int32)) p1.toNatClampNeg i; rw [List.nil_append] at q; exact q)
    obtain ⟨T19, h19, L19, X19, e19, N19, Kc19, Vc19, st19⟩ := cpA X16 hx hZ hown (hw _ (List.mem_of_getElem? (i := 34) rfl)) (hw _ (List.mem_of_getElem? (i := 37) rfl)) (hw _ (List.mem_of_getElem? (i := 35) rfl)) (hw _ (List.mem_of_getElem? (i := 36) rfl)) eq16 F13 Vp (Or.inl ⟨rfl, rfl⟩) (sp := (0 : Int32)) (dp := (0 : Int32)) (nn := p1) (by decide) (by decide) hp1 (own_cn1 hp2) (own_cn2 p1) rfl (own_cn3 p1) N16 g_b10 (g := (mkF m 28 #[oa a0, oi p1, oa b10] [(.int p1), (.int (0 : Int32)), (.ref b10), (.int (0 : Int32)), (.ref a0)])) rfl (by rw [hml]; rfl) rfl (hb hby own_d4_28) (by decide) (W := 0) (by show 2 * 0 + _ ≤ _; exact Nat.le_of_eq rfl) (by decide)
    have Kd19 := K_12.trans Kc19 (allS (Or.inr sz_b10) all0)
    have Vq : Arv Z h19 b10 k10 .int p1 (out.map Value.int) (.int (0 : Int32)) := Vc19.pad (own_cn4 hws hc)
    obtain ⟨fs, hr, hrun, hended, hW, hsame⟩ := X19.leave (v := (some (.ref b10))) (fun h => by rw [Bd.returns] at h; cases h)
    refine ⟨_, _, pre17 _ ?_, hrun, hended, _, _, rfl, ?_, ⟨_, rfl⟩, hW, hsame.mono (by decide) (by decide)⟩
    · show oS p e below T16 m 28 #[oa a0, oi p1, oa b10] [(.int p1), (.int (0 : Int32)), (.ref b10), (.int (0 : Int32)), (.ref a0)] _
      refine st19 _ ?_
      show oS p e below T19 m 31 #[oa a0, oi p1, oa b10] [] _
      refine XS.aloadN X19.here hx rfl (hb hby own_d4_31) rfl rfl ?_
      show oS p e below T19 m 32 #[oa a0, oi p1, oa b10] [(.ref b10)] _
      exact retOut X19 hx Bd.returns rfl (Or.inr (Or.inr (Or.inr (Or.inr ⟨rfl, rfl, rfl⟩)))) (hb hby own_d4_32) hr
    · show own_Q4 Z a0 p1 k_a0 z_a0 ws_a0 out rr h0 n0 _ T19.heap _
      rw [e19]
      exact ⟨b10, k10, rfl, N19, Kd19, sz_b10, Vq⟩
theorem own_os8 {a0 a1 b a5 : Addr} {vc vj z vi v : Int32} {s8 : Slot} (h : One s8) : storeLocals #[oa a0, oa a1, oa b, oi vc, oi vj, oa a5, oi z, oi vi, s8] 8 (.int v) = some #[oa a0, oa a1, oa b, oi vc, oi vj, oa a5, oi z, oi vi, oi v] := by
  rcases h with rfl | ⟨w, rfl, hw⟩
  · rfl
  · cases w <;> first | rfl | (simp [Value.category] at hw)
theorem own_d3_21 : decode prog_30_method_3_code 21 = .ok (.iload 7, 2) := by decide +kernel
theorem own_d3_23 : decode prog_30_method_3_code 23 = .ok (.iload 6, 2) := by decide +kernel
theorem own_d3_25 : decode prog_30_method_3_code 25 = .ok (.if_icmp .ge 62, 3) := by decide +kernel
set_option maxRecDepth 65536 in
theorem own_p1 {p : Program} {l : Launch} {e : Env} {R : Room} {s : State} {m : MethodId} {args : Array Value} {below : List Frame} {meth : Method} {c : Code} {T0 : State} {locs : List Loc} {cells slots : Nat} {Z : State} {h0 : Heap} {a0 a1 b : Addr} {zA vc vj vi : Int32} {s8 : Slot}
    (X0 : Stand p l e R s m args below meth c T0 locs cells slots) (hx : p.tables.exec = Jvm.exec) (hZ : Z.Warmed39 s.vm) (hby : c.code = prog_30_method_3_code) (e0 : T0.heap = h0)  (hn : ¬ vi < zA) :
    ∀ target, Steps p.tables e below (T0.setTop (mkF m 87 #[oa a0, oa a1, oa b, oi vc, oi vj, oa a0, oi zA, oi vi, s8] [])) target → Steps p.tables e below (T0.setTop (mkF m 21 #[oa a0, oa a1, oa b, oi vc, oi vj, oa a0, oi zA, oi vi, s8] [])) target := by
  have b1 : ¬ (vi < zA) := hn
  intro target k
  show oS p e below T0 m 21 #[oa a0, oa a1, oa b, oi vc, oi vj, oa a0, oi zA, oi vi, s8] [] _
  refine XS.iload X0.here hx rfl (hb hby own_d3_21) rfl ?_
  show oS p e below T0 m 23 #[oa a0, oa a1, oa b, oi vc, oi vj, oa a0, oi zA, oi vi, s8] [(.int vi)] _
  refine XS.iload X0.here hx rfl (hb hby own_d3_23) rfl ?_
  show oS p e below T0 m 25 #[oa a0, oa a1, oa b, oi vc, oi vj, oa a0, oi zA, oi vi, s8] [(.int zA), (.int vi)] _
  refine XS.icmpYes X0.here hx rfl (pc0 := 25) (pc' := 87) rfl (hb hby own_d3_25) rfl (flt b1).2.1 (by decide) (by decide) ?_
  exact k
theorem own_d3_28 : decode prog_30_method_3_code 28 = .ok (.aload 5, 2) := by decide +kernel
theorem own_d3_30 : decode prog_30_method_3_code 30 = .ok (.iload 7, 2) := by decide +kernel
theorem own_d3_32 : decode prog_30_method_3_code 32 = .ok (.iaload, 1) := by decide +kernel
theorem own_d3_33 : decode prog_30_method_3_code 33 = .ok (.istore 8, 2) := by decide +kernel
set_option maxRecDepth 65536 in
theorem own_p2 {p : Program} {l : Launch} {e : Env} {R : Room} {s : State} {m : MethodId} {args : Array Value} {below : List Frame} {meth : Method} {c : Code} {T0 : State} {locs : List Loc} {cells slots : Nat} {Z : State} {h0 : Heap} {a0 a1 b : Addr} {kA : ClassId} {zA vc vj vi x : Int32} {A : List Int32} {s8 : Slot}
    (X0 : Stand p l e R s m args below meth c T0 locs cells slots) (hx : p.tables.exec = Jvm.exec) (hZ : Z.Warmed39 s.vm) (hby : c.code = prog_30_method_3_code) (e0 : T0.heap = h0) (V_a0 : Arv Z h0 a0 kA .int zA (A.map Value.int) (.int (0 : Int32))) (hn : vi < zA) (hs : One s8) (hin : ¬ vi < 0 ∧ vi < zA) (hat : (A.map Value.int).getD vi.toNatClampNeg (.int (0 : Int32)) = .int x) :
    ∀ target, Steps p.tables e below (T0.setTop (mkF m 35 #[oa a0, oa a1, oa b, oi vc, oi vj, oa a0, oi zA, oi vi, oi x] [])) target → Steps p.tables e below (T0.setTop (mkF m 21 #[oa a0, oa a1, oa b, oi vc, oi vj, oa a0, oi zA, oi vi, s8] [])) target := by
  have b1 : vi < zA := hn
  intro target k
  show oS p e below T0 m 21 #[oa a0, oa a1, oa b, oi vc, oi vj, oa a0, oi zA, oi vi, s8] [] _
  refine XS.iload X0.here hx rfl (hb hby own_d3_21) rfl ?_
  show oS p e below T0 m 23 #[oa a0, oa a1, oa b, oi vc, oi vj, oa a0, oi zA, oi vi, s8] [(.int vi)] _
  refine XS.iload X0.here hx rfl (hb hby own_d3_23) rfl ?_
  show oS p e below T0 m 25 #[oa a0, oa a1, oa b, oi vc, oi vj, oa a0, oi zA, oi vi, s8] [(.int zA), (.int vi)] _
  refine XS.icmpNo X0.here hx rfl (hb hby own_d3_25) rfl (tlt b1).2.1 ?_
  show oS p e below T0 m 28 #[oa a0, oa a1, oa b, oi vc, oi vj, oa a0, oi zA, oi vi, s8] [] _
  refine XS.aload X0.here hx rfl (hb hby own_d3_28) rfl rfl ?_
  show oS p e below T0 m 30 #[oa a0, oa a1, oa b, oi vc, oi vj, oa a0, oi zA, oi vi, s8] [(.ref a0)] _
  refine XS.iload X0.here hx rfl (hb hby own_d3_30) rfl ?_
  show oS p e below T0 m 32 #[oa a0, oa a1, oa b, oi vc, oi vj, oa a0, oi zA, oi vi, s8] [(.int vi), (.ref a0)] _
  refine oLdI X0 hx hZ e0 V_a0 (v := (.int x)) hin hat (hb hby own_d3_32) ?_
  show oS p e below T0 m 33 #[oa a0, oa a1, oa b, oi vc, oi vj, oa a0, oi zA, oi vi, s8] [(.int x)] _
  refine XS.istore X0.here hx rfl (hb hby own_d3_33) rfl (l' := #[oa a0, oa a1, oa b, oi vc, oi vj, oa a0, oi zA, oi vi, oi x]) (own_os8 hs) ?_
  exact k
theorem own_d3_35 : decode prog_30_method_3_code 35 = .ok (.iload 4, 2) := by decide +kernel
theorem own_d3_37 : decode prog_30_method_3_code 37 = .ok (.aload_n 1, 1) := by decide +kernel
theorem own_d3_38 : decode prog_30_method_3_code 38 = .ok (.arraylength, 1) := by decide +kernel
theorem own_d3_39 : decode prog_30_method_3_code 39 = .ok (.if_icmp .ge 18, 3) := by decide +kernel
theorem own_d3_42 : decode prog_30_method_3_code 42 = .ok (.aload_n 1, 1) := by decide +kernel
theorem own_d3_43 : decode prog_30_method_3_code 43 = .ok (.iload 4, 2) := by decide +kernel
theorem own_d3_45 : decode prog_30_method_3_code 45 = .ok (.iaload, 1) := by decide +kernel
theorem own_d3_46 : decode prog_30_method_3_code 46 = .ok (.iload 8, 2) := by decide +kernel
theorem own_d3_48 : decode prog_30_method_3_code 48 = .ok (.if_icmp .ge 9, 3) := by decide +kernel
theorem own_d3_51 : decode prog_30_method_3_code 51 = .ok (.iinc 4 1, 3) := by decide +kernel
theorem own_d3_54 : decode prog_30_method_3_code 54 = .ok (.goto (-19), 3) := by decide +kernel
set_option maxRecDepth 65536 in
theorem own_p3 {p : Program} {l : Launch} {e : Env} {R : Room} {s : State} {m : MethodId} {args : Array Value} {below : List Frame} {meth : Method} {c : Code} {T0 : State} {locs : List Loc} {cells slots : Nat} {Z : State} {h0 : Heap} {a0 a1 b : Addr} {kR : ClassId} {zA zR vc vj vi x y : Int32} {Rl : List Int32}
    (X0 : Stand p l e R s m args below meth c T0 locs cells slots) (hx : p.tables.exec = Jvm.exec) (hZ : Z.Warmed39 s.vm) (hby : c.code = prog_30_method_3_code) (e0 : T0.heap = h0) (V_a1 : Arv Z h0 a1 kR .int zR (Rl.map Value.int) (.int (0 : Int32))) (hin : ¬ vj < 0 ∧ vj < zR) (hat : (Rl.map Value.int).getD vj.toNatClampNeg (.int (0 : Int32)) = .int y) (hl : y < x) :
    ∀ target, Steps p.tables e below (T0.setTop (mkF m 35 #[oa a0, oa a1, oa b, oi vc, oi (vj + (1 : Int32)), oa a0, oi zA, oi vi, oi x] [])) target → Steps p.tables e below (T0.setTop (mkF m 35 #[oa a0, oa a1, oa b, oi vc, oi vj, oa a0, oi zA, oi vi, oi x] [])) target := by
  have b1 : vj < zR := hin.2
  have b2 : y < x := hl
  intro target k
  show oS p e below T0 m 35 #[oa a0, oa a1, oa b, oi vc, oi vj, oa a0, oi zA, oi vi, oi x] [] _
  refine XS.iload X0.here hx rfl (hb hby own_d3_35) rfl ?_
  show oS p e below T0 m 37 #[oa a0, oa a1, oa b, oi vc, oi vj, oa a0, oi zA, oi vi, oi x] [(.int vj)] _
  refine XS.aloadN X0.here hx rfl (hb hby own_d3_37) rfl rfl ?_
  show oS p e below T0 m 38 #[oa a0, oa a1, oa b, oi vc, oi vj, oa a0, oi zA, oi vi, oi x] [(.ref a1), (.int vj)] _
  refine oLen X0 hx hZ e0 V_a1 (hb hby own_d3_38) ?_
  show oS p e below T0 m 39 #[oa a0, oa a1, oa b, oi vc, oi vj, oa a0, oi zA, oi vi, oi x] [(.int zR), (.int vj)] _
  refine XS.icmpNo X0.here hx rfl (hb hby own_d3_39) rfl (tlt b1).2.1 ?_
  show oS p e below T0 m 42 #[oa a0, oa a1, oa b, oi vc, oi vj, oa a0, oi zA, oi vi, oi x] [] _
  refine XS.aloadN X0.here hx rfl (hb hby own_d3_42) rfl rfl ?_
  show oS p e below T0 m 43 #[oa a0, oa a1, oa b, oi vc, oi vj, oa a0, oi zA, oi vi, oi x] [(.ref a1)] _
  refine XS.iload X0.here hx rfl (hb hby own_d3_43) rfl ?_
  show oS p e below T0 m 45 #[oa a0, oa a1, oa b, oi vc, oi vj, oa a0, oi zA, oi vi, oi x] [(.int vj), (.ref a1)] _
  refine oLdI X0 hx hZ e0 V_a1 (v := (.int y)) hin hat (hb hby own_d3_45) ?_
  show oS p e below T0 m 46 #[oa a0, oa a1, oa b, oi vc, oi vj, oa a0, oi zA, oi vi, oi x] [(.int y)] _
  refine XS.iload X0.here hx rfl (hb hby own_d3_46) rfl ?_
  show oS p e below T0 m 48 #[oa a0, oa a1, oa b, oi vc, oi vj, oa a0, oi zA, oi vi, oi x] [(.int x), (.int y)] _
  refine XS.icmpNo X0.here hx rfl (hb hby own_d3_48) rfl (tlt b2).2.1 ?_
  show oS p e below T0 m 51 #[oa a0, oa a1, oa b, oi vc, oi vj, oa a0, oi zA, oi vi, oi x] [] _
  refine XS.iinc X0.here hx rfl (hb hby own_d3_51) rfl (l' := #[oa a0, oa a1, oa b, oi vc, oi (vj + (1 : Int32)), oa a0, oi zA, oi vi, oi x]) rfl ?_
  show oS p e below T0 m 54 #[oa a0, oa a1, oa b, oi vc, oi (vj + (1 : Int32)), oa a0, oi zA, oi vi, oi x] [] _
  refine XS.goto X0.here hx rfl (pc0 := 54) (pc' := 35) rfl (hb hby own_d3_54) (by decide) (by decide) ?_
  exact k
set_option maxRecDepth 65536 in
theorem own_p4a {p : Program} {l : Launch} {e : Env} {R : Room} {s : State} {m : MethodId} {args : Array Value} {below : List Frame} {meth : Method} {c : Code} {T0 : State} {locs : List Loc} {cells slots : Nat} {Z : State} {h0 : Heap} {a0 a1 b : Addr} {kR : ClassId} {zA zR vc vj vi x : Int32} {Rl : List Int32}
    (X0 : Stand p l e R s m args below meth c T0 locs cells slots) (hx : p.tables.exec = Jvm.exec) (hZ : Z.Warmed39 s.vm) (hby : c.code = prog_30_method_3_code) (e0 : T0.heap = h0) (V_a1 : Arv Z h0 a1 kR .int zR (Rl.map Value.int) (.int (0 : Int32))) (hn : ¬ vj < zR) :
    ∀ target, Steps p.tables e below (T0.setTop (mkF m 57 #[oa a0, oa a1, oa b, oi vc, oi vj, oa a0, oi zA, oi vi, oi x] [])) target → Steps p.tables e below (T0.setTop (mkF m 35 #[oa a0, oa a1, oa b, oi vc, oi vj, oa a0, oi zA, oi vi, oi x] [])) target := by
  have b1 : ¬ (vj < zR) := hn
  intro target k
  show oS p e below T0 m 35 #[oa a0, oa a1, oa b, oi vc, oi vj, oa a0, oi zA, oi vi, oi x] [] _
  refine XS.iload X0.here hx rfl (hb hby own_d3_35) rfl ?_
  show oS p e below T0 m 37 #[oa a0, oa a1, oa b, oi vc, oi vj, oa a0, oi zA, oi vi, oi x] [(.int vj)] _
  refine XS.aloadN X0.here hx rfl (hb hby own_d3_37) rfl rfl ?_
  show oS p e below T0 m 38 #[oa a0, oa a1, oa b, oi vc, oi vj, oa a0, oi zA, oi vi, oi x] [(.ref a1), (.int vj)] _
  refine oLen X0 hx hZ e0 V_a1 (hb hby own_d3_38) ?_
  show oS p e below T0 m 39 #[oa a0, oa a1, oa b, oi vc, oi vj, oa a0, oi zA, oi vi, oi x] [(.int zR), (.int vj)] _
  refine XS.icmpYes X0.here hx rfl (pc0 := 39) (pc' := 57) rfl (hb hby own_d3_39) rfl (flt b1).2.1 (by decide) (by decide) ?_
  exact k
set_option maxRecDepth 65536 in
theorem own_p4b {p : Program} {l : Launch} {e : Env} {R : Room} {s : State} {m : MethodId} {args : Array Value} {below : List Frame} {meth : Method} {c : Code} {T0 : State} {locs : List Loc} {cells slots : Nat} {Z : State} {h0 : Heap} {a0 a1 b : Addr} {kR : ClassId} {zA zR vc vj vi x y : Int32} {Rl : List Int32}
    (X0 : Stand p l e R s m args below meth c T0 locs cells slots) (hx : p.tables.exec = Jvm.exec) (hZ : Z.Warmed39 s.vm) (hby : c.code = prog_30_method_3_code) (e0 : T0.heap = h0) (V_a1 : Arv Z h0 a1 kR .int zR (Rl.map Value.int) (.int (0 : Int32))) (hin : ¬ vj < 0 ∧ vj < zR) (hat : (Rl.map Value.int).getD vj.toNatClampNeg (.int (0 : Int32)) = .int y) (hl : ¬ y < x) :
    ∀ target, Steps p.tables e below (T0.setTop (mkF m 57 #[oa a0, oa a1, oa b, oi vc, oi vj, oa a0, oi zA, oi vi, oi x] [])) target → Steps p.tables e below (T0.setTop (mkF m 35 #[oa a0, oa a1, oa b, oi vc, oi vj, oa a0, oi zA, oi vi, oi x] [])) target := by
  have b1 : vj < zR := hin.2
  have b2 : ¬ (y < x) := hl
  intro target k
  show oS p e below T0 m 35 #[oa a0, oa a1, oa b, oi vc, oi vj, oa a0, oi zA, oi vi, oi x] [] _
  refine XS.iload X0.here hx rfl (hb hby own_d3_35) rfl ?_
  show oS p e below T0 m 37 #[oa a0, oa a1, oa b, oi vc, oi vj, oa a0, oi zA, oi vi, oi x] [(.int vj)] _
  refine XS.aloadN X0.here hx rfl (hb hby own_d3_37) rfl rfl ?_
  show oS p e below T0 m 38 #[oa a0, oa a1, oa b, oi vc, oi vj, oa a0, oi zA, oi vi, oi x] [(.ref a1), (.int vj)] _
  refine oLen X0 hx hZ e0 V_a1 (hb hby own_d3_38) ?_
  show oS p e below T0 m 39 #[oa a0, oa a1, oa b, oi vc, oi vj, oa a0, oi zA, oi vi, oi x] [(.int zR), (.int vj)] _
  refine XS.icmpNo X0.here hx rfl (hb hby own_d3_39) rfl (tlt b1).2.1 ?_
  show oS p e below T0 m 42 #[oa a0, oa a1, oa b, oi vc, oi vj, oa a0, oi zA, oi vi, oi x] [] _
  refine XS.aloadN X0.here hx rfl (hb hby own_d3_42) rfl rfl ?_
  show oS p e below T0 m 43 #[oa a0, oa a1, oa b, oi vc, oi vj, oa a0, oi zA, oi vi, oi x] [(.ref a1)] _
  refine XS.iload X0.here hx rfl (hb hby own_d3_43) rfl ?_
  show oS p e below T0 m 45 #[oa a0, oa a1, oa b, oi vc, oi vj, oa a0, oi zA, oi vi, oi x] [(.int vj), (.ref a1)] _
  refine oLdI X0 hx hZ e0 V_a1 (v := (.int y)) hin hat (hb hby own_d3_45) ?_
  show oS p e below T0 m 46 #[oa a0, oa a1, oa b, oi vc, oi vj, oa a0, oi zA, oi vi, oi x] [(.int y)] _
  refine XS.iload X0.here hx rfl (hb hby own_d3_46) rfl ?_
  show oS p e below T0 m 48 #[oa a0, oa a1, oa b, oi vc, oi vj, oa a0, oi zA, oi vi, oi x] [(.int x), (.int y)] _
  refine XS.icmpYes X0.here hx rfl (pc0 := 48) (pc' := 57) rfl (hb hby own_d3_48) rfl (flt b2).2.1 (by decide) (by decide) ?_
  exact k
theorem own_d3_57 : decode prog_30_method_3_code 57 = .ok (.iload 4, 2) := by decide +kernel
theorem own_d3_59 : decode prog_30_method_3_code 59 = .ok (.aload_n 1, 1) := by decide +kernel
theorem own_d3_60 : decode prog_30_method_3_code 60 = .ok (.arraylength, 1) := by decide +kernel
theorem own_d3_61 : decode prog_30_method_3_code 61 = .ok (.if_icmp .eq 12, 3) := by decide +kernel
set_option maxRecDepth 65536 in
theorem own_p5a {p : Program} {l : Launch} {e : Env} {R : Room} {s : State} {m : MethodId} {args : Array Value} {below : List Frame} {meth : Method} {c : Code} {T0 : State} {locs : List Loc} {cells slots : Nat} {Z : State} {h0 : Heap} {a0 a1 b : Addr} {kR : ClassId} {zA zR vc vj vi x : Int32} {Rl : List Int32}
    (X0 : Stand p l e R s m args below meth c T0 locs cells slots) (hx : p.tables.exec = Jvm.exec) (hZ : Z.Warmed39 s.vm) (hby : c.code = prog_30_method_3_code) (e0 : T0.heap = h0) (V_a1 : Arv Z h0 a1 kR .int zR (Rl.map Value.int) (.int (0 : Int32))) (hn : vj = zR) :
    ∀ target, Steps p.tables e below (T0.setTop (mkF m 73 #[oa a0, oa a1, oa b, oi vc, oi vj, oa a0, oi zA, oi vi, oi x] [])) target → Steps p.tables e below (T0.setTop (mkF m 57 #[oa a0, oa a1, oa b, oi vc, oi vj, oa a0, oi zA, oi vi, oi x] [])) target := by
  have b1 : vj = zR := hn
  intro target k
  show oS p e below T0 m 57 #[oa a0, oa a1, oa b, oi vc, oi vj, oa a0, oi zA, oi vi, oi x] [] _
  refine XS.iload X0.here hx rfl (hb hby own_d3_57) rfl ?_
  show oS p e below T0 m 59 #[oa a0, oa a1, oa b, oi vc, oi vj, oa a0, oi zA, oi vi, oi x] [(.int vj)] _
  refine XS.aloadN X0.here hx rfl (hb hby own_d3_59) rfl rfl ?_
  show oS p e below T0 m 60 #[oa a0, oa a1, oa b, oi vc, oi vj, oa a0, oi zA, oi vi, oi x] [(.ref a1), (.int vj)] _
  refine oLen X0 hx hZ e0 V_a1 (hb hby own_d3_60) ?_
  show oS p e below T0 m 61 #[oa a0, oa a1, oa b, oi vc, oi vj, oa a0, oi zA, oi vi, oi x] [(.int zR), (.int vj)] _
  refine XS.icmpYes X0.here hx rfl (pc0 := 61) (pc' := 73) rfl (hb hby own_d3_61) rfl (teq b1).1 (by decide) (by decide) ?_
  exact k
theorem own_d3_64 : decode prog_30_method_3_code 64 = .ok (.aload_n 1, 1) := by decide +kernel
theorem own_d3_65 : decode prog_30_method_3_code 65 = .ok (.iload 4, 2) := by decide +kernel
theorem own_d3_67 : decode prog_30_method_3_code 67 = .ok (.iaload, 1) := by decide +kernel
theorem own_d3_68 : decode prog_30_method_3_code 68 = .ok (.iload 8, 2) := by decide +kernel
theorem own_d3_70 : decode prog_30_method_3_code 70 = .ok (.if_icmp .eq 11, 3) := by decide +kernel
set_option maxRecDepth 65536 in
theorem own_p5b {p : Program} {l : Launch} {e : Env} {R : Room} {s : State} {m : MethodId} {args : Array Value} {below : List Frame} {meth : Method} {c : Code} {T0 : State} {locs : List Loc} {cells slots : Nat} {Z : State} {h0 : Heap} {a0 a1 b : Addr} {kR : ClassId} {zA zR vc vj vi x y : Int32} {Rl : List Int32}
    (X0 : Stand p l e R s m args below meth c T0 locs cells slots) (hx : p.tables.exec = Jvm.exec) (hZ : Z.Warmed39 s.vm) (hby : c.code = prog_30_method_3_code) (e0 : T0.heap = h0) (V_a1 : Arv Z h0 a1 kR .int zR (Rl.map Value.int) (.int (0 : Int32))) (hin : ¬ vj < 0 ∧ vj < zR) (hat : (Rl.map Value.int).getD vj.toNatClampNeg (.int (0 : Int32)) = .int y) (hn : ¬ vj = zR) (hl : ¬ y = x) :
    ∀ target, Steps p.tables e below (T0.setTop (mkF m 73 #[oa a0, oa a1, oa b, oi vc, oi vj, oa a0, oi zA, oi vi, oi x] [])) target → Steps p.tables e below (T0.setTop (mkF m 57 #[oa a0, oa a1, oa b, oi vc, oi vj, oa a0, oi zA, oi vi, oi x] [])) target := by
  have b1 : ¬ (vj = zR) := hn
  have b2 : ¬ (y = x) := hl
  intro target k
  show oS p e below T0 m 57 #[oa a0, oa a1, oa b, oi vc, oi vj, oa a0, oi zA, oi vi, oi x] [] _
  refine XS.iload X0.here hx rfl (hb hby own_d3_57) rfl ?_
  show oS p e below T0 m 59 #[oa a0, oa a1, oa b, oi vc, oi vj, oa a0, oi zA, oi vi, oi x] [(.int vj)] _
  refine XS.aloadN X0.here hx rfl (hb hby own_d3_59) rfl rfl ?_
  show oS p e below T0 m 60 #[oa a0, oa a1, oa b, oi vc, oi vj, oa a0, oi zA, oi vi, oi x] [(.ref a1), (.int vj)] _
  refine oLen X0 hx hZ e0 V_a1 (hb hby own_d3_60) ?_
  show oS p e below T0 m 61 #[oa a0, oa a1, oa b, oi vc, oi vj, oa a0, oi zA, oi vi, oi x] [(.int zR), (.int vj)] _
  refine XS.icmpNo X0.here hx rfl (hb hby own_d3_61) rfl (feq b1).1 ?_
  show oS p e below T0 m 64 #[oa a0, oa a1, oa b, oi vc, oi vj, oa a0, oi zA, oi vi, oi x] [] _
  refine XS.aloadN X0.here hx rfl (hb hby own_d3_64) rfl rfl ?_
  show oS p e below T0 m 65 #[oa a0, oa a1, oa b, oi vc, oi vj, oa a0, oi zA, oi vi, oi x] [(.ref a1)] _
  refine XS.iload X0.here hx rfl (hb hby own_d3_65) rfl ?_
  show oS p e below T0 m 67 #[oa a0, oa a1, oa b, oi vc, oi vj, oa a0, oi zA, oi vi, oi x] [(.int vj), (.ref a1)] _
  refine oLdI X0 hx hZ e0 V_a1 (v := (.int y)) hin hat (hb hby own_d3_67) ?_
  show oS p e below T0 m 68 #[oa a0, oa a1, oa b, oi vc, oi vj, oa a0, oi zA, oi vi, oi x] [(.int y)] _
  refine XS.iload X0.here hx rfl (hb hby own_d3_68) rfl ?_
  show oS p e below T0 m 70 #[oa a0, oa a1, oa b, oi vc, oi vj, oa a0, oi zA, oi vi, oi x] [(.int x), (.int y)] _
  refine XS.icmpNo X0.here hx rfl (hb hby own_d3_70) rfl (feq b2).1 ?_
  exact k
set_option maxRecDepth 65536 in
theorem own_p5c {p : Program} {l : Launch} {e : Env} {R : Room} {s : State} {m : MethodId} {args : Array Value} {below : List Frame} {meth : Method} {c : Code} {T0 : State} {locs : List Loc} {cells slots : Nat} {Z : State} {h0 : Heap} {a0 a1 b : Addr} {kR : ClassId} {zA zR vc vj vi x y : Int32} {Rl : List Int32}
    (X0 : Stand p l e R s m args below meth c T0 locs cells slots) (hx : p.tables.exec = Jvm.exec) (hZ : Z.Warmed39 s.vm) (hby : c.code = prog_30_method_3_code) (e0 : T0.heap = h0) (V_a1 : Arv Z h0 a1 kR .int zR (Rl.map Value.int) (.int (0 : Int32))) (hin : ¬ vj < 0 ∧ vj < zR) (hat : (Rl.map Value.int).getD vj.toNatClampNeg (.int (0 : Int32)) = .int y) (hn : ¬ vj = zR) (hl : y = x) :
    ∀ target, Steps p.tables e below (T0.setTop (mkF m 81 #[oa a0, oa a1, oa b, oi vc, oi vj, oa a0, oi zA, oi vi, oi x] [])) target → Steps p.tables e below (T0.setTop (mkF m 57 #[oa a0, oa a1, oa b, oi vc, oi vj, oa a0, oi zA, oi vi, oi x] [])) target := by
  have b1 : ¬ (vj = zR) := hn
  have b2 : y = x := hl
  intro target k
  show oS p e below T0 m 57 #[oa a0, oa a1, oa b, oi vc, oi vj, oa a0, oi zA, oi vi, oi x] [] _
  refine XS.iload X0.here hx rfl (hb hby own_d3_57) rfl ?_
  show oS p e below T0 m 59 #[oa a0, oa a1, oa b, oi vc, oi vj, oa a0, oi zA, oi vi, oi x] [(.int vj)] _
  refine XS.aloadN X0.here hx rfl (hb hby own_d3_59) rfl rfl ?_
  show oS p e below T0 m 60 #[oa a0, oa a1, oa b, oi vc, oi vj, oa a0, oi zA, oi vi, oi x] [(.ref a1), (.int vj)] _
  refine oLen X0 hx hZ e0 V_a1 (hb hby own_d3_60) ?_
  show oS p e below T0 m 61 #[oa a0, oa a1, oa b, oi vc, oi vj, oa a0, oi zA, oi vi, oi x] [(.int zR), (.int vj)] _
  refine XS.icmpNo X0.here hx rfl (hb hby own_d3_61) rfl (feq b1).1 ?_
  show oS p e below T0 m 64 #[oa a0, oa a1, oa b, oi vc, oi vj, oa a0, oi zA, oi vi, oi x] [] _
  refine XS.aloadN X0.here hx rfl (hb hby own_d3_64) rfl rfl ?_
  show oS p e below T0 m 65 #[oa a0, oa a1, oa b, oi vc, oi vj, oa a0, oi zA, oi vi, oi x] [(.ref a1)] _
  refine XS.iload X0.here hx rfl (hb hby own_d3_65) rfl ?_
  show oS p e below T0 m 67 #[oa a0, oa a1, oa b, oi vc, oi vj, oa a0, oi zA, oi vi, oi x] [(.int vj), (.ref a1)] _
  refine oLdI X0 hx hZ e0 V_a1 (v := (.int y)) hin hat (hb hby own_d3_67) ?_
  show oS p e below T0 m 68 #[oa a0, oa a1, oa b, oi vc, oi vj, oa a0, oi zA, oi vi, oi x] [(.int y)] _
  refine XS.iload X0.here hx rfl (hb hby own_d3_68) rfl ?_
  show oS p e below T0 m 70 #[oa a0, oa a1, oa b, oi vc, oi vj, oa a0, oi zA, oi vi, oi x] [(.int x), (.int y)] _
  refine XS.icmpYes X0.here hx rfl (pc0 := 70) (pc' := 81) rfl (hb hby own_d3_70) rfl (teq b2).1 (by decide) (by decide) ?_
  exact k
theorem own_d3_73 : decode prog_30_method_3_code 73 = .ok (.aload_n 2, 1) := by decide +kernel
theorem own_d3_74 : decode prog_30_method_3_code 74 = .ok (.iload_n 3, 1) := by decide +kernel
theorem own_d3_75 : decode prog_30_method_3_code 75 = .ok (.iinc 3 1, 3) := by decide +kernel
theorem own_d3_78 : decode prog_30_method_3_code 78 = .ok (.iload 8, 2) := by decide +kernel
set_option maxRecDepth 65536 in
theorem own_p6 {p : Program} {l : Launch} {e : Env} {R : Room} {s : State} {m : MethodId} {args : Array Value} {below : List Frame} {meth : Method} {c : Code} {T0 : State} {locs : List Loc} {cells slots : Nat} {Z : State} {h0 : Heap} {a0 a1 b : Addr} {zA vc vj vi x : Int32}
    (X0 : Stand p l e R s m args below meth c T0 locs cells slots) (hx : p.tables.exec = Jvm.exec) (hZ : Z.Warmed39 s.vm) (hby : c.code = prog_30_method_3_code) (e0 : T0.heap = h0)  :
    ∀ target, Steps p.tables e below (T0.setTop (mkF m 80 #[oa a0, oa a1, oa b, oi (vc + (1 : Int32)), oi vj, oa a0, oi zA, oi vi, oi x] [(.int x), (.int vc), (.ref b)])) target → Steps p.tables e below (T0.setTop (mkF m 73 #[oa a0, oa a1, oa b, oi vc, oi vj, oa a0, oi zA, oi vi, oi x] [])) target := by
  intro target k
  show oS p e below T0 m 73 #[oa a0, oa a1, oa b, oi vc, oi vj, oa a0, oi zA, oi vi, oi x] [] _
  refine XS.aloadN X0.here hx rfl (hb hby own_d3_73) rfl rfl ?_
  show oS p e below T0 m 74 #[oa a0, oa a1, oa b, oi vc, oi vj, oa a0, oi zA, oi vi, oi x] [(.ref b)] _
  refine XS.iloadN X0.here hx rfl (hb hby own_d3_74) rfl ?_
  show oS p e below T0 m 75 #[oa a0, oa a1, oa b, oi vc, oi vj, oa a0, oi zA, oi vi, oi x] [(.int vc), (.ref b)] _
  refine XS.iinc X0.here hx rfl (hb hby own_d3_75) rfl (l' := #[oa a0, oa a1, oa b, oi (vc + (1 : Int32)), oi vj, oa a0, oi zA, oi vi, oi x]) rfl ?_
  show oS p e below T0 m 78 #[oa a0, oa a1, oa b, oi (vc + (1 : Int32)), oi vj, oa a0, oi zA, oi vi, oi x] [(.int vc), (.ref b)] _
  refine XS.iload X0.here hx rfl (hb hby own_d3_78) rfl ?_
  exact k
theorem own_d3_81 : decode prog_30_method_3_code 81 = .ok (.iinc 7 1, 3) := by decide +kernel
theorem own_d3_84 : decode prog_30_method_3_code 84 = .ok (.goto (-63), 3) := by decide +kernel
set_option maxRecDepth 65536 in
theorem own_p7 {p : Program} {l : Launch} {e : Env} {R : Room} {s : State} {m : MethodId} {args : Array Value} {below : List Frame} {meth : Method} {c : Code} {T0 : State} {locs : List Loc} {cells slots : Nat} {Z : State} {h0 : Heap} {a0 a1 b : Addr} {zA vc vj vi x : Int32}
    (X0 : Stand p l e R s m args below meth c T0 locs cells slots) (hx : p.tables.exec = Jvm.exec) (hZ : Z.Warmed39 s.vm) (hby : c.code = prog_30_method_3_code) (e0 : T0.heap = h0)  :
    ∀ target, Steps p.tables e below (T0.setTop (mkF m 21 #[oa a0, oa a1, oa b, oi vc, oi vj, oa a0, oi zA, oi (vi + (1 : Int32)), oi x] [])) target → Steps p.tables e below (T0.setTop (mkF m 81 #[oa a0, oa a1, oa b, oi vc, oi vj, oa a0, oi zA, oi vi, oi x] [])) target := by
  intro target k
  show oS p e below T0 m 81 #[oa a0, oa a1, oa b, oi vc, oi vj, oa a0, oi zA, oi vi, oi x] [] _
  refine XS.iinc X0.here hx rfl (hb hby own_d3_81) rfl (l' := #[oa a0, oa a1, oa b, oi vc, oi vj, oa a0, oi zA, oi (vi + (1 : Int32)), oi x]) rfl ?_
  show oS p e below T0 m 84 #[oa a0, oa a1, oa b, oi vc, oi vj, oa a0, oi zA, oi (vi + (1 : Int32)), oi x] [] _
  refine XS.goto X0.here hx rfl (pc0 := 84) (pc' := 21) rfl (hb hby own_d3_84) (by decide) (by decide) ?_
  exact k
theorem own_d3_80 : decode prog_30_method_3_code 80 = .ok (.iastore, 1) := by decide +kernel
theorem own_adv1 {x y : Int32} {ys : List Int32} (q : y < x) : own_adv own_lt (y :: ys) x = own_adv own_lt ys x := by
  simp only [own_adv]; rw [if_pos (show own_lt y x = true from decide_eq_true q)]
theorem own_adv2 {x y : Int32} {ys : List Int32} (q : ¬ y < x) : own_adv own_lt (y :: ys) x = y :: ys := by
  simp only [own_adv]; rw [if_neg (show ¬ own_lt y x = true from fun z => q (of_decide_eq_true z))]
theorem own_ap (out : List Int32) (x : Int32) (zs : List Int32) : (out ++ [x]) ++ zs = out ++ x :: zs := by rw [List.append_assoc]; rfl
theorem own_inn {p : Program} {l : Launch} {e : Env} {R : Room} {s : State} {m : MethodId} {args : Array Value} {below : List Frame} {meth : Method} {c : Code} {Z : State} {cells slots : Nat} {a0 a1 b : Addr} {kR : ClassId} {zA zR : Int32} {A Rl : List Int32} (hx : p.tables.exec = Jvm.exec) (hZ : Z.Warmed39 s.vm) (hby : c.code = prog_30_method_3_code) (hzA : zA.toInt = (A.length : Int)) (hA5 : A.length ≤ 5) (hzR : zR.toInt = (Rl.length : Int)) (hR5 : Rl.length ≤ 5) {T0 : State} {h0 : Heap} {locs : List Loc} (X0 : Stand p l e R s m args below meth c T0 locs cells slots) (e0 : T0.heap = h0) (V1 : Arv Z h0 a1 kR .int zR (Rl.map Value.int) (.int (0 : Int32))) {vc vi x : Int32} :
    ∀ (ys : List Int32) (vj : Int32) (j : Nat), Rl.drop j = ys → j ≤ Rl.length → vj.toInt = (j : Int) →
      ∃ (vj' : Int32) (j' : Nat), vj'.toInt = (j' : Int) ∧ j' ≤ Rl.length ∧ Rl.drop j' = own_adv own_lt ys x ∧ ∀ target, Steps p.tables e below (T0.setTop (mkF m 57 #[oa a0, oa a1, oa b, oi vc, oi vj', oa a0, oi zA, oi vi, oi x] [])) target → Steps p.tables e below (T0.setTop (mkF m 35 #[oa a0, oa a1, oa b, oi vc, oi vj, oa a0, oi zA, oi vi, oi x] [])) target := by
  intro ys
  induction ys with
  | nil =>
    intro vj j hd hj hv
    have hl : Rl.length ≤ j := by
      by_cases q : Rl.length ≤ j
      · exact q
      · rw [List.drop_eq_getElem_cons (by omega)] at hd; cases hd
    refine ⟨vj, j, hv, hj, hd, own_p4a X0 hx hZ hby e0 V1 ?_⟩
    rw [own_ltp, hv, hzR]; omega
  | cons y ys ih =>
    intro vj j hd hj hv
    obtain ⟨e1, e2, e3⟩ := own_atD hd
    have hin : ¬ vj < 0 ∧ vj < zR := by
      simp only [own_ltp, hv, hzR, Int32.reduceToInt]; omega
    have hat : (Rl.map Value.int).getD vj.toNatClampNeg (.int (0 : Int32)) = .int y := by
      rw [own_nat hv, own_getD, e1]
    by_cases q : y < x
    · obtain ⟨vj', j', h1, h2, h3, st⟩ := ih (vj + 1) (j + 1) e3 (by omega) (own_inc hv (by omega))
      refine ⟨vj', j', h1, h2, ?_, fun target k => own_p3 X0 hx hZ hby e0 V1 hin hat q target (st target k)⟩
      rw [h3, own_adv1 q]
    · refine ⟨vj, j, hv, hj, ?_, own_p4b X0 hx hZ hby e0 V1 hin hat q⟩
      rw [hd, own_adv2 q]
theorem own_set (out : List Int32) (r : Nat) (x : Int32) : ((out ++ List.replicate (r + 1) 0).map Value.int).set out.length (.int x) = ((out ++ [x]) ++ List.replicate r 0).map Value.int := by
  rw [List.replicate_succ, List.map_append, List.map_append, List.set_append_right _ _ (by rw [List.length_map]; omega), List.length_map, Nat.sub_self, List.map_cons, List.set_cons_zero, List.map_append]
  simp
/-- the outer loop, whole: from its head with xs left to pc 87 -/
theorem own_out {p : Program} {l : Launch} {e : Env} {R : Room} {s : State} {m : MethodId} {args : Array Value} {below : List Frame} {meth : Method} {c : Code} {Z : State} {n0 : Nat} {cells slots : Nat} {a0 a1 b : Addr} {kA kR kb : ClassId} {zA zR : Int32} {A Rl : List Int32} (hx : p.tables.exec = Jvm.exec) (hZ : Z.Warmed39 s.vm) (hby : c.code = prog_30_method_3_code) (hzA : zA.toInt = (A.length : Int)) (hA5 : A.length ≤ 5) (hzR : zR.toInt = (Rl.length : Int)) (hR5 : Rl.length ≤ 5) (gb : n0 ≤ b) (na0 : a0 ≠ b) (na1 : a1 ≠ b) :
    ∀ (xs pre out : List Int32) (r : Nat) (vi vj vc : Int32) (j : Nat) (s8 : Slot) (T0 : State) (h0 : Heap) (locs : List Loc), A = pre ++ xs → vi.toInt = (pre.length : Int) → vj.toInt = (j : Int) → j ≤ Rl.length → vc.toInt = (out.length : Int) → out.length + r = A.length → xs.length ≤ r → One s8 →
      Stand p l e R s m args below meth c T0 locs cells slots → T0.heap = h0 → Fr n0 locs → Arv Z h0 a0 kA .int zA (A.map Value.int) (.int (0 : Int32)) → Arv Z h0 a1 kR .int zR (Rl.map Value.int) (.int (0 : Int32)) → Arv Z h0 b kb .int zA ((out ++ List.replicate r 0).map Value.int) (.int (0 : Int32)) →
      ∃ (T' : State) (h' : Heap) (locs' : List Loc) (vi' vj' vc' : Int32) (s8' : Slot) (r' : Nat), Stand p l e R s m args below meth c T' locs' cells slots ∧ T'.heap = h' ∧ Fr n0 locs' ∧ Keep h0 h' [b] ∧ vc'.toInt = ((out ++ own_dif own_lt xs (Rl.drop j)).length : Int) ∧ (out ++ own_dif own_lt xs (Rl.drop j)).length + r' = A.length ∧
        Arv Z h' b kb .int zA (((out ++ own_dif own_lt xs (Rl.drop j)) ++ List.replicate r' 0).map Value.int) (.int (0 : Int32)) ∧ ∀ target, Steps p.tables e below (T'.setTop (mkF m 87 #[oa a0, oa a1, oa b, oi vc', oi vj', oa a0, oi zA, oi vi', s8'] [])) target → Steps p.tables e below (T0.setTop (mkF m 21 #[oa a0, oa a1, oa b, oi vc, oi vj, oa a0, oi zA, oi vi, s8] [])) target := by
  intro xs
  induction xs with
  | nil =>
    intro pre out r vi vj vc j s8 T0 h0 locs hA hi hj hjl hc hr hxr hs X0 e0 N0 V0 V1 Vb
    have hl : pre.length = A.length := by rw [hA, List.append_nil]
    refine ⟨T0, h0, locs, vi, vj, vc, s8, r, X0, e0, N0, Keep.refl _ _, ?_, ?_, ?_, own_p1 X0 hx hZ hby e0 ?_⟩
    · rw [own_dif, List.append_nil]; exact hc
    · rw [own_dif, List.append_nil]; exact hr
    · rw [own_dif, List.append_nil]; exact Vb
    · rw [own_ltp, hi, hzA]; omega
  | cons x xs ih =>
    intro pre out r vi vj vc j s8 T0 h0 locs hA hi hj hjl hc hr hxr hs X0 e0 N0 V0 V1 Vb
    have hlen : A.length = pre.length + (xs.length + 1) := by rw [hA, List.length_append, List.length_cons]
    have hin : ¬ vi < 0 ∧ vi < zA := by
      simp only [own_ltp, hi, hzA, Int32.reduceToInt]; omega
    have hat : (A.map Value.int).getD vi.toNatClampNeg (.int (0 : Int32)) = .int x := by
      rw [own_nat hi, own_getD, (own_atD (R := A) (j := pre.length) (y := x) (ys := xs) (by rw [hA, List.drop_left])).1]
    obtain ⟨vj', j', k1, k2, k3, st1⟩ := own_inn hx hZ hby hzA hA5 hzR hR5 X0 e0 V1 (a0 := a0) (b := b) (vc := vc) (vi := vi) (x := x) (Rl.drop j) vj j rfl hjl hj
    have go1 := fun target k => own_p2 (x := x) X0 hx hZ hby e0 V0 hin.2 hs hin hat target (st1 target k)
    have hA' : A = (pre ++ [x]) ++ xs := by rw [hA, List.append_assoc]; rfl
    have hi' : (vi + (1 : Int32)).toInt = ((pre ++ [x]).length : Int) := by
      rw [own_inc hi (by omega), List.length_append]; rfl
    rw [own_dif, ← k3]
    cases hq : Rl.drop j' with
    | nil =>
      have hl : Rl.length ≤ j' := by
        by_cases q : Rl.length ≤ j'
        · exact q
        · rw [List.drop_eq_getElem_cons (by omega)] at hq; cases hq
      have hvz : vj' = zR := Int32.toInt_inj.mp (by rw [k1, hzR]; omega)
      obtain ⟨r0, rfl⟩ : ∃ r0, r = r0 + 1 := ⟨r - 1, by rw [List.length_cons] at hxr; omega⟩
      obtain ⟨T1, h1, X1, e1, W1, V2, st2⟩ := oStI X0 hx hZ e0 Vb (j := vc) (x := x) ⟨by simp only [own_ltp, hc, Int32.reduceToInt]; omega, by simp only [own_ltp, hc, hzA]; omega⟩ out.length (own_nat hc) (by rw [List.length_map, List.length_append, List.length_replicate]; omega) (g := (mkF m 80 #[oa a0, oa a1, oa b, oi (vc + (1 : Int32)), oi vj', oa a0, oi zA, oi vi, oi x] [(.int x), (.int vc), (.ref b)])) rfl rfl (hb hby own_d3_80)
      rw [own_set] at V2
      obtain ⟨T', h', locs', vi', vj2, vc', s8', r', X', e', N', K', hc', hr', V', st'⟩ := ih (pre ++ [x]) (out ++ [x]) r0 (vi + 1) vj' (vc + 1) j' (oi x) T1 h1 _ hA' hi' k1 k2 (by rw [own_inc hc (by omega), List.length_append]; rfl) (by rw [List.length_append, List.length_singleton]; omega) (by rw [List.length_cons] at hxr; omega) (One.val rfl) X1 e1 (Fr.snoc X1 N0 gb) (V0.other W1 na0) (V1.other W1 na1) V2
      rw [hq, own_ap] at hc' hr' V'
      refine ⟨T', h', locs', vi', vj2, vc', s8', r', X', e', N', (Keep.of_wr W1).trans K' (fun z hz => Or.inl hz), hc', hr', V', fun target k => go1 target (own_p5a X0 hx hZ hby e0 V1 hvz target (own_p6 X0 hx hZ hby e0 target (st2 target (own_p7 X1 hx hZ hby e1 target (st' target k)))))⟩
    | cons y ys =>
      obtain ⟨e1', e2', e3'⟩ := own_atD hq
      have hinj : ¬ vj' < 0 ∧ vj' < zR := by
        simp only [own_ltp, k1, hzR, Int32.reduceToInt]; omega
      have hatj : (Rl.map Value.int).getD vj'.toNatClampNeg (.int (0 : Int32)) = .int y := by
        rw [own_nat k1, own_getD, e1']
      have hvz : ¬ vj' = zR := fun q => by rw [q, hzR] at k1; omega
      by_cases q : y = x
      · obtain ⟨T', h', locs', vi', vj2, vc', s8', r', X', e', N', K', hc', hr', V', st'⟩ := ih (pre ++ [x]) out r (vi + 1) vj' vc j' (oi x) T0 h0 _ hA' hi' k1 k2 hc hr (by rw [List.length_cons] at hxr; omega) (One.val rfl) X0 e0 N0 V0 V1 Vb
        rw [hq] at hc' hr' V'
        simp only [if_pos q]
        exact ⟨T', h', locs', vi', vj2, vc', s8', r', X', e', N', K', hc', hr', V', fun target k => go1 target (own_p5c X0 hx hZ hby e0 V1 hinj hatj hvz q target (own_p7 X0 hx hZ hby e0 target (st' target k)))⟩
      · obtain ⟨r0, rfl⟩ : ∃ r0, r = r0 + 1 := ⟨r - 1, by rw [List.length_cons] at hxr; omega⟩
        obtain ⟨T1, h1, X1, e1, W1, V2, st2⟩ := oStI X0 hx hZ e0 Vb (j := vc) (x := x) ⟨by simp only [own_ltp, hc, Int32.reduceToInt]; omega, by simp only [own_ltp, hc, hzA]; omega⟩ out.length (own_nat hc) (by rw [List.length_map, List.length_append, List.length_replicate]; omega) (g := (mkF m 80 #[oa a0, oa a1, oa b, oi (vc + (1 : Int32)), oi vj', oa a0, oi zA, oi vi, oi x] [(.int x), (.int vc), (.ref b)])) rfl rfl (hb hby own_d3_80)
        rw [own_set] at V2
        obtain ⟨T', h', locs', vi', vj2, vc', s8', r', X', e', N', K', hc', hr', V', st'⟩ := ih (pre ++ [x]) (out ++ [x]) r0 (vi + 1) vj' (vc + 1) j' (oi x) T1 h1 _ hA' hi' k1 k2 (by rw [own_inc hc (by omega), List.length_append]; rfl) (by rw [List.length_append, List.length_singleton]; omega) (by rw [List.length_cons] at hxr; omega) (One.val rfl) X1 e1 (Fr.snoc X1 N0 gb) (V0.other W1 na0) (V1.other W1 na1) V2
        rw [hq, own_ap] at hc' hr' V'
        simp only [if_neg q]
        exact ⟨T', h', locs', vi', vj2, vc', s8', r', X', e', N', (Keep.of_wr W1).trans K' (fun z hz => Or.inl hz), hc', hr', V', fun target k => go1 target (own_p5b X0 hx hZ hby e0 V1 hinj hatj hvz q target (own_p6 X0 hx hZ hby e0 target (st2 target (own_p7 X1 hx hZ hby e1 target (st' target k)))))⟩
theorem own_zn {z : Int32} {n : Nat} (h : z = Int32.ofNat n) (h5 : n ≤ 5) : ¬ z < 0 := by
  subst h; simp only [own_ltp, own_ofN h5, Int32.reduceToInt]; omega
theorem own_zc {z : Int32} {n : Nat} (h : z = Int32.ofNat n) (h5 : n ≤ 5) : z.toNatClampNeg ≤ 5 := by
  subst h; rw [own_nat (own_ofN h5)]; exact h5
theorem own_pd1 : parseMethodDescriptor "([II)[I" = some ⟨[(.array .int), .int], some (.array .int)⟩ := by decide +kernel
theorem own_pn2 : plainName "com/example/strict_anon/strictanon/service/RecordSets" = true := by first | (simp [plainName, overriddenIn]; done) | decide +kernel
theorem own_d3_0 : decode prog_30_method_3_code 0 = .ok (.aload_n 0, 1) := by decide +kernel
theorem own_d3_1 : decode prog_30_method_3_code 1 = .ok (.arraylength, 1) := by decide +kernel
theorem own_d3_2 : decode prog_30_method_3_code 2 = .ok (.newarray .int, 2) := by decide +kernel
theorem own_d3_4 : decode prog_30_method_3_code 4 = .ok (.astore_n 2, 1) := by decide +kernel
theorem own_d3_5 : decode prog_30_method_3_code 5 = .ok (.iconst 0, 1) := by decide +kernel
theorem own_d3_6 : decode prog_30_method_3_code 6 = .ok (.istore_n 3, 1) := by decide +kernel
theorem own_d3_7 : decode prog_30_method_3_code 7 = .ok (.iconst 0, 1) := by decide +kernel
theorem own_d3_8 : decode prog_30_method_3_code 8 = .ok (.istore 4, 2) := by decide +kernel
theorem own_d3_10 : decode prog_30_method_3_code 10 = .ok (.aload_n 0, 1) := by decide +kernel
theorem own_d3_11 : decode prog_30_method_3_code 11 = .ok (.astore 5, 2) := by decide +kernel
theorem own_d3_13 : decode prog_30_method_3_code 13 = .ok (.aload 5, 2) := by decide +kernel
theorem own_d3_15 : decode prog_30_method_3_code 15 = .ok (.arraylength, 1) := by decide +kernel
theorem own_d3_16 : decode prog_30_method_3_code 16 = .ok (.istore 6, 2) := by decide +kernel
theorem own_d3_18 : decode prog_30_method_3_code 18 = .ok (.iconst 0, 1) := by decide +kernel
theorem own_d3_19 : decode prog_30_method_3_code 19 = .ok (.istore 7, 2) := by decide +kernel
theorem own_d3_87 : decode prog_30_method_3_code 87 = .ok (.aload_n 2, 1) := by decide +kernel
theorem own_d3_88 : decode prog_30_method_3_code 88 = .ok (.iload_n 3, 1) := by decide +kernel
theorem own_d3_89 : decode prog_30_method_3_code 89 = .ok (.invokestatic 7, 3) := by decide +kernel
theorem own_d3_92 : decode prog_30_method_3_code 92 = .ok (.areturn, 1) := by decide +kernel
theorem own_ef3 (m : MethodId) (a0 : Addr) (a1 : Addr) : entryFrame m #[(.ref a0), (.ref a1)] 9 = mkF m 0 #[oa a0, oa a1, .unset, .unset, .unset, .unset, .unset, .unset, .unset] [] := by first | (simp [entryFrame, mkF, argsToLocals, Value.category]; done) | rfl
def own_Q3 (Z : State) (a0 : Addr) (a1 : Addr) (k_a0 : ClassId) (z_a0 : Int32) (ws_a0 : List Int32) (k_a1 : ClassId) (z_a1 : Int32) (ws_a1 : List Int32) (h0 : Heap) (n0 : Nat) (v : Option Value) (h : Heap) (L : List Loc) : Prop := ∃ (r : Addr) (k_r : ClassId), v = some (.ref r) ∧ Fr n0 L ∧ Keep h0 h [] ∧ h0.size ≤ r ∧ Arv Z h r k_r .int (Int32.ofNat (own_dif own_lt ws_a0 ws_a1).length) ((own_dif own_lt ws_a0 ws_a1).map Value.int) (.int (0 : Int32))
set_option maxRecDepth 65536 in
set_option maxHeartbeats 40000000 in
theorem own_rm3 (l : Launch) (Z : State) (av : Array Value) (hw : ∀ d ∈ tables_1, d.before av Z = true) (ws : List Jvm.Cond) (a0 : Addr) (a1 : Addr) (k_a0 : ClassId) (z_a0 : Int32) (ws_a0 : List Int32) (k_a1 : ClassId) (z_a1 : Int32) (ws_a1 : List Int32) (h0 : Heap) (n0 : Nat) (Z0 : n0 ≤ h0.size) (V_a0 : Arv Z h0 a0 k_a0 .int z_a0 (ws_a0.map Value.int) (.int (0 : Int32))) (V_a1 : Arv Z h0 a1 k_a1 .int z_a1 (ws_a1.map Value.int) (.int (0 : Int32))) (hA : z_a0 = Int32.ofNat ws_a0.length) (hA5 : ws_a0.length ≤ 5) (hR : z_a1 = Int32.ofNat ws_a1.length) (hR5 : ws_a1.length ≤ 5) :
    MetFree l (⟨"com/example/strict_anon/strictanon/service/RecordSets", "difference", "([I[I)[I"⟩ : MethodName) (head1 (Jvm.Cond.code (⟨"com/example/strict_anon/strictanon/service/RecordSets", "difference", "([I[I)[I"⟩ : MethodName) prog_30_method_3_code 9 (some (.array .int)) :: ws) ({ frames := 2, cells := 2, slots := 10, locals := 54 } : Room)) (fun a U => a = #[(.ref a0), (.ref a1)] ∧ Z.Warmed39 U.vm ∧ U.heap = h0) (fun _ _ _ _ _ => True) (fun _ U o U' => ∃ v L, o = .returned v ∧ own_Q3 Z a0 a1 k_a0 z_a0 ws_a0 k_a1 z_a1 ws_a1 h0 n0 v U'.heap L ∧ FrameEnd U o U' L ({ frames := 2, cells := 2, slots := 10, locals := 54 } : Room).cells ({ frames := 2, cells := 2, slots := 10, locals := 54 } : Room).slots) := by
  refine MetFree.of_bodySF (plainFor_of_name own_pn2) hisR ?_
  intro p e s m args below meth c s₁ Bd hml0 hP hK
  obtain ⟨rfl, hZ, hh⟩ := hP
  have hx := Bd.exec
  have hby := Bd.bytes
  have hml : c.maxLocals = 9 := hml0
  have hown : s.vm.findClass "com/example/strict_anon/strictanon/service/RecordSets" = some m.cls := findClass_of_methodNamed Bd.named
  have hnm := (name_of_methodNamed Bd.named Bd.method).1
  have X0 : Stand p l e ({ frames := 2, cells := 2, slots := 10, locals := 54 } : Room) s m #[(.ref a0), (.ref a1)] below meth c s₁ [] 0 0 := Stand.of_body Bd
  have e0 : s₁.heap = h0 := by rw [← hh, Bd.state]; rfl
  have N0 := Fr.nil n0
  have pre0 : ∀ t, Steps p.tables e below (s₁.setTop (mkF m 0 #[oa a0, oa a1, .unset, .unset, .unset, .unset, .unset, .unset, .unset] [])) t → Steps p.tables e below (s₁.setTop (entryFrame m #[(.ref a0), (.ref a1)] 9)) t := fun t k => castTop (own_ef3 m a0 a1) k
  obtain ⟨T1, h1, k1, X1, e1, E1, A1, B1, st1⟩ := newPE X0 hx hZ (hw _ (List.mem_of_getElem? (i := 6) rfl)) e0 (g := (mkF m 2 #[oa a0, oa a1, .unset, .unset, .unset, .unset, .unset, .unset, .unset] [(.int z_a0)])) rfl (hb hby own_d3_2) rfl (own_zn hA hA5) (cap := 5) (own_zc hA hA5) (by decide) (by decide) (by decide) (ad := "[I") rfl
  obtain ⟨b1, g1⟩ : ∃ z, z = h0.size := ⟨_, rfl⟩
  rw [← g1] at A1 st1 B1
  have g_b1 : n0 ≤ b1 := Nat.le_trans Z0 (Nat.le_of_eq g1.symm)
  have ne2 : a0 ≠ b1 := Nat.ne_of_lt (Nat.lt_of_lt_of_le V_a0.lt (Nat.le_of_eq g1.symm))
  have ne3 : a1 ≠ b1 := Nat.ne_of_lt (Nat.lt_of_lt_of_le V_a1.lt (Nat.le_of_eq g1.symm))
  have Z1 : n0 ≤ h1.size := Nat.le_trans Z0 E1.1
  have sz_b1 : h0.size ≤ b1 := Nat.le_trans (Keep.refl h0 []).1 (Nat.le_of_eq g1.symm)
  have K_4 : Keep h0 h1 [] := (Keep.refl h0 []).ext E1
  have F5 := V_a0.ext E1
  have F6 := V_a1.ext E1
  have V_7 : Arv Z h1 b1 k1 .int z_a0 [] (.int (0 : Int32)) := (Arv.new A1 (own_zn hA hA5))
  have pre8 : ∀ t, Steps p.tables e below (T1.setTop (mkF m 21 #[oa a0, oa a1, oa b1, oi (0 : Int32), oi (0 : Int32), oa a0, oi z_a0, oi (0 : Int32), .unset] [])) t → Steps p.tables e below (s₁.setTop (entryFrame m #[(.ref a0), (.ref a1)] 9)) t := by
    intro t k
    refine pre0 t ?_
    show oS p e below s₁ m 0 #[oa a0, oa a1, .unset, .unset, .unset, .unset, .unset, .unset, .unset] [] _
    refine XS.aloadN X0.here hx rfl (hb hby own_d3_0) rfl rfl ?_
    show oS p e below s₁ m 1 #[oa a0, oa a1, .unset, .unset, .unset, .unset, .unset, .unset, .unset] [(.ref a0)] _
    refine oLen X0 hx hZ e0 V_a0 (hb hby own_d3_1) ?_
    show oS p e below s₁ m 2 #[oa a0, oa a1, .unset, .unset, .unset, .unset, .unset, .unset, .unset] [(.int z_a0)] _
    refine st1 _ ?_
    show oS p e below T1 m 4 #[oa a0, oa a1, .unset, .unset, .unset, .unset, .unset, .unset, .unset] [(.ref b1)] _
    refine XS.astoreN X1.here hx rfl (hb hby own_d3_4) rfl rfl (l' := #[oa a0, oa a1, oa b1, .unset, .unset, .unset, .unset, .unset, .unset]) rfl ?_
    show oS p e below T1 m 5 #[oa a0, oa a1, oa b1, .unset, .unset, .unset, .unset, .unset, .unset] [] _
    refine XS.iconst X1.here hx rfl (hb hby own_d3_5) ?_
    show oS p e below T1 m 6 #[oa a0, oa a1, oa b1, .unset, .unset, .unset, .unset, .unset, .unset] [(.int (0 : Int32))] _
    refine XS.istoreN X1.here hx rfl (hb hby own_d3_6) rfl (l' := #[oa a0, oa a1, oa b1, oi (0 : Int32), .unset, .unset, .unset, .unset, .unset]) rfl ?_
    show oS p e below T1 m 7 #[oa a0, oa a1, oa b1, oi (0 : Int32), .unset, .unset, .unset, .unset, .unset] [] _
    refine XS.iconst X1.here hx rfl (hb hby own_d3_7) ?_
    show oS p e below T1 m 8 #[oa a0, oa a1, oa b1, oi (0 : Int32), .unset, .unset, .unset, .unset, .unset] [(.int (0 : Int32))] _
    refine XS.istore X1.here hx rfl (hb hby own_d3_8) rfl (l' := #[oa a0, oa a1, oa b1, oi (0 : Int32), oi (0 : Int32), .unset, .unset, .unset, .unset]) rfl ?_
    show oS p e below T1 m 10 #[oa a0, oa a1, oa b1, oi (0 : Int32), oi (0 : Int32), .unset, .unset, .unset, .unset] [] _
    refine XS.aloadN X1.here hx rfl (hb hby own_d3_10) rfl rfl ?_
    show oS p e below T1 m 11 #[oa a0, oa a1, oa b1, oi (0 : Int32), oi (0 : Int32), .unset, .unset, .unset, .unset] [(.ref a0)] _
    refine XS.astore X1.here hx rfl (hb hby own_d3_11) rfl rfl (l' := #[oa a0, oa a1, oa b1, oi (0 : Int32), oi (0 : Int32), oa a0, .unset, .unset, .unset]) rfl ?_
    show oS p e below T1 m 13 #[oa a0, oa a1, oa b1, oi (0 : Int32), oi (0 : Int32), oa a0, .unset, .unset, .unset] [] _
    refine XS.aload X1.here hx rfl (hb hby own_d3_13) rfl rfl ?_
    show oS p e below T1 m 15 #[oa a0, oa a1, oa b1, oi (0 : Int32), oi (0 : Int32), oa a0, .unset, .unset, .unset] [(.ref a0)] _
    refine oLen X1 hx hZ e1 F5 (hb hby own_d3_15) ?_
    show oS p e below T1 m 16 #[oa a0, oa a1, oa b1, oi (0 : Int32), oi (0 : Int32), oa a0, .unset, .unset, .unset] [(.int z_a0)] _
    refine XS.istore X1.here hx rfl (hb hby own_d3_16) rfl (l' := #[oa a0, oa a1, oa b1, oi (0 : Int32), oi (0 : Int32), oa a0, oi z_a0, .unset, .unset]) rfl ?_
    show oS p e below T1 m 18 #[oa a0, oa a1, oa b1, oi (0 : Int32), oi (0 : Int32), oa a0, oi z_a0, .unset, .unset] [] _
    refine XS.iconst X1.here hx rfl (hb hby own_d3_18) ?_
    show oS p e below T1 m 19 #[oa a0, oa a1, oa b1, oi (0 : Int32), oi (0 : Int32), oa a0, oi z_a0, .unset, .unset] [(.int (0 : Int32))] _
    refine XS.istore X1.here hx rfl (hb hby own_d3_19) rfl (l' := #[oa a0, oa a1, oa b1, oi (0 : Int32), oi (0 : Int32), oa a0, oi z_a0, oi (0 : Int32), .unset]) rfl ?_
    exact k
  have hzA : z_a0.toInt = (ws_a0.length : Int) := by rw [hA]; exact own_ofN hA5
  have hzR : z_a1.toInt = (ws_a1.length : Int) := by rw [hR]; exact own_ofN hR5
  have Vb : Arv Z h1 b1 k1 .int z_a0 ((([] : List Int32) ++ List.replicate ws_a0.length (0 : Int32)).map Value.int) (.int (0 : Int32)) := V_7.pad (fun i => by rw [List.nil_append, List.map_replicate]; have q := pad_rep [] (.int (0 : Int32)) ws_a0.length i; rw [List.nil_append] at q; exact q)
  obtain ⟨T9, h9, L9, vi9, vj9, vc9, s89, rN, X9, e9, N9, Kl9, hcN, hrN, Vl9, st9⟩ := own_out hx hZ hby hzA hA5 hzR hR5 g_b1 ne2 ne3 ws_a0 [] [] ws_a0.length (0 : Int32) (0 : Int32) (0 : Int32) 0 .unset _ _ _ rfl rfl rfl (Nat.zero_le _) rfl (Nat.zero_add _) (Nat.le_refl _) One.u X1 e1 N0 F5 F6 Vb
  rw [List.nil_append, List.drop_zero] at hcN hrN Vl9
  obtain ⟨outN, hout⟩ : ∃ z, z = own_dif own_lt ws_a0 ws_a1 := ⟨_, rfl⟩
  rw [← hout] at hcN hrN Vl9
  have Z9 := Nat.le_trans Z1 Kl9.1
  have Kd9 := K_4.trans Kl9 (allS (Or.inr sz_b1) all0)
  have El9 := B1.keep Kl9
  have hlN : outN.length ≤ 5 := by omega
  have hzN : z_a0.toInt = ((outN ++ List.replicate rN 0).length : Int) := by rw [hzA, List.length_append, List.length_replicate, hrN]
  have h5N : (outN ++ List.replicate rN 0).length ≤ 5 := by rw [List.length_append, List.length_replicate]; omega
  have hp1N : ¬ vc9 < 0 := by simp only [own_ltp, hcN, Int32.reduceToInt]; omega
  have hp2N : ¬ z_a0 < vc9 := by simp only [own_ltp, hcN, hzA]; omega
  have hp5N : vc9.toNatClampNeg ≤ 5 := by rw [own_nat hcN]; exact hlN
  have hvN : vc9 = Int32.ofNat (own_dif own_lt ws_a0 ws_a1).length := Int32.toInt_inj.mp (by rw [hcN, ← hout, own_ofN hlN])
  obtain ⟨_, _, ⟨T10, L10, k10, n10⟩, -, X10, ⟨Lc10, hQ10, l10, y10, z10⟩, st10⟩ := Jvm.LawKit.callS X9 hx (y := (⟨"java/util/Arrays", "copyOf", "([II)[I"⟩ : MethodName)) hown (mvT hZ (hw _ (List.mem_of_getElem? (i := 15) rfl))) (mvT hZ (hw _ (List.mem_of_getElem? (i := 16) rfl))) (mvT hZ (hw _ (List.mem_of_getElem? (i := 17) rfl))) (mvT hZ (hw _ (List.mem_of_getElem? (i := 18) rfl))) (by decide) (backOf (W := 0) (own_rm4 l Z av hw [] b1 vc9 k1 z_a0 (outN ++ List.replicate rN 0) outN (List.replicate rN 0) h9 n0 Z9 Vl9 El9 (rfl) (hzN) (h5N) (hcN) (hp1N) (hp2N) (hp5N)) hZ (hw _ (List.mem_of_getElem? (i := 18) rfl)) (hw _ (List.mem_of_getElem? (i := 17) rfl)) (by decide) (by decide)) (g := (mkF m 89 #[oa a0, oa a1, oa b1, oi vc9, oi vj9, oa a0, oi z_a0, oi vi9, s89] [(.int vc9), (.ref b1)])) rfl (by rw [hml]; rfl) (argsL := [(.ref b1), (.int vc9)]) (rest := []) (lenOf own_pd1 rfl) rfl (by show 2 * 0 + _ ≤ _; exact Nat.le_of_eq rfl) (hb hby own_d3_89) (fun _ _ => ⟨rfl, e9, (by decide : 1 + 1 ≤ _), (by decide : 5 + 5 ≤ _)⟩)
  dsimp only [Pt.U, Pt.locs, Pt.cells, Pt.slots] at X10 l10 y10 z10 st10 hQ10
  have yq10 : k10 = 2 := y10
  have zq10 : n10 = 10 := z10
  subst yq10 zq10
  obtain ⟨r_10, k_r_10, rfl, Nq10, Kq10, gq10_r, Oq10_0⟩ := hQ10
  have N10 : Fr n0 L10 := by rw [l10]; exact Fr.app N9 Nq10
  have Z10 : n0 ≤ T10.heap.size := Nat.le_trans Z9 Kq10.1
  have g_r_10 : n0 ≤ r_10 := Nat.le_trans Z9 gq10_r
  have ne11 : b1 ≠ r_10 := Nat.ne_of_lt (Nat.lt_of_lt_of_le Vl9.lt gq10_r)
  have sz_r_10 : h0.size ≤ r_10 := Nat.le_trans Kd9.1 gq10_r
  have F12 := Vl9.keep Kq10 nin0
  have F13 := El9.keep Kq10
  have K_14 : Keep h0 T10.heap [] := Kd9.trans Kq10 all0
  obtain ⟨fs, hr, hrun, hended, hW, hsame⟩ := X10.leave (v := (some (.ref r_10))) (fun h => by rw [Bd.returns] at h; cases h)
  refine ⟨_, _, pre8 _ ?_, hrun, hended, _, _, rfl, ?_, ⟨_, rfl⟩, hW, hsame.mono (by decide) (by decide)⟩
  · refine st9 _ ?_
    show oS p e below T9 m 87 #[oa a0, oa a1, oa b1, oi vc9, oi vj9, oa a0, oi z_a0, oi vi9, s89] [] _
    refine XS.aloadN X9.here hx rfl (hb hby own_d3_87) rfl rfl ?_
    show oS p e below T9 m 88 #[oa a0, oa a1, oa b1, oi vc9, oi vj9, oa a0, oi z_a0, oi vi9, s89] [(.ref b1)] _
    refine XS.iloadN X9.here hx rfl (hb hby own_d3_88) rfl ?_
    show oS p e below T9 m 89 #[oa a0, oa a1, oa b1, oi vc9, oi vj9, oa a0, oi z_a0, oi vi9, s89] [(.int vc9), (.ref b1)] _
    refine st10 _ ?_
    show oS p e below T10 m 92 #[oa a0, oa a1, oa b1, oi vc9, oi vj9, oa a0, oi z_a0, oi vi9, s89] [(.ref r_10)] _
    exact retOut X10 hx Bd.returns rfl (Or.inr (Or.inr (Or.inr (Or.inr ⟨rfl, rfl, rfl⟩)))) (hb hby own_d3_92) hr
  · show own_Q3 Z a0 a1 k_a0 z_a0 ws_a0 k_a1 z_a1 ws_a1 h0 n0 _ T10.heap _
    refine ⟨r_10, k_r_10, rfl, N10, K_14, sz_r_10, ?_⟩
    rw [← hvN, ← hout]
    exact Oq10_0
theorem own_d5_0 : decode method_4_code 0 = .ok (.aload_n 0, 1) := by decide +kernel
theorem own_d5_1 : decode method_4_code 1 = .ok (.ifnull 10, 3) := by decide +kernel
theorem own_d5_4 : decode method_4_code 4 = .ok (.aload_n 0, 1) := by decide +kernel
theorem own_d5_5 : decode method_4_code 5 = .ok (.arraylength, 1) := by decide +kernel
theorem own_d5_6 : decode method_4_code 6 = .ok (.aload_n 1, 1) := by decide +kernel
theorem own_d5_7 : decode method_4_code 7 = .ok (.arraylength, 1) := by decide +kernel
theorem own_d5_8 : decode method_4_code 8 = .ok (.if_icmp .eq 5, 3) := by decide +kernel
theorem own_d5_13 : decode method_4_code 13 = .ok (.aload_n 0, 1) := by decide +kernel
theorem own_d5_14 : decode method_4_code 14 = .ok (.arraylength, 1) := by decide +kernel
theorem own_d5_15 : decode method_4_code 15 = .ok (.ifCond .le 14, 3) := by decide +kernel
theorem own_d5_18 : decode method_4_code 18 = .ok (.aload_n 0, 1) := by decide +kernel
theorem own_d5_19 : decode method_4_code 19 = .ok (.iconst 0, 1) := by decide +kernel
theorem own_d5_20 : decode method_4_code 20 = .ok (.iaload, 1) := by decide +kernel
theorem own_d5_21 : decode method_4_code 21 = .ok (.aload_n 1, 1) := by decide +kernel
theorem own_d5_22 : decode method_4_code 22 = .ok (.iconst 0, 1) := by decide +kernel
theorem own_d5_23 : decode method_4_code 23 = .ok (.iaload, 1) := by decide +kernel
theorem own_d5_24 : decode method_4_code 24 = .ok (.if_icmp .eq 5, 3) := by decide +kernel
theorem own_d5_29 : decode method_4_code 29 = .ok (.aload_n 0, 1) := by decide +kernel
theorem own_d5_30 : decode method_4_code 30 = .ok (.arraylength, 1) := by decide +kernel
theorem own_d5_31 : decode method_4_code 31 = .ok (.iconst 1, 1) := by decide +kernel
theorem own_d5_32 : decode method_4_code 32 = .ok (.if_icmp .le 14, 3) := by decide +kernel
theorem own_d5_35 : decode method_4_code 35 = .ok (.aload_n 0, 1) := by decide +kernel
theorem own_d5_36 : decode method_4_code 36 = .ok (.iconst 1, 1) := by decide +kernel
theorem own_d5_37 : decode method_4_code 37 = .ok (.iaload, 1) := by decide +kernel
theorem own_d5_38 : decode method_4_code 38 = .ok (.aload_n 1, 1) := by decide +kernel
theorem own_d5_39 : decode method_4_code 39 = .ok (.iconst 1, 1) := by decide +kernel
theorem own_d5_40 : decode method_4_code 40 = .ok (.iaload, 1) := by decide +kernel
theorem own_d5_41 : decode method_4_code 41 = .ok (.if_icmp .eq 5, 3) := by decide +kernel
theorem own_d5_46 : decode method_4_code 46 = .ok (.aload_n 0, 1) := by decide +kernel
theorem own_d5_47 : decode method_4_code 47 = .ok (.arraylength, 1) := by decide +kernel
theorem own_d5_48 : decode method_4_code 48 = .ok (.iconst 2, 1) := by decide +kernel
theorem own_d5_49 : decode method_4_code 49 = .ok (.if_icmp .le 14, 3) := by decide +kernel
theorem own_d5_52 : decode method_4_code 52 = .ok (.aload_n 0, 1) := by decide +kernel
theorem own_d5_53 : decode method_4_code 53 = .ok (.iconst 2, 1) := by decide +kernel
theorem own_d5_54 : decode method_4_code 54 = .ok (.iaload, 1) := by decide +kernel
theorem own_d5_55 : decode method_4_code 55 = .ok (.aload_n 1, 1) := by decide +kernel
theorem own_d5_56 : decode method_4_code 56 = .ok (.iconst 2, 1) := by decide +kernel
theorem own_d5_57 : decode method_4_code 57 = .ok (.iaload, 1) := by decide +kernel
theorem own_d5_58 : decode method_4_code 58 = .ok (.if_icmp .eq 5, 3) := by decide +kernel
theorem own_d5_63 : decode method_4_code 63 = .ok (.aload_n 0, 1) := by decide +kernel
theorem own_d5_64 : decode method_4_code 64 = .ok (.arraylength, 1) := by decide +kernel
theorem own_d5_65 : decode method_4_code 65 = .ok (.iconst 3, 1) := by decide +kernel
theorem own_d5_66 : decode method_4_code 66 = .ok (.if_icmp .le 14, 3) := by decide +kernel
theorem own_d5_69 : decode method_4_code 69 = .ok (.aload_n 0, 1) := by decide +kernel
theorem own_d5_70 : decode method_4_code 70 = .ok (.iconst 3, 1) := by decide +kernel
theorem own_d5_71 : decode method_4_code 71 = .ok (.iaload, 1) := by decide +kernel
theorem own_d5_72 : decode method_4_code 72 = .ok (.aload_n 1, 1) := by decide +kernel
theorem own_d5_73 : decode method_4_code 73 = .ok (.iconst 3, 1) := by decide +kernel
theorem own_d5_74 : decode method_4_code 74 = .ok (.iaload, 1) := by decide +kernel
theorem own_d5_75 : decode method_4_code 75 = .ok (.if_icmp .eq 5, 3) := by decide +kernel
theorem own_d5_80 : decode method_4_code 80 = .ok (.aload_n 0, 1) := by decide +kernel
theorem own_d5_81 : decode method_4_code 81 = .ok (.arraylength, 1) := by decide +kernel
theorem own_d5_82 : decode method_4_code 82 = .ok (.iconst 4, 1) := by decide +kernel
theorem own_d5_83 : decode method_4_code 83 = .ok (.if_icmp .le 14, 3) := by decide +kernel
theorem own_d5_86 : decode method_4_code 86 = .ok (.aload_n 0, 1) := by decide +kernel
theorem own_d5_87 : decode method_4_code 87 = .ok (.iconst 4, 1) := by decide +kernel
theorem own_d5_88 : decode method_4_code 88 = .ok (.iaload, 1) := by decide +kernel
theorem own_d5_89 : decode method_4_code 89 = .ok (.aload_n 1, 1) := by decide +kernel
theorem own_d5_90 : decode method_4_code 90 = .ok (.iconst 4, 1) := by decide +kernel
theorem own_d5_91 : decode method_4_code 91 = .ok (.iaload, 1) := by decide +kernel
theorem own_d5_92 : decode method_4_code 92 = .ok (.if_icmp .eq 5, 3) := by decide +kernel
theorem own_d5_97 : decode method_4_code 97 = .ok (.iconst 1, 1) := by decide +kernel
theorem own_d5_98 : decode method_4_code 98 = .ok (.ireturn, 1) := by decide +kernel
theorem own_ef5 (m : MethodId) (a0 : Addr) (a1 : Addr) : entryFrame m #[(.ref a0), (.ref a1)] 2 = mkF m 0 #[oa a0, oa a1] [] := by first | (simp [entryFrame, mkF, argsToLocals, Value.category]; done) | rfl
def own_Q5 (Z : State) (a0 : Addr) (a1 : Addr) (k_a0 : ClassId) (z_a0 : Int32) (ws_a0 : List Int32) (k_a1 : ClassId) (z_a1 : Int32) (ws_a1 : List Int32) (h0 : Heap) (n0 : Nat) (v : Option Value) (h : Heap) (L : List Loc) : Prop := v = some (.int (1 : Int32)) ∧ Fr n0 L ∧ h = h0
set_option maxRecDepth 65536 in
set_option maxHeartbeats 40000000 in
theorem own_rm5 (l : Launch) (Z : State) (av : Array Value) (hw : ∀ d ∈ tables_1, d.before av Z = true) (ws : List Jvm.Cond) (a0 : Addr) (a1 : Addr) (k_a0 : ClassId) (z_a0 : Int32) (ws_a0 : List Int32) (k_a1 : ClassId) (z_a1 : Int32) (ws_a1 : List Int32) (h0 : Heap) (n0 : Nat) (Z0 : n0 ≤ h0.size) (V_a0 : Arv Z h0 a0 k_a0 .int z_a0 (ws_a0.map Value.int) (.int (0 : Int32))) (V_a1 : Arv Z h0 a1 k_a1 .int z_a1 (ws_a1.map Value.int) (.int (0 : Int32))) (hz : z_a1 = z_a0) (hws : ws_a1 = ws_a0) :
    MetFree l (⟨"com/example/strict_anon/strictanon/service/RecordSetsDifferencePinLaw", "same", "([I[I)Z"⟩ : MethodName) (head1 (Jvm.Cond.code (⟨"com/example/strict_anon/strictanon/service/RecordSetsDifferencePinLaw", "same", "([I[I)Z"⟩ : MethodName) method_4_code 2 (some .boolean) :: ws) ({ frames := 0, cells := 0, slots := 0, locals := 0 } : Room)) (fun a U => a = #[(.ref a0), (.ref a1)] ∧ Z.Warmed39 U.vm ∧ U.heap = h0) (fun _ _ _ _ _ => True) (fun _ U o U' => ∃ v L, o = .returned v ∧ own_Q5 Z a0 a1 k_a0 z_a0 ws_a0 k_a1 z_a1 ws_a1 h0 n0 v U'.heap L ∧ FrameEnd U o U' L ({ frames := 0, cells := 0, slots := 0, locals := 0 } : Room).cells ({ frames := 0, cells := 0, slots := 0, locals := 0 } : Room).slots) := by
  refine MetFree.of_bodySF (plainFor_of_name own_pn0) hisR ?_
  intro p e s m args below meth c s₁ Bd hml0 hP hK
  obtain ⟨rfl, hZ, hh⟩ := hP
  have hx := Bd.exec
  have hby := Bd.bytes
  have hml : c.maxLocals = 2 := hml0
  have hown : s.vm.findClass "com/example/strict_anon/strictanon/service/RecordSetsDifferencePinLaw" = some m.cls := findClass_of_methodNamed Bd.named
  have hnm := (name_of_methodNamed Bd.named Bd.method).1
  have X0 : Stand p l e ({ frames := 0, cells := 0, slots := 0, locals := 0 } : Room) s m #[(.ref a0), (.ref a1)] below meth c s₁ [] 0 0 := Stand.of_body Bd
  have e0 : s₁.heap = h0 := by rw [← hh, Bd.state]; rfl
  have N0 := Fr.nil n0
  have pre0 : ∀ t, Steps p.tables e below (s₁.setTop (mkF m 0 #[oa a0, oa a1] [])) t → Steps p.tables e below (s₁.setTop (entryFrame m #[(.ref a0), (.ref a1)] 2)) t := fun t k => castTop (own_ef5 m a0 a1) k
  have b1 : z_a0 = z_a1 := hz.symm
  have pre2 : ∀ t, Steps p.tables e below (s₁.setTop (mkF m 15 #[oa a0, oa a1] [(.int z_a0)])) t → Steps p.tables e below (s₁.setTop (entryFrame m #[(.ref a0), (.ref a1)] 2)) t := by
    intro t k
    refine pre0 t ?_
    show oS p e below s₁ m 0 #[oa a0, oa a1] [] _
    refine XS.aloadN X0.here hx rfl (hb hby own_d5_0) rfl rfl ?_
    show oS p e below s₁ m 1 #[oa a0, oa a1] [(.ref a0)] _
    refine XS.ifnullNo X0.here hx rfl (hb hby own_d5_1) rfl ?_
    show oS p e below s₁ m 4 #[oa a0, oa a1] [] _
    refine XS.aloadN X0.here hx rfl (hb hby own_d5_4) rfl rfl ?_
    show oS p e below s₁ m 5 #[oa a0, oa a1] [(.ref a0)] _
    refine oLen X0 hx hZ e0 V_a0 (hb hby own_d5_5) ?_
    show oS p e below s₁ m 6 #[oa a0, oa a1] [(.int z_a0)] _
    refine XS.aloadN X0.here hx rfl (hb hby own_d5_6) rfl rfl ?_
    show oS p e below s₁ m 7 #[oa a0, oa a1] [(.ref a1), (.int z_a0)] _
    refine oLen X0 hx hZ e0 V_a1 (hb hby own_d5_7) ?_
    show oS p e below s₁ m 8 #[oa a0, oa a1] [(.int z_a1), (.int z_a0)] _
    refine XS.icmpYes X0.here hx rfl (pc0 := 8) (pc' := 13) rfl (hb hby own_d5_8) rfl (teq b1).1 (by decide) (by decide) ?_
    show oS p e below s₁ m 13 #[oa a0, oa a1] [] _
    refine XS.aloadN X0.here hx rfl (hb hby own_d5_13) rfl rfl ?_
    show oS p e below s₁ m 14 #[oa a0, oa a1] [(.ref a0)] _
    refine oLen X0 hx hZ e0 V_a0 (hb hby own_d5_14) ?_
    exact k
  have pre4 : ∀ t, Steps p.tables e below (s₁.setTop (mkF m 29 #[oa a0, oa a1] [])) t → Steps p.tables e below (s₁.setTop (entryFrame m #[(.ref a0), (.ref a1)] 2)) t := by
    intro t k
    by_cases c3 : (0 : Int32) < z_a0
    · skip
      refine pre2 t ?_
      show oS p e below s₁ m 15 #[oa a0, oa a1] [(.int z_a0)] _
      refine XS.ifNo X0.here hx rfl (hb hby own_d5_15) rfl ((if0 _ _).trans (tlt c3).2.2.2) ?_
      show oS p e below s₁ m 18 #[oa a0, oa a1] [] _
      refine XS.aloadN X0.here hx rfl (hb hby own_d5_18) rfl rfl ?_
      show oS p e below s₁ m 19 #[oa a0, oa a1] [(.ref a0)] _
      refine XS.iconst X0.here hx rfl (hb hby own_d5_19) ?_
      show oS p e below s₁ m 20 #[oa a0, oa a1] [(.int (0 : Int32)), (.ref a0)] _
      refine oLdI X0 hx hZ e0 V_a0 (v := (.int (ws_a0.getD 0 0))) ⟨by decide, by first | assumption | (rw [hz]; assumption)⟩ (by exact own_getD ws_a0 0) (hb hby own_d5_20) ?_
      show oS p e below s₁ m 21 #[oa a0, oa a1] [(.int (ws_a0.getD 0 0))] _
      refine XS.aloadN X0.here hx rfl (hb hby own_d5_21) rfl rfl ?_
      show oS p e below s₁ m 22 #[oa a0, oa a1] [(.ref a1), (.int (ws_a0.getD 0 0))] _
      refine XS.iconst X0.here hx rfl (hb hby own_d5_22) ?_
      show oS p e below s₁ m 23 #[oa a0, oa a1] [(.int (0 : Int32)), (.ref a1), (.int (ws_a0.getD 0 0))] _
      refine oLdI X0 hx hZ e0 V_a1 (v := (.int (ws_a1.getD 0 0))) ⟨by decide, by first | assumption | (rw [hz]; assumption)⟩ (by exact own_getD ws_a1 0) (hb hby own_d5_23) ?_
      show oS p e below s₁ m 24 #[oa a0, oa a1] [(.int (ws_a1.getD 0 0)), (.int (ws_a0.getD 0 0))] _
      refine XS.icmpYes X0.here hx rfl (pc0 := 24) (pc' := 29) rfl (hb hby own_d5_24) rfl (teq (show (ws_a0.getD 0 0) = (ws_a1.getD 0 0) from by rw [hws])).1 (by decide) (by decide) ?_
      exact k
    · skip
      refine pre2 t ?_
      show oS p e below s₁ m 15 #[oa a0, oa a1] [(.int z_a0)] _
      refine XS.ifYes X0.here hx rfl (pc0 := 15) (pc' := 29) rfl (hb hby own_d5_15) rfl ((if0 _ _).trans (flt c3).2.2.2) (by decide) (by decide) ?_
      exact k
  have pre5 : ∀ t, Steps p.tables e below (s₁.setTop (mkF m 32 #[oa a0, oa a1] [(.int (1 : Int32)), (.int z_a0)])) t → Steps p.tables e below (s₁.setTop (entryFrame m #[(.ref a0), (.ref a1)] 2)) t := by
    intro t k
    refine pre4 t ?_
    show oS p e below s₁ m 29 #[oa a0, oa a1] [] _
    refine XS.aloadN X0.here hx rfl (hb hby own_d5_29) rfl rfl ?_
    show oS p e below s₁ m 30 #[oa a0, oa a1] [(.ref a0)] _
    refine oLen X0 hx hZ e0 V_a0 (hb hby own_d5_30) ?_
    show oS p e below s₁ m 31 #[oa a0, oa a1] [(.int z_a0)] _
    refine XS.iconst X0.here hx rfl (hb hby own_d5_31) ?_
    exact k
  have pre7 : ∀ t, Steps p.tables e below (s₁.setTop (mkF m 46 #[oa a0, oa a1] [])) t → Steps p.tables e below (s₁.setTop (entryFrame m #[(.ref a0), (.ref a1)] 2)) t := by
    intro t k
    by_cases c6 : (1 : Int32) < z_a0
    · skip
      refine pre5 t ?_
      show oS p e below s₁ m 32 #[oa a0, oa a1] [(.int (1 : Int32)), (.int z_a0)] _
      refine XS.icmpNo X0.here hx rfl (hb hby own_d5_32) rfl (tlt c6).2.2.2 ?_
      show oS p e below s₁ m 35 #[oa a0, oa a1] [] _
      refine XS.aloadN X0.here hx rfl (hb hby own_d5_35) rfl rfl ?_
      show oS p e below s₁ m 36 #[oa a0, oa a1] [(.ref a0)] _
      refine XS.iconst X0.here hx rfl (hb hby own_d5_36) ?_
      show oS p e below s₁ m 37 #[oa a0, oa a1] [(.int (1 : Int32)), (.ref a0)] _
      refine oLdI X0 hx hZ e0 V_a0 (v := (.int (ws_a0.getD 1 0))) ⟨by decide, by first | assumption | (rw [hz]; assumption)⟩ (by exact own_getD ws_a0 1) (hb hby own_d5_37) ?_
      show oS p e below s₁ m 38 #[oa a0, oa a1] [(.int (ws_a0.getD 1 0))] _
      refine XS.aloadN X0.here hx rfl (hb hby own_d5_38) rfl rfl ?_
      show oS p e below s₁ m 39 #[oa a0, oa a1] [(.ref a1), (.int (ws_a0.getD 1 0))] _
      refine XS.iconst X0.here hx rfl (hb hby own_d5_39) ?_
      show oS p e below s₁ m 40 #[oa a0, oa a1] [(.int (1 : Int32)), (.ref a1), (.int (ws_a0.getD 1 0))] _
      refine oLdI X0 hx hZ e0 V_a1 (v := (.int (ws_a1.getD 1 0))) ⟨by decide, by first | assumption | (rw [hz]; assumption)⟩ (by exact own_getD ws_a1 1) (hb hby own_d5_40) ?_
      show oS p e below s₁ m 41 #[oa a0, oa a1] [(.int (ws_a1.getD 1 0)), (.int (ws_a0.getD 1 0))] _
      refine XS.icmpYes X0.here hx rfl (pc0 := 41) (pc' := 46) rfl (hb hby own_d5_41) rfl (teq (show (ws_a0.getD 1 0) = (ws_a1.getD 1 0) from by rw [hws])).1 (by decide) (by decide) ?_
      exact k
    · skip
      refine pre5 t ?_
      show oS p e below s₁ m 32 #[oa a0, oa a1] [(.int (1 : Int32)), (.int z_a0)] _
      refine XS.icmpYes X0.here hx rfl (pc0 := 32) (pc' := 46) rfl (hb hby own_d5_32) rfl (flt c6).2.2.2 (by decide) (by decide) ?_
      exact k
  have pre8 : ∀ t, Steps p.tables e below (s₁.setTop (mkF m 49 #[oa a0, oa a1] [(.int (2 : Int32)), (.int z_a0)])) t → Steps p.tables e below (s₁.setTop (entryFrame m #[(.ref a0), (.ref a1)] 2)) t := by
    intro t k
    refine pre7 t ?_
    show oS p e below s₁ m 46 #[oa a0, oa a1] [] _
    refine XS.aloadN X0.here hx rfl (hb hby own_d5_46) rfl rfl ?_
    show oS p e below s₁ m 47 #[oa a0, oa a1] [(.ref a0)] _
    refine oLen X0 hx hZ e0 V_a0 (hb hby own_d5_47) ?_
    show oS p e below s₁ m 48 #[oa a0, oa a1] [(.int z_a0)] _
    refine XS.iconst X0.here hx rfl (hb hby own_d5_48) ?_
    exact k
  have pre10 : ∀ t, Steps p.tables e below (s₁.setTop (mkF m 63 #[oa a0, oa a1] [])) t → Steps p.tables e below (s₁.setTop (entryFrame m #[(.ref a0), (.ref a1)] 2)) t := by
    intro t k
    by_cases c9 : (2 : Int32) < z_a0
    · skip
      refine pre8 t ?_
      show oS p e below s₁ m 49 #[oa a0, oa a1] [(.int (2 : Int32)), (.int z_a0)] _
      refine XS.icmpNo X0.here hx rfl (hb hby own_d5_49) rfl (tlt c9).2.2.2 ?_
      show oS p e below s₁ m 52 #[oa a0, oa a1] [] _
      refine XS.aloadN X0.here hx rfl (hb hby own_d5_52) rfl rfl ?_
      show oS p e below s₁ m 53 #[oa a0, oa a1] [(.ref a0)] _
      refine XS.iconst X0.here hx rfl (hb hby own_d5_53) ?_
      show oS p e below s₁ m 54 #[oa a0, oa a1] [(.int (2 : Int32)), (.ref a0)] _
      refine oLdI X0 hx hZ e0 V_a0 (v := (.int (ws_a0.getD 2 0))) ⟨by decide, by first | assumption | (rw [hz]; assumption)⟩ (by exact own_getD ws_a0 2) (hb hby own_d5_54) ?_
      show oS p e below s₁ m 55 #[oa a0, oa a1] [(.int (ws_a0.getD 2 0))] _
      refine XS.aloadN X0.here hx rfl (hb hby own_d5_55) rfl rfl ?_
      show oS p e below s₁ m 56 #[oa a0, oa a1] [(.ref a1), (.int (ws_a0.getD 2 0))] _
      refine XS.iconst X0.here hx rfl (hb hby own_d5_56) ?_
      show oS p e below s₁ m 57 #[oa a0, oa a1] [(.int (2 : Int32)), (.ref a1), (.int (ws_a0.getD 2 0))] _
      refine oLdI X0 hx hZ e0 V_a1 (v := (.int (ws_a1.getD 2 0))) ⟨by decide, by first | assumption | (rw [hz]; assumption)⟩ (by exact own_getD ws_a1 2) (hb hby own_d5_57) ?_
      show oS p e below s₁ m 58 #[oa a0, oa a1] [(.int (ws_a1.getD 2 0)), (.int (ws_a0.getD 2 0))] _
      refine XS.icmpYes X0.here hx rfl (pc0 := 58) (pc' := 63) rfl (hb hby own_d5_58) rfl (teq (show (ws_a0.getD 2 0) = (ws_a1.getD 2 0) from by rw [hws])).1 (by decide) (by decide) ?_
      exact k
    · skip
      refine pre8 t ?_
      show oS p e below s₁ m 49 #[oa a0, oa a1] [(.int (2 : Int32)), (.int z_a0)] _
      refine XS.icmpYes X0.here hx rfl (pc0 := 49) (pc' := 63) rfl (hb hby own_d5_49) rfl (flt c9).2.2.2 (by decide) (by decide) ?_
      exact k
  have pre11 : ∀ t, Steps p.tables e below (s₁.setTop (mkF m 66 #[oa a0, oa a1] [(.int (3 : Int32)), (.int z_a0)])) t → Steps p.tables e below (s₁.setTop (entryFrame m #[(.ref a0), (.ref a1)] 2)) t := by
    intro t k
    refine pre10 t ?_
    show oS p e below s₁ m 63 #[oa a0, oa a1] [] _
    refine XS.aloadN X0.here hx rfl (hb hby own_d5_63) rfl rfl ?_
    show oS p e below s₁ m 64 #[oa a0, oa a1] [(.ref a0)] _
    refine oLen X0 hx hZ e0 V_a0 (hb hby own_d5_64) ?_
    show oS p e below s₁ m 65 #[oa a0, oa a1] [(.int z_a0)] _
    refine XS.iconst X0.here hx rfl (hb hby own_d5_65) ?_
    exact k
  have pre13 : ∀ t, Steps p.tables e below (s₁.setTop (mkF m 80 #[oa a0, oa a1] [])) t → Steps p.tables e below (s₁.setTop (entryFrame m #[(.ref a0), (.ref a1)] 2)) t := by
    intro t k
    by_cases c12 : (3 : Int32) < z_a0
    · skip
      refine pre11 t ?_
      show oS p e below s₁ m 66 #[oa a0, oa a1] [(.int (3 : Int32)), (.int z_a0)] _
      refine XS.icmpNo X0.here hx rfl (hb hby own_d5_66) rfl (tlt c12).2.2.2 ?_
      show oS p e below s₁ m 69 #[oa a0, oa a1] [] _
      refine XS.aloadN X0.here hx rfl (hb hby own_d5_69) rfl rfl ?_
      show oS p e below s₁ m 70 #[oa a0, oa a1] [(.ref a0)] _
      refine XS.iconst X0.here hx rfl (hb hby own_d5_70) ?_
      show oS p e below s₁ m 71 #[oa a0, oa a1] [(.int (3 : Int32)), (.ref a0)] _
      refine oLdI X0 hx hZ e0 V_a0 (v := (.int (ws_a0.getD 3 0))) ⟨by decide, by first | assumption | (rw [hz]; assumption)⟩ (by exact own_getD ws_a0 3) (hb hby own_d5_71) ?_
      show oS p e below s₁ m 72 #[oa a0, oa a1] [(.int (ws_a0.getD 3 0))] _
      refine XS.aloadN X0.here hx rfl (hb hby own_d5_72) rfl rfl ?_
      show oS p e below s₁ m 73 #[oa a0, oa a1] [(.ref a1), (.int (ws_a0.getD 3 0))] _
      refine XS.iconst X0.here hx rfl (hb hby own_d5_73) ?_
      show oS p e below s₁ m 74 #[oa a0, oa a1] [(.int (3 : Int32)), (.ref a1), (.int (ws_a0.getD 3 0))] _
      refine oLdI X0 hx hZ e0 V_a1 (v := (.int (ws_a1.getD 3 0))) ⟨by decide, by first | assumption | (rw [hz]; assumption)⟩ (by exact own_getD ws_a1 3) (hb hby own_d5_74) ?_
      show oS p e below s₁ m 75 #[oa a0, oa a1] [(.int (ws_a1.getD 3 0)), (.int (ws_a0.getD 3 0))] _
      refine XS.icmpYes X0.here hx rfl (pc0 := 75) (pc' := 80) rfl (hb hby own_d5_75) rfl (teq (show (ws_a0.getD 3 0) = (ws_a1.getD 3 0) from by rw [hws])).1 (by decide) (by decide) ?_
      exact k
    · skip
      refine pre11 t ?_
      show oS p e below s₁ m 66 #[oa a0, oa a1] [(.int (3 : Int32)), (.int z_a0)] _
      refine XS.icmpYes X0.here hx rfl (pc0 := 66) (pc' := 80) rfl (hb hby own_d5_66) rfl (flt c12).2.2.2 (by decide) (by decide) ?_
      exact k
  have pre14 : ∀ t, Steps p.tables e below (s₁.setTop (mkF m 83 #[oa a0, oa a1] [(.int (4 : Int32)), (.int z_a0)])) t → Steps p.tables e below (s₁.setTop (entryFrame m #[(.ref a0), (.ref a1)] 2)) t := by
    intro t k
    refine pre13 t ?_
    show oS p e below s₁ m 80 #[oa a0, oa a1] [] _
    refine XS.aloadN X0.here hx rfl (hb hby own_d5_80) rfl rfl ?_
    show oS p e below s₁ m 81 #[oa a0, oa a1] [(.ref a0)] _
    refine oLen X0 hx hZ e0 V_a0 (hb hby own_d5_81) ?_
    show oS p e below s₁ m 82 #[oa a0, oa a1] [(.int z_a0)] _
    refine XS.iconst X0.here hx rfl (hb hby own_d5_82) ?_
    exact k
  have pre16 : ∀ t, Steps p.tables e below (s₁.setTop (mkF m 97 #[oa a0, oa a1] [])) t → Steps p.tables e below (s₁.setTop (entryFrame m #[(.ref a0), (.ref a1)] 2)) t := by
    intro t k
    by_cases c15 : (4 : Int32) < z_a0
    · skip
      refine pre14 t ?_
      show oS p e below s₁ m 83 #[oa a0, oa a1] [(.int (4 : Int32)), (.int z_a0)] _
      refine XS.icmpNo X0.here hx rfl (hb hby own_d5_83) rfl (tlt c15).2.2.2 ?_
      show oS p e below s₁ m 86 #[oa a0, oa a1] [] _
      refine XS.aloadN X0.here hx rfl (hb hby own_d5_86) rfl rfl ?_
      show oS p e below s₁ m 87 #[oa a0, oa a1] [(.ref a0)] _
      refine XS.iconst X0.here hx rfl (hb hby own_d5_87) ?_
      show oS p e below s₁ m 88 #[oa a0, oa a1] [(.int (4 : Int32)), (.ref a0)] _
      refine oLdI X0 hx hZ e0 V_a0 (v := (.int (ws_a0.getD 4 0))) ⟨by decide, by first | assumption | (rw [hz]; assumption)⟩ (by exact own_getD ws_a0 4) (hb hby own_d5_88) ?_
      show oS p e below s₁ m 89 #[oa a0, oa a1] [(.int (ws_a0.getD 4 0))] _
      refine XS.aloadN X0.here hx rfl (hb hby own_d5_89) rfl rfl ?_
      show oS p e below s₁ m 90 #[oa a0, oa a1] [(.ref a1), (.int (ws_a0.getD 4 0))] _
      refine XS.iconst X0.here hx rfl (hb hby own_d5_90) ?_
      show oS p e below s₁ m 91 #[oa a0, oa a1] [(.int (4 : Int32)), (.ref a1), (.int (ws_a0.getD 4 0))] _
      refine oLdI X0 hx hZ e0 V_a1 (v := (.int (ws_a1.getD 4 0))) ⟨by decide, by first | assumption | (rw [hz]; assumption)⟩ (by exact own_getD ws_a1 4) (hb hby own_d5_91) ?_
      show oS p e below s₁ m 92 #[oa a0, oa a1] [(.int (ws_a1.getD 4 0)), (.int (ws_a0.getD 4 0))] _
      refine XS.icmpYes X0.here hx rfl (pc0 := 92) (pc' := 97) rfl (hb hby own_d5_92) rfl (teq (show (ws_a0.getD 4 0) = (ws_a1.getD 4 0) from by rw [hws])).1 (by decide) (by decide) ?_
      exact k
    · skip
      refine pre14 t ?_
      show oS p e below s₁ m 83 #[oa a0, oa a1] [(.int (4 : Int32)), (.int z_a0)] _
      refine XS.icmpYes X0.here hx rfl (pc0 := 83) (pc' := 97) rfl (hb hby own_d5_83) rfl (flt c15).2.2.2 (by decide) (by decide) ?_
      exact k
  obtain ⟨fs, hr, hrun, hended, hW, hsame⟩ := X0.leave (v := (some (.int (1 : Int32)))) (fun h => by rw [Bd.returns] at h; cases h)
  refine ⟨_, _, pre16 _ ?_, hrun, hended, _, _, rfl, ?_, ⟨_, rfl⟩, hW, hsame.mono (by decide) (by decide)⟩
  · show oS p e below s₁ m 97 #[oa a0, oa a1] [] _
    refine XS.iconst X0.here hx rfl (hb hby own_d5_97) ?_
    show oS p e below s₁ m 98 #[oa a0, oa a1] [(.int (1 : Int32))] _
    exact retN X0 hx (t := .boolean) Bd.returns (by simp) (hb hby own_d5_98) hr
  · show own_Q5 Z a0 a1 k_a0 z_a0 ws_a0 k_a1 z_a1 ws_a1 h0 n0 _ s₁.heap _
    rw [e0]
    exact ⟨rfl, N0, rfl⟩
theorem own_andL (x m : Int64) (hm : 0 ≤ m.toInt) : 0 ≤ (x &&& m).toInt ∧ (x &&& m).toInt ≤ m.toInt := by
  have h1 : (x &&& m).toBitVec.toNat ≤ m.toBitVec.toNat := by show (x.toBitVec &&& m.toBitVec).toNat ≤ _; rw [BitVec.toNat_and]; exact Nat.and_le_right
  have h2 := m.toBitVec.isLt
  change 0 ≤ m.toBitVec.toInt at hm
  show 0 ≤ (x &&& m).toBitVec.toInt ∧ (x &&& m).toBitVec.toInt ≤ m.toBitVec.toInt
  rw [BitVec.toInt_eq_toNat_cond] at hm ⊢; rw [BitVec.toInt_eq_toNat_cond]
  split at hm <;> split <;> omega
theorem own_d (x : Int64) : 1 ≤ ((1 : Int64) + (x &&& (1073741822 : Int64))).toInt ∧ ((1 : Int64) + (x &&& (1073741822 : Int64))).toInt ≤ 1073741823 := by
  have h := own_andL x 1073741822 (by decide)
  have e := c_ladd 1 (x &&& 1073741822)
  have r := rng64 (1 + (x &&& 1073741822))
  simp only [Int64.reduceToInt] at h e
  omega
theorem own_ex {t q : Int} (h : (t - q) % 18446744073709551616 = 0) (h0 : -9223372036854775808 ≤ q) (h1 : q < 9223372036854775808) (r : -9223372036854775808 ≤ t ∧ t < 9223372036854775808) : t = q := by omega
theorem own_start (p : Int32) {d1 d2 d3 d4 : Int64} (h1 : 1 ≤ d1.toInt ∧ d1.toInt ≤ 1073741823) (h2 : 1 ≤ d2.toInt ∧ d2.toInt ≤ 1073741823) (h3 : 1 ≤ d3.toInt ∧ d3.toInt ≤ 1073741823) (h4 : 1 ≤ d4.toInt ∧ d4.toInt ≤ 1073741823) :
    -2147483648 ≤ (own_f1 p.toInt64 ((2147483647 : Int64) - (((d1 + d2) + d3) + d4))).toInt ∧ (own_f1 p.toInt64 ((2147483647 : Int64) - (((d1 + d2) + d3) + d4))).toInt + d1.toInt + d2.toInt + d3.toInt + d4.toInt ≤ 2147483647 := by
  have s1 : (d1 + d2).toInt = d1.toInt + d2.toInt := own_ex (c_ladd d1 d2) (by omega) (by omega) (rng64 _)
  have s2 : (d1 + d2 + d3).toInt = d1.toInt + d2.toInt + d3.toInt := by
    have e := c_ladd (d1 + d2) d3
    rw [s1] at e
    exact own_ex e (by clear e; omega) (by clear e; omega) (rng64 _)
  have s3 : (d1 + d2 + d3 + d4).toInt = d1.toInt + d2.toInt + d3.toInt + d4.toInt := by
    have e := c_ladd (d1 + d2 + d3) d4
    rw [s2] at e
    exact own_ex e (by clear e; omega) (by clear e; omega) (rng64 _)
  have m1 : (2147483647 : Int64).toInt = 2147483647 := by decide
  have s4 : ((2147483647 : Int64) - (d1 + d2 + d3 + d4)).toInt = 2147483647 - (d1.toInt + d2.toInt + d3.toInt + d4.toInt) := by
    have e := c_lsub 2147483647 (d1 + d2 + d3 + d4)
    rw [s3, m1] at e
    exact own_ex e (by clear e; omega) (by clear e; omega) (rng64 _)
  have e5 := c_i2l p
  have r0 := rng32 p
  unfold own_f1
  simp only [own_ltpL, e5]
  split
  · omega
  · rw [e5]; omega
theorem own_l2i {x : Int64} (h1 : -2147483648 ≤ x.toInt) (h2 : x.toInt ≤ 2147483647) : x.toInt32.toInt = x.toInt := by
  have e := c_l2i x
  have r := rng32 x.toInt32
  omega
theorem own_add {x y : Int64} (h1 : -4294967296 ≤ x.toInt ∧ x.toInt ≤ 4294967296) (h2 : 0 ≤ y.toInt ∧ y.toInt ≤ 4294967296) : (x + y).toInt = x.toInt + y.toInt := by
  have e := c_ladd x y
  have r := rng64 (x + y)
  omega
theorem own_m31 (x : Int32) : 0 ≤ (x &&& (31 : Int32)).toInt ∧ (x &&& (31 : Int32)).toInt < 32 := by
  have h : (x &&& (31 : Int32)).toInt = x.toInt % 32 := c_mask x 31 5 (by decide) (by decide)
  rw [h]; omega
theorem own_pd2 : parseMethodDescriptor "(JJ)J" = some ⟨[.long, .long], some .long⟩ := by decide +kernel
theorem own_pd3 : parseMethodDescriptor "([I[I)[I" = some ⟨[(.array .int), (.array .int)], some (.array .int)⟩ := by decide +kernel
theorem own_pd4 : parseMethodDescriptor "([I[I)Z" = some ⟨[(.array .int), (.array .int)], some .boolean⟩ := by decide +kernel
theorem own_ef0 (m : MethodId) (p0 : Int32) (q1 : Int64) (q2 : Int64) (p3 : Int32) : entryFrame m #[(.int p0), (.long q1), (.long q2), (.int p3)] maxLocals = mkF m 0 #[oi p0, oj q1, .second, oj q2, .second, oi p3, .unset, .unset, .unset, .unset, .unset, .unset, .unset, .unset, .unset, .unset, .unset, .unset, .unset, .unset, .unset, .unset, .unset] [] := by first | (simp [entryFrame, mkF, argsToLocals, Value.category, maxLocals]; done) | rfl
def own_Q0 (Z : State) (p0 : Int32) (q1 : Int64) (q2 : Int64) (p3 : Int32) (h0 : Heap) (n0 : Nat) (v : Option Value) (h : Heap) (L : List Loc) : Prop := v = some (Value.int (1 : Int32)) ∧ Fr n0 L
set_option maxRecDepth 65536 in
set_option maxHeartbeats 40000000 in
theorem own_rm0 (l : Launch) (Z : State) (av : Array Value) (hw : ∀ d ∈ tables_1, d.before av Z = true) (ws : List Jvm.Cond) (p0 : Int32) (q1 : Int64) (q2 : Int64) (p3 : Int32) (h0 : Heap) (n0 : Nat) (Z0 : n0 ≤ h0.size) :
    MetFree l x (head1 (Jvm.Cond.code x code maxLocals ret :: ws) room_1) (fun a U => a = #[(.int p0), (.long q1), (.long q2), (.int p3)] ∧ Z.Warmed39 U.vm ∧ U.heap = h0) (fun _ _ _ _ _ => True) (fun _ U o U' => ∃ v L, o = .returned v ∧ own_Q0 Z p0 q1 q2 p3 h0 n0 v U'.heap L ∧ FrameEnd U o U' L room_1.cells room_1.slots) := by
  refine MetFree.of_bodySF (plainFor_of_name own_pn0) hisR ?_
  intro p e s m args below meth c s₁ Bd hml0 hP hK
  obtain ⟨rfl, hZ, hh⟩ := hP
  have hx := Bd.exec
  have hby := Bd.bytes
  have hml : c.maxLocals = 23 := hml0
  have hown : s.vm.findClass "com/example/strict_anon/strictanon/service/RecordSetsDifferencePinLaw" = some m.cls := findClass_of_methodNamed Bd.named
  have hnm := (name_of_methodNamed Bd.named Bd.method).1
  have X0 : Stand p l e room_1 s m #[(.int p0), (.long q1), (.long q2), (.int p3)] below meth c s₁ [] 0 0 := Stand.of_body Bd
  have e0 : s₁.heap = h0 := by rw [← hh, Bd.state]; rfl
  have N0 := Fr.nil n0
  have pre0 : ∀ t, Steps p.tables e below (s₁.setTop (mkF m 0 #[oi p0, oj q1, .second, oj q2, .second, oi p3, .unset, .unset, .unset, .unset, .unset, .unset, .unset, .unset, .unset, .unset, .unset, .unset, .unset, .unset, .unset, .unset, .unset] [])) t → Steps p.tables e below (s₁.setTop (entryFrame m #[(.int p0), (.long q1), (.long q2), (.int p3)] maxLocals)) t := fun t k => castTop (own_ef0 m p0 q1 q2 p3) k
  have pre1 : ∀ t, Steps p.tables e below (s₁.setTop (mkF m 7 #[oi p0, oj q1, .second, oj q2, .second, oi p3, .unset, .unset, .unset, .unset, .unset, .unset, .unset, .unset, .unset, .unset, .unset, .unset, .unset, .unset, .unset, .unset, .unset] [(.long ((1 : Int64) + (q1 &&& (1073741822 : Int64))))])) t → Steps p.tables e below (s₁.setTop (entryFrame m #[(.int p0), (.long q1), (.long q2), (.int p3)] maxLocals)) t := by
    intro t k
    refine pre0 t ?_
    show oS p e below s₁ m 0 #[oi p0, oj q1, .second, oj q2, .second, oi p3, .unset, .unset, .unset, .unset, .unset, .unset, .unset, .unset, .unset, .unset, .unset, .unset, .unset, .unset, .unset, .unset, .unset] [] _
    refine XS.lconst X0.here hx rfl (hb hby at_0) ?_
    show oS p e below s₁ m 1 #[oi p0, oj q1, .second, oj q2, .second, oi p3, .unset, .unset, .unset, .unset, .unset, .unset, .unset, .unset, .unset, .unset, .unset, .unset, .unset, .unset, .unset, .unset, .unset] [(.long (1 : Int64))] _
    refine XS.lloadN X0.here hx rfl (hb hby at_1) rfl ?_
    show oS p e below s₁ m 2 #[oi p0, oj q1, .second, oj q2, .second, oi p3, .unset, .unset, .unset, .unset, .unset, .unset, .unset, .unset, .unset, .unset, .unset, .unset, .unset, .unset, .unset, .unset, .unset] [(.long q1), (.long (1 : Int64))] _
    refine X0.ldc2Long hx hown (mvT hZ (hw _ (List.mem_of_getElem? (i := 0) rfl))) (g := (mkF m 2 #[oi p0, oj q1, .second, oj q2, .second, oi p3, .unset, .unset, .unset, .unset, .unset, .unset, .unset, .unset, .unset, .unset, .unset, .unset, .unset, .unset, .unset, .unset, .unset] [(.long q1), (.long (1 : Int64))])) rfl (hb hby at_2) _ ?_
    show oS p e below s₁ m 5 #[oi p0, oj q1, .second, oj q2, .second, oi p3, .unset, .unset, .unset, .unset, .unset, .unset, .unset, .unset, .unset, .unset, .unset, .unset, .unset, .unset, .unset, .unset, .unset] [(.long (1073741822 : Int64)), (.long q1), (.long (1 : Int64))] _
    refine XS.land X0.here hx rfl (hb hby at_5) rfl ?_
    show oS p e below s₁ m 6 #[oi p0, oj q1, .second, oj q2, .second, oi p3, .unset, .unset, .unset, .unset, .unset, .unset, .unset, .unset, .unset, .unset, .unset, .unset, .unset, .unset, .unset, .unset, .unset] [(.long (q1 &&& (1073741822 : Int64))), (.long (1 : Int64))] _
    refine XS.ladd X0.here hx rfl (hb hby at_6) rfl ?_
    exact k
  obtain ⟨d1, hd1⟩ : ∃ z : Int64, z = ((1 : Int64) + (q1 &&& (1073741822 : Int64))) := ⟨_, rfl⟩
  rw [← hd1] at pre1
  have r1 : 1 ≤ d1.toInt ∧ d1.toInt ≤ 1073741823 := by rw [hd1]; exact own_d _
  have pre2 : ∀ t, Steps p.tables e below (s₁.setTop (mkF m 19 #[oi p0, oj q1, .second, oj q2, .second, oi p3, oj d1, .second, .unset, .unset, .unset, .unset, .unset, .unset, .unset, .unset, .unset, .unset, .unset, .unset, .unset, .unset, .unset] [(.long ((1 : Int64) + (((q1.toUInt64 >>> ((32 : Int32) &&& 0x3f).toInt64.toUInt64).toInt64) &&& (1073741822 : Int64))))])) t → Steps p.tables e below (s₁.setTop (entryFrame m #[(.int p0), (.long q1), (.long q2), (.int p3)] maxLocals)) t := by
    intro t k
    refine pre1 t ?_
    show oS p e below s₁ m 7 #[oi p0, oj q1, .second, oj q2, .second, oi p3, .unset, .unset, .unset, .unset, .unset, .unset, .unset, .unset, .unset, .unset, .unset, .unset, .unset, .unset, .unset, .unset, .unset] [(.long d1)] _
    refine XS.lstore X0.here hx rfl (hb hby at_7) rfl (l' := #[oi p0, oj q1, .second, oj q2, .second, oi p3, oj d1, .second, .unset, .unset, .unset, .unset, .unset, .unset, .unset, .unset, .unset, .unset, .unset, .unset, .unset, .unset, .unset]) rfl ?_
    show oS p e below s₁ m 9 #[oi p0, oj q1, .second, oj q2, .second, oi p3, oj d1, .second, .unset, .unset, .unset, .unset, .unset, .unset, .unset, .unset, .unset, .unset, .unset, .unset, .unset, .unset, .unset] [] _
    refine XS.lconst X0.here hx rfl (hb hby at_9) ?_
    show oS p e below s₁ m 10 #[oi p0, oj q1, .second, oj q2, .second, oi p3, oj d1, .second, .unset, .unset, .unset, .unset, .unset, .unset, .unset, .unset, .unset, .unset, .unset, .unset, .unset, .unset, .unset] [(.long (1 : Int64))] _
    refine XS.lloadN X0.here hx rfl (hb hby at_10) rfl ?_
    show oS p e below s₁ m 11 #[oi p0, oj q1, .second, oj q2, .second, oi p3, oj d1, .second, .unset, .unset, .unset, .unset, .unset, .unset, .unset, .unset, .unset, .unset, .unset, .unset, .unset, .unset, .unset] [(.long q1), (.long (1 : Int64))] _
    refine XS.bipush X0.here hx rfl (hb hby at_11) ?_
    show oS p e below s₁ m 13 #[oi p0, oj q1, .second, oj q2, .second, oi p3, oj d1, .second, .unset, .unset, .unset, .unset, .unset, .unset, .unset, .unset, .unset, .unset, .unset, .unset, .unset, .unset, .unset] [(.int (32 : Int32)), (.long q1), (.long (1 : Int64))] _
    refine XS.lushr X0.here hx rfl (hb hby at_13) rfl ?_
    show oS p e below s₁ m 14 #[oi p0, oj q1, .second, oj q2, .second, oi p3, oj d1, .second, .unset, .unset, .unset, .unset, .unset, .unset, .unset, .unset, .unset, .unset, .unset, .unset, .unset, .unset, .unset] [(.long ((q1.toUInt64 >>> ((32 : Int32) &&& 0x3f).toInt64.toUInt64).toInt64)), (.long (1 : Int64))] _
    refine X0.ldc2Long hx hown (mvT hZ (hw _ (List.mem_of_getElem? (i := 0) rfl))) (g := (mkF m 14 #[oi p0, oj q1, .second, oj q2, .second, oi p3, oj d1, .second, .unset, .unset, .unset, .unset, .unset, .unset, .unset, .unset, .unset, .unset, .unset, .unset, .unset, .unset, .unset] [(.long ((q1.toUInt64 >>> ((32 : Int32) &&& 0x3f).toInt64.toUInt64).toInt64)), (.long (1 : Int64))])) rfl (hb hby at_14) _ ?_
    show oS p e below s₁ m 17 #[oi p0, oj q1, .second, oj q2, .second, oi p3, oj d1, .second, .unset, .unset, .unset, .unset, .unset, .unset, .unset, .unset, .unset, .unset, .unset, .unset, .unset, .unset, .unset] [(.long (1073741822 : Int64)), (.long ((q1.toUInt64 >>> ((32 : Int32) &&& 0x3f).toInt64.toUInt64).toInt64)), (.long (1 : Int64))] _
    refine XS.land X0.here hx rfl (hb hby at_17) rfl ?_
    show oS p e below s₁ m 18 #[oi p0, oj q1, .second, oj q2, .second, oi p3, oj d1, .second, .unset, .unset, .unset, .unset, .unset, .unset, .unset, .unset, .unset, .unset, .unset, .unset, .unset, .unset, .unset] [(.long (((q1.toUInt64 >>> ((32 : Int32) &&& 0x3f).toInt64.toUInt64).toInt64) &&& (1073741822 : Int64))), (.long (1 : Int64))] _
    refine XS.ladd X0.here hx rfl (hb hby at_18) rfl ?_
    exact k
  obtain ⟨d2, hd2⟩ : ∃ z : Int64, z = ((1 : Int64) + (((q1.toUInt64 >>> ((32 : Int32) &&& 0x3f).toInt64.toUInt64).toInt64) &&& (1073741822 : Int64))) := ⟨_, rfl⟩
  rw [← hd2] at pre2
  have r2 : 1 ≤ d2.toInt ∧ d2.toInt ≤ 1073741823 := by rw [hd2]; exact own_d _
  have pre3 : ∀ t, Steps p.tables e below (s₁.setTop (mkF m 28 #[oi p0, oj q1, .second, oj q2, .second, oi p3, oj d1, .second, oj d2, .second, .unset, .unset, .unset, .unset, .unset, .unset, .unset, .unset, .unset, .unset, .unset, .unset, .unset] [(.long ((1 : Int64) + (q2 &&& (1073741822 : Int64))))])) t → Steps p.tables e below (s₁.setTop (entryFrame m #[(.int p0), (.long q1), (.long q2), (.int p3)] maxLocals)) t := by
    intro t k
    refine pre2 t ?_
    show oS p e below s₁ m 19 #[oi p0, oj q1, .second, oj q2, .second, oi p3, oj d1, .second, .unset, .unset, .unset, .unset, .unset, .unset, .unset, .unset, .unset, .unset, .unset, .unset, .unset, .unset, .unset] [(.long d2)] _
    refine XS.lstore X0.here hx rfl (hb hby at_19) rfl (l' := #[oi p0, oj q1, .second, oj q2, .second, oi p3, oj d1, .second, oj d2, .second, .unset, .unset, .unset, .unset, .unset, .unset, .unset, .unset, .unset, .unset, .unset, .unset, .unset]) rfl ?_
    show oS p e below s₁ m 21 #[oi p0, oj q1, .second, oj q2, .second, oi p3, oj d1, .second, oj d2, .second, .unset, .unset, .unset, .unset, .unset, .unset, .unset, .unset, .unset, .unset, .unset, .unset, .unset] [] _
    refine XS.lconst X0.here hx rfl (hb hby at_21) ?_
    show oS p e below s₁ m 22 #[oi p0, oj q1, .second, oj q2, .second, oi p3, oj d1, .second, oj d2, .second, .unset, .unset, .unset, .unset, .unset, .unset, .unset, .unset, .unset, .unset, .unset, .unset, .unset] [(.long (1 : Int64))] _
    refine XS.lloadN X0.here hx rfl (hb hby at_22) rfl ?_
    show oS p e below s₁ m 23 #[oi p0, oj q1, .second, oj q2, .second, oi p3, oj d1, .second, oj d2, .second, .unset, .unset, .unset, .unset, .unset, .unset, .unset, .unset, .unset, .unset, .unset, .unset, .unset] [(.long q2), (.long (1 : Int64))] _
    refine X0.ldc2Long hx hown (mvT hZ (hw _ (List.mem_of_getElem? (i := 0) rfl))) (g := (mkF m 23 #[oi p0, oj q1, .second, oj q2, .second, oi p3, oj d1, .second, oj d2, .second, .unset, .unset, .unset, .unset, .unset, .unset, .unset, .unset, .unset, .unset, .unset, .unset, .unset] [(.long q2), (.long (1 : Int64))])) rfl (hb hby at_23) _ ?_
    show oS p e below s₁ m 26 #[oi p0, oj q1, .second, oj q2, .second, oi p3, oj d1, .second, oj d2, .second, .unset, .unset, .unset, .unset, .unset, .unset, .unset, .unset, .unset, .unset, .unset, .unset, .unset] [(.long (1073741822 : Int64)), (.long q2), (.long (1 : Int64))] _
    refine XS.land X0.here hx rfl (hb hby at_26) rfl ?_
    show oS p e below s₁ m 27 #[oi p0, oj q1, .second, oj q2, .second, oi p3, oj d1, .second, oj d2, .second, .unset, .unset, .unset, .unset, .unset, .unset, .unset, .unset, .unset, .unset, .unset, .unset, .unset] [(.long (q2 &&& (1073741822 : Int64))), (.long (1 : Int64))] _
    refine XS.ladd X0.here hx rfl (hb hby at_27) rfl ?_
    exact k
  obtain ⟨d3, hd3⟩ : ∃ z : Int64, z = ((1 : Int64) + (q2 &&& (1073741822 : Int64))) := ⟨_, rfl⟩
  rw [← hd3] at pre3
  have r3 : 1 ≤ d3.toInt ∧ d3.toInt ≤ 1073741823 := by rw [hd3]; exact own_d _
  have pre4 : ∀ t, Steps p.tables e below (s₁.setTop (mkF m 40 #[oi p0, oj q1, .second, oj q2, .second, oi p3, oj d1, .second, oj d2, .second, oj d3, .second, .unset, .unset, .unset, .unset, .unset, .unset, .unset, .unset, .unset, .unset, .unset] [(.long ((1 : Int64) + (((q2.toUInt64 >>> ((32 : Int32) &&& 0x3f).toInt64.toUInt64).toInt64) &&& (1073741822 : Int64))))])) t → Steps p.tables e below (s₁.setTop (entryFrame m #[(.int p0), (.long q1), (.long q2), (.int p3)] maxLocals)) t := by
    intro t k
    refine pre3 t ?_
    show oS p e below s₁ m 28 #[oi p0, oj q1, .second, oj q2, .second, oi p3, oj d1, .second, oj d2, .second, .unset, .unset, .unset, .unset, .unset, .unset, .unset, .unset, .unset, .unset, .unset, .unset, .unset] [(.long d3)] _
    refine XS.lstore X0.here hx rfl (hb hby at_28) rfl (l' := #[oi p0, oj q1, .second, oj q2, .second, oi p3, oj d1, .second, oj d2, .second, oj d3, .second, .unset, .unset, .unset, .unset, .unset, .unset, .unset, .unset, .unset, .unset, .unset]) rfl ?_
    show oS p e below s₁ m 30 #[oi p0, oj q1, .second, oj q2, .second, oi p3, oj d1, .second, oj d2, .second, oj d3, .second, .unset, .unset, .unset, .unset, .unset, .unset, .unset, .unset, .unset, .unset, .unset] [] _
    refine XS.lconst X0.here hx rfl (hb hby at_30) ?_
    show oS p e below s₁ m 31 #[oi p0, oj q1, .second, oj q2, .second, oi p3, oj d1, .second, oj d2, .second, oj d3, .second, .unset, .unset, .unset, .unset, .unset, .unset, .unset, .unset, .unset, .unset, .unset] [(.long (1 : Int64))] _
    refine XS.lloadN X0.here hx rfl (hb hby at_31) rfl ?_
    show oS p e below s₁ m 32 #[oi p0, oj q1, .second, oj q2, .second, oi p3, oj d1, .second, oj d2, .second, oj d3, .second, .unset, .unset, .unset, .unset, .unset, .unset, .unset, .unset, .unset, .unset, .unset] [(.long q2), (.long (1 : Int64))] _
    refine XS.bipush X0.here hx rfl (hb hby at_32) ?_
    show oS p e below s₁ m 34 #[oi p0, oj q1, .second, oj q2, .second, oi p3, oj d1, .second, oj d2, .second, oj d3, .second, .unset, .unset, .unset, .unset, .unset, .unset, .unset, .unset, .unset, .unset, .unset] [(.int (32 : Int32)), (.long q2), (.long (1 : Int64))] _
    refine XS.lushr X0.here hx rfl (hb hby at_34) rfl ?_
    show oS p e below s₁ m 35 #[oi p0, oj q1, .second, oj q2, .second, oi p3, oj d1, .second, oj d2, .second, oj d3, .second, .unset, .unset, .unset, .unset, .unset, .unset, .unset, .unset, .unset, .unset, .unset] [(.long ((q2.toUInt64 >>> ((32 : Int32) &&& 0x3f).toInt64.toUInt64).toInt64)), (.long (1 : Int64))] _
    refine X0.ldc2Long hx hown (mvT hZ (hw _ (List.mem_of_getElem? (i := 0) rfl))) (g := (mkF m 35 #[oi p0, oj q1, .second, oj q2, .second, oi p3, oj d1, .second, oj d2, .second, oj d3, .second, .unset, .unset, .unset, .unset, .unset, .unset, .unset, .unset, .unset, .unset, .unset] [(.long ((q2.toUInt64 >>> ((32 : Int32) &&& 0x3f).toInt64.toUInt64).toInt64)), (.long (1 : Int64))])) rfl (hb hby at_35) _ ?_
    show oS p e below s₁ m 38 #[oi p0, oj q1, .second, oj q2, .second, oi p3, oj d1, .second, oj d2, .second, oj d3, .second, .unset, .unset, .unset, .unset, .unset, .unset, .unset, .unset, .unset, .unset, .unset] [(.long (1073741822 : Int64)), (.long ((q2.toUInt64 >>> ((32 : Int32) &&& 0x3f).toInt64.toUInt64).toInt64)), (.long (1 : Int64))] _
    refine XS.land X0.here hx rfl (hb hby at_38) rfl ?_
    show oS p e below s₁ m 39 #[oi p0, oj q1, .second, oj q2, .second, oi p3, oj d1, .second, oj d2, .second, oj d3, .second, .unset, .unset, .unset, .unset, .unset, .unset, .unset, .unset, .unset, .unset, .unset] [(.long (((q2.toUInt64 >>> ((32 : Int32) &&& 0x3f).toInt64.toUInt64).toInt64) &&& (1073741822 : Int64))), (.long (1 : Int64))] _
    refine XS.ladd X0.here hx rfl (hb hby at_39) rfl ?_
    exact k
  obtain ⟨d4, hd4⟩ : ∃ z : Int64, z = ((1 : Int64) + (((q2.toUInt64 >>> ((32 : Int32) &&& 0x3f).toInt64.toUInt64).toInt64) &&& (1073741822 : Int64))) := ⟨_, rfl⟩
  rw [← hd4] at pre4
  have r4 : 1 ≤ d4.toInt ∧ d4.toInt ≤ 1073741823 := by rw [hd4]; exact own_d _
  obtain ⟨_, _, ⟨T5, L5, k5, n5⟩, -, X5, ⟨Lc5, hQ5, l5, y5, z5⟩, st5⟩ := Jvm.LawKit.callS X0 hx (y := (⟨"java/lang/Math", "min", "(JJ)J"⟩ : MethodName)) hown (mvT hZ (hw _ (List.mem_of_getElem? (i := 2) rfl))) (mvT hZ (hw _ (List.mem_of_getElem? (i := 3) rfl))) (mvT hZ (hw _ (List.mem_of_getElem? (i := 4) rfl))) (mvT hZ (hw _ (List.mem_of_getElem? (i := 5) rfl))) (by decide) (backOf (W := 0) (own_rm1 l Z av hw [] (p0.toInt64) ((2147483647 : Int64) - (((d1 + d2) + d3) + d4)) h0 n0 Z0 ) hZ (hw _ (List.mem_of_getElem? (i := 5) rfl)) (hw _ (List.mem_of_getElem? (i := 4) rfl)) (by decide) (by decide)) (g := (mkF m 59 #[oi p0, oj q1, .second, oj q2, .second, oi p3, oj d1, .second, oj d2, .second, oj d3, .second, oj d4, .second, .unset, .unset, .unset, .unset, .unset, .unset, .unset, .unset, .unset] [(.long ((2147483647 : Int64) - (((d1 + d2) + d3) + d4))), (.long (p0.toInt64))])) rfl (by rw [hml]; rfl) (argsL := [(.long (p0.toInt64)), (.long ((2147483647 : Int64) - (((d1 + d2) + d3) + d4)))]) (rest := []) (lenOf own_pd2 rfl) rfl (by show 2 * 0 + _ ≤ _; exact Nat.le_of_eq rfl) (hb hby at_59) (fun _ _ => ⟨rfl, e0, (by decide : 0 + 0 ≤ _), (by decide : 0 + 0 ≤ _)⟩)
  dsimp only [Pt.U, Pt.locs, Pt.cells, Pt.slots] at X5 l5 y5 z5 st5 hQ5
  have yq5 : k5 = 0 := y5
  have zq5 : n5 = 0 := z5
  subst yq5 zq5
  obtain ⟨rfl, Nq5, eq5⟩ := hQ5
  have N5 : Fr n0 L5 := by rw [l5]; exact Fr.app N0 Nq5
  have pre6 : ∀ t, Steps p.tables e below (T5.setTop (mkF m 62 #[oi p0, oj q1, .second, oj q2, .second, oi p3, oj d1, .second, oj d2, .second, oj d3, .second, oj d4, .second, .unset, .unset, .unset, .unset, .unset, .unset, .unset, .unset, .unset] [(.long (own_f1 (p0.toInt64) ((2147483647 : Int64) - (((d1 + d2) + d3) + d4))))])) t → Steps p.tables e below (s₁.setTop (entryFrame m #[(.int p0), (.long q1), (.long q2), (.int p3)] maxLocals)) t := by
    intro t k
    refine pre4 t ?_
    show oS p e below s₁ m 40 #[oi p0, oj q1, .second, oj q2, .second, oi p3, oj d1, .second, oj d2, .second, oj d3, .second, .unset, .unset, .unset, .unset, .unset, .unset, .unset, .unset, .unset, .unset, .unset] [(.long d4)] _
    refine XS.lstore X0.here hx rfl (hb hby at_40) rfl (l' := #[oi p0, oj q1, .second, oj q2, .second, oi p3, oj d1, .second, oj d2, .second, oj d3, .second, oj d4, .second, .unset, .unset, .unset, .unset, .unset, .unset, .unset, .unset, .unset]) rfl ?_
    show oS p e below s₁ m 42 #[oi p0, oj q1, .second, oj q2, .second, oi p3, oj d1, .second, oj d2, .second, oj d3, .second, oj d4, .second, .unset, .unset, .unset, .unset, .unset, .unset, .unset, .unset, .unset] [] _
    refine XS.iloadN X0.here hx rfl (hb hby at_42) rfl ?_
    show oS p e below s₁ m 43 #[oi p0, oj q1, .second, oj q2, .second, oi p3, oj d1, .second, oj d2, .second, oj d3, .second, oj d4, .second, .unset, .unset, .unset, .unset, .unset, .unset, .unset, .unset, .unset] [(.int p0)] _
    refine XS.i2l X0.here hx rfl (hb hby at_43) rfl ?_
    show oS p e below s₁ m 44 #[oi p0, oj q1, .second, oj q2, .second, oi p3, oj d1, .second, oj d2, .second, oj d3, .second, oj d4, .second, .unset, .unset, .unset, .unset, .unset, .unset, .unset, .unset, .unset] [(.long (p0.toInt64))] _
    refine X0.ldc2Long hx hown (mvT hZ (hw _ (List.mem_of_getElem? (i := 1) rfl))) (g := (mkF m 44 #[oi p0, oj q1, .second, oj q2, .second, oi p3, oj d1, .second, oj d2, .second, oj d3, .second, oj d4, .second, .unset, .unset, .unset, .unset, .unset, .unset, .unset, .unset, .unset] [(.long (p0.toInt64))])) rfl (hb hby at_44) _ ?_
    show oS p e below s₁ m 47 #[oi p0, oj q1, .second, oj q2, .second, oi p3, oj d1, .second, oj d2, .second, oj d3, .second, oj d4, .second, .unset, .unset, .unset, .unset, .unset, .unset, .unset, .unset, .unset] [(.long (2147483647 : Int64)), (.long (p0.toInt64))] _
    refine XS.lload X0.here hx rfl (hb hby at_47) rfl ?_
    show oS p e below s₁ m 49 #[oi p0, oj q1, .second, oj q2, .second, oi p3, oj d1, .second, oj d2, .second, oj d3, .second, oj d4, .second, .unset, .unset, .unset, .unset, .unset, .unset, .unset, .unset, .unset] [(.long d1), (.long (2147483647 : Int64)), (.long (p0.toInt64))] _
    refine XS.lload X0.here hx rfl (hb hby at_49) rfl ?_
    show oS p e below s₁ m 51 #[oi p0, oj q1, .second, oj q2, .second, oi p3, oj d1, .second, oj d2, .second, oj d3, .second, oj d4, .second, .unset, .unset, .unset, .unset, .unset, .unset, .unset, .unset, .unset] [(.long d2), (.long d1), (.long (2147483647 : Int64)), (.long (p0.toInt64))] _
    refine XS.ladd X0.here hx rfl (hb hby at_51) rfl ?_
    show oS p e below s₁ m 52 #[oi p0, oj q1, .second, oj q2, .second, oi p3, oj d1, .second, oj d2, .second, oj d3, .second, oj d4, .second, .unset, .unset, .unset, .unset, .unset, .unset, .unset, .unset, .unset] [(.long (d1 + d2)), (.long (2147483647 : Int64)), (.long (p0.toInt64))] _
    refine XS.lload X0.here hx rfl (hb hby at_52) rfl ?_
    show oS p e below s₁ m 54 #[oi p0, oj q1, .second, oj q2, .second, oi p3, oj d1, .second, oj d2, .second, oj d3, .second, oj d4, .second, .unset, .unset, .unset, .unset, .unset, .unset, .unset, .unset, .unset] [(.long d3), (.long (d1 + d2)), (.long (2147483647 : Int64)), (.long (p0.toInt64))] _
    refine XS.ladd X0.here hx rfl (hb hby at_54) rfl ?_
    show oS p e below s₁ m 55 #[oi p0, oj q1, .second, oj q2, .second, oi p3, oj d1, .second, oj d2, .second, oj d3, .second, oj d4, .second, .unset, .unset, .unset, .unset, .unset, .unset, .unset, .unset, .unset] [(.long ((d1 + d2) + d3)), (.long (2147483647 : Int64)), (.long (p0.toInt64))] _
    refine XS.lload X0.here hx rfl (hb hby at_55) rfl ?_
    show oS p e below s₁ m 57 #[oi p0, oj q1, .second, oj q2, .second, oi p3, oj d1, .second, oj d2, .second, oj d3, .second, oj d4, .second, .unset, .unset, .unset, .unset, .unset, .unset, .unset, .unset, .unset] [(.long d4), (.long ((d1 + d2) + d3)), (.long (2147483647 : Int64)), (.long (p0.toInt64))] _
    refine XS.ladd X0.here hx rfl (hb hby at_57) rfl ?_
    show oS p e below s₁ m 58 #[oi p0, oj q1, .second, oj q2, .second, oi p3, oj d1, .second, oj d2, .second, oj d3, .second, oj d4, .second, .unset, .unset, .unset, .unset, .unset, .unset, .unset, .unset, .unset] [(.long (((d1 + d2) + d3) + d4)), (.long (2147483647 : Int64)), (.long (p0.toInt64))] _
    refine XS.lsub X0.here hx rfl (hb hby at_58) rfl ?_
    show oS p e below s₁ m 59 #[oi p0, oj q1, .second, oj q2, .second, oi p3, oj d1, .second, oj d2, .second, oj d3, .second, oj d4, .second, .unset, .unset, .unset, .unset, .unset, .unset, .unset, .unset, .unset] [(.long ((2147483647 : Int64) - (((d1 + d2) + d3) + d4))), (.long (p0.toInt64))] _
    refine st5 _ ?_
    exact k
  obtain ⟨vs, hvs⟩ : ∃ z : Int64, z = (own_f1 (p0.toInt64) ((2147483647 : Int64) - (((d1 + d2) + d3) + d4))) := ⟨_, rfl⟩
  rw [← hvs] at pre6
  have rs : -2147483648 ≤ vs.toInt ∧ vs.toInt + d1.toInt + d2.toInt + d3.toInt + d4.toInt ≤ 2147483647 := by rw [hvs]; exact own_start _ r1 r2 r3 r4
  have a1' : (vs + d1).toInt = vs.toInt + d1.toInt := own_add (by omega) (by omega)
  have a2' : ((vs + d1) + d2).toInt = vs.toInt + d1.toInt + d2.toInt := by rw [own_add (by omega) (by omega), a1']
  have a3' : (((vs + d1) + d2) + d3).toInt = vs.toInt + d1.toInt + d2.toInt + d3.toInt := by rw [own_add (by omega) (by omega), a2']
  have a4' : ((((vs + d1) + d2) + d3) + d4).toInt = vs.toInt + d1.toInt + d2.toInt + d3.toInt + d4.toInt := by rw [own_add (by omega) (by omega), a3']
  obtain ⟨T7, h7, k7, X7, e7, E7, A7, B7, st7⟩ := newPE X5 hx hZ (hw _ (List.mem_of_getElem? (i := 6) rfl)) eq5 (g := (mkF m 65 #[oi p0, oj q1, .second, oj q2, .second, oi p3, oj d1, .second, oj d2, .second, oj d3, .second, oj d4, .second, oj vs, .second, .unset, .unset, .unset, .unset, .unset, .unset, .unset] [(.int (5 : Int32))])) rfl (hb hby at_65) rfl (by decide) (cap := 5) (by decide) (by decide) (by decide) (by decide) (ad := "[I") rfl
  obtain ⟨b7, g7⟩ : ∃ z, z = h0.size := ⟨_, rfl⟩
  rw [← g7] at A7 st7 B7
  have g_b7 : n0 ≤ b7 := Nat.le_trans Z0 (Nat.le_of_eq g7.symm)
  have Z7 : n0 ≤ h7.size := Nat.le_trans Z0 E7.1
  have V_8 : Arv Z h7 b7 k7 .int (5 : Int32) [(.int (0 : Int32)), (.int (0 : Int32)), (.int (0 : Int32)), (.int (0 : Int32)), (.int (0 : Int32))] (.int (0 : Int32)) := (Arv.new A7 (by decide)).pad (pad_rep [] (.int (0 : Int32)) 5)
  have pre9 : ∀ t, Steps p.tables e below (T7.setTop (mkF m 75 #[oi p0, oj q1, .second, oj q2, .second, oi p3, oj d1, .second, oj d2, .second, oj d3, .second, oj d4, .second, oj vs, .second, oa b7, .unset, .unset, .unset, .unset, .unset, .unset] [(.int (vs.toInt32)), (.int (0 : Int32)), (.ref b7)])) t → Steps p.tables e below (s₁.setTop (entryFrame m #[(.int p0), (.long q1), (.long q2), (.int p3)] maxLocals)) t := by
    intro t k
    refine pre6 t ?_
    show oS p e below T5 m 62 #[oi p0, oj q1, .second, oj q2, .second, oi p3, oj d1, .second, oj d2, .second, oj d3, .second, oj d4, .second, .unset, .unset, .unset, .unset, .unset, .unset, .unset, .unset, .unset] [(.long vs)] _
    refine XS.lstore X5.here hx rfl (hb hby at_62) rfl (l' := #[oi p0, oj q1, .second, oj q2, .second, oi p3, oj d1, .second, oj d2, .second, oj d3, .second, oj d4, .second, oj vs, .second, .unset, .unset, .unset, .unset, .unset, .unset, .unset]) rfl ?_
    show oS p e below T5 m 64 #[oi p0, oj q1, .second, oj q2, .second, oi p3, oj d1, .second, oj d2, .second, oj d3, .second, oj d4, .second, oj vs, .second, .unset, .unset, .unset, .unset, .unset, .unset, .unset] [] _
    refine XS.iconst X5.here hx rfl (hb hby at_64) ?_
    show oS p e below T5 m 65 #[oi p0, oj q1, .second, oj q2, .second, oi p3, oj d1, .second, oj d2, .second, oj d3, .second, oj d4, .second, oj vs, .second, .unset, .unset, .unset, .unset, .unset, .unset, .unset] [(.int (5 : Int32))] _
    refine st7 _ ?_
    show oS p e below T7 m 67 #[oi p0, oj q1, .second, oj q2, .second, oi p3, oj d1, .second, oj d2, .second, oj d3, .second, oj d4, .second, oj vs, .second, .unset, .unset, .unset, .unset, .unset, .unset, .unset] [(.ref b7)] _
    refine XS.astore X7.here hx rfl (hb hby at_67) rfl rfl (l' := #[oi p0, oj q1, .second, oj q2, .second, oi p3, oj d1, .second, oj d2, .second, oj d3, .second, oj d4, .second, oj vs, .second, oa b7, .unset, .unset, .unset, .unset, .unset, .unset]) rfl ?_
    show oS p e below T7 m 69 #[oi p0, oj q1, .second, oj q2, .second, oi p3, oj d1, .second, oj d2, .second, oj d3, .second, oj d4, .second, oj vs, .second, oa b7, .unset, .unset, .unset, .unset, .unset, .unset] [] _
    refine XS.aload X7.here hx rfl (hb hby at_69) rfl rfl ?_
    show oS p e below T7 m 71 #[oi p0, oj q1, .second, oj q2, .second, oi p3, oj d1, .second, oj d2, .second, oj d3, .second, oj d4, .second, oj vs, .second, oa b7, .unset, .unset, .unset, .unset, .unset, .unset] [(.ref b7)] _
    refine XS.iconst X7.here hx rfl (hb hby at_71) ?_
    show oS p e below T7 m 72 #[oi p0, oj q1, .second, oj q2, .second, oi p3, oj d1, .second, oj d2, .second, oj d3, .second, oj d4, .second, oj vs, .second, oa b7, .unset, .unset, .unset, .unset, .unset, .unset] [(.int (0 : Int32)), (.ref b7)] _
    refine XS.lload X7.here hx rfl (hb hby at_72) rfl ?_
    show oS p e below T7 m 74 #[oi p0, oj q1, .second, oj q2, .second, oi p3, oj d1, .second, oj d2, .second, oj d3, .second, oj d4, .second, oj vs, .second, oa b7, .unset, .unset, .unset, .unset, .unset, .unset] [(.long vs), (.int (0 : Int32)), (.ref b7)] _
    refine XS.l2i X7.here hx rfl (hb hby at_74) rfl ?_
    exact k
  obtain ⟨u0, hu0⟩ : ∃ z : Int32, z = (vs.toInt32) := ⟨_, rfl⟩
  rw [← hu0] at pre9
  have w0 : u0.toInt = vs.toInt := by rw [hu0]; exact own_l2i (by omega) (by omega)
  obtain ⟨T10, h10, X10, e10, W10, V10, st10⟩ := oStI X7 hx hZ e7 V_8 (j := (0 : Int32)) ⟨by decide, by decide⟩ 0 rfl (Nat.le_of_ble_eq_true rfl) (g := (mkF m 75 #[oi p0, oj q1, .second, oj q2, .second, oi p3, oj d1, .second, oj d2, .second, oj d3, .second, oj d4, .second, oj vs, .second, oa b7, .unset, .unset, .unset, .unset, .unset, .unset] [(.int u0), (.int (0 : Int32)), (.ref b7)])) rfl rfl (hb hby at_75)
  obtain ⟨Lo10, X10, N10⟩ := oOpq X10 (Fr.snoc X10 N5 g_b7)
  have Z10 := Nat.le_trans Z7 (Keep.of_wr W10).1
  have F11 := B7.wr W10
  have V_12 : Arv Z h10 b7 k7 .int (5 : Int32) [(.int u0), (.int (0 : Int32)), (.int (0 : Int32)), (.int (0 : Int32)), (.int (0 : Int32))] (.int (0 : Int32)) := V10
  have pre13 : ∀ t, Steps p.tables e below (T10.setTop (mkF m 85 #[oi p0, oj q1, .second, oj q2, .second, oi p3, oj d1, .second, oj d2, .second, oj d3, .second, oj d4, .second, oj vs, .second, oa b7, .unset, .unset, .unset, .unset, .unset, .unset] [(.int ((vs + d1).toInt32)), (.int (1 : Int32)), (.ref b7)])) t → Steps p.tables e below (s₁.setTop (entryFrame m #[(.int p0), (.long q1), (.long q2), (.int p3)] maxLocals)) t := by
    intro t k
    refine pre9 t ?_
    show oS p e below T7 m 75 #[oi p0, oj q1, .second, oj q2, .second, oi p3, oj d1, .second, oj d2, .second, oj d3, .second, oj d4, .second, oj vs, .second, oa b7, .unset, .unset, .unset, .unset, .unset, .unset] [(.int u0), (.int (0 : Int32)), (.ref b7)] _
    refine st10 _ ?_
    show oS p e below T10 m 76 #[oi p0, oj q1, .second, oj q2, .second, oi p3, oj d1, .second, oj d2, .second, oj d3, .second, oj d4, .second, oj vs, .second, oa b7, .unset, .unset, .unset, .unset, .unset, .unset] [] _
    refine XS.aload X10.here hx rfl (hb hby at_76) rfl rfl ?_
    show oS p e below T10 m 78 #[oi p0, oj q1, .second, oj q2, .second, oi p3, oj d1, .second, oj d2, .second, oj d3, .second, oj d4, .second, oj vs, .second, oa b7, .unset, .unset, .unset, .unset, .unset, .unset] [(.ref b7)] _
    refine XS.iconst X10.here hx rfl (hb hby at_78) ?_
    show oS p e below T10 m 79 #[oi p0, oj q1, .second, oj q2, .second, oi p3, oj d1, .second, oj d2, .second, oj d3, .second, oj d4, .second, oj vs, .second, oa b7, .unset, .unset, .unset, .unset, .unset, .unset] [(.int (1 : Int32)), (.ref b7)] _
    refine XS.lload X10.here hx rfl (hb hby at_79) rfl ?_
    show oS p e below T10 m 81 #[oi p0, oj q1, .second, oj q2, .second, oi p3, oj d1, .second, oj d2, .second, oj d3, .second, oj d4, .second, oj vs, .second, oa b7, .unset, .unset, .unset, .unset, .unset, .unset] [(.long vs), (.int (1 : Int32)), (.ref b7)] _
    refine XS.lload X10.here hx rfl (hb hby at_81) rfl ?_
    show oS p e below T10 m 83 #[oi p0, oj q1, .second, oj q2, .second, oi p3, oj d1, .second, oj d2, .second, oj d3, .second, oj d4, .second, oj vs, .second, oa b7, .unset, .unset, .unset, .unset, .unset, .unset] [(.long d1), (.long vs), (.int (1 : Int32)), (.ref b7)] _
    refine XS.ladd X10.here hx rfl (hb hby at_83) rfl ?_
    show oS p e below T10 m 84 #[oi p0, oj q1, .second, oj q2, .second, oi p3, oj d1, .second, oj d2, .second, oj d3, .second, oj d4, .second, oj vs, .second, oa b7, .unset, .unset, .unset, .unset, .unset, .unset] [(.long (vs + d1)), (.int (1 : Int32)), (.ref b7)] _
    refine XS.l2i X10.here hx rfl (hb hby at_84) rfl ?_
    exact k
  obtain ⟨u1, hu1⟩ : ∃ z : Int32, z = ((vs + d1).toInt32) := ⟨_, rfl⟩
  rw [← hu1] at pre13
  have w1 : u1.toInt = vs.toInt + d1.toInt := by rw [hu1, own_l2i (by omega) (by omega)]; exact a1'
  obtain ⟨T14, h14, X14, e14, W14, V14, st14⟩ := oStI X10 hx hZ e10 V_12 (j := (1 : Int32)) ⟨by decide, by decide⟩ 1 rfl (Nat.le_of_ble_eq_true rfl) (g := (mkF m 85 #[oi p0, oj q1, .second, oj q2, .second, oi p3, oj d1, .second, oj d2, .second, oj d3, .second, oj d4, .second, oj vs, .second, oa b7, .unset, .unset, .unset, .unset, .unset, .unset] [(.int u1), (.int (1 : Int32)), (.ref b7)])) rfl rfl (hb hby at_85)
  obtain ⟨Lo14, X14, N14⟩ := oOpq X14 (Fr.snoc X14 N10 g_b7)
  have Z14 := Nat.le_trans Z10 (Keep.of_wr W14).1
  have F15 := F11.wr W14
  have V_16 : Arv Z h14 b7 k7 .int (5 : Int32) [(.int u0), (.int u1), (.int (0 : Int32)), (.int (0 : Int32)), (.int (0 : Int32))] (.int (0 : Int32)) := V14
  have pre17 : ∀ t, Steps p.tables e below (T14.setTop (mkF m 98 #[oi p0, oj q1, .second, oj q2, .second, oi p3, oj d1, .second, oj d2, .second, oj d3, .second, oj d4, .second, oj vs, .second, oa b7, .unset, .unset, .unset, .unset, .unset, .unset] [(.int (((vs + d1) + d2).toInt32)), (.int (2 : Int32)), (.ref b7)])) t → Steps p.tables e below (s₁.setTop (entryFrame m #[(.int p0), (.long q1), (.long q2), (.int p3)] maxLocals)) t := by
    intro t k
    refine pre13 t ?_
    show oS p e below T10 m 85 #[oi p0, oj q1, .second, oj q2, .second, oi p3, oj d1, .second, oj d2, .second, oj d3, .second, oj d4, .second, oj vs, .second, oa b7, .unset, .unset, .unset, .unset, .unset, .unset] [(.int u1), (.int (1 : Int32)), (.ref b7)] _
    refine st14 _ ?_
    show oS p e below T14 m 86 #[oi p0, oj q1, .second, oj q2, .second, oi p3, oj d1, .second, oj d2, .second, oj d3, .second, oj d4, .second, oj vs, .second, oa b7, .unset, .unset, .unset, .unset, .unset, .unset] [] _
    refine XS.aload X14.here hx rfl (hb hby at_86) rfl rfl ?_
    show oS p e below T14 m 88 #[oi p0, oj q1, .second, oj q2, .second, oi p3, oj d1, .second, oj d2, .second, oj d3, .second, oj d4, .second, oj vs, .second, oa b7, .unset, .unset, .unset, .unset, .unset, .unset] [(.ref b7)] _
    refine XS.iconst X14.here hx rfl (hb hby at_88) ?_
    show oS p e below T14 m 89 #[oi p0, oj q1, .second, oj q2, .second, oi p3, oj d1, .second, oj d2, .second, oj d3, .second, oj d4, .second, oj vs, .second, oa b7, .unset, .unset, .unset, .unset, .unset, .unset] [(.int (2 : Int32)), (.ref b7)] _
    refine XS.lload X14.here hx rfl (hb hby at_89) rfl ?_
    show oS p e below T14 m 91 #[oi p0, oj q1, .second, oj q2, .second, oi p3, oj d1, .second, oj d2, .second, oj d3, .second, oj d4, .second, oj vs, .second, oa b7, .unset, .unset, .unset, .unset, .unset, .unset] [(.long vs), (.int (2 : Int32)), (.ref b7)] _
    refine XS.lload X14.here hx rfl (hb hby at_91) rfl ?_
    show oS p e below T14 m 93 #[oi p0, oj q1, .second, oj q2, .second, oi p3, oj d1, .second, oj d2, .second, oj d3, .second, oj d4, .second, oj vs, .second, oa b7, .unset, .unset, .unset, .unset, .unset, .unset] [(.long d1), (.long vs), (.int (2 : Int32)), (.ref b7)] _
    refine XS.ladd X14.here hx rfl (hb hby at_93) rfl ?_
    show oS p e below T14 m 94 #[oi p0, oj q1, .second, oj q2, .second, oi p3, oj d1, .second, oj d2, .second, oj d3, .second, oj d4, .second, oj vs, .second, oa b7, .unset, .unset, .unset, .unset, .unset, .unset] [(.long (vs + d1)), (.int (2 : Int32)), (.ref b7)] _
    refine XS.lload X14.here hx rfl (hb hby at_94) rfl ?_
    show oS p e below T14 m 96 #[oi p0, oj q1, .second, oj q2, .second, oi p3, oj d1, .second, oj d2, .second, oj d3, .second, oj d4, .second, oj vs, .second, oa b7, .unset, .unset, .unset, .unset, .unset, .unset] [(.long d2), (.long (vs + d1)), (.int (2 : Int32)), (.ref b7)] _
    refine XS.ladd X14.here hx rfl (hb hby at_96) rfl ?_
    show oS p e below T14 m 97 #[oi p0, oj q1, .second, oj q2, .second, oi p3, oj d1, .second, oj d2, .second, oj d3, .second, oj d4, .second, oj vs, .second, oa b7, .unset, .unset, .unset, .unset, .unset, .unset] [(.long ((vs + d1) + d2)), (.int (2 : Int32)), (.ref b7)] _
    refine XS.l2i X14.here hx rfl (hb hby at_97) rfl ?_
    exact k
  obtain ⟨u2, hu2⟩ : ∃ z : Int32, z = (((vs + d1) + d2).toInt32) := ⟨_, rfl⟩
  rw [← hu2] at pre17
  have w2 : u2.toInt = vs.toInt + d1.toInt + d2.toInt := by rw [hu2, own_l2i (by omega) (by omega)]; exact a2'
  obtain ⟨T18, h18, X18, e18, W18, V18, st18⟩ := oStI X14 hx hZ e14 V_16 (j := (2 : Int32)) ⟨by decide, by decide⟩ 2 rfl (Nat.le_of_ble_eq_true rfl) (g := (mkF m 98 #[oi p0, oj q1, .second, oj q2, .second, oi p3, oj d1, .second, oj d2, .second, oj d3, .second, oj d4, .second, oj vs, .second, oa b7, .unset, .unset, .unset, .unset, .unset, .unset] [(.int u2), (.int (2 : Int32)), (.ref b7)])) rfl rfl (hb hby at_98)
  obtain ⟨Lo18, X18, N18⟩ := oOpq X18 (Fr.snoc X18 N14 g_b7)
  have Z18 := Nat.le_trans Z14 (Keep.of_wr W18).1
  have F19 := F15.wr W18
  have V_20 : Arv Z h18 b7 k7 .int (5 : Int32) [(.int u0), (.int u1), (.int u2), (.int (0 : Int32)), (.int (0 : Int32))] (.int (0 : Int32)) := V18
  have pre21 : ∀ t, Steps p.tables e below (T18.setTop (mkF m 114 #[oi p0, oj q1, .second, oj q2, .second, oi p3, oj d1, .second, oj d2, .second, oj d3, .second, oj d4, .second, oj vs, .second, oa b7, .unset, .unset, .unset, .unset, .unset, .unset] [(.int ((((vs + d1) + d2) + d3).toInt32)), (.int (3 : Int32)), (.ref b7)])) t → Steps p.tables e below (s₁.setTop (entryFrame m #[(.int p0), (.long q1), (.long q2), (.int p3)] maxLocals)) t := by
    intro t k
    refine pre17 t ?_
    show oS p e below T14 m 98 #[oi p0, oj q1, .second, oj q2, .second, oi p3, oj d1, .second, oj d2, .second, oj d3, .second, oj d4, .second, oj vs, .second, oa b7, .unset, .unset, .unset, .unset, .unset, .unset] [(.int u2), (.int (2 : Int32)), (.ref b7)] _
    refine st18 _ ?_
    show oS p e below T18 m 99 #[oi p0, oj q1, .second, oj q2, .second, oi p3, oj d1, .second, oj d2, .second, oj d3, .second, oj d4, .second, oj vs, .second, oa b7, .unset, .unset, .unset, .unset, .unset, .unset] [] _
    refine XS.aload X18.here hx rfl (hb hby at_99) rfl rfl ?_
    show oS p e below T18 m 101 #[oi p0, oj q1, .second, oj q2, .second, oi p3, oj d1, .second, oj d2, .second, oj d3, .second, oj d4, .second, oj vs, .second, oa b7, .unset, .unset, .unset, .unset, .unset, .unset] [(.ref b7)] _
    refine XS.iconst X18.here hx rfl (hb hby at_101) ?_
    show oS p e below T18 m 102 #[oi p0, oj q1, .second, oj q2, .second, oi p3, oj d1, .second, oj d2, .second, oj d3, .second, oj d4, .second, oj vs, .second, oa b7, .unset, .unset, .unset, .unset, .unset, .unset] [(.int (3 : Int32)), (.ref b7)] _
    refine XS.lload X18.here hx rfl (hb hby at_102) rfl ?_
    show oS p e below T18 m 104 #[oi p0, oj q1, .second, oj q2, .second, oi p3, oj d1, .second, oj d2, .second, oj d3, .second, oj d4, .second, oj vs, .second, oa b7, .unset, .unset, .unset, .unset, .unset, .unset] [(.long vs), (.int (3 : Int32)), (.ref b7)] _
    refine XS.lload X18.here hx rfl (hb hby at_104) rfl ?_
    show oS p e below T18 m 106 #[oi p0, oj q1, .second, oj q2, .second, oi p3, oj d1, .second, oj d2, .second, oj d3, .second, oj d4, .second, oj vs, .second, oa b7, .unset, .unset, .unset, .unset, .unset, .unset] [(.long d1), (.long vs), (.int (3 : Int32)), (.ref b7)] _
    refine XS.ladd X18.here hx rfl (hb hby at_106) rfl ?_
    show oS p e below T18 m 107 #[oi p0, oj q1, .second, oj q2, .second, oi p3, oj d1, .second, oj d2, .second, oj d3, .second, oj d4, .second, oj vs, .second, oa b7, .unset, .unset, .unset, .unset, .unset, .unset] [(.long (vs + d1)), (.int (3 : Int32)), (.ref b7)] _
    refine XS.lload X18.here hx rfl (hb hby at_107) rfl ?_
    show oS p e below T18 m 109 #[oi p0, oj q1, .second, oj q2, .second, oi p3, oj d1, .second, oj d2, .second, oj d3, .second, oj d4, .second, oj vs, .second, oa b7, .unset, .unset, .unset, .unset, .unset, .unset] [(.long d2), (.long (vs + d1)), (.int (3 : Int32)), (.ref b7)] _
    refine XS.ladd X18.here hx rfl (hb hby at_109) rfl ?_
    show oS p e below T18 m 110 #[oi p0, oj q1, .second, oj q2, .second, oi p3, oj d1, .second, oj d2, .second, oj d3, .second, oj d4, .second, oj vs, .second, oa b7, .unset, .unset, .unset, .unset, .unset, .unset] [(.long ((vs + d1) + d2)), (.int (3 : Int32)), (.ref b7)] _
    refine XS.lload X18.here hx rfl (hb hby at_110) rfl ?_
    show oS p e below T18 m 112 #[oi p0, oj q1, .second, oj q2, .second, oi p3, oj d1, .second, oj d2, .second, oj d3, .second, oj d4, .second, oj vs, .second, oa b7, .unset, .unset, .unset, .unset, .unset, .unset] [(.long d3), (.long ((vs + d1) + d2)), (.int (3 : Int32)), (.ref b7)] _
    refine XS.ladd X18.here hx rfl (hb hby at_112) rfl ?_
    show oS p e below T18 m 113 #[oi p0, oj q1, .second, oj q2, .second, oi p3, oj d1, .second, oj d2, .second, oj d3, .second, oj d4, .second, oj vs, .second, oa b7, .unset, .unset, .unset, .unset, .unset, .unset] [(.long (((vs + d1) + d2) + d3)), (.int (3 : Int32)), (.ref b7)] _
    refine XS.l2i X18.here hx rfl (hb hby at_113) rfl ?_
    exact k
  obtain ⟨u3, hu3⟩ : ∃ z : Int32, z = ((((vs + d1) + d2) + d3).toInt32) := ⟨_, rfl⟩
  rw [← hu3] at pre21
  have w3 : u3.toInt = vs.toInt + d1.toInt + d2.toInt + d3.toInt := by rw [hu3, own_l2i (by omega) (by omega)]; exact a3'
  obtain ⟨T22, h22, X22, e22, W22, V22, st22⟩ := oStI X18 hx hZ e18 V_20 (j := (3 : Int32)) ⟨by decide, by decide⟩ 3 rfl (Nat.le_of_ble_eq_true rfl) (g := (mkF m 114 #[oi p0, oj q1, .second, oj q2, .second, oi p3, oj d1, .second, oj d2, .second, oj d3, .second, oj d4, .second, oj vs, .second, oa b7, .unset, .unset, .unset, .unset, .unset, .unset] [(.int u3), (.int (3 : Int32)), (.ref b7)])) rfl rfl (hb hby at_114)
  obtain ⟨Lo22, X22, N22⟩ := oOpq X22 (Fr.snoc X22 N18 g_b7)
  have Z22 := Nat.le_trans Z18 (Keep.of_wr W22).1
  have F23 := F19.wr W22
  have V_24 : Arv Z h22 b7 k7 .int (5 : Int32) [(.int u0), (.int u1), (.int u2), (.int u3), (.int (0 : Int32))] (.int (0 : Int32)) := V22
  have pre25 : ∀ t, Steps p.tables e below (T22.setTop (mkF m 133 #[oi p0, oj q1, .second, oj q2, .second, oi p3, oj d1, .second, oj d2, .second, oj d3, .second, oj d4, .second, oj vs, .second, oa b7, .unset, .unset, .unset, .unset, .unset, .unset] [(.int (((((vs + d1) + d2) + d3) + d4).toInt32)), (.int (4 : Int32)), (.ref b7)])) t → Steps p.tables e below (s₁.setTop (entryFrame m #[(.int p0), (.long q1), (.long q2), (.int p3)] maxLocals)) t := by
    intro t k
    refine pre21 t ?_
    show oS p e below T18 m 114 #[oi p0, oj q1, .second, oj q2, .second, oi p3, oj d1, .second, oj d2, .second, oj d3, .second, oj d4, .second, oj vs, .second, oa b7, .unset, .unset, .unset, .unset, .unset, .unset] [(.int u3), (.int (3 : Int32)), (.ref b7)] _
    refine st22 _ ?_
    show oS p e below T22 m 115 #[oi p0, oj q1, .second, oj q2, .second, oi p3, oj d1, .second, oj d2, .second, oj d3, .second, oj d4, .second, oj vs, .second, oa b7, .unset, .unset, .unset, .unset, .unset, .unset] [] _
    refine XS.aload X22.here hx rfl (hb hby at_115) rfl rfl ?_
    show oS p e below T22 m 117 #[oi p0, oj q1, .second, oj q2, .second, oi p3, oj d1, .second, oj d2, .second, oj d3, .second, oj d4, .second, oj vs, .second, oa b7, .unset, .unset, .unset, .unset, .unset, .unset] [(.ref b7)] _
    refine XS.iconst X22.here hx rfl (hb hby at_117) ?_
    show oS p e below T22 m 118 #[oi p0, oj q1, .second, oj q2, .second, oi p3, oj d1, .second, oj d2, .second, oj d3, .second, oj d4, .second, oj vs, .second, oa b7, .unset, .unset, .unset, .unset, .unset, .unset] [(.int (4 : Int32)), (.ref b7)] _
    refine XS.lload X22.here hx rfl (hb hby at_118) rfl ?_
    show oS p e below T22 m 120 #[oi p0, oj q1, .second, oj q2, .second, oi p3, oj d1, .second, oj d2, .second, oj d3, .second, oj d4, .second, oj vs, .second, oa b7, .unset, .unset, .unset, .unset, .unset, .unset] [(.long vs), (.int (4 : Int32)), (.ref b7)] _
    refine XS.lload X22.here hx rfl (hb hby at_120) rfl ?_
    show oS p e below T22 m 122 #[oi p0, oj q1, .second, oj q2, .second, oi p3, oj d1, .second, oj d2, .second, oj d3, .second, oj d4, .second, oj vs, .second, oa b7, .unset, .unset, .unset, .unset, .unset, .unset] [(.long d1), (.long vs), (.int (4 : Int32)), (.ref b7)] _
    refine XS.ladd X22.here hx rfl (hb hby at_122) rfl ?_
    show oS p e below T22 m 123 #[oi p0, oj q1, .second, oj q2, .second, oi p3, oj d1, .second, oj d2, .second, oj d3, .second, oj d4, .second, oj vs, .second, oa b7, .unset, .unset, .unset, .unset, .unset, .unset] [(.long (vs + d1)), (.int (4 : Int32)), (.ref b7)] _
    refine XS.lload X22.here hx rfl (hb hby at_123) rfl ?_
    show oS p e below T22 m 125 #[oi p0, oj q1, .second, oj q2, .second, oi p3, oj d1, .second, oj d2, .second, oj d3, .second, oj d4, .second, oj vs, .second, oa b7, .unset, .unset, .unset, .unset, .unset, .unset] [(.long d2), (.long (vs + d1)), (.int (4 : Int32)), (.ref b7)] _
    refine XS.ladd X22.here hx rfl (hb hby at_125) rfl ?_
    show oS p e below T22 m 126 #[oi p0, oj q1, .second, oj q2, .second, oi p3, oj d1, .second, oj d2, .second, oj d3, .second, oj d4, .second, oj vs, .second, oa b7, .unset, .unset, .unset, .unset, .unset, .unset] [(.long ((vs + d1) + d2)), (.int (4 : Int32)), (.ref b7)] _
    refine XS.lload X22.here hx rfl (hb hby at_126) rfl ?_
    show oS p e below T22 m 128 #[oi p0, oj q1, .second, oj q2, .second, oi p3, oj d1, .second, oj d2, .second, oj d3, .second, oj d4, .second, oj vs, .second, oa b7, .unset, .unset, .unset, .unset, .unset, .unset] [(.long d3), (.long ((vs + d1) + d2)), (.int (4 : Int32)), (.ref b7)] _
    refine XS.ladd X22.here hx rfl (hb hby at_128) rfl ?_
    show oS p e below T22 m 129 #[oi p0, oj q1, .second, oj q2, .second, oi p3, oj d1, .second, oj d2, .second, oj d3, .second, oj d4, .second, oj vs, .second, oa b7, .unset, .unset, .unset, .unset, .unset, .unset] [(.long (((vs + d1) + d2) + d3)), (.int (4 : Int32)), (.ref b7)] _
    refine XS.lload X22.here hx rfl (hb hby at_129) rfl ?_
    show oS p e below T22 m 131 #[oi p0, oj q1, .second, oj q2, .second, oi p3, oj d1, .second, oj d2, .second, oj d3, .second, oj d4, .second, oj vs, .second, oa b7, .unset, .unset, .unset, .unset, .unset, .unset] [(.long d4), (.long (((vs + d1) + d2) + d3)), (.int (4 : Int32)), (.ref b7)] _
    refine XS.ladd X22.here hx rfl (hb hby at_131) rfl ?_
    show oS p e below T22 m 132 #[oi p0, oj q1, .second, oj q2, .second, oi p3, oj d1, .second, oj d2, .second, oj d3, .second, oj d4, .second, oj vs, .second, oa b7, .unset, .unset, .unset, .unset, .unset, .unset] [(.long ((((vs + d1) + d2) + d3) + d4)), (.int (4 : Int32)), (.ref b7)] _
    refine XS.l2i X22.here hx rfl (hb hby at_132) rfl ?_
    exact k
  obtain ⟨u4, hu4⟩ : ∃ z : Int32, z = (((((vs + d1) + d2) + d3) + d4).toInt32) := ⟨_, rfl⟩
  rw [← hu4] at pre25
  have w4 : u4.toInt = vs.toInt + d1.toInt + d2.toInt + d3.toInt + d4.toInt := by rw [hu4, own_l2i (by omega) (by omega)]; exact a4'
  obtain ⟨T26, h26, X26, e26, W26, V26, st26⟩ := oStI X22 hx hZ e22 V_24 (j := (4 : Int32)) ⟨by decide, by decide⟩ 4 rfl (Nat.le_of_ble_eq_true rfl) (g := (mkF m 133 #[oi p0, oj q1, .second, oj q2, .second, oi p3, oj d1, .second, oj d2, .second, oj d3, .second, oj d4, .second, oj vs, .second, oa b7, .unset, .unset, .unset, .unset, .unset, .unset] [(.int u4), (.int (4 : Int32)), (.ref b7)])) rfl rfl (hb hby at_133)
  obtain ⟨Lo26, X26, N26⟩ := oOpq X26 (Fr.snoc X26 N22 g_b7)
  have Z26 := Nat.le_trans Z22 (Keep.of_wr W26).1
  have F27 := F23.wr W26
  have V_28 : Arv Z h26 b7 k7 .int (5 : Int32) [(.int u0), (.int u1), (.int u2), (.int u3), (.int u4)] (.int (0 : Int32)) := V26
  have pre29 : ∀ t, Steps p.tables e below (T26.setTop (mkF m 139 #[oi p0, oj q1, .second, oj q2, .second, oi p3, oj d1, .second, oj d2, .second, oj d3, .second, oj d4, .second, oj vs, .second, oa b7, .unset, .unset, .unset, .unset, .unset, .unset] [(.int (p3 &&& (31 : Int32)))])) t → Steps p.tables e below (s₁.setTop (entryFrame m #[(.int p0), (.long q1), (.long q2), (.int p3)] maxLocals)) t := by
    intro t k
    refine pre25 t ?_
    show oS p e below T22 m 133 #[oi p0, oj q1, .second, oj q2, .second, oi p3, oj d1, .second, oj d2, .second, oj d3, .second, oj d4, .second, oj vs, .second, oa b7, .unset, .unset, .unset, .unset, .unset, .unset] [(.int u4), (.int (4 : Int32)), (.ref b7)] _
    refine st26 _ ?_
    show oS p e below T26 m 134 #[oi p0, oj q1, .second, oj q2, .second, oi p3, oj d1, .second, oj d2, .second, oj d3, .second, oj d4, .second, oj vs, .second, oa b7, .unset, .unset, .unset, .unset, .unset, .unset] [] _
    refine XS.iload X26.here hx rfl (hb hby at_134) rfl ?_
    show oS p e below T26 m 136 #[oi p0, oj q1, .second, oj q2, .second, oi p3, oj d1, .second, oj d2, .second, oj d3, .second, oj d4, .second, oj vs, .second, oa b7, .unset, .unset, .unset, .unset, .unset, .unset] [(.int p3)] _
    refine XS.bipush X26.here hx rfl (hb hby at_136) ?_
    show oS p e below T26 m 138 #[oi p0, oj q1, .second, oj q2, .second, oi p3, oj d1, .second, oj d2, .second, oj d3, .second, oj d4, .second, oj vs, .second, oa b7, .unset, .unset, .unset, .unset, .unset, .unset] [(.int (31 : Int32)), (.int p3)] _
    refine XS.iand X26.here hx rfl (hb hby at_138) rfl ?_
    exact k
  obtain ⟨ms, hms⟩ : ∃ z : Int32, z = (p3 &&& (31 : Int32)) := ⟨_, rfl⟩
  rw [← hms] at pre29
  have rms : 0 ≤ ms.toInt ∧ ms.toInt < 32 := by rw [hms]; exact own_m31 _
  have pre30 : ∀ t, Steps p.tables e below (T26.setTop (mkF m 148 #[oi p0, oj q1, .second, oj q2, .second, oi p3, oj d1, .second, oj d2, .second, oj d3, .second, oj d4, .second, oj vs, .second, oa b7, oi ms, .unset, .unset, .unset, .unset, .unset] [(.int (((p3.toUInt32 >>> ((5 : Int32) &&& 31).toUInt32).toInt32) &&& (31 : Int32)))])) t → Steps p.tables e below (s₁.setTop (entryFrame m #[(.int p0), (.long q1), (.long q2), (.int p3)] maxLocals)) t := by
    intro t k
    refine pre29 t ?_
    show oS p e below T26 m 139 #[oi p0, oj q1, .second, oj q2, .second, oi p3, oj d1, .second, oj d2, .second, oj d3, .second, oj d4, .second, oj vs, .second, oa b7, .unset, .unset, .unset, .unset, .unset, .unset] [(.int ms)] _
    refine XS.istore X26.here hx rfl (hb hby at_139) rfl (l' := #[oi p0, oj q1, .second, oj q2, .second, oi p3, oj d1, .second, oj d2, .second, oj d3, .second, oj d4, .second, oj vs, .second, oa b7, oi ms, .unset, .unset, .unset, .unset, .unset]) rfl ?_
    show oS p e below T26 m 141 #[oi p0, oj q1, .second, oj q2, .second, oi p3, oj d1, .second, oj d2, .second, oj d3, .second, oj d4, .second, oj vs, .second, oa b7, oi ms, .unset, .unset, .unset, .unset, .unset] [] _
    refine XS.iload X26.here hx rfl (hb hby at_141) rfl ?_
    show oS p e below T26 m 143 #[oi p0, oj q1, .second, oj q2, .second, oi p3, oj d1, .second, oj d2, .second, oj d3, .second, oj d4, .second, oj vs, .second, oa b7, oi ms, .unset, .unset, .unset, .unset, .unset] [(.int p3)] _
    refine XS.iconst X26.here hx rfl (hb hby at_143) ?_
    show oS p e below T26 m 144 #[oi p0, oj q1, .second, oj q2, .second, oi p3, oj d1, .second, oj d2, .second, oj d3, .second, oj d4, .second, oj vs, .second, oa b7, oi ms, .unset, .unset, .unset, .unset, .unset] [(.int (5 : Int32)), (.int p3)] _
    refine XS.iushr X26.here hx rfl (hb hby at_144) rfl ?_
    show oS p e below T26 m 145 #[oi p0, oj q1, .second, oj q2, .second, oi p3, oj d1, .second, oj d2, .second, oj d3, .second, oj d4, .second, oj vs, .second, oa b7, oi ms, .unset, .unset, .unset, .unset, .unset] [(.int ((p3.toUInt32 >>> ((5 : Int32) &&& 31).toUInt32).toInt32))] _
    refine XS.bipush X26.here hx rfl (hb hby at_145) ?_
    show oS p e below T26 m 147 #[oi p0, oj q1, .second, oj q2, .second, oi p3, oj d1, .second, oj d2, .second, oj d3, .second, oj d4, .second, oj vs, .second, oa b7, oi ms, .unset, .unset, .unset, .unset, .unset] [(.int (31 : Int32)), (.int ((p3.toUInt32 >>> ((5 : Int32) &&& 31).toUInt32).toInt32))] _
    refine XS.iand X26.here hx rfl (hb hby at_147) rfl ?_
    exact k
  obtain ⟨mr, hmr⟩ : ∃ z : Int32, z = (((p3.toUInt32 >>> ((5 : Int32) &&& 31).toUInt32).toInt32) &&& (31 : Int32)) := ⟨_, rfl⟩
  rw [← hmr] at pre30
  have rmr : 0 ≤ mr.toInt ∧ mr.toInt < 32 := by rw [hmr]; exact own_m31 _
  obtain ⟨_, _, ⟨T31, L31, k31, n31⟩, -, X31, ⟨Lc31, hQ31, l31, y31, z31⟩, st31⟩ := Jvm.LawKit.callS X26 hx (y := (⟨"com/example/strict_anon/strictanon/service/RecordSetsDifferencePinLaw", "pick", "([II)[I"⟩ : MethodName)) hown (mvT hZ (hw _ (List.mem_of_getElem? (i := 7) rfl))) (mvT hZ (hw _ (List.mem_of_getElem? (i := 8) rfl))) (mvT hZ (hw _ (List.mem_of_getElem? (i := 9) rfl))) (mvT hZ (hw _ (List.mem_of_getElem? (i := 10) rfl))) (by decide) (backOf (W := 0) (own_rm2 l Z av hw [] b7 ms k7 u0 u1 u2 u3 u4 h26 n0 Z26 V_28 (rms)) hZ (hw _ (List.mem_of_getElem? (i := 10) rfl)) (hw _ (List.mem_of_getElem? (i := 9) rfl)) (by decide) (by decide)) (g := (mkF m 154 #[oi p0, oj q1, .second, oj q2, .second, oi p3, oj d1, .second, oj d2, .second, oj d3, .second, oj d4, .second, oj vs, .second, oa b7, oi ms, oi mr, .unset, .unset, .unset, .unset] [(.int ms), (.ref b7)])) rfl (by rw [hml]; rfl) (argsL := [(.ref b7), (.int ms)]) (rest := []) (lenOf own_pd1 rfl) rfl (by show 2 * 0 + _ ≤ _; exact Nat.le_of_eq rfl) (hb hby at_154) (fun _ _ => ⟨rfl, e26, (by decide : 1 + 1 ≤ _), (by decide : 5 + 5 ≤ _)⟩)
  dsimp only [Pt.U, Pt.locs, Pt.cells, Pt.slots] at X31 l31 y31 z31 st31 hQ31
  have yq31 : k31 = 2 := y31
  have zq31 : n31 = 10 := z31
  subst yq31 zq31
  obtain ⟨r_31, k_r_31, rfl, Nq31, Kq31, gq31_r, Oq31_0⟩ := hQ31
  have N31 : Fr n0 L31 := by rw [l31]; exact Fr.app N26 Nq31
  have Z31 : n0 ≤ T31.heap.size := Nat.le_trans Z26 Kq31.1
  have g_r_31 : n0 ≤ r_31 := Nat.le_trans Z26 gq31_r
  have ne32 : b7 ≠ r_31 := Nat.ne_of_lt (Nat.lt_of_lt_of_le V_28.lt gq31_r)
  have F33 := V_28.keep Kq31 nin0
  have F34 := F27.keep Kq31
  obtain ⟨_, _, ⟨T35, L35, k35, n35⟩, -, X35, ⟨Lc35, hQ35, l35, y35, z35⟩, st35⟩ := Jvm.LawKit.callS X31 hx (y := (⟨"com/example/strict_anon/strictanon/service/RecordSetsDifferencePinLaw", "pick", "([II)[I"⟩ : MethodName)) hown (mvT hZ (hw _ (List.mem_of_getElem? (i := 7) rfl))) (mvT hZ (hw _ (List.mem_of_getElem? (i := 8) rfl))) (mvT hZ (hw _ (List.mem_of_getElem? (i := 9) rfl))) (mvT hZ (hw _ (List.mem_of_getElem? (i := 10) rfl))) (by decide) (backOf (W := 0) (own_rm2 l Z av hw [] b7 mr k7 u0 u1 u2 u3 u4 T31.heap n0 Z31 F33 (rmr)) hZ (hw _ (List.mem_of_getElem? (i := 10) rfl)) (hw _ (List.mem_of_getElem? (i := 9) rfl)) (by decide) (by decide)) (g := (mkF m 163 #[oi p0, oj q1, .second, oj q2, .second, oi p3, oj d1, .second, oj d2, .second, oj d3, .second, oj d4, .second, oj vs, .second, oa b7, oi ms, oi mr, oa r_31, .unset, .unset, .unset] [(.int mr), (.ref b7)])) rfl (by rw [hml]; rfl) (argsL := [(.ref b7), (.int mr)]) (rest := []) (lenOf own_pd1 rfl) rfl (by show 2 * 0 + _ ≤ _; exact Nat.le_of_eq rfl) (hb hby at_163) (fun _ _ => ⟨rfl, rfl, (by decide : 2 + 1 ≤ _), (by decide : 10 + 5 ≤ _)⟩)
  dsimp only [Pt.U, Pt.locs, Pt.cells, Pt.slots] at X35 l35 y35 z35 st35 hQ35
  have yq35 : k35 = 3 := y35
  have zq35 : n35 = 15 := z35
  subst yq35 zq35
  obtain ⟨r_35, k_r_35, rfl, Nq35, Kq35, gq35_r, Oq35_0⟩ := hQ35
  have N35 : Fr n0 L35 := by rw [l35]; exact Fr.app N31 Nq35
  have Z35 : n0 ≤ T35.heap.size := Nat.le_trans Z31 Kq35.1
  have g_r_35 : n0 ≤ r_35 := Nat.le_trans Z31 gq35_r
  have ne36 : b7 ≠ r_35 := Nat.ne_of_lt (Nat.lt_of_lt_of_le F33.lt gq35_r)
  have ne37 : r_31 ≠ r_35 := Nat.ne_of_lt (Nat.lt_of_lt_of_le Oq31_0.lt gq35_r)
  have F38 := F33.keep Kq35 nin0
  have F39 := F34.keep Kq35
  have F40 := Oq31_0.keep Kq35 nin0
  have pre41 : ∀ t, Steps p.tables e below (T35.setTop (mkF m 177 #[oi p0, oj q1, .second, oj q2, .second, oi p3, oj d1, .second, oj d2, .second, oj d3, .second, oj d4, .second, oj vs, .second, oa b7, oi ms, oi mr, oa r_31, oa r_35, .unset, .unset] [(.int (ms &&& (mr ^^^ (-1 : Int32)))), (.ref b7)])) t → Steps p.tables e below (s₁.setTop (entryFrame m #[(.int p0), (.long q1), (.long q2), (.int p3)] maxLocals)) t := by
    intro t k
    refine pre30 t ?_
    show oS p e below T26 m 148 #[oi p0, oj q1, .second, oj q2, .second, oi p3, oj d1, .second, oj d2, .second, oj d3, .second, oj d4, .second, oj vs, .second, oa b7, oi ms, .unset, .unset, .unset, .unset, .unset] [(.int mr)] _
    refine XS.istore X26.here hx rfl (hb hby at_148) rfl (l' := #[oi p0, oj q1, .second, oj q2, .second, oi p3, oj d1, .second, oj d2, .second, oj d3, .second, oj d4, .second, oj vs, .second, oa b7, oi ms, oi mr, .unset, .unset, .unset, .unset]) rfl ?_
    show oS p e below T26 m 150 #[oi p0, oj q1, .second, oj q2, .second, oi p3, oj d1, .second, oj d2, .second, oj d3, .second, oj d4, .second, oj vs, .second, oa b7, oi ms, oi mr, .unset, .unset, .unset, .unset] [] _
    refine XS.aload X26.here hx rfl (hb hby at_150) rfl rfl ?_
    show oS p e below T26 m 152 #[oi p0, oj q1, .second, oj q2, .second, oi p3, oj d1, .second, oj d2, .second, oj d3, .second, oj d4, .second, oj vs, .second, oa b7, oi ms, oi mr, .unset, .unset, .unset, .unset] [(.ref b7)] _
    refine XS.iload X26.here hx rfl (hb hby at_152) rfl ?_
    show oS p e below T26 m 154 #[oi p0, oj q1, .second, oj q2, .second, oi p3, oj d1, .second, oj d2, .second, oj d3, .second, oj d4, .second, oj vs, .second, oa b7, oi ms, oi mr, .unset, .unset, .unset, .unset] [(.int ms), (.ref b7)] _
    refine st31 _ ?_
    show oS p e below T31 m 157 #[oi p0, oj q1, .second, oj q2, .second, oi p3, oj d1, .second, oj d2, .second, oj d3, .second, oj d4, .second, oj vs, .second, oa b7, oi ms, oi mr, .unset, .unset, .unset, .unset] [(.ref r_31)] _
    refine XS.astore X31.here hx rfl (hb hby at_157) rfl rfl (l' := #[oi p0, oj q1, .second, oj q2, .second, oi p3, oj d1, .second, oj d2, .second, oj d3, .second, oj d4, .second, oj vs, .second, oa b7, oi ms, oi mr, oa r_31, .unset, .unset, .unset]) rfl ?_
    show oS p e below T31 m 159 #[oi p0, oj q1, .second, oj q2, .second, oi p3, oj d1, .second, oj d2, .second, oj d3, .second, oj d4, .second, oj vs, .second, oa b7, oi ms, oi mr, oa r_31, .unset, .unset, .unset] [] _
    refine XS.aload X31.here hx rfl (hb hby at_159) rfl rfl ?_
    show oS p e below T31 m 161 #[oi p0, oj q1, .second, oj q2, .second, oi p3, oj d1, .second, oj d2, .second, oj d3, .second, oj d4, .second, oj vs, .second, oa b7, oi ms, oi mr, oa r_31, .unset, .unset, .unset] [(.ref b7)] _
    refine XS.iload X31.here hx rfl (hb hby at_161) rfl ?_
    show oS p e below T31 m 163 #[oi p0, oj q1, .second, oj q2, .second, oi p3, oj d1, .second, oj d2, .second, oj d3, .second, oj d4, .second, oj vs, .second, oa b7, oi ms, oi mr, oa r_31, .unset, .unset, .unset] [(.int mr), (.ref b7)] _
    refine st35 _ ?_
    show oS p e below T35 m 166 #[oi p0, oj q1, .second, oj q2, .second, oi p3, oj d1, .second, oj d2, .second, oj d3, .second, oj d4, .second, oj vs, .second, oa b7, oi ms, oi mr, oa r_31, .unset, .unset, .unset] [(.ref r_35)] _
    refine XS.astore X35.here hx rfl (hb hby at_166) rfl rfl (l' := #[oi p0, oj q1, .second, oj q2, .second, oi p3, oj d1, .second, oj d2, .second, oj d3, .second, oj d4, .second, oj vs, .second, oa b7, oi ms, oi mr, oa r_31, oa r_35, .unset, .unset]) rfl ?_
    show oS p e below T35 m 168 #[oi p0, oj q1, .second, oj q2, .second, oi p3, oj d1, .second, oj d2, .second, oj d3, .second, oj d4, .second, oj vs, .second, oa b7, oi ms, oi mr, oa r_31, oa r_35, .unset, .unset] [] _
    refine XS.aload X35.here hx rfl (hb hby at_168) rfl rfl ?_
    show oS p e below T35 m 170 #[oi p0, oj q1, .second, oj q2, .second, oi p3, oj d1, .second, oj d2, .second, oj d3, .second, oj d4, .second, oj vs, .second, oa b7, oi ms, oi mr, oa r_31, oa r_35, .unset, .unset] [(.ref b7)] _
    refine XS.iload X35.here hx rfl (hb hby at_170) rfl ?_
    show oS p e below T35 m 172 #[oi p0, oj q1, .second, oj q2, .second, oi p3, oj d1, .second, oj d2, .second, oj d3, .second, oj d4, .second, oj vs, .second, oa b7, oi ms, oi mr, oa r_31, oa r_35, .unset, .unset] [(.int ms), (.ref b7)] _
    refine XS.iload X35.here hx rfl (hb hby at_172) rfl ?_
    show oS p e below T35 m 174 #[oi p0, oj q1, .second, oj q2, .second, oi p3, oj d1, .second, oj d2, .second, oj d3, .second, oj d4, .second, oj vs, .second, oa b7, oi ms, oi mr, oa r_31, oa r_35, .unset, .unset] [(.int mr), (.int ms), (.ref b7)] _
    refine XS.iconst X35.here hx rfl (hb hby at_174) ?_
    show oS p e below T35 m 175 #[oi p0, oj q1, .second, oj q2, .second, oi p3, oj d1, .second, oj d2, .second, oj d3, .second, oj d4, .second, oj vs, .second, oa b7, oi ms, oi mr, oa r_31, oa r_35, .unset, .unset] [(.int (-1 : Int32)), (.int mr), (.int ms), (.ref b7)] _
    refine XS.ixor X35.here hx rfl (hb hby at_175) rfl ?_
    show oS p e below T35 m 176 #[oi p0, oj q1, .second, oj q2, .second, oi p3, oj d1, .second, oj d2, .second, oj d3, .second, oj d4, .second, oj vs, .second, oa b7, oi ms, oi mr, oa r_31, oa r_35, .unset, .unset] [(.int (mr ^^^ (-1 : Int32))), (.int ms), (.ref b7)] _
    refine XS.iand X35.here hx rfl (hb hby at_176) rfl ?_
    exact k
  obtain ⟨m3, hm3⟩ : ∃ z : Int32, z = (ms &&& (mr ^^^ (-1 : Int32))) := ⟨_, rfl⟩
  rw [← hm3] at pre41
  have rm3 : 0 ≤ m3.toInt ∧ m3.toInt < 32 := by rw [hm3]; have q := c_and' ms (mr ^^^ (-1 : Int32)) rms.1; omega
  have keyL : own_dif own_lt (own_pk u0 u1 u2 u3 u4 ms) (own_pk u0 u1 u2 u3 u4 mr) = own_pk u0 u1 u2 u3 u4 m3 := by rw [hm3]; exact own_key (by omega) (by omega) (by omega) (by omega) rms rmr
  obtain ⟨_, _, ⟨T42, L42, k42, n42⟩, -, X42, ⟨Lc42, hQ42, l42, y42, z42⟩, st42⟩ := Jvm.LawKit.callS X35 hx (y := (⟨"com/example/strict_anon/strictanon/service/RecordSetsDifferencePinLaw", "pick", "([II)[I"⟩ : MethodName)) hown (mvT hZ (hw _ (List.mem_of_getElem? (i := 7) rfl))) (mvT hZ (hw _ (List.mem_of_getElem? (i := 8) rfl))) (mvT hZ (hw _ (List.mem_of_getElem? (i := 9) rfl))) (mvT hZ (hw _ (List.mem_of_getElem? (i := 10) rfl))) (by decide) (backOf (W := 0) (own_rm2 l Z av hw [] b7 m3 k7 u0 u1 u2 u3 u4 T35.heap n0 Z35 F38 (rm3)) hZ (hw _ (List.mem_of_getElem? (i := 10) rfl)) (hw _ (List.mem_of_getElem? (i := 9) rfl)) (by decide) (by decide)) (g := (mkF m 177 #[oi p0, oj q1, .second, oj q2, .second, oi p3, oj d1, .second, oj d2, .second, oj d3, .second, oj d4, .second, oj vs, .second, oa b7, oi ms, oi mr, oa r_31, oa r_35, .unset, .unset] [(.int m3), (.ref b7)])) rfl (by rw [hml]; rfl) (argsL := [(.ref b7), (.int m3)]) (rest := []) (lenOf own_pd1 rfl) rfl (by show 2 * 0 + _ ≤ _; exact Nat.le_of_eq rfl) (hb hby at_177) (fun _ _ => ⟨rfl, rfl, (by decide : 3 + 1 ≤ _), (by decide : 15 + 5 ≤ _)⟩)
  dsimp only [Pt.U, Pt.locs, Pt.cells, Pt.slots] at X42 l42 y42 z42 st42 hQ42
  have yq42 : k42 = 4 := y42
  have zq42 : n42 = 20 := z42
  subst yq42 zq42
  obtain ⟨r_42, k_r_42, rfl, Nq42, Kq42, gq42_r, Oq42_0⟩ := hQ42
  have N42 : Fr n0 L42 := by rw [l42]; exact Fr.app N35 Nq42
  have Z42 : n0 ≤ T42.heap.size := Nat.le_trans Z35 Kq42.1
  have g_r_42 : n0 ≤ r_42 := Nat.le_trans Z35 gq42_r
  have ne43 : b7 ≠ r_42 := Nat.ne_of_lt (Nat.lt_of_lt_of_le F38.lt gq42_r)
  have ne44 : r_31 ≠ r_42 := Nat.ne_of_lt (Nat.lt_of_lt_of_le F40.lt gq42_r)
  have ne45 : r_35 ≠ r_42 := Nat.ne_of_lt (Nat.lt_of_lt_of_le Oq35_0.lt gq42_r)
  have F46 := F38.keep Kq42 nin0
  have F47 := F39.keep Kq42
  have F48 := F40.keep Kq42 nin0
  have F49 := Oq35_0.keep Kq42 nin0
  obtain ⟨_, _, ⟨T50, L50, k50, n50⟩, -, X50, ⟨Lc50, hQ50, l50, y50, z50⟩, st50⟩ := Jvm.LawKit.callS X42 hx (y := (⟨"com/example/strict_anon/strictanon/service/RecordSets", "difference", "([I[I)[I"⟩ : MethodName)) hown (mvT hZ (hw _ (List.mem_of_getElem? (i := 11) rfl))) (mvT hZ (hw _ (List.mem_of_getElem? (i := 12) rfl))) (mvT hZ (hw _ (List.mem_of_getElem? (i := 13) rfl))) (mvT hZ (hw _ (List.mem_of_getElem? (i := 14) rfl))) (by decide) (backOf (W := 0) (own_rm3 l Z av hw [] r_31 r_35 k_r_31 (own_z ms) (own_pk u0 u1 u2 u3 u4 ms) k_r_35 (own_z mr) (own_pk u0 u1 u2 u3 u4 mr) T42.heap n0 Z42 F48 F49 (own_zl _ _ _ _ _ _) (own_l5 rms _ _ _ _ _) (own_zl _ _ _ _ _ _) (own_l5 rmr _ _ _ _ _)) hZ (hw _ (List.mem_of_getElem? (i := 14) rfl)) (hw _ (List.mem_of_getElem? (i := 13) rfl)) (by decide) (by decide)) (g := (mkF m 186 #[oi p0, oj q1, .second, oj q2, .second, oi p3, oj d1, .second, oj d2, .second, oj d3, .second, oj d4, .second, oj vs, .second, oa b7, oi ms, oi mr, oa r_31, oa r_35, oa r_42, .unset] [(.ref r_35), (.ref r_31)])) rfl (by rw [hml]; rfl) (argsL := [(.ref r_31), (.ref r_35)]) (rest := []) (lenOf own_pd3 rfl) rfl (by show 2 * 0 + _ ≤ _; exact Nat.le_of_eq rfl) (hb hby at_186) (fun _ _ => ⟨rfl, rfl, (by decide : 4 + 2 ≤ _), (by decide : 20 + 10 ≤ _)⟩)
  dsimp only [Pt.U, Pt.locs, Pt.cells, Pt.slots] at X50 l50 y50 z50 st50 hQ50
  have yq50 : k50 = 6 := y50
  have zq50 : n50 = 30 := z50
  subst yq50 zq50
  obtain ⟨r_50, k_r_50, rfl, Nq50, Kq50, gq50_r, Oq50_0⟩ := hQ50
  have N50 : Fr n0 L50 := by rw [l50]; exact Fr.app N42 Nq50
  have Z50 : n0 ≤ T50.heap.size := Nat.le_trans Z42 Kq50.1
  have g_r_50 : n0 ≤ r_50 := Nat.le_trans Z42 gq50_r
  have ne51 : b7 ≠ r_50 := Nat.ne_of_lt (Nat.lt_of_lt_of_le F46.lt gq50_r)
  have ne52 : r_31 ≠ r_50 := Nat.ne_of_lt (Nat.lt_of_lt_of_le F48.lt gq50_r)
  have ne53 : r_35 ≠ r_50 := Nat.ne_of_lt (Nat.lt_of_lt_of_le F49.lt gq50_r)
  have ne54 : r_42 ≠ r_50 := Nat.ne_of_lt (Nat.lt_of_lt_of_le Oq42_0.lt gq50_r)
  have F55 := F46.keep Kq50 nin0
  have F56 := F47.keep Kq50
  have F57 := F48.keep Kq50 nin0
  have F58 := F49.keep Kq50 nin0
  have F59 := Oq42_0.keep Kq50 nin0
  obtain ⟨_, _, ⟨T60, L60, k60, n60⟩, -, X60, ⟨Lc60, hQ60, l60, y60, z60⟩, st60⟩ := Jvm.LawKit.callS X50 hx (y := (⟨"com/example/strict_anon/strictanon/service/RecordSetsDifferencePinLaw", "same", "([I[I)Z"⟩ : MethodName)) hown (mvT hZ (hw _ (List.mem_of_getElem? (i := 28) rfl))) (mvT hZ (hw _ (List.mem_of_getElem? (i := 29) rfl))) (mvT hZ (hw _ (List.mem_of_getElem? (i := 9) rfl))) (mvT hZ (hw _ (List.mem_of_getElem? (i := 30) rfl))) (by decide) (backOf (W := 0) (own_rm5 l Z av hw [] r_50 r_42 k_r_50 (Int32.ofNat (own_dif own_lt (own_pk u0 u1 u2 u3 u4 ms) (own_pk u0 u1 u2 u3 u4 mr)).length) (own_dif own_lt (own_pk u0 u1 u2 u3 u4 ms) (own_pk u0 u1 u2 u3 u4 mr)) k_r_42 (own_z m3) (own_pk u0 u1 u2 u3 u4 m3) T50.heap n0 Z50 Oq50_0 F59 (by rw [own_zl u0 u1 u2 u3 u4 m3, keyL]) (keyL.symm)) hZ (hw _ (List.mem_of_getElem? (i := 30) rfl)) (hw _ (List.mem_of_getElem? (i := 9) rfl)) (by decide) (by decide)) (g := (mkF m 195 #[oi p0, oj q1, .second, oj q2, .second, oi p3, oj d1, .second, oj d2, .second, oj d3, .second, oj d4, .second, oj vs, .second, oa b7, oi ms, oi mr, oa r_31, oa r_35, oa r_42, oa r_50] [(.ref r_42), (.ref r_50)])) rfl (by rw [hml]; rfl) (argsL := [(.ref r_50), (.ref r_42)]) (rest := []) (lenOf own_pd4 rfl) rfl (by show 2 * 0 + _ ≤ _; exact Nat.le_of_eq rfl) (hb hby at_195) (fun _ _ => ⟨rfl, rfl, (by decide : 6 + 0 ≤ _), (by decide : 30 + 0 ≤ _)⟩)
  dsimp only [Pt.U, Pt.locs, Pt.cells, Pt.slots] at X60 l60 y60 z60 st60 hQ60
  have yq60 : k60 = 6 := y60
  have zq60 : n60 = 30 := z60
  subst yq60 zq60
  obtain ⟨rfl, Nq60, eq60⟩ := hQ60
  have N60 : Fr n0 L60 := by rw [l60]; exact Fr.app N50 Nq60
  obtain ⟨fs, hr, hrun, hended, hW, hsame⟩ := X60.leave (v := (some (.int (1 : Int32)))) (fun h => by rw [Bd.returns] at h; cases h)
  refine ⟨_, _, pre41 _ ?_, hrun, hended, _, _, rfl, ?_, ⟨_, rfl⟩, hW, hsame.mono (by decide) (by decide)⟩
  · show oS p e below T35 m 177 #[oi p0, oj q1, .second, oj q2, .second, oi p3, oj d1, .second, oj d2, .second, oj d3, .second, oj d4, .second, oj vs, .second, oa b7, oi ms, oi mr, oa r_31, oa r_35, .unset, .unset] [(.int m3), (.ref b7)] _
    refine st42 _ ?_
    show oS p e below T42 m 180 #[oi p0, oj q1, .second, oj q2, .second, oi p3, oj d1, .second, oj d2, .second, oj d3, .second, oj d4, .second, oj vs, .second, oa b7, oi ms, oi mr, oa r_31, oa r_35, .unset, .unset] [(.ref r_42)] _
    refine XS.astore X42.here hx rfl (hb hby at_180) rfl rfl (l' := #[oi p0, oj q1, .second, oj q2, .second, oi p3, oj d1, .second, oj d2, .second, oj d3, .second, oj d4, .second, oj vs, .second, oa b7, oi ms, oi mr, oa r_31, oa r_35, oa r_42, .unset]) rfl ?_
    show oS p e below T42 m 182 #[oi p0, oj q1, .second, oj q2, .second, oi p3, oj d1, .second, oj d2, .second, oj d3, .second, oj d4, .second, oj vs, .second, oa b7, oi ms, oi mr, oa r_31, oa r_35, oa r_42, .unset] [] _
    refine XS.aload X42.here hx rfl (hb hby at_182) rfl rfl ?_
    show oS p e below T42 m 184 #[oi p0, oj q1, .second, oj q2, .second, oi p3, oj d1, .second, oj d2, .second, oj d3, .second, oj d4, .second, oj vs, .second, oa b7, oi ms, oi mr, oa r_31, oa r_35, oa r_42, .unset] [(.ref r_31)] _
    refine XS.aload X42.here hx rfl (hb hby at_184) rfl rfl ?_
    show oS p e below T42 m 186 #[oi p0, oj q1, .second, oj q2, .second, oi p3, oj d1, .second, oj d2, .second, oj d3, .second, oj d4, .second, oj vs, .second, oa b7, oi ms, oi mr, oa r_31, oa r_35, oa r_42, .unset] [(.ref r_35), (.ref r_31)] _
    refine st50 _ ?_
    show oS p e below T50 m 189 #[oi p0, oj q1, .second, oj q2, .second, oi p3, oj d1, .second, oj d2, .second, oj d3, .second, oj d4, .second, oj vs, .second, oa b7, oi ms, oi mr, oa r_31, oa r_35, oa r_42, .unset] [(.ref r_50)] _
    refine XS.astore X50.here hx rfl (hb hby at_189) rfl rfl (l' := #[oi p0, oj q1, .second, oj q2, .second, oi p3, oj d1, .second, oj d2, .second, oj d3, .second, oj d4, .second, oj vs, .second, oa b7, oi ms, oi mr, oa r_31, oa r_35, oa r_42, oa r_50]) rfl ?_
    show oS p e below T50 m 191 #[oi p0, oj q1, .second, oj q2, .second, oi p3, oj d1, .second, oj d2, .second, oj d3, .second, oj d4, .second, oj vs, .second, oa b7, oi ms, oi mr, oa r_31, oa r_35, oa r_42, oa r_50] [] _
    refine XS.aload X50.here hx rfl (hb hby at_191) rfl rfl ?_
    show oS p e below T50 m 193 #[oi p0, oj q1, .second, oj q2, .second, oi p3, oj d1, .second, oj d2, .second, oj d3, .second, oj d4, .second, oj vs, .second, oa b7, oi ms, oi mr, oa r_31, oa r_35, oa r_42, oa r_50] [(.ref r_50)] _
    refine XS.aload X50.here hx rfl (hb hby at_193) rfl rfl ?_
    show oS p e below T50 m 195 #[oi p0, oj q1, .second, oj q2, .second, oi p3, oj d1, .second, oj d2, .second, oj d3, .second, oj d4, .second, oj vs, .second, oa b7, oi ms, oi mr, oa r_31, oa r_35, oa r_42, oa r_50] [(.ref r_42), (.ref r_50)] _
    refine st60 _ ?_
    show oS p e below T60 m 198 #[oi p0, oj q1, .second, oj q2, .second, oi p3, oj d1, .second, oj d2, .second, oj d3, .second, oj d4, .second, oj vs, .second, oa b7, oi ms, oi mr, oa r_31, oa r_35, oa r_42, oa r_50] [(.int (1 : Int32))] _
    exact retN X60 hx (t := .boolean) Bd.returns (by simp) (hb hby at_198) hr
  · show own_Q0 Z p0 q1 q2 p3 h0 n0 _ T60.heap _
    rw [eq60]
    exact ⟨rfl, N60⟩
set_option maxRecDepth 65536 in
set_option maxHeartbeats 40000000 in
theorem own_comes {Post : Tables → Env → Array Value → State → Outcome → State → Prop} (hpost : ∀ tb e args s v u, (limb_1_1.after args s (.returned v) u = true ∧ limb_1_2.after args s (.returned v) u = true ∧ True) → FrameEnd s (.returned v) u (Jvm.fieldLocs frame_1_writes args s ++ Jvm.arrayLocs frame_1_arrays args s ++ Jvm.staticLocs frame_1_statics s) 24 128 → Post tb e args s (.returned v) u) :
    ArmFor flags0 classFile x code maxLocals ret World_1 tables_1 room_1 Calls_1 rest_1 Pre_1 Post := by
  intro l hfl _ _ p e ha hc hk s m args below hf hA hF happ hP
  obtain ⟨hcalls, hrest, hpre⟩ := hP
  obtain ⟨-, -, -, hnamed, -, -, -, hat⟩ := (Spec.applies_iff hf).mp happ
  obtain ⟨hg, hn⟩ := and_e (Cond.before_iff.mp (show (Jvm.Cond.and given_1 narrow_1).before args s = true from hpre))
  obtain ⟨gv1, gv2⟩ := and_e hg
  obtain ⟨gv3, gv4⟩ := and_e gv2
  obtain ⟨gv5, gv6⟩ := and_e gv4
  obtain ⟨gv7, gv8⟩ := and_e gv6
  obtain ⟨w0, w1, w2, w3, rfl⟩ : ∃ w0 w1 w2 w3 : Value, args = #[w0, w1, w2, w3] := by
    have hs : args.size = 4 := by simpa [Cond.value, given_1] using gv1
    obtain ⟨L⟩ := args
    match L, hs with
    | [w0, w1, w2, w3], _ => exact ⟨w0, w1, w2, w3, rfl⟩
  have hw := fun d (hd : d ∈ tables_1) => atoms_spec (ws := Jvm.Cond.code x code maxLocals ret :: tables_1) hat d (List.mem_cons_of_mem _ hd)
  have hfit : Fit s := fun {y c} hc i hi => by
    obtain ⟨ha, rfl⟩ := Array.getElem?_eq_some_iff.mp hc
    have q := List.all_eq_true.mp ((Array.all_eq_true_iff_forall_mem.mp hF) _ (Array.getElem_mem ha)) i (List.mem_range.mpr hi)
    simpa [Array.getElem?_eq_getElem hi] using q
  obtain ⟨i0, ei0⟩ := is_v gv3
  obtain rfl : w0 = (.int i0) := Option.some.inj ei0
  obtain ⟨i1, ei1⟩ := isL_v gv5
  obtain rfl : w1 = (.long i1) := Option.some.inj ei1
  obtain ⟨i2, ei2⟩ := isL_v gv7
  obtain rfl : w2 = (.long i2) := Option.some.inj ei2
  obtain ⟨i3, ei3⟩ := is_v gv8
  obtain rfl : w3 = (.int i3) := Option.some.inj ei3
  obtain ⟨n, o, h1, h2, h3, _, L, rfl, ⟨rfl, N⟩, hq⟩ := own_rm0 l s _ hw tables_1 i0 i1 i2 i3  s.heap s.heap.size (Nat.le_refl _)  p e ha hc hk s m _ below hf ((Spec.applies_iff_loose hf).mp happ).1 ⟨rfl, State.Warmed39.refl s, rfl⟩ trivial
  refine ⟨n, _, h1, h2, h3, hpost _ _ _ _ _ _ ⟨Cond.after_iff.mpr rfl, Cond.after_iff.mpr (eq_i res_at (Term.int_eval (1)) rfl), trivial⟩ ⟨hq.1, hq.2.1, (hq.2.2.sift fun y hy => Or.inr (N y hy)).mono (by decide) (by decide)⟩⟩
theorem main_1_1 : Claimed_1_1 := own_comes fun _ _ _ _ _ _ h hF => ⟨h.1, hF⟩
theorem main_1_2 : Claimed_1_2 := own_comes fun _ _ _ _ _ _ h hF => ⟨h.2.1, hF⟩
end Jvm.Pilot.@@N@@
namespace Jvm.Pilot.@@N@@
open Jvm Jvm.ClassFile Sem Op Lib Jvm.Free Jvm.Stand Jvm.Pilot.@@N@@.Jvm.D
/-! MADE BY PROGRAM (witnessworld.py) out of the Statement's table words and the real class files: 12 classes; the members and pool entries that the words name. The judged class is class 1, her method 1. -/
namespace start1
open Jvm.ClassFile
def u (s : String) : CpInfo := .utf8 (stringToUtf16 s)
/-- a pool by its gaps: so many unusable entries, then the entry; so many at the end -/
def gap : Nat → List CpInfo → List CpInfo
  | 0, r => r
  | n + 1, r => .unusable :: gap n r
def poolList (es : List (Nat × CpInfo)) (last : Nat) : List CpInfo := es.foldr (fun e r => gap e.1 (e.2 :: r)) (gap last [])
def pool (es : List (Nat × CpInfo)) (last : Nat) : Array CpInfo := ⟨poolList es last⟩
def fileOf (pool : Array CpInfo) (this : Nat) (attrs : Array Attribute := #[]) (ms : Array MethodInfo := #[]) (fl : Nat := 33) (sup : Nat := 0) (ifs : Array Nat := #[]) (fds : Array FieldInfo := #[]) : ClassFile where
  minorVersion := 0
  majorVersion := 65
  constantPool := pool
  accessFlags := fl
  thisClass := this
  superClass := sup
  interfaces := ifs
  fields := fds
  methods := ms
  attributes := attrs
def plain (name : String) (sup : Option ClassId) : Class where
  name := name
  kind := .ordinary
  loader := none
  accessFlags := 33
  super := sup
  interfaces := #[]
  cf := none
  fields := #[]
  methods := #[]
  instanceTypes := #[]
  staticTypes := #[]
  resolved := #[]
  callSites := []
  init := .initialized
  statics := none
  mirror := none

def pool0 : Array CpInfo := pool [(5, u "<init>"), (0, u "()V"), (1, .class_ 10), (1, u "java/lang/Object"), (85, u "clone"), (0, u "()Ljava/lang/Object;")] 26

def k0m0 : Method := { name := "<init>", desc := "()V", sig := { parameters := [], returnType := none }, accessFlags := 1, code := none }
def k0m1 : Method := { name := "clone", desc := "()Ljava/lang/Object;", sig := { parameters := [], returnType := some (.object "java/lang/Object") }, accessFlags := 260, code := none }
/-- java/lang/Object -/
def k0 : Class := { plain "java/lang/Object" none with
  accessFlags := 33
  interfaces := #[]
  cf := some (fileOf pool0 8 #[] #[{ accessFlags := 1, nameIndex := 5, descriptorIndex := 6, attributes := #[] }, { accessFlags := 260, nameIndex := 96, descriptorIndex := 97, attributes := #[] }] 33 0 #[] #[])
  fields := #[]
  methods := #[k0m0, k0m1]
  instanceTypes := #[]
  staticTypes := #[]
  resolved := Array.replicate 124 none
  statics := none }

def pool1 : Array CpInfo := pool [(2, .class_ 4), (1, u "java/lang/Object"), (0, u "<init>"), (0, u "()V"), (0, .long 1073741822), (3, .long 2147483647), (1, .methodref 14 15), (0, .class_ 16), (0, .nameAndType 17 18), (0, u "java/lang/Math"), (0, u "min"), (0, u "(JJ)J"), (0, .methodref 20 21), (0, .class_ 22), (0, .nameAndType 23 24), (0, u "com/example/strict_anon/strictanon/service/RecordSetsDifferencePinLaw"), (0, u "pick"), (0, u "([II)[I"), (0, .methodref 26 27), (0, .class_ 28), (0, .nameAndType 29 30), (0, u "com/example/strict_anon/strictanon/service/RecordSets"), (0, u "difference"), (0, u "([I[I)[I"), (0, .methodref 20 32), (0, .nameAndType 33 34), (0, u "same"), (0, u "([I[I)Z"), (2, u "law"), (0, u "(IJJI)Z")] 5

def k1m0 : Method := { name := "<init>", desc := "()V", sig := { parameters := [], returnType := none }, accessFlags := 1, code := none }
def k1c1 : Code := { maxStack := 8, maxLocals := 23, code := code, exceptionTable := #[], attributes := #[] }
def k1m1 : Method := { name := "law", desc := "(IJJI)Z", sig := { parameters := [.int, .long, .long, .int], returnType := some .boolean }, accessFlags := 9, code := some k1c1 }
def k1c2 : Code := { maxStack := 4, maxLocals := 5, code := method_3_code, exceptionTable := #[], attributes := #[] }
def k1m2 : Method := { name := "pick", desc := "([II)[I", sig := { parameters := [(.array .int), .int], returnType := some (.array .int) }, accessFlags := 10, code := some k1c2 }
def k1c3 : Code := { maxStack := 3, maxLocals := 2, code := method_4_code, exceptionTable := #[], attributes := #[] }
def k1m3 : Method := { name := "same", desc := "([I[I)Z", sig := { parameters := [(.array .int), (.array .int)], returnType := some .boolean }, accessFlags := 10, code := some k1c3 }
/-- com/example/strict_anon/strictanon/service/RecordSetsDifferencePinLaw -/
def k1 : Class := { plain "com/example/strict_anon/strictanon/service/RecordSetsDifferencePinLaw" (some 0) with
  accessFlags := 49
  interfaces := #[]
  cf := some (fileOf pool1 20 #[] #[{ accessFlags := 1, nameIndex := 5, descriptorIndex := 6, attributes := #[] }, { accessFlags := 9, nameIndex := 37, descriptorIndex := 38, attributes := #[] }, { accessFlags := 10, nameIndex := 23, descriptorIndex := 24, attributes := #[] }, { accessFlags := 10, nameIndex := 33, descriptorIndex := 34, attributes := #[] }] 49 2 #[] #[])
  fields := #[]
  methods := #[k1m0, k1m1, k1m2, k1m3]
  instanceTypes := #[]
  staticTypes := #[]
  resolved := Array.replicate 44 none
  statics := none }

def pool2 : Array CpInfo := pool [(1, .class_ 2), (0, u "java/lang/Math"), (1, .class_ 6), (1, u "java/lang/Object"), (0, u "<init>"), (0, u "()V"), (89, .class_ 100), (1, u "java/lang/Math$RandomNumberGeneratorHolder"), (20, u "(JJ)J"), (50, u "negativeZeroFloatBits"), (0, u "J"), (2, u "negativeZeroDoubleBits"), (24, u "min"), (43, u "$assertionsDisabled"), (0, u "Z"), (88, u "(II)I"), (2, u "twoToTheDoubleScaleDown"), (0, u "D"), (4, u "twoToTheDoubleScaleUp"), (9, u "E"), (3, u "PI"), (2, u "TAU"), (2, u "DEGREES_TO_RADIANS"), (0, u "RADIANS_TO_DEGREES")] 94

def k2m0 : Method := { name := "<init>", desc := "()V", sig := { parameters := [], returnType := none }, accessFlags := 2, code := none }
def k2c1 : Code := { maxStack := 2, maxLocals := 2, code := jdk_29_method_69_code, exceptionTable := #[], attributes := #[] }
def k2m1 : Method := { name := "min", desc := "(II)I", sig := { parameters := [.int, .int], returnType := some .int }, accessFlags := 9, code := some k2c1 }
def k2c2 : Code := { maxStack := 4, maxLocals := 4, code := jdk_29_method_70_code, exceptionTable := #[], attributes := #[] }
def k2m2 : Method := { name := "min", desc := "(JJ)J", sig := { parameters := [.long, .long], returnType := some .long }, accessFlags := 9, code := some k2c2 }
/-- java/lang/Math -/
def k2 : Class := { plain "java/lang/Math" (some 0) with
  accessFlags := 49
  interfaces := #[]
  cf := some (fileOf pool2 1 #[.nestMembers #[98]] #[{ accessFlags := 2, nameIndex := 7, descriptorIndex := 8, attributes := #[] }, { accessFlags := 9, nameIndex := 201, descriptorIndex := 335, attributes := #[] }, { accessFlags := 9, nameIndex := 201, descriptorIndex := 121, attributes := #[] }] 49 4 #[] #[{ accessFlags := 25, nameIndex := 354, descriptorIndex := 339, attributes := #[] }, { accessFlags := 25, nameIndex := 358, descriptorIndex := 339, attributes := #[] }, { accessFlags := 25, nameIndex := 361, descriptorIndex := 339, attributes := #[] }, { accessFlags := 26, nameIndex := 364, descriptorIndex := 339, attributes := #[] }, { accessFlags := 26, nameIndex := 365, descriptorIndex := 339, attributes := #[] }, { accessFlags := 26, nameIndex := 172, descriptorIndex := 173, attributes := #[] }, { accessFlags := 26, nameIndex := 176, descriptorIndex := 173, attributes := #[] }, { accessFlags := 8, nameIndex := 344, descriptorIndex := 339, attributes := #[] }, { accessFlags := 8, nameIndex := 338, descriptorIndex := 339, attributes := #[] }, { accessFlags := 4120, nameIndex := 245, descriptorIndex := 246, attributes := #[] }])
  fields := #[{ name := "E", type := .double, accessFlags := 25, slot := 0, constantValue := 0 }, { name := "PI", type := .double, accessFlags := 25, slot := 1, constantValue := 0 }, { name := "TAU", type := .double, accessFlags := 25, slot := 2, constantValue := 0 }, { name := "DEGREES_TO_RADIANS", type := .double, accessFlags := 26, slot := 3, constantValue := 0 }, { name := "RADIANS_TO_DEGREES", type := .double, accessFlags := 26, slot := 4, constantValue := 0 }, { name := "negativeZeroFloatBits", type := .long, accessFlags := 26, slot := 5, constantValue := 0 }, { name := "negativeZeroDoubleBits", type := .long, accessFlags := 26, slot := 6, constantValue := 0 }, { name := "twoToTheDoubleScaleUp", type := .double, accessFlags := 8, slot := 7, constantValue := 0 }, { name := "twoToTheDoubleScaleDown", type := .double, accessFlags := 8, slot := 8, constantValue := 0 }, { name := "$assertionsDisabled", type := .boolean, accessFlags := 4120, slot := 9, constantValue := 0 }]
  methods := #[k2m0, k2m1, k2m2]
  instanceTypes := #[]
  staticTypes := #[.double, .double, .double, .double, .double, .long, .long, .double, .double, .boolean]
  resolved := Array.replicate 460 none
  statics := none }

def pool3 : Array CpInfo := pool [(2, .class_ 4), (1, u "java/lang/Object"), (0, u "<init>"), (0, u "()V"), (0, .methodref 8 9), (0, .class_ 10), (0, .nameAndType 11 12), (0, u "java/util/Arrays"), (0, u "copyOf"), (0, u "([II)[I"), (0, .class_ 14), (0, u "com/example/strict_anon/strictanon/service/RecordSets"), (3, u "([I[I)[I"), (3, u "difference")] 2

def k3m0 : Method := { name := "<init>", desc := "()V", sig := { parameters := [], returnType := none }, accessFlags := 2, code := none }
def k3c1 : Code := { maxStack := 3, maxLocals := 9, code := prog_30_method_3_code, exceptionTable := #[], attributes := #[] }
def k3m1 : Method := { name := "difference", desc := "([I[I)[I", sig := { parameters := [(.array .int), (.array .int)], returnType := some (.array .int) }, accessFlags := 8, code := some k3c1 }
/-- com/example/strict_anon/strictanon/service/RecordSets -/
def k3 : Class := { plain "com/example/strict_anon/strictanon/service/RecordSets" (some 0) with
  accessFlags := 48
  interfaces := #[]
  cf := some (fileOf pool3 13 #[] #[{ accessFlags := 2, nameIndex := 5, descriptorIndex := 6, attributes := #[] }, { accessFlags := 8, nameIndex := 22, descriptorIndex := 18, attributes := #[] }] 48 2 #[] #[])
  fields := #[]
  methods := #[k3m0, k3m1]
  instanceTypes := #[]
  staticTypes := #[]
  resolved := Array.replicate 25 none
  statics := none }

def pool4 : Array CpInfo := pool [(2, .class_ 4), (1, u "java/lang/Object"), (0, u "<init>"), (0, u "()V"), (7, .class_ 16), (1, u "java/util/Arrays"), (57, .class_ 76), (1, u "java/util/Arrays$NaturalOrder"), (32, u "()Ljava/lang/Object;"), (3, .class_ 115), (1, u "java/util/Arrays$LegacyMergeSort"), (1, u "Z"), (10, .nameAndType 129 109), (0, u "clone"), (20, .methodref 151 152), (0, .class_ 153), (0, .nameAndType 154 155), (0, u "java/lang/System"), (0, u "arraycopy"), (0, u "(Ljava/lang/Object;ILjava/lang/Object;II)V"), (146, u "copyOf"), (1, .methodref 305 306), (0, .class_ 307), (0, .nameAndType 308 309), (0, u "java/lang/Math"), (0, u "min"), (0, u "(II)I"), (6, .methodref 317 128), (0, .class_ 318), (0, u "[I"), (56, .class_ 376), (0, u "java/util/Arrays$ArrayList"), (68, u "$assertionsDisabled"), (269, u "MIN_ARRAY_SORT_GRAN"), (0, u "I"), (2, u "INSERTIONSORT_THRESHOLD"), (151, u "([II)[I"), (103, .class_ 976), (0, u "java/util/Arrays$ArrayItr")] 52

def k4m0 : Method := { name := "<init>", desc := "()V", sig := { parameters := [], returnType := none }, accessFlags := 2, code := none }
def k4c1 : Code := { maxStack := 6, maxLocals := 3, code := jdk_65_method_123_code, exceptionTable := #[], attributes := #[] }
def k4m1 : Method := { name := "copyOf", desc := "([II)[I", sig := { parameters := [(.array .int), .int], returnType := some (.array .int) }, accessFlags := 9, code := some k4c1 }
/-- java/util/Arrays -/
def k4 : Class := { plain "java/util/Arrays" (some 0) with
  accessFlags := 49
  interfaces := #[]
  cf := some (fileOf pool4 14 #[.nestMembers #[975, 375, 113, 74]] #[{ accessFlags := 2, nameIndex := 5, descriptorIndex := 6, attributes := #[] }, { accessFlags := 9, nameIndex := 302, descriptorIndex := 871, attributes := #[] }] 49 2 #[] #[{ accessFlags := 26, nameIndex := 715, descriptorIndex := 716, attributes := #[] }, { accessFlags := 26, nameIndex := 719, descriptorIndex := 716, attributes := #[] }, { accessFlags := 4120, nameIndex := 445, descriptorIndex := 117, attributes := #[] }])
  fields := #[{ name := "MIN_ARRAY_SORT_GRAN", type := .int, accessFlags := 26, slot := 0, constantValue := 0 }, { name := "INSERTIONSORT_THRESHOLD", type := .int, accessFlags := 26, slot := 1, constantValue := 0 }, { name := "$assertionsDisabled", type := .boolean, accessFlags := 4120, slot := 2, constantValue := 0 }]
  methods := #[k4m0, k4m1]
  instanceTypes := #[]
  staticTypes := #[.int, .int, .boolean]
  resolved := Array.replicate 1029 none
  statics := none }

def pool5 : Array CpInfo := pool [(1, .class_ 2), (0, u "java/lang/Cloneable"), (0, .class_ 4), (0, u "java/lang/Object")] 2

/-- java/lang/Cloneable -/
def k5 : Class := { plain "java/lang/Cloneable" (some 0) with
  accessFlags := 1537
  interfaces := #[]
  cf := some (fileOf pool5 1 #[] #[] 1537 3 #[] #[])
  fields := #[]
  methods := #[]
  instanceTypes := #[]
  staticTypes := #[]
  resolved := Array.replicate 7 none
  statics := none }

def pool6 : Array CpInfo := pool [(2, .class_ 4), (1, u "java/lang/Object"), (0, u "<init>"), (0, u "()V"), (1, .class_ 10), (1, u "java/lang/System"), (0, u "allowSecurityManager"), (0, u "I"), (16, u "cons"), (0, u "Ljava/io/Console;"), (77, .class_ 110), (1, u "java/lang/System$CallersHolder"), (43, u "initialErrStream"), (0, u "Ljava/io/PrintStream;"), (19, u "security"), (0, u "Ljava/lang/SecurityManager;"), (31, .class_ 209), (0, u "java/lang/System$1"), (7, u "props"), (0, u "Ljava/util/Properties;"), (2, u "lineSeparator"), (0, u "Ljava/lang/String;"), (96, .class_ 321), (1, u "java/lang/System$LoggerFinder"), (5, .class_ 328), (0, u "java/lang/System$Logger"), (67, u "err"), (2, u "out"), (91, u "notSupportedJnuEncoding"), (15, u "in"), (17, u "initialIn"), (0, u "Ljava/io/InputStream;"), (35, u "bootLayer"), (0, u "Ljava/lang/ModuleLayer;"), (99, .class_ 664), (0, u "java/lang/System$2"), (9, u "NEVER"), (2, u "MAYBE"), (49, u "arraycopy"), (0, u "(Ljava/lang/Object;ILjava/lang/Object;II)V"), (72, .class_ 802), (0, u "java/lang/System$Logger$Level")] 31

def k6m0 : Method := { name := "<init>", desc := "()V", sig := { parameters := [], returnType := none }, accessFlags := 2, code := none }
def k6m1 : Method := { name := "arraycopy", desc := "(Ljava/lang/Object;ILjava/lang/Object;II)V", sig := { parameters := [(.object "java/lang/Object"), .int, (.object "java/lang/Object"), .int, .int], returnType := none }, accessFlags := 265, code := none }
/-- java/lang/System -/
def k6 : Class := { plain "java/lang/System" (some 0) with
  accessFlags := 49
  interfaces := #[]
  cf := some (fileOf pool6 8 #[.nestMembers #[319, 327, 801, 108, 663, 208]] #[{ accessFlags := 2, nameIndex := 5, descriptorIndex := 6, attributes := #[] }, { accessFlags := 265, nameIndex := 727, descriptorIndex := 728, attributes := #[] }] 49 2 #[] #[{ accessFlags := 25, nameIndex := 507, descriptorIndex := 526, attributes := #[] }, { accessFlags := 25, nameIndex := 399, descriptorIndex := 155, attributes := #[] }, { accessFlags := 25, nameIndex := 396, descriptorIndex := 155, attributes := #[] }, { accessFlags := 10, nameIndex := 525, descriptorIndex := 526, attributes := #[] }, { accessFlags := 26, nameIndex := 674, descriptorIndex := 12, attributes := #[] }, { accessFlags := 26, nameIndex := 677, descriptorIndex := 12, attributes := #[] }, { accessFlags := 10, nameIndex := 11, descriptorIndex := 12, attributes := #[] }, { accessFlags := 74, nameIndex := 175, descriptorIndex := 176, attributes := #[] }, { accessFlags := 10, nameIndex := 491, descriptorIndex := 222, attributes := #[] }, { accessFlags := 74, nameIndex := 29, descriptorIndex := 30, attributes := #[] }, { accessFlags := 74, nameIndex := 154, descriptorIndex := 155, attributes := #[] }, { accessFlags := 10, nameIndex := 217, descriptorIndex := 218, attributes := #[] }, { accessFlags := 10, nameIndex := 221, descriptorIndex := 222, attributes := #[] }, { accessFlags := 8, nameIndex := 562, descriptorIndex := 563, attributes := #[] }])
  fields := #[{ name := "in", type := (.object "java/io/InputStream"), accessFlags := 25, slot := 0, constantValue := 0 }, { name := "out", type := (.object "java/io/PrintStream"), accessFlags := 25, slot := 1, constantValue := 0 }, { name := "err", type := (.object "java/io/PrintStream"), accessFlags := 25, slot := 2, constantValue := 0 }, { name := "initialIn", type := (.object "java/io/InputStream"), accessFlags := 10, slot := 3, constantValue := 0 }, { name := "NEVER", type := .int, accessFlags := 26, slot := 4, constantValue := 0 }, { name := "MAYBE", type := .int, accessFlags := 26, slot := 5, constantValue := 0 }, { name := "allowSecurityManager", type := .int, accessFlags := 10, slot := 6, constantValue := 0 }, { name := "security", type := (.object "java/lang/SecurityManager"), accessFlags := 74, slot := 7, constantValue := 0 }, { name := "notSupportedJnuEncoding", type := (.object "java/lang/String"), accessFlags := 10, slot := 8, constantValue := 0 }, { name := "cons", type := (.object "java/io/Console"), accessFlags := 74, slot := 9, constantValue := 0 }, { name := "initialErrStream", type := (.object "java/io/PrintStream"), accessFlags := 74, slot := 10, constantValue := 0 }, { name := "props", type := (.object "java/util/Properties"), accessFlags := 10, slot := 11, constantValue := 0 }, { name := "lineSeparator", type := (.object "java/lang/String"), accessFlags := 10, slot := 12, constantValue := 0 }, { name := "bootLayer", type := (.object "java/lang/ModuleLayer"), accessFlags := 8, slot := 13, constantValue := 0 }]
  methods := #[k6m0, k6m1]
  instanceTypes := #[]
  staticTypes := #[(.object "java/io/InputStream"), (.object "java/io/PrintStream"), (.object "java/io/PrintStream"), (.object "java/io/InputStream"), .int, .int, .int, (.object "java/lang/SecurityManager"), (.object "java/lang/String"), (.object "java/io/Console"), (.object "java/io/PrintStream"), (.object "java/util/Properties"), (.object "java/lang/String"), (.object "java/lang/ModuleLayer")]
  resolved := Array.replicate 834 none
  statics := none }

def pool7 : Array CpInfo := pool [(1, u "java/io/Serializable"), (0, .class_ 1), (0, u "java/lang/Object"), (0, .class_ 3)] 3

/-- java/io/Serializable -/
def k7 : Class := { plain "java/io/Serializable" (some 0) with
  accessFlags := 1537
  interfaces := #[]
  cf := some (fileOf pool7 2 #[] #[] 1537 4 #[] #[])
  fields := #[]
  methods := #[]
  instanceTypes := #[]
  staticTypes := #[]
  resolved := Array.replicate 8 none
  statics := none }

/-- the primitive byte -/
def k8 : Class := { plain "byte" none with kind := .primitive 'B', accessFlags := 0x411 }
/-- [B -/
def k9 : Class := { plain "[B" (some 0) with kind := .array 8 .byte, interfaces := #[5, 7], accessFlags := 1041 }

/-- the primitive int -/
def k10 : Class := { plain "int" none with kind := .primitive 'I', accessFlags := 0x411 }
/-- [I -/
def k11 : Class := { plain "[I" (some 0) with kind := .array 10 .int, interfaces := #[5, 7], accessFlags := 1041 }

def heap : Heap := #[]
def classes : Array Class := #[k0, k1, k2, k3, k4, k5, k6, k7, k8, k9, k10, k11]
def interned : List (Array UInt16 × Addr) := []
def slotsUsed : Nat := 0
def theMethod : MethodId := ⟨1, 1⟩
def args0 : Array Value := #[.int 2, .long 6, .long 7, .int 8]
def aboutOver (below : List Frame) : State where
  vm := { classes := classes, interned := interned.toArray }
  heap := heap
  slotsUsed := slotsUsed
  threads := #[{ frames := .invoking theMethod args0 :: below }]
def below0 : List Frame := [.native { method := ⟨0, 0⟩, args := #[] }]
def about1 : State := aboutOver below0
def p0 : Program := .bare "" "" ""
def e0 : Env := launch0.env 0 0 0
theorem w_frames : about1.frames = Frame.invoking theMethod args0 :: below0 := rfl
set_option maxRecDepth 65536 in
theorem w_args : argsFit about1.vm theMethod args0 = true := by decide +kernel
set_option maxRecDepth 65536 in
theorem w_heap : heapFits about1 = true := by decide +kernel
set_option maxRecDepth 65536 in
theorem w_runnable : about1.curStatus? = some .runnable := by decide +kernel
set_option maxRecDepth 65536 in
theorem w_alone : about1.alone = true := by decide +kernel
set_option maxRecDepth 65536 in
theorem w_named : about1.methodNamed? x = some theMethod := by decide +kernel
set_option maxRecDepth 65536 in
theorem w_hears : about1.hears theMethod below0 = true := by decide +kernel
set_option maxRecDepth 65536 in
theorem w_ripe : about1.ripe theMethod args0 below0 = true := by decide +kernel
theorem w_running : about1.status = .running := rfl
set_option maxRecDepth 65536 in
theorem w_room : about1.hasRoom e0.platform room_1 = true :=
  launch0.hasRoom_least _ room_1 (by decide +kernel) (by decide +kernel) (by decide +kernel) (by decide +kernel) (by decide +kernel) (by decide +kernel)
theorem allAtoms_all (ts : List Jvm.Cond) (a : Array Jvm.Value) (st : Jvm.State) : (allAtoms ts).before a st = ts.all (fun c => c.before a st) := by
  induction ts with
  | nil => rfl
  | cons c t ih =>
    show (Jvm.Cond.and c (allAtoms t)).before a st = _
    rw [Jvm.Cond.before_and, ih, List.all_cons]
def words1 : List Jvm.Cond := Jvm.Cond.code x code maxLocals ret :: tables_1
/-- a 'code' word, met by the world's own term for the bytes: nothing is compared byte by byte -/
theorem code_word {y : MethodName} {bytes : ByteArray} {mx : Nat} {rt : Option FieldType} {a : Array Value} {s : State} {m : MethodId} {meth : Method} {c : Code} (h1 : s.methodNamed? y = some m) (h2 : s.vm.method? m = some meth) (h3 : meth.code = some c) (h4 : c.code = bytes)
    (h5 : (c.maxLocals == mx && c.exceptionTable.isEmpty && decide (c.maxStack ≤ mostOperands) && decide (meth.sig.returnType = rt) && !meth.locks && decide (parseMethodDescriptor y.desc = some meth.sig)) = true) : (Jvm.Cond.code y bytes mx rt).before a s = true := by
  simp only [Bool.and_eq_true, beq_iff_eq, Bool.not_eq_true', decide_eq_true_eq] at h5
  obtain ⟨⟨⟨⟨⟨g1, g2⟩, g3⟩, g4⟩, g5⟩, g6⟩ := h5
  simp [Cond.before, Cond.holds, Cond.value, h1, h2, h3, h4, g1, g2, g3, g4, g5, g6]
def isCode : Jvm.Cond → Bool
  | .code _ _ _ _ => true
  | _ => false
theorem all_split {L : List Jvm.Cond} {P : Jvm.Cond → Bool} (h1 : L.all (fun c => isCode c || P c) = true) (h2 : ∀ c ∈ L.filter isCode, P c = true) : L.all P = true := by
  refine List.all_eq_true.mpr fun c hc => ?_
  have h := List.all_eq_true.mp h1 c hc
  rcases Bool.eq_false_or_eq_true (isCode c) with hi | hi
  · exact h2 c (List.mem_filter.mpr ⟨hc, hi⟩)
  · simpa [hi] using h
set_option maxRecDepth 65536 in
theorem w_c0 : (Jvm.Cond.code x code maxLocals ret).before args0 about1 = true := code_word (m := ⟨1, 1⟩) (meth := k1m1) (c := k1c1) (by decide +kernel) rfl rfl rfl (by decide +kernel)
set_option maxRecDepth 65536 in
theorem w_c1 : (Jvm.Cond.code ({ cls := "java/lang/Math", name := "min", desc := "(JJ)J" } : Jvm.MethodName) jdk_29_method_70_code (4 : Nat) (Option.some Jvm.ClassFile.FieldType.long)).before args0 about1 = true := code_word (m := ⟨2, 2⟩) (meth := k2m2) (c := k2c2) (by decide +kernel) rfl rfl rfl (by decide +kernel)
set_option maxRecDepth 65536 in
theorem w_c2 : (Jvm.Cond.code ({ cls := "com/example/strict_anon/strictanon/service/RecordSetsDifferencePinLaw", name := "pick", desc := "([II)[I" } : Jvm.MethodName) method_3_code (5 : Nat) (Option.some (Jvm.ClassFile.FieldType.array Jvm.ClassFile.FieldType.int))).before args0 about1 = true := code_word (m := ⟨1, 2⟩) (meth := k1m2) (c := k1c2) (by decide +kernel) rfl rfl rfl (by decide +kernel)
set_option maxRecDepth 65536 in
theorem w_c3 : (Jvm.Cond.code ({ cls := "com/example/strict_anon/strictanon/service/RecordSets", name := "difference", desc := "([I[I)[I" } : Jvm.MethodName) prog_30_method_3_code (9 : Nat) (Option.some (Jvm.ClassFile.FieldType.array Jvm.ClassFile.FieldType.int))).before args0 about1 = true := code_word (m := ⟨3, 1⟩) (meth := k3m1) (c := k3c1) (by decide +kernel) rfl rfl rfl (by decide +kernel)
set_option maxRecDepth 65536 in
theorem w_c4 : (Jvm.Cond.code ({ cls := "java/util/Arrays", name := "copyOf", desc := "([II)[I" } : Jvm.MethodName) jdk_65_method_123_code (3 : Nat) (Option.some (Jvm.ClassFile.FieldType.array Jvm.ClassFile.FieldType.int))).before args0 about1 = true := code_word (m := ⟨4, 1⟩) (meth := k4m1) (c := k4c1) (by decide +kernel) rfl rfl rfl (by decide +kernel)
set_option maxRecDepth 65536 in
theorem w_c5 : (Jvm.Cond.code ({ cls := "com/example/strict_anon/strictanon/service/RecordSetsDifferencePinLaw", name := "same", desc := "([I[I)Z" } : Jvm.MethodName) method_4_code (2 : Nat) (Option.some Jvm.ClassFile.FieldType.boolean)).before args0 about1 = true := code_word (m := ⟨1, 3⟩) (meth := k1m3) (c := k1c3) (by decide +kernel) rfl rfl rfl (by decide +kernel)
set_option maxRecDepth 65536 in
theorem w_c6 : (Jvm.Cond.code ({ cls := "java/lang/Math", name := "min", desc := "(II)I" } : Jvm.MethodName) jdk_29_method_69_code (2 : Nat) (Option.some Jvm.ClassFile.FieldType.int)).before args0 about1 = true := code_word (m := ⟨2, 1⟩) (meth := k2m1) (c := k2c1) (by decide +kernel) rfl rfl rfl (by decide +kernel)
def codes1 : List Jvm.Cond := [Jvm.Cond.code x code maxLocals ret, Jvm.Cond.code ({ cls := "java/lang/Math", name := "min", desc := "(JJ)J" } : Jvm.MethodName) jdk_29_method_70_code (4 : Nat) (Option.some Jvm.ClassFile.FieldType.long), Jvm.Cond.code ({ cls := "com/example/strict_anon/strictanon/service/RecordSetsDifferencePinLaw", name := "pick", desc := "([II)[I" } : Jvm.MethodName) method_3_code (5 : Nat) (Option.some (Jvm.ClassFile.FieldType.array Jvm.ClassFile.FieldType.int)), Jvm.Cond.code ({ cls := "com/example/strict_anon/strictanon/service/RecordSets", name := "difference", desc := "([I[I)[I" } : Jvm.MethodName) prog_30_method_3_code (9 : Nat) (Option.some (Jvm.ClassFile.FieldType.array Jvm.ClassFile.FieldType.int)), Jvm.Cond.code ({ cls := "java/util/Arrays", name := "copyOf", desc := "([II)[I" } : Jvm.MethodName) jdk_65_method_123_code (3 : Nat) (Option.some (Jvm.ClassFile.FieldType.array Jvm.ClassFile.FieldType.int)), Jvm.Cond.code ({ cls := "com/example/strict_anon/strictanon/service/RecordSetsDifferencePinLaw", name := "same", desc := "([I[I)Z" } : Jvm.MethodName) method_4_code (2 : Nat) (Option.some Jvm.ClassFile.FieldType.boolean), Jvm.Cond.code ({ cls := "java/lang/Math", name := "min", desc := "(II)I" } : Jvm.MethodName) jdk_29_method_69_code (2 : Nat) (Option.some Jvm.ClassFile.FieldType.int)]
set_option maxRecDepth 65536 in
theorem codes_eq : words1.filter isCode = codes1 := rfl
theorem w_codes : ∀ c ∈ words1.filter isCode, c.before args0 about1 = true := by
  rw [codes_eq]
  intro c hc
  simp only [codes1, List.mem_cons, List.not_mem_nil, or_false] at hc
  rcases hc with rfl | rfl | rfl | rfl | rfl | rfl | rfl
  · exact w_c0
  · exact w_c1
  · exact w_c2
  · exact w_c3
  · exact w_c4
  · exact w_c5
  · exact w_c6
set_option maxRecDepth 65536 in
theorem w_t1 : (words1.take 24).all (fun c => isCode c || c.before args0 about1) = true := by decide +kernel
set_option maxRecDepth 65536 in
theorem w_t2 : (words1.drop 24).all (fun c => isCode c || c.before args0 about1) = true := by decide +kernel
theorem w_tables : (allAtoms (Jvm.Cond.code x code maxLocals ret :: tables_1)).before args0 about1 = true := by
  rw [allAtoms_all]
  show words1.all (fun c => c.before args0 about1) = true
  refine all_split ?_ w_codes
  rw [← List.take_append_drop 24 words1, List.all_append, w_t1, w_t2]
  rfl
set_option maxRecDepth 65536 in
theorem w_case : (Jvm.Cond.and given_1 narrow_1).before args0 about1 = true := by decide +kernel
theorem w_applies : (headSpec (Jvm.Cond.code x code maxLocals ret :: tables_1) room_1).applies x e0.platform about1 = true :=
  (Spec.applies_iff w_frames).mpr ⟨w_running, w_runnable, w_alone, w_named, w_hears, w_ripe, w_room, w_tables⟩
theorem atStart : AtStart classFile x code maxLocals ret World_1 tables_1 room_1 Calls_1 rest_1 Pre_1 launch0 p0 e0 about1 theMethod args0 below0 :=
  ⟨lists_1, trivial, launch0.admits_env _ _ _, launch0.least_env, fairChoices_fair.cas, fairChoices_fair.clock, w_frames, w_args, w_heap, w_applies, trivial, trivial, w_case⟩
end start1
theorem witness_1 : WitnessClaimed_1 := ⟨start1.p0, start1.e0, start1.about1, start1.theMethod, start1.args0, start1.below0, start1.atStart⟩
end Jvm.Pilot.@@N@@
