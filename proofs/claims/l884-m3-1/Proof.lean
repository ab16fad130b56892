import JvmDerived
import JvmDerived.Pilot.@@N@@Statement
import JvmDerived.Pilot.@@N@@Code
set_option linter.unusedVariables false
set_option linter.unusedSimpArgs false
namespace Jvm.Pilot.@@N@@
open Jvm Jvm.ClassFile Sem Op Lib Jvm.Free Jvm.Stand Jvm.LawKit Jvm.RoadKit Bundle Jvm.Pilot.@@N@@.Jvm.D
section OwnKit
variable {p : Program} {l : Launch} {e : Env} {R : Room} {s : State} {m : MethodId} {args : Array Value} {below : List Frame} {meth : Method} {c : Code} {T : State} {locs : List Loc} {cells slots : Nat} {Z : State} {h : Heap} {a : Addr} {k : ClassId} {z : Int32} {vs : List Value} {dv : Value}
theorem oLen (X : Stand p l e R s m args below meth c T locs cells slots) (hx : p.tables.exec = Jvm.exec) (hZ : Z.Warmed39 s.vm) (eT : T.heap = h) {ty : FieldType} (F : Arv Z h a k ty z vs dv) {pc : Nat} {Ls : Array Slot} {rest : List Value} (hd : decode c.code pc = .ok (.arraylength, 1)) {target : State}
    (hr : Steps p.tables e below (T.setTop (mkF m (pc + 1) Ls (.int z :: rest))) target) : Steps p.tables e below (T.setTop (mkF m pc Ls (.ref a :: rest))) target := by
  obtain ⟨cl, A, -, S, M, -, -⟩ := F
  refine X.arraylength hx (by rw [eT]; exact A.1) (State.isArrayOf_alike hZ.alike A.2.1) (g := mkF m pc Ls (.ref a :: rest)) rfl rfl hd target ?_
  rw [len_of S M]
  exact hr
theorem oLdI (X : Stand p l e R s m args below meth c T locs cells slots) (hx : p.tables.exec = Jvm.exec) (hZ : Z.Warmed39 s.vm) (eT : T.heap = h) (F : Arv Z h a k .int z vs dv) {j : Int32} {v : Value} (hj : ¬ j < 0 ∧ j < z) (hv : vs.getD j.toNatClampNeg dv = v) {pc : Nat} {Ls : Array Slot} {rest : List Value} (hd : decode c.code pc = .ok (.iaload, 1)) {target : State}
    (hr : Steps p.tables e below (T.setTop (mkF m (pc + 1) Ls (v :: rest))) target) : Steps p.tables e below (T.setTop (mkF m pc Ls (.int j :: .ref a :: rest))) target := by
  obtain ⟨cl, A, -, S, -, H, -⟩ := F
  have hin := inb_of S hj
  exact X.iaload hx (by rw [eT]; exact A.1) (State.isArrayOf_alike hZ.alike A.2.1) A.2.2 hin (Has.at H hin hv) (g := mkF m pc Ls (.int j :: .ref a :: rest)) rfl rfl hd target hr
theorem oLdB (X : Stand p l e R s m args below meth c T locs cells slots) (hx : p.tables.exec = Jvm.exec) (hZ : Z.Warmed39 s.vm) (eT : T.heap = h) (F : Arv Z h a k .byte z vs dv) {j : Int32} {v : Value} (hj : ¬ j < 0 ∧ j < z) (hv : vs.getD j.toNatClampNeg dv = v) {pc : Nat} {Ls : Array Slot} {rest : List Value} (hd : decode c.code pc = .ok (.baload, 1)) {target : State}
    (hr : Steps p.tables e below (T.setTop (mkF m (pc + 1) Ls (v :: rest))) target) : Steps p.tables e below (T.setTop (mkF m pc Ls (.int j :: .ref a :: rest))) target := by
  obtain ⟨cl, A, -, S, -, H, -⟩ := F
  have hin := inb_of S hj
  exact X.baloadBytes hx (by rw [eT]; exact A.1) (State.isArrayOf_alike hZ.alike A.2.1) A.2.2 hin (Has.at H hin hv) (g := mkF m pc Ls (.int j :: .ref a :: rest)) rfl rfl hd target hr
theorem oLdJ (X : Stand p l e R s m args below meth c T locs cells slots) (hx : p.tables.exec = Jvm.exec) (hZ : Z.Warmed39 s.vm) (eT : T.heap = h) (F : Arv Z h a k .long z vs dv) {j : Int32} {v : Value} (hj : ¬ j < 0 ∧ j < z) (hv : vs.getD j.toNatClampNeg dv = v) {pc : Nat} {Ls : Array Slot} {rest : List Value} (hd : decode c.code pc = .ok (.laload, 1)) {target : State}
    (hr : Steps p.tables e below (T.setTop (mkF m (pc + 1) Ls (v :: rest))) target) : Steps p.tables e below (T.setTop (mkF m pc Ls (.int j :: .ref a :: rest))) target := by
  obtain ⟨cl, A, -, S, -, H, -⟩ := F
  have hin := inb_of S hj
  exact X.laload hx (by rw [eT]; exact A.1) (State.isArrayOf_alike hZ.alike A.2.1) A.2.2 hin (Has.at H hin hv) (g := mkF m pc Ls (.int j :: .ref a :: rest)) rfl rfl hd target hr
theorem oLdD (X : Stand p l e R s m args below meth c T locs cells slots) (hx : p.tables.exec = Jvm.exec) (hZ : Z.Warmed39 s.vm) (eT : T.heap = h) (F : Arv Z h a k .double z vs dv) {j : Int32} {v : Value} (hj : ¬ j < 0 ∧ j < z) (hv : vs.getD j.toNatClampNeg dv = v) {pc : Nat} {Ls : Array Slot} {rest : List Value} (hd : decode c.code pc = .ok (.daload, 1)) {target : State}
    (hr : Steps p.tables e below (T.setTop (mkF m (pc + 1) Ls (v :: rest))) target) : Steps p.tables e below (T.setTop (mkF m pc Ls (.int j :: .ref a :: rest))) target := by
  obtain ⟨cl, A, -, S, -, H, -⟩ := F
  have hin := inb_of S hj
  exact X.daload hx (by rw [eT]; exact A.1) (State.isArrayOf_alike hZ.alike A.2.1) A.2.2 hin (Has.at H hin hv) (g := mkF m pc Ls (.int j :: .ref a :: rest)) rfl rfl hd target hr
theorem oStI (X : Stand p l e R s m args below meth c T locs cells slots) (hx : p.tables.exec = Jvm.exec) (hZ : Z.Warmed39 s.vm) (eT : T.heap = h) (F : Arv Z h a k .int z vs dv) {j : Int32} {x : Int32} (hj : ¬ j < 0 ∧ j < z) (i : Nat) (hi : j.toNatClampNeg = i) (hl : i < vs.length) {g : JFrame} (hg : g.method = m) {rest : List Value} (hs : g.stack = .int x :: .int j :: .ref a :: rest) (hd : decode c.code g.pc = .ok (.iastore, 1)) :
    ∃ T' h', Stand p l e R s m args below meth c T' (locs ++ [⟨a, j.toNatClampNeg⟩]) cells slots ∧ T'.heap = h' ∧ Wr h h' a j.toNatClampNeg (.int x) ∧ Arv Z h' a k .int z (vs.set i (.int x)) dv ∧ ∀ target, Steps p.tables e below (T'.setTop { g with pc := g.pc + 1, stack := rest }) target → Steps p.tables e below (T.setTop g) target := by
  obtain ⟨cl, A, q1, S, M, H, G⟩ := F
  obtain ⟨T', h', X', e', W, st⟩ := stI X hx hZ eT A (j := j) (inb_of S hj) hg hs hd
  exact ⟨T', h', X', e', W, Arv.set A q1 S M H G rfl W i hi hl, st⟩
theorem oStB (X : Stand p l e R s m args below meth c T locs cells slots) (hx : p.tables.exec = Jvm.exec) (hZ : Z.Warmed39 s.vm) (eT : T.heap = h) (F : Arv Z h a k .byte z vs dv) {j : Int32} {x : Int32} (hj : ¬ j < 0 ∧ j < z) (i : Nat) (hi : j.toNatClampNeg = i) (hl : i < vs.length) {g : JFrame} (hg : g.method = m) {rest : List Value} (hs : g.stack = .int x :: .int j :: .ref a :: rest) (hd : decode c.code g.pc = .ok (.bastore, 1)) :
    ∃ T' h', Stand p l e R s m args below meth c T' (locs ++ [⟨a, j.toNatClampNeg⟩]) cells slots ∧ T'.heap = h' ∧ Wr h h' a j.toNatClampNeg (.int (nar .byte x)) ∧ Arv Z h' a k .byte z (vs.set i (.int (nar .byte x))) dv ∧ ∀ target, Steps p.tables e below (T'.setTop { g with pc := g.pc + 1, stack := rest }) target → Steps p.tables e below (T.setTop g) target := by
  obtain ⟨cl, A, q1, S, M, H, G⟩ := F
  obtain ⟨T', h', X', e', W, st⟩ := stB X hx hZ eT A (j := j) (inb_of S hj) hg hs hd
  exact ⟨T', h', X', e', W, Arv.set A q1 S M H G (fits_nar_byte x) W i hi hl, st⟩
theorem oStJ (X : Stand p l e R s m args below meth c T locs cells slots) (hx : p.tables.exec = Jvm.exec) (hZ : Z.Warmed39 s.vm) (eT : T.heap = h) (F : Arv Z h a k .long z vs dv) {j : Int32} {x : Int64} (hj : ¬ j < 0 ∧ j < z) (i : Nat) (hi : j.toNatClampNeg = i) (hl : i < vs.length) {g : JFrame} (hg : g.method = m) {rest : List Value} (hs : g.stack = .long x :: .int j :: .ref a :: rest) (hd : decode c.code g.pc = .ok (.lastore, 1)) :
    ∃ T' h', Stand p l e R s m args below meth c T' (locs ++ [⟨a, j.toNatClampNeg⟩]) cells slots ∧ T'.heap = h' ∧ Wr h h' a j.toNatClampNeg (.long x) ∧ Arv Z h' a k .long z (vs.set i (.long x)) dv ∧ ∀ target, Steps p.tables e below (T'.setTop { g with pc := g.pc + 1, stack := rest }) target → Steps p.tables e below (T.setTop g) target := by
  obtain ⟨cl, A, q1, S, M, H, G⟩ := F
  obtain ⟨T', h', X', e', W, st⟩ := stJ X hx hZ eT A (j := j) (inb_of S hj) hg hs hd
  exact ⟨T', h', X', e', W, Arv.set A q1 S M H G rfl W i hi hl, st⟩
theorem oStD (X : Stand p l e R s m args below meth c T locs cells slots) (hx : p.tables.exec = Jvm.exec) (hZ : Z.Warmed39 s.vm) (eT : T.heap = h) (F : Arv Z h a k .double z vs dv) {j : Int32} {x : UInt64} (hj : ¬ j < 0 ∧ j < z) (i : Nat) (hi : j.toNatClampNeg = i) (hl : i < vs.length) {g : JFrame} (hg : g.method = m) {rest : List Value} (hs : g.stack = .double x :: .int j :: .ref a :: rest) (hd : decode c.code g.pc = .ok (.dastore, 1)) :
    ∃ T' h', Stand p l e R s m args below meth c T' (locs ++ [⟨a, j.toNatClampNeg⟩]) cells slots ∧ T'.heap = h' ∧ Wr h h' a j.toNatClampNeg (.double x) ∧ Arv Z h' a k .double z (vs.set i (.double x)) dv ∧ ∀ target, Steps p.tables e below (T'.setTop { g with pc := g.pc + 1, stack := rest }) target → Steps p.tables e below (T.setTop g) target := by
  obtain ⟨cl, A, q1, S, M, H, G⟩ := F
  obtain ⟨T', h', X', e', W, st⟩ := stD X hx hZ eT A (j := j) (inb_of S hj) hg hs hd
  exact ⟨T', h', X', e', W, Arv.set A q1 S M H G rfl W i hi hl, st⟩
theorem oOpq {n0 : Nat} (X : Stand p l e R s m args below meth c T locs cells slots) (N : Fr n0 locs) : ∃ L, Stand p l e R s m args below meth c T L cells slots ∧ Fr n0 L := ⟨_, X, N⟩
end OwnKit
abbrev oi (x : Int32) : Slot := .val (.int x)
abbrev oj (x : Int64) : Slot := .val (.long x)
abbrev oa (x : Addr) : Slot := .val (.ref x)
abbrev od (x : UInt64) : Slot := .val (.double x)
abbrev oS (p : Program) (e : Env) (below : List Frame) (T : State) (m : MethodId) (pc : Nat) (L : Array Slot) (S : List Value) (t : State) : Prop := Steps p.tables e below (T.setTop (mkF m pc L S)) t
theorem own_ltp (x k : Int32) : (x < k) = (x.toInt < k.toInt) := propext Int32.lt_iff_toInt_lt
theorem own_eqp (x k : Int32) : (x = k) = (x.toInt = k.toInt) := propext Int32.toInt_inj.symm
theorem own_ltpL (x k : Int64) : (x < k) = (x.toInt < k.toInt) := propext Int64.lt_iff_toInt_lt
theorem own_eqpL (x k : Int64) : (x = k) = (x.toInt = k.toInt) := propext Int64.toInt_inj.symm
theorem own_of_range {P : Int32 → Prop} (n : Nat) (h : ∀ i : Fin n, P (Int32.ofNat i.1)) (x : Int32) (h0 : 0 ≤ x.toInt) (h1 : x.toInt < (n : Int)) : P x := by
  have e : Int32.ofNat x.toInt.toNat = x := by
    rw [← Int32.ofInt_eq_ofNat, Int.toNat_of_nonneg h0, Int32.ofInt_toInt]
  have q := h ⟨x.toInt.toNat, by omega⟩
  rwa [e] at q
theorem own_getD (ws : List Int32) (n : Nat) : (ws.map Value.int).getD n (.int (0 : Int32)) = .int (ws.getD n 0) := by
  simp only [List.getD_eq_getElem?_getD, List.getElem?_map]
  cases ws[n]? <;> rfl

theorem own_eqI {args : Array Value} {s : State} {t : Term} {n : Int32} {idx : List Nat} (h : (Jvm.Cond.eq t (.int n)).value args s none s idx = some true) : t.eval args s none idx s = some (.int n) := by
  obtain ⟨x, y, e1, e2, k1, k2⟩ := cmp_v (Or.inl h)
  cases (Term.int_eval n).symm.trans e2
  obtain ⟨z, rfl⟩ : ∃ z, x = Value.int z := k2
  exact e1.trans (congrArg (fun z => some (Value.int z)) (gotT (Cond.eq_ints e1 (Term.int_eval n)) h))

theorem own_stakeep {Z : State} {h h' : Heap} {C n d : String} {v : Value} (K : Keep h h' []) (S : Sta Z h C n d v) : Sta Z h' C n d v := by
  obtain ⟨cf, i, k, f, st, cell, h1, h2, h3, h4, h5, r⟩ := S
  exact ⟨cf, i, k, f, st, cell, h1, h2, h3, h4, K.2.1 _ _ h5 (fun q => nomatch q), r⟩

theorem own_pn0 : plainName "com/example/muster/muster/model/LevelsOfPinLaw" = true := by first | (simp [plainName, overriddenIn]; done) | decide +kernel
theorem own_d1_0 : decode method_2_code 0 = .ok (.iload_n 0, 1) := by decide +kernel
theorem own_d1_1 : decode method_2_code 1 = .ok (.iconst 2, 1) := by decide +kernel
theorem own_d1_2 : decode method_2_code 2 = .ok (.iload_n 1, 1) := by decide +kernel
theorem own_d1_3 : decode method_2_code 3 = .ok (.imul, 1) := by decide +kernel
theorem own_d1_4 : decode method_2_code 4 = .ok (.iushr, 1) := by decide +kernel
theorem own_d1_5 : decode method_2_code 5 = .ok (.iconst 3, 1) := by decide +kernel
theorem own_d1_6 : decode method_2_code 6 = .ok (.iand, 1) := by decide +kernel
theorem own_d1_7 : decode method_2_code 7 = .ok (.ireturn, 1) := by decide +kernel
theorem own_ef1 (m : MethodId) (p0 : Int32) (p1 : Int32) : entryFrame m #[(.int p0), (.int p1)] 2 = mkF m 0 #[oi p0, oi p1] [] := by first | (simp [entryFrame, mkF, argsToLocals, Value.category]; done) | rfl
def own_f1 (p0 : Int32) (p1 : Int32) : Int32 := (((p0.toUInt32 >>> (((2 : Int32) * p1) &&& 31).toUInt32).toInt32) &&& (3 : Int32))
def own_Q1 (Z : State) (p0 : Int32) (p1 : Int32) (h0 : Heap) (n0 : Nat) (v : Option Value) (h : Heap) (L : List Loc) : Prop := v = some (Value.int (own_f1 p0 p1)) ∧ Fr n0 L ∧ h = h0
set_option maxRecDepth 65536 in
set_option maxHeartbeats 40000000 in
theorem own_rm1 (l : Launch) (Z : State) (av : Array Value) (hw : ∀ d ∈ tables_1, d.before av Z = true) (ws : List Jvm.Cond) (p0 : Int32) (p1 : Int32) (h0 : Heap) (n0 : Nat) (Z0 : n0 ≤ h0.size) :
    MetFree l (⟨"com/example/muster/muster/model/LevelsOfPinLaw", "lv", "(II)I"⟩ : MethodName) (head1 (Jvm.Cond.code (⟨"com/example/muster/muster/model/LevelsOfPinLaw", "lv", "(II)I"⟩ : MethodName) method_2_code 2 (some .int) :: ws) ({ frames := 0, cells := 0, slots := 0, locals := 0 } : Room)) (fun a U => a = #[(.int p0), (.int p1)] ∧ Z.Warmed39 U.vm ∧ U.heap = h0) (fun _ _ _ _ _ => True) (fun _ U o U' => ∃ v L, o = .returned v ∧ own_Q1 Z p0 p1 h0 n0 v U'.heap L ∧ FrameEnd U o U' L ({ frames := 0, cells := 0, slots := 0, locals := 0 } : Room).cells ({ frames := 0, cells := 0, slots := 0, locals := 0 } : Room).slots) := by
  refine MetFree.of_bodySF (plainFor_of_name own_pn0) hisR ?_
  intro p e s m args below meth c s₁ Bd hml0 hP hK
  obtain ⟨rfl, hZ, hh⟩ := hP
  have hx := Bd.exec
  have hby := Bd.bytes
  have hml : c.maxLocals = 2 := hml0
  have hown : s.vm.findClass "com/example/muster/muster/model/LevelsOfPinLaw" = some m.cls := findClass_of_methodNamed Bd.named
  have hnm := (name_of_methodNamed Bd.named Bd.method).1
  have X0 : Stand p l e ({ frames := 0, cells := 0, slots := 0, locals := 0 } : Room) s m #[(.int p0), (.int p1)] below meth c s₁ [] 0 0 := Stand.of_body Bd
  have e0 : s₁.heap = h0 := by rw [← hh, Bd.state]; rfl
  have N0 := Fr.nil n0
  have pre0 : ∀ t, Steps p.tables e below (s₁.setTop (mkF m 0 #[oi p0, oi p1] [])) t → Steps p.tables e below (s₁.setTop (entryFrame m #[(.int p0), (.int p1)] 2)) t := fun t k => castTop (own_ef1 m p0 p1) k
  obtain ⟨fs, hr, hrun, hended, hW, hsame⟩ := X0.leave (v := (some (.int (((p0.toUInt32 >>> (((2 : Int32) * p1) &&& 31).toUInt32).toInt32) &&& (3 : Int32))))) (fun h => by rw [Bd.returns] at h; cases h)
  refine ⟨_, _, pre0 _ ?_, hrun, hended, _, _, rfl, ?_, ⟨_, rfl⟩, hW, hsame.mono (by decide) (by decide)⟩
  · show oS p e below s₁ m 0 #[oi p0, oi p1] [] _
    refine XS.iloadN X0.here hx rfl (hb hby own_d1_0) rfl ?_
    show oS p e below s₁ m 1 #[oi p0, oi p1] [(.int p0)] _
    refine XS.iconst X0.here hx rfl (hb hby own_d1_1) ?_
    show oS p e below s₁ m 2 #[oi p0, oi p1] [(.int (2 : Int32)), (.int p0)] _
    refine XS.iloadN X0.here hx rfl (hb hby own_d1_2) rfl ?_
    show oS p e below s₁ m 3 #[oi p0, oi p1] [(.int p1), (.int (2 : Int32)), (.int p0)] _
    refine XS.imul X0.here hx rfl (hb hby own_d1_3) rfl ?_
    show oS p e below s₁ m 4 #[oi p0, oi p1] [(.int ((2 : Int32) * p1)), (.int p0)] _
    refine XS.iushr X0.here hx rfl (hb hby own_d1_4) rfl ?_
    show oS p e below s₁ m 5 #[oi p0, oi p1] [(.int ((p0.toUInt32 >>> (((2 : Int32) * p1) &&& 31).toUInt32).toInt32))] _
    refine XS.iconst X0.here hx rfl (hb hby own_d1_5) ?_
    show oS p e below s₁ m 6 #[oi p0, oi p1] [(.int (3 : Int32)), (.int ((p0.toUInt32 >>> (((2 : Int32) * p1) &&& 31).toUInt32).toInt32))] _
    refine XS.iand X0.here hx rfl (hb hby own_d1_6) rfl ?_
    show oS p e below s₁ m 7 #[oi p0, oi p1] [(.int (((p0.toUInt32 >>> (((2 : Int32) * p1) &&& 31).toUInt32).toInt32) &&& (3 : Int32)))] _
    exact retOut X0 hx Bd.returns rfl (Or.inl ⟨rfl, Or.inl rfl, _, rfl⟩) (hb hby own_d1_7) hr
  · show own_Q1 Z p0 p1 h0 n0 _ s₁.heap _
    rw [e0]
    exact ⟨congrArg (fun z => some (Value.int z)) (by rw [own_f1]), N0, rfl⟩
theorem own_pn1 : plainName "com/example/muster/muster/model/Levels" = true := by first | (simp [plainName, overriddenIn]; done) | decide +kernel
theorem own_d3_0 : decode prog_39_method_1_code 0 = .ok (.aload_n 0, 1) := by decide +kernel
theorem own_d3_1 : decode prog_39_method_1_code 1 = .ok (.invokespecial 1, 3) := by decide +kernel
theorem own_d3_4 : decode prog_39_method_1_code 4 = .ok (.aload_n 0, 1) := by decide +kernel
theorem own_d3_5 : decode prog_39_method_1_code 5 = .ok (.aload_n 1, 1) := by decide +kernel
theorem own_d3_6 : decode prog_39_method_1_code 6 = .ok (.putfield 7, 3) := by decide +kernel
theorem own_d3_9 : decode prog_39_method_1_code 9 = .ok (.return_, 1) := by decide +kernel
theorem own_ef3 (m : MethodId) (a0 : Addr) (a1 : Addr) : entryFrame m #[(.ref a0), (.ref a1)] 2 = mkF m 0 #[oa a0, oa a1] [] := by first | (simp [entryFrame, mkF, argsToLocals, Value.category]; done) | rfl
def own_Q3 (Z : State) (a0 : Addr) (a1 : Addr) (h0 : Heap) (n0 : Nat) (v : Option Value) (h : Heap) (L : List Loc) : Prop := v = none ∧ Fr n0 L ∧ Keep h0 h [a0] ∧ Exa Z h a0 "com/example/muster/muster/model/Levels" ∧ Fld Z h a0 "com/example/muster/muster/model/Levels" "byModule" "[I" (.ref a1)
set_option maxRecDepth 65536 in
set_option maxHeartbeats 40000000 in
theorem own_rm3 (l : Launch) (Z : State) (av : Array Value) (hw : ∀ d ∈ tables_1, d.before av Z = true) (ws : List Jvm.Cond) (a0 : Addr) (a1 : Addr) (h0 : Heap) (n0 : Nat) (Z0 : n0 ≤ h0.size) (E_a0 : Exa Z h0 a0 "com/example/muster/muster/model/Levels") (F_byModule_a0 : Fld Z h0 a0 "com/example/muster/muster/model/Levels" "byModule" "[I" .null) (g_a0 : n0 ≤ a0) :
    MetFree l (⟨"com/example/muster/muster/model/Levels", "<init>", "([I)V"⟩ : MethodName) (head1 (Jvm.Cond.code (⟨"com/example/muster/muster/model/Levels", "<init>", "([I)V"⟩ : MethodName) prog_39_method_1_code 2 none :: ws) ({ frames := 1, cells := 0, slots := 0, locals := 12 } : Room)) (fun a U => a = #[(.ref a0), (.ref a1)] ∧ Z.Warmed39 U.vm ∧ U.heap = h0) (fun _ _ _ _ _ => True) (fun _ U o U' => ∃ v L, o = .returned v ∧ own_Q3 Z a0 a1 h0 n0 v U'.heap L ∧ FrameEnd U o U' L ({ frames := 1, cells := 0, slots := 0, locals := 12 } : Room).cells ({ frames := 1, cells := 0, slots := 0, locals := 12 } : Room).slots) := by
  refine MetFree.of_bodySF (plainFor_of_name own_pn1) hisR ?_
  intro p e s m args below meth c s₁ Bd hml0 hP hK
  obtain ⟨rfl, hZ, hh⟩ := hP
  have hx := Bd.exec
  have hby := Bd.bytes
  have hml : c.maxLocals = 2 := hml0
  have hown : s.vm.findClass "com/example/muster/muster/model/Levels" = some m.cls := findClass_of_methodNamed Bd.named
  have hnm := (name_of_methodNamed Bd.named Bd.method).1
  have X0 : Stand p l e ({ frames := 1, cells := 0, slots := 0, locals := 12 } : Room) s m #[(.ref a0), (.ref a1)] below meth c s₁ [] 0 0 := Stand.of_body Bd
  have e0 : s₁.heap = h0 := by rw [← hh, Bd.state]; rfl
  have N0 := Fr.nil n0
  have pre0 : ∀ t, Steps p.tables e below (s₁.setTop (mkF m 0 #[oa a0, oa a1] [])) t → Steps p.tables e below (s₁.setTop (entryFrame m #[(.ref a0), (.ref a1)] 2)) t := fun t k => castTop (own_ef3 m a0 a1) k
  obtain ⟨T1, X1, e1, st1⟩ := initO X0 hx hZ hown (hw _ (List.mem_of_getElem? (i := 25) rfl)) (hw _ (List.mem_of_getElem? (i := 26) rfl)) (hw _ (List.mem_of_getElem? (i := 27) rfl)) e0 (g := (mkF m 1 #[oa a0, oa a1] [(.ref a0)])) rfl (by rw [hml]; rfl) rfl (hb hby own_d3_1) (by decide) (W := 0) (by show 2 * 0 + _ ≤ _; exact Nat.le_of_eq rfl) (by decide)
  obtain ⟨T2, h2, X2, e2, W2, st2⟩ := putF X1 hx hZ hown (host := "") (Or.inl (hw _ (List.mem_of_getElem? (i := 28) rfl))) Via.refl e1 F_byModule_a0 E_a0 (Or.inr ⟨(hw _ (List.mem_of_getElem? (i := 29) rfl)), rfl, hnm⟩) (hw _ (List.mem_of_getElem? (i := 12) rfl)) (ty := (.array .int)) (by decide) rfl rfl (g := (mkF m 6 #[oa a0, oa a1] [(.ref a1), (.ref a0)])) rfl rfl (hb hby own_d3_6)
  obtain ⟨Lo2, X2, N2⟩ := oOpq X2 (Fr.snoc X2 N0 g_a0)
  have Z2 : n0 ≤ h2.size := Nat.le_trans Z0 (Keep.of_wr W2).1
  have F3 := E_a0.wr W2
  have F_4 : Fld Z h2 a0 "com/example/muster/muster/model/Levels" "byModule" "[I" (.ref a1) := F_byModule_a0.same W2
  have K_5 : Keep h0 h2 [a0] := (Keep.refl h0 [a0]).wr W2 (Or.inl (List.mem_of_getElem? (i := 0) rfl))
  obtain ⟨fs, hr, hrun, hended, hW, hsame⟩ := X2.leave (v := none) (fun _ => rfl)
  refine ⟨_, _, pre0 _ ?_, hrun, hended, _, _, rfl, ?_, ⟨_, rfl⟩, hW, hsame.mono (by decide) (by decide)⟩
  · show oS p e below s₁ m 0 #[oa a0, oa a1] [] _
    refine XS.aloadN X0.here hx rfl (hb hby own_d3_0) rfl rfl ?_
    show oS p e below s₁ m 1 #[oa a0, oa a1] [(.ref a0)] _
    refine st1 _ ?_
    show oS p e below T1 m 4 #[oa a0, oa a1] [] _
    refine XS.aloadN X1.here hx rfl (hb hby own_d3_4) rfl rfl ?_
    show oS p e below T1 m 5 #[oa a0, oa a1] [(.ref a0)] _
    refine XS.aloadN X1.here hx rfl (hb hby own_d3_5) rfl rfl ?_
    show oS p e below T1 m 6 #[oa a0, oa a1] [(.ref a1), (.ref a0)] _
    refine st2 _ ?_
    show oS p e below T2 m 9 #[oa a0, oa a1] [] _
    exact X2.returnOut hx Bd.returns (hb hby own_d3_9) hr
  · show own_Q3 Z a0 a1 h0 n0 _ T2.heap _
    rw [e2]
    exact ⟨rfl, N2, K_5, F3, F_4⟩
theorem own_pd0 : parseMethodDescriptor "([I)V" = some ⟨[(.array .int)], none⟩ := by decide +kernel
theorem own_d2_0 : decode prog_39_method_2_code 0 = .ok (.aload_n 0, 1) := by decide +kernel
theorem own_d2_1 : decode prog_39_method_2_code 1 = .ok (.arraylength, 1) := by decide +kernel
theorem own_d2_2 : decode prog_39_method_2_code 2 = .ok (.getstatic 13, 3) := by decide +kernel
theorem own_d2_5 : decode prog_39_method_2_code 5 = .ok (.if_icmp .eq 21, 3) := by decide +kernel
theorem own_d2_26 : decode prog_39_method_2_code 26 = .ok (.aload_n 0, 1) := by decide +kernel
theorem own_d2_27 : decode prog_39_method_2_code 27 = .ok (.astore_n 1, 1) := by decide +kernel
theorem own_d2_28 : decode prog_39_method_2_code 28 = .ok (.aload_n 1, 1) := by decide +kernel
theorem own_d2_29 : decode prog_39_method_2_code 29 = .ok (.arraylength, 1) := by decide +kernel
theorem own_d2_30 : decode prog_39_method_2_code 30 = .ok (.istore_n 2, 1) := by decide +kernel
theorem own_d2_31 : decode prog_39_method_2_code 31 = .ok (.iconst 0, 1) := by decide +kernel
theorem own_d2_32 : decode prog_39_method_2_code 32 = .ok (.istore_n 3, 1) := by decide +kernel
theorem own_d2_33 : decode prog_39_method_2_code 33 = .ok (.iload_n 3, 1) := by decide +kernel
theorem own_d2_34 : decode prog_39_method_2_code 34 = .ok (.iload_n 2, 1) := by decide +kernel
theorem own_d2_35 : decode prog_39_method_2_code 35 = .ok (.if_icmp .ge 40, 3) := by decide +kernel
theorem own_d2_38 : decode prog_39_method_2_code 38 = .ok (.aload_n 1, 1) := by decide +kernel
theorem own_d2_39 : decode prog_39_method_2_code 39 = .ok (.iload_n 3, 1) := by decide +kernel
theorem own_d2_40 : decode prog_39_method_2_code 40 = .ok (.iaload, 1) := by decide +kernel
theorem own_d2_41 : decode prog_39_method_2_code 41 = .ok (.istore 4, 2) := by decide +kernel
theorem own_d2_43 : decode prog_39_method_2_code 43 = .ok (.iload 4, 2) := by decide +kernel
theorem own_d2_45 : decode prog_39_method_2_code 45 = .ok (.ifCond .lt 9, 3) := by decide +kernel
theorem own_d2_48 : decode prog_39_method_2_code 48 = .ok (.iload 4, 2) := by decide +kernel
theorem own_d2_50 : decode prog_39_method_2_code 50 = .ok (.iconst 3, 1) := by decide +kernel
theorem own_d2_51 : decode prog_39_method_2_code 51 = .ok (.if_icmp .le 18, 3) := by decide +kernel
theorem own_d2_69 : decode prog_39_method_2_code 69 = .ok (.iinc 3 1, 3) := by decide +kernel
theorem own_d2_72 : decode prog_39_method_2_code 72 = .ok (.goto (-39), 3) := by decide +kernel
theorem own_d2_75 : decode prog_39_method_2_code 75 = .ok (.new 8, 3) := by decide +kernel
theorem own_d2_78 : decode prog_39_method_2_code 78 = .ok (.dup, 1) := by decide +kernel
theorem own_d2_79 : decode prog_39_method_2_code 79 = .ok (.aload_n 0, 1) := by decide +kernel
theorem own_d2_80 : decode prog_39_method_2_code 80 = .ok (.invokevirtual 29, 3) := by decide +kernel
theorem own_d2_83 : decode prog_39_method_2_code 83 = .ok (.checkcast 30, 3) := by decide +kernel
theorem own_d2_86 : decode prog_39_method_2_code 86 = .ok (.invokespecial 34, 3) := by decide +kernel
theorem own_d2_89 : decode prog_39_method_2_code 89 = .ok (.areturn, 1) := by decide +kernel
theorem own_ef2 (m : MethodId) (a0 : Addr) : entryFrame m #[(.ref a0)] 5 = mkF m 0 #[oa a0, .unset, .unset, .unset, .unset] [] := by first | (simp [entryFrame, mkF, argsToLocals, Value.category]; done) | rfl
def own_Q2 (Z : State) (a0 : Addr) (k_a0 : ClassId) (x0 : Int32) (x1 : Int32) (x2 : Int32) (x3 : Int32) (x4 : Int32) (x5 : Int32) (x6 : Int32) (x7 : Int32) (h0 : Heap) (n0 : Nat) (v : Option Value) (h : Heap) (L : List Loc) : Prop := ∃ (o b : Addr) (k_b : ClassId), v = some (.ref o) ∧ Fr n0 L ∧ Keep h0 h [] ∧ h0.size ≤ o ∧ h0.size ≤ b ∧ Exa Z h o "com/example/muster/muster/model/Levels" ∧ Fld Z h o "com/example/muster/muster/model/Levels" "byModule" "[I" (.ref b) ∧ Arv Z h b k_b .int (8 : Int32) [(.int x0), (.int x1), (.int x2), (.int x3), (.int x4), (.int x5), (.int x6), (.int x7)] (.int (0 : Int32))
set_option maxRecDepth 65536 in
set_option maxHeartbeats 40000000 in
theorem own_rm2 (l : Launch) (Z : State) (av : Array Value) (hw : ∀ d ∈ tables_1, d.before av Z = true) (ws : List Jvm.Cond) (a0 : Addr) (k_a0 : ClassId) (x0 : Int32) (x1 : Int32) (x2 : Int32) (x3 : Int32) (x4 : Int32) (x5 : Int32) (x6 : Int32) (x7 : Int32) (h0 : Heap) (n0 : Nat) (Z0 : n0 ≤ h0.size) (V_a0 : Arv Z h0 a0 k_a0 .int (8 : Int32) [(.int x0), (.int x1), (.int x2), (.int x3), (.int x4), (.int x5), (.int x6), (.int x7)] (.int (0 : Int32))) (E_a0 : Exa Z h0 a0 "[I") (S_MODULES : Sta Z h0 "com/example/muster/muster/model/Levels" "MODULES" "I" (.int (8 : Int32))) (l0 : ¬ (x0 < (0 : Int32))) (l1 : ¬ (x1 < (0 : Int32))) (l2 : ¬ (x2 < (0 : Int32))) (l3 : ¬ (x3 < (0 : Int32))) (l4 : ¬ (x4 < (0 : Int32))) (l5 : ¬ (x5 < (0 : Int32))) (l6 : ¬ (x6 < (0 : Int32))) (l7 : ¬ (x7 < (0 : Int32))) (u0 : ¬ ((3 : Int32) < x0)) (u1 : ¬ ((3 : Int32) < x1)) (u2 : ¬ ((3 : Int32) < x2)) (u3 : ¬ ((3 : Int32) < x3)) (u4 : ¬ ((3 : Int32) < x4)) (u5 : ¬ ((3 : Int32) < x5)) (u6 : ¬ ((3 : Int32) < x6)) (u7 : ¬ ((3 : Int32) < x7)) :
    MetFree l (⟨"com/example/muster/muster/model/Levels", "of", "([I)Lcom/example/muster/muster/model/Levels;"⟩ : MethodName) (head1 (Jvm.Cond.code (⟨"com/example/muster/muster/model/Levels", "of", "([I)Lcom/example/muster/muster/model/Levels;"⟩ : MethodName) prog_39_method_2_code 5 (some (.object "com/example/muster/muster/model/Levels")) :: ws) ({ frames := 2, cells := 2, slots := 9, locals := 26 } : Room)) (fun a U => a = #[(.ref a0)] ∧ Z.Warmed39 U.vm ∧ U.heap = h0) (fun _ _ _ _ _ => True) (fun _ U o U' => ∃ v L, o = .returned v ∧ own_Q2 Z a0 k_a0 x0 x1 x2 x3 x4 x5 x6 x7 h0 n0 v U'.heap L ∧ FrameEnd U o U' L ({ frames := 2, cells := 2, slots := 9, locals := 26 } : Room).cells ({ frames := 2, cells := 2, slots := 9, locals := 26 } : Room).slots) := by
  refine MetFree.of_bodySF (plainFor_of_name own_pn1) hisR ?_
  intro p e s m args below meth c s₁ Bd hml0 hP hK
  obtain ⟨rfl, hZ, hh⟩ := hP
  have hx := Bd.exec
  have hby := Bd.bytes
  have hml : c.maxLocals = 5 := hml0
  have hown : s.vm.findClass "com/example/muster/muster/model/Levels" = some m.cls := findClass_of_methodNamed Bd.named
  have hnm := (name_of_methodNamed Bd.named Bd.method).1
  have X0 : Stand p l e ({ frames := 2, cells := 2, slots := 9, locals := 26 } : Room) s m #[(.ref a0)] below meth c s₁ [] 0 0 := Stand.of_body Bd
  have e0 : s₁.heap = h0 := by rw [← hh, Bd.state]; rfl
  have N0 := Fr.nil n0
  have pre0 : ∀ t, Steps p.tables e below (s₁.setTop (mkF m 0 #[oa a0, .unset, .unset, .unset, .unset] [])) t → Steps p.tables e below (s₁.setTop (entryFrame m #[(.ref a0)] 5)) t := fun t k => castTop (own_ef2 m a0) k
  obtain ⟨T1, X1, e1, st1⟩ := getS2 X0 hx hZ hown (host := "") (Or.inl (hw _ (List.mem_of_getElem? (i := 9) rfl))) Via.refl e0 S_MODULES (g := (mkF m 2 #[oa a0, .unset, .unset, .unset, .unset] [(.int (8 : Int32))])) rfl (hb hby own_d2_2)
  have b2 : (8 : Int32) = (8 : Int32) := (by decide)
  have b3 : (0 : Int32) < (8 : Int32) := (by decide)
  have b4 : ¬ (x0 < (0 : Int32)) := l0
  have b5 : ¬ ((3 : Int32) < x0) := u0
  have b6 : (1 : Int32) < (8 : Int32) := (by decide)
  have b7 : ¬ (x1 < (0 : Int32)) := l1
  have b8 : ¬ ((3 : Int32) < x1) := u1
  have b9 : (2 : Int32) < (8 : Int32) := (by decide)
  have b10 : ¬ (x2 < (0 : Int32)) := l2
  have b11 : ¬ ((3 : Int32) < x2) := u2
  have b12 : (3 : Int32) < (8 : Int32) := (by decide)
  have b13 : ¬ (x3 < (0 : Int32)) := l3
  have b14 : ¬ ((3 : Int32) < x3) := u3
  have b15 : (4 : Int32) < (8 : Int32) := (by decide)
  have b16 : ¬ (x4 < (0 : Int32)) := l4
  have b17 : ¬ ((3 : Int32) < x4) := u4
  have b18 : (5 : Int32) < (8 : Int32) := (by decide)
  have b19 : ¬ (x5 < (0 : Int32)) := l5
  have b20 : ¬ ((3 : Int32) < x5) := u5
  have b21 : (6 : Int32) < (8 : Int32) := (by decide)
  have b22 : ¬ (x6 < (0 : Int32)) := l6
  have b23 : ¬ ((3 : Int32) < x6) := u6
  have b24 : (7 : Int32) < (8 : Int32) := (by decide)
  have b25 : ¬ (x7 < (0 : Int32)) := l7
  have b26 : ¬ ((3 : Int32) < x7) := u7
  have b27 : ¬ ((8 : Int32) < (8 : Int32)) := (by decide)
  obtain ⟨T28, h28, X28, e28, E28, A28, D28, -, st28⟩ := newO X1 hx hZ hown (hw _ (List.mem_of_getElem? (i := 11) rfl)) (hw _ (List.mem_of_getElem? (i := 12) rfl)) (hw _ (List.mem_of_getElem? (i := 7) rfl)) e1 (g := (mkF m 75 #[oa a0, oa a0, oi (8 : Int32), oi (8 : Int32), oi x7] [])) rfl (hb hby own_d2_75) (by decide) (by decide)
  obtain ⟨b28, g28⟩ : ∃ z, z = h0.size := ⟨_, rfl⟩
  rw [← g28] at A28 D28 st28
  have g_b28 : n0 ≤ b28 := Nat.le_trans Z0 (Nat.le_of_eq g28.symm)
  have ne29 : a0 ≠ b28 := Nat.ne_of_lt (Nat.lt_of_lt_of_le V_a0.lt (Nat.le_of_eq g28.symm))
  have Z28 : n0 ≤ h28.size := Nat.le_trans Z0 E28.1
  have sz_b28 : h0.size ≤ b28 := Nat.le_trans (Keep.refl h0 []).1 (Nat.le_of_eq g28.symm)
  have K_30 : Keep h0 h28 [] := (Keep.refl h0 []).ext E28
  have F31 := V_a0.ext E28
  have F32 := E_a0.ext E28
  have F33 := S_MODULES.ext E28
  have F_34 : Fld Z h28 b28 "com/example/muster/muster/model/Levels" "byModule" "[I" .null := D28 (Or.inr (hw _ (List.mem_of_getElem? (i := 29) rfl))) (ty := (.array .int)) (by decide)
  obtain ⟨T35, h35, X35, e35, E35, A35, B35, st35⟩ := cloneH X28 hx hZ hown (hw _ (List.mem_of_getElem? (i := 13) rfl)) (hw _ (List.mem_of_getElem? (i := 14) rfl)) (hw _ (List.mem_of_getElem? (i := 18) rfl)) (hw _ (List.mem_of_getElem? (i := 16) rfl)) (hw _ (List.mem_of_getElem? (i := 17) rfl)) (hw _ (List.mem_of_getElem? (i := 19) rfl)) e28 (Arv.arh F31) F32 (g := (mkF m 80 #[oa a0, oa a0, oi (8 : Int32), oi (8 : Int32), oi x7] [(.ref a0), (.ref b28), (.ref b28)])) rfl (by rw [hml]; rfl) rfl (hb hby own_d2_80) (by decide) (W := 2) (by show 2 * 0 + _ ≤ _; exact Nat.le_of_eq rfl) (by decide) (cap := 8) (by decide) (by decide) (by decide)
  obtain ⟨b35, g35⟩ : ∃ z, z = h28.size := ⟨_, rfl⟩
  rw [← g35] at A35 B35 st35
  have g_b35 : n0 ≤ b35 := Nat.le_trans Z28 (Nat.le_of_eq g35.symm)
  have ne36 : a0 ≠ b35 := Nat.ne_of_lt (Nat.lt_of_lt_of_le F31.lt (Nat.le_of_eq g35.symm))
  have ne37 : b28 ≠ b35 := Nat.ne_of_lt (Nat.lt_of_lt_of_le A28.lt (Nat.le_of_eq g35.symm))
  have Z35 : n0 ≤ h35.size := Nat.le_trans Z28 E35.1
  have sz_b35 : h0.size ≤ b35 := Nat.le_trans K_30.1 (Nat.le_of_eq g35.symm)
  have K_38 : Keep h0 h35 [] := K_30.ext E35
  have F39 := F31.ext E35
  have F40 := F32.ext E35
  have F41 := F33.ext E35
  have F42 := A28.ext E35
  have F43 := F_34.ext E35
  have V_44 : Arv Z h35 b35 k_a0 .int (8 : Int32) [(.int x0), (.int x1), (.int x2), (.int x3), (.int x4), (.int x5), (.int x6), (.int x7)] (.int (0 : Int32)) := A35
  obtain ⟨T45, X45, e45, st45⟩ := castY X35 hx hZ hown (hw _ (List.mem_of_getElem? (i := 20) rfl)) e35 (Ins.self B35) (g := (mkF m 83 #[oa a0, oa a0, oi (8 : Int32), oi (8 : Int32), oi x7] [(.ref b35), (.ref b28), (.ref b28)])) rfl rfl (hb hby own_d2_83)
  obtain ⟨_, _, ⟨T46, L46, k46, n46⟩, -, X46, ⟨Lc46, hQ46, l46, y46, z46⟩, st46⟩ := X45.specialBack hx (y := (⟨"com/example/muster/muster/model/Levels", "<init>", "([I)V"⟩ : MethodName)) rfl hown (mvT hZ (hw _ (List.mem_of_getElem? (i := 22) rfl))) (mvT hZ (hw _ (List.mem_of_getElem? (i := 23) rfl))) (mvT hZ (hw _ (List.mem_of_getElem? (i := 24) rfl))) (by decide) (backOf (W := 1) (own_rm3 l Z av hw [] b28 b35 h35 n0 Z35 F42 F43 g_b28) hZ (hw _ (List.mem_of_getElem? (i := 24) rfl)) (hw _ (List.mem_of_getElem? (i := 7) rfl)) (by decide) (by decide)) (g := (mkF m 86 #[oa a0, oa a0, oi (8 : Int32), oi (8 : Int32), oi x7] [(.ref b35), (.ref b28), (.ref b28)])) rfl (by rw [hml]; rfl) (Steps.refl _) (a := b28) (argsL := [(.ref b35)]) (rest := [(.ref b28)]) (lenOf own_pd0 rfl) rfl (by show 2 * 0 + _ ≤ _; exact Nat.le_of_eq rfl) (hb hby own_d2_86) (fun _ _ => ⟨rfl, e45, (by decide : 2 + 0 ≤ _), (by decide : 9 + 0 ≤ _)⟩)
  dsimp only [Pt.U, Pt.locs, Pt.cells, Pt.slots] at X46 l46 y46 z46 st46 hQ46
  have yq46 : k46 = 2 := y46
  have zq46 : n46 = 9 := z46
  subst yq46 zq46
  obtain ⟨rfl, Nq46, Kq46, Oq46_0, Oq46_1⟩ := hQ46
  have N46 : Fr n0 L46 := by rw [l46]; exact Fr.app N0 Nq46
  have Z46 : n0 ≤ T46.heap.size := Nat.le_trans Z35 Kq46.1
  have F47 := F39.keep Kq46 (ninS ne29 nin0)
  have F48 := F40.keep Kq46
  have F49 := F42.keep Kq46
  have F50 := V_44.keep Kq46 (ninS (Ne.symm ne37) nin0)
  have F51 := B35.keep Kq46
  have K_52 : Keep h0 T46.heap [] := K_38.trans Kq46 (allS (Or.inr sz_b28) all0)
  obtain ⟨fs, hr, hrun, hended, hW, hsame⟩ := X46.leave (v := (some (.ref b28))) (fun h => by rw [Bd.returns] at h; cases h)
  refine ⟨_, _, pre0 _ ?_, hrun, hended, _, _, rfl, ?_, ⟨_, rfl⟩, hW, hsame.mono (by decide) (by decide)⟩
  · show oS p e below s₁ m 0 #[oa a0, .unset, .unset, .unset, .unset] [] _
    refine XS.aloadN X0.here hx rfl (hb hby own_d2_0) rfl rfl ?_
    show oS p e below s₁ m 1 #[oa a0, .unset, .unset, .unset, .unset] [(.ref a0)] _
    refine oLen X0 hx hZ e0 V_a0 (hb hby own_d2_1) ?_
    show oS p e below s₁ m 2 #[oa a0, .unset, .unset, .unset, .unset] [(.int (8 : Int32))] _
    refine st1 _ ?_
    show oS p e below T1 m 5 #[oa a0, .unset, .unset, .unset, .unset] [(.int (8 : Int32)), (.int (8 : Int32))] _
    refine XS.icmpYes X1.here hx rfl (pc0 := 5) (pc' := 26) rfl (hb hby own_d2_5) rfl (teq b2).1 (by decide) (by decide) ?_
    show oS p e below T1 m 26 #[oa a0, .unset, .unset, .unset, .unset] [] _
    refine XS.aloadN X1.here hx rfl (hb hby own_d2_26) rfl rfl ?_
    show oS p e below T1 m 27 #[oa a0, .unset, .unset, .unset, .unset] [(.ref a0)] _
    refine XS.astoreN X1.here hx rfl (hb hby own_d2_27) rfl rfl (l' := #[oa a0, oa a0, .unset, .unset, .unset]) rfl ?_
    show oS p e below T1 m 28 #[oa a0, oa a0, .unset, .unset, .unset] [] _
    refine XS.aloadN X1.here hx rfl (hb hby own_d2_28) rfl rfl ?_
    show oS p e below T1 m 29 #[oa a0, oa a0, .unset, .unset, .unset] [(.ref a0)] _
    refine oLen X1 hx hZ e1 V_a0 (hb hby own_d2_29) ?_
    show oS p e below T1 m 30 #[oa a0, oa a0, .unset, .unset, .unset] [(.int (8 : Int32))] _
    refine XS.istoreN X1.here hx rfl (hb hby own_d2_30) rfl (l' := #[oa a0, oa a0, oi (8 : Int32), .unset, .unset]) rfl ?_
    show oS p e below T1 m 31 #[oa a0, oa a0, oi (8 : Int32), .unset, .unset] [] _
    refine XS.iconst X1.here hx rfl (hb hby own_d2_31) ?_
    show oS p e below T1 m 32 #[oa a0, oa a0, oi (8 : Int32), .unset, .unset] [(.int (0 : Int32))] _
    refine XS.istoreN X1.here hx rfl (hb hby own_d2_32) rfl (l' := #[oa a0, oa a0, oi (8 : Int32), oi (0 : Int32), .unset]) rfl ?_
    show oS p e below T1 m 33 #[oa a0, oa a0, oi (8 : Int32), oi (0 : Int32), .unset] [] _
    refine XS.iloadN X1.here hx rfl (hb hby own_d2_33) rfl ?_
    show oS p e below T1 m 34 #[oa a0, oa a0, oi (8 : Int32), oi (0 : Int32), .unset] [(.int (0 : Int32))] _
    refine XS.iloadN X1.here hx rfl (hb hby own_d2_34) rfl ?_
    show oS p e below T1 m 35 #[oa a0, oa a0, oi (8 : Int32), oi (0 : Int32), .unset] [(.int (8 : Int32)), (.int (0 : Int32))] _
    refine XS.icmpNo X1.here hx rfl (hb hby own_d2_35) rfl (tlt b3).2.1 ?_
    show oS p e below T1 m 38 #[oa a0, oa a0, oi (8 : Int32), oi (0 : Int32), .unset] [] _
    refine XS.aloadN X1.here hx rfl (hb hby own_d2_38) rfl rfl ?_
    show oS p e below T1 m 39 #[oa a0, oa a0, oi (8 : Int32), oi (0 : Int32), .unset] [(.ref a0)] _
    refine XS.iloadN X1.here hx rfl (hb hby own_d2_39) rfl ?_
    show oS p e below T1 m 40 #[oa a0, oa a0, oi (8 : Int32), oi (0 : Int32), .unset] [(.int (0 : Int32)), (.ref a0)] _
    refine oLdI X1 hx hZ e1 V_a0 (v := (.int x0)) ⟨by decide, by decide⟩ rfl (hb hby own_d2_40) ?_
    show oS p e below T1 m 41 #[oa a0, oa a0, oi (8 : Int32), oi (0 : Int32), .unset] [(.int x0)] _
    refine XS.istore X1.here hx rfl (hb hby own_d2_41) rfl (l' := #[oa a0, oa a0, oi (8 : Int32), oi (0 : Int32), oi x0]) rfl ?_
    show oS p e below T1 m 43 #[oa a0, oa a0, oi (8 : Int32), oi (0 : Int32), oi x0] [] _
    refine XS.iload X1.here hx rfl (hb hby own_d2_43) rfl ?_
    show oS p e below T1 m 45 #[oa a0, oa a0, oi (8 : Int32), oi (0 : Int32), oi x0] [(.int x0)] _
    refine XS.ifNo X1.here hx rfl (hb hby own_d2_45) rfl ((if0 _ _).trans (flt b4).1) ?_
    show oS p e below T1 m 48 #[oa a0, oa a0, oi (8 : Int32), oi (0 : Int32), oi x0] [] _
    refine XS.iload X1.here hx rfl (hb hby own_d2_48) rfl ?_
    show oS p e below T1 m 50 #[oa a0, oa a0, oi (8 : Int32), oi (0 : Int32), oi x0] [(.int x0)] _
    refine XS.iconst X1.here hx rfl (hb hby own_d2_50) ?_
    show oS p e below T1 m 51 #[oa a0, oa a0, oi (8 : Int32), oi (0 : Int32), oi x0] [(.int (3 : Int32)), (.int x0)] _
    refine XS.icmpYes X1.here hx rfl (pc0 := 51) (pc' := 69) rfl (hb hby own_d2_51) rfl (flt b5).2.2.2 (by decide) (by decide) ?_
    show oS p e below T1 m 69 #[oa a0, oa a0, oi (8 : Int32), oi (0 : Int32), oi x0] [] _
    refine XS.iinc X1.here hx rfl (hb hby own_d2_69) rfl (l' := #[oa a0, oa a0, oi (8 : Int32), oi (1 : Int32), oi x0]) rfl ?_
    show oS p e below T1 m 72 #[oa a0, oa a0, oi (8 : Int32), oi (1 : Int32), oi x0] [] _
    refine XS.goto X1.here hx rfl (pc0 := 72) (pc' := 33) rfl (hb hby own_d2_72) (by decide) (by decide) ?_
    show oS p e below T1 m 33 #[oa a0, oa a0, oi (8 : Int32), oi (1 : Int32), oi x0] [] _
    refine XS.iloadN X1.here hx rfl (hb hby own_d2_33) rfl ?_
    show oS p e below T1 m 34 #[oa a0, oa a0, oi (8 : Int32), oi (1 : Int32), oi x0] [(.int (1 : Int32))] _
    refine XS.iloadN X1.here hx rfl (hb hby own_d2_34) rfl ?_
    show oS p e below T1 m 35 #[oa a0, oa a0, oi (8 : Int32), oi (1 : Int32), oi x0] [(.int (8 : Int32)), (.int (1 : Int32))] _
    refine XS.icmpNo X1.here hx rfl (hb hby own_d2_35) rfl (tlt b6).2.1 ?_
    show oS p e below T1 m 38 #[oa a0, oa a0, oi (8 : Int32), oi (1 : Int32), oi x0] [] _
    refine XS.aloadN X1.here hx rfl (hb hby own_d2_38) rfl rfl ?_
    show oS p e below T1 m 39 #[oa a0, oa a0, oi (8 : Int32), oi (1 : Int32), oi x0] [(.ref a0)] _
    refine XS.iloadN X1.here hx rfl (hb hby own_d2_39) rfl ?_
    show oS p e below T1 m 40 #[oa a0, oa a0, oi (8 : Int32), oi (1 : Int32), oi x0] [(.int (1 : Int32)), (.ref a0)] _
    refine oLdI X1 hx hZ e1 V_a0 (v := (.int x1)) ⟨by decide, by decide⟩ rfl (hb hby own_d2_40) ?_
    show oS p e below T1 m 41 #[oa a0, oa a0, oi (8 : Int32), oi (1 : Int32), oi x0] [(.int x1)] _
    refine XS.istore X1.here hx rfl (hb hby own_d2_41) rfl (l' := #[oa a0, oa a0, oi (8 : Int32), oi (1 : Int32), oi x1]) rfl ?_
    show oS p e below T1 m 43 #[oa a0, oa a0, oi (8 : Int32), oi (1 : Int32), oi x1] [] _
    refine XS.iload X1.here hx rfl (hb hby own_d2_43) rfl ?_
    show oS p e below T1 m 45 #[oa a0, oa a0, oi (8 : Int32), oi (1 : Int32), oi x1] [(.int x1)] _
    refine XS.ifNo X1.here hx rfl (hb hby own_d2_45) rfl ((if0 _ _).trans (flt b7).1) ?_
    show oS p e below T1 m 48 #[oa a0, oa a0, oi (8 : Int32), oi (1 : Int32), oi x1] [] _
    refine XS.iload X1.here hx rfl (hb hby own_d2_48) rfl ?_
    show oS p e below T1 m 50 #[oa a0, oa a0, oi (8 : Int32), oi (1 : Int32), oi x1] [(.int x1)] _
    refine XS.iconst X1.here hx rfl (hb hby own_d2_50) ?_
    show oS p e below T1 m 51 #[oa a0, oa a0, oi (8 : Int32), oi (1 : Int32), oi x1] [(.int (3 : Int32)), (.int x1)] _
    refine XS.icmpYes X1.here hx rfl (pc0 := 51) (pc' := 69) rfl (hb hby own_d2_51) rfl (flt b8).2.2.2 (by decide) (by decide) ?_
    show oS p e below T1 m 69 #[oa a0, oa a0, oi (8 : Int32), oi (1 : Int32), oi x1] [] _
    refine XS.iinc X1.here hx rfl (hb hby own_d2_69) rfl (l' := #[oa a0, oa a0, oi (8 : Int32), oi (2 : Int32), oi x1]) rfl ?_
    show oS p e below T1 m 72 #[oa a0, oa a0, oi (8 : Int32), oi (2 : Int32), oi x1] [] _
    refine XS.goto X1.here hx rfl (pc0 := 72) (pc' := 33) rfl (hb hby own_d2_72) (by decide) (by decide) ?_
    show oS p e below T1 m 33 #[oa a0, oa a0, oi (8 : Int32), oi (2 : Int32), oi x1] [] _
    refine XS.iloadN X1.here hx rfl (hb hby own_d2_33) rfl ?_
    show oS p e below T1 m 34 #[oa a0, oa a0, oi (8 : Int32), oi (2 : Int32), oi x1] [(.int (2 : Int32))] _
    refine XS.iloadN X1.here hx rfl (hb hby own_d2_34) rfl ?_
    show oS p e below T1 m 35 #[oa a0, oa a0, oi (8 : Int32), oi (2 : Int32), oi x1] [(.int (8 : Int32)), (.int (2 : Int32))] _
    refine XS.icmpNo X1.here hx rfl (hb hby own_d2_35) rfl (tlt b9).2.1 ?_
    show oS p e below T1 m 38 #[oa a0, oa a0, oi (8 : Int32), oi (2 : Int32), oi x1] [] _
    refine XS.aloadN X1.here hx rfl (hb hby own_d2_38) rfl rfl ?_
    show oS p e below T1 m 39 #[oa a0, oa a0, oi (8 : Int32), oi (2 : Int32), oi x1] [(.ref a0)] _
    refine XS.iloadN X1.here hx rfl (hb hby own_d2_39) rfl ?_
    show oS p e below T1 m 40 #[oa a0, oa a0, oi (8 : Int32), oi (2 : Int32), oi x1] [(.int (2 : Int32)), (.ref a0)] _
    refine oLdI X1 hx hZ e1 V_a0 (v := (.int x2)) ⟨by decide, by decide⟩ rfl (hb hby own_d2_40) ?_
    show oS p e below T1 m 41 #[oa a0, oa a0, oi (8 : Int32), oi (2 : Int32), oi x1] [(.int x2)] _
    refine XS.istore X1.here hx rfl (hb hby own_d2_41) rfl (l' := #[oa a0, oa a0, oi (8 : Int32), oi (2 : Int32), oi x2]) rfl ?_
    show oS p e below T1 m 43 #[oa a0, oa a0, oi (8 : Int32), oi (2 : Int32), oi x2] [] _
    refine XS.iload X1.here hx rfl (hb hby own_d2_43) rfl ?_
    show oS p e below T1 m 45 #[oa a0, oa a0, oi (8 : Int32), oi (2 : Int32), oi x2] [(.int x2)] _
    refine XS.ifNo X1.here hx rfl (hb hby own_d2_45) rfl ((if0 _ _).trans (flt b10).1) ?_
    show oS p e below T1 m 48 #[oa a0, oa a0, oi (8 : Int32), oi (2 : Int32), oi x2] [] _
    refine XS.iload X1.here hx rfl (hb hby own_d2_48) rfl ?_
    show oS p e below T1 m 50 #[oa a0, oa a0, oi (8 : Int32), oi (2 : Int32), oi x2] [(.int x2)] _
    refine XS.iconst X1.here hx rfl (hb hby own_d2_50) ?_
    show oS p e below T1 m 51 #[oa a0, oa a0, oi (8 : Int32), oi (2 : Int32), oi x2] [(.int (3 : Int32)), (.int x2)] _
    refine XS.icmpYes X1.here hx rfl (pc0 := 51) (pc' := 69) rfl (hb hby own_d2_51) rfl (flt b11).2.2.2 (by decide) (by decide) ?_
    show oS p e below T1 m 69 #[oa a0, oa a0, oi (8 : Int32), oi (2 : Int32), oi x2] [] _
    refine XS.iinc X1.here hx rfl (hb hby own_d2_69) rfl (l' := #[oa a0, oa a0, oi (8 : Int32), oi (3 : Int32), oi x2]) rfl ?_
    show oS p e below T1 m 72 #[oa a0, oa a0, oi (8 : Int32), oi (3 : Int32), oi x2] [] _
    refine XS.goto X1.here hx rfl (pc0 := 72) (pc' := 33) rfl (hb hby own_d2_72) (by decide) (by decide) ?_
    show oS p e below T1 m 33 #[oa a0, oa a0, oi (8 : Int32), oi (3 : Int32), oi x2] [] _
    refine XS.iloadN X1.here hx rfl (hb hby own_d2_33) rfl ?_
    show oS p e below T1 m 34 #[oa a0, oa a0, oi (8 : Int32), oi (3 : Int32), oi x2] [(.int (3 : Int32))] _
    refine XS.iloadN X1.here hx rfl (hb hby own_d2_34) rfl ?_
    show oS p e below T1 m 35 #[oa a0, oa a0, oi (8 : Int32), oi (3 : Int32), oi x2] [(.int (8 : Int32)), (.int (3 : Int32))] _
    refine XS.icmpNo X1.here hx rfl (hb hby own_d2_35) rfl (tlt b12).2.1 ?_
    show oS p e below T1 m 38 #[oa a0, oa a0, oi (8 : Int32), oi (3 : Int32), oi x2] [] _
    refine XS.aloadN X1.here hx rfl (hb hby own_d2_38) rfl rfl ?_
    show oS p e below T1 m 39 #[oa a0, oa a0, oi (8 : Int32), oi (3 : Int32), oi x2] [(.ref a0)] _
    refine XS.iloadN X1.here hx rfl (hb hby own_d2_39) rfl ?_
    show oS p e below T1 m 40 #[oa a0, oa a0, oi (8 : Int32), oi (3 : Int32), oi x2] [(.int (3 : Int32)), (.ref a0)] _
    refine oLdI X1 hx hZ e1 V_a0 (v := (.int x3)) ⟨by decide, by decide⟩ rfl (hb hby own_d2_40) ?_
    show oS p e below T1 m 41 #[oa a0, oa a0, oi (8 : Int32), oi (3 : Int32), oi x2] [(.int x3)] _
    refine XS.istore X1.here hx rfl (hb hby own_d2_41) rfl (l' := #[oa a0, oa a0, oi (8 : Int32), oi (3 : Int32), oi x3]) rfl ?_
    show oS p e below T1 m 43 #[oa a0, oa a0, oi (8 : Int32), oi (3 : Int32), oi x3] [] _
    refine XS.iload X1.here hx rfl (hb hby own_d2_43) rfl ?_
    show oS p e below T1 m 45 #[oa a0, oa a0, oi (8 : Int32), oi (3 : Int32), oi x3] [(.int x3)] _
    refine XS.ifNo X1.here hx rfl (hb hby own_d2_45) rfl ((if0 _ _).trans (flt b13).1) ?_
    show oS p e below T1 m 48 #[oa a0, oa a0, oi (8 : Int32), oi (3 : Int32), oi x3] [] _
    refine XS.iload X1.here hx rfl (hb hby own_d2_48) rfl ?_
    show oS p e below T1 m 50 #[oa a0, oa a0, oi (8 : Int32), oi (3 : Int32), oi x3] [(.int x3)] _
    refine XS.iconst X1.here hx rfl (hb hby own_d2_50) ?_
    show oS p e below T1 m 51 #[oa a0, oa a0, oi (8 : Int32), oi (3 : Int32), oi x3] [(.int (3 : Int32)), (.int x3)] _
    refine XS.icmpYes X1.here hx rfl (pc0 := 51) (pc' := 69) rfl (hb hby own_d2_51) rfl (flt b14).2.2.2 (by decide) (by decide) ?_
    show oS p e below T1 m 69 #[oa a0, oa a0, oi (8 : Int32), oi (3 : Int32), oi x3] [] _
    refine XS.iinc X1.here hx rfl (hb hby own_d2_69) rfl (l' := #[oa a0, oa a0, oi (8 : Int32), oi (4 : Int32), oi x3]) rfl ?_
    show oS p e below T1 m 72 #[oa a0, oa a0, oi (8 : Int32), oi (4 : Int32), oi x3] [] _
    refine XS.goto X1.here hx rfl (pc0 := 72) (pc' := 33) rfl (hb hby own_d2_72) (by decide) (by decide) ?_
    show oS p e below T1 m 33 #[oa a0, oa a0, oi (8 : Int32), oi (4 : Int32), oi x3] [] _
    refine XS.iloadN X1.here hx rfl (hb hby own_d2_33) rfl ?_
    show oS p e below T1 m 34 #[oa a0, oa a0, oi (8 : Int32), oi (4 : Int32), oi x3] [(.int (4 : Int32))] _
    refine XS.iloadN X1.here hx rfl (hb hby own_d2_34) rfl ?_
    show oS p e below T1 m 35 #[oa a0, oa a0, oi (8 : Int32), oi (4 : Int32), oi x3] [(.int (8 : Int32)), (.int (4 : Int32))] _
    refine XS.icmpNo X1.here hx rfl (hb hby own_d2_35) rfl (tlt b15).2.1 ?_
    show oS p e below T1 m 38 #[oa a0, oa a0, oi (8 : Int32), oi (4 : Int32), oi x3] [] _
    refine XS.aloadN X1.here hx rfl (hb hby own_d2_38) rfl rfl ?_
    show oS p e below T1 m 39 #[oa a0, oa a0, oi (8 : Int32), oi (4 : Int32), oi x3] [(.ref a0)] _
    refine XS.iloadN X1.here hx rfl (hb hby own_d2_39) rfl ?_
    show oS p e below T1 m 40 #[oa a0, oa a0, oi (8 : Int32), oi (4 : Int32), oi x3] [(.int (4 : Int32)), (.ref a0)] _
    refine oLdI X1 hx hZ e1 V_a0 (v := (.int x4)) ⟨by decide, by decide⟩ rfl (hb hby own_d2_40) ?_
    show oS p e below T1 m 41 #[oa a0, oa a0, oi (8 : Int32), oi (4 : Int32), oi x3] [(.int x4)] _
    refine XS.istore X1.here hx rfl (hb hby own_d2_41) rfl (l' := #[oa a0, oa a0, oi (8 : Int32), oi (4 : Int32), oi x4]) rfl ?_
    show oS p e below T1 m 43 #[oa a0, oa a0, oi (8 : Int32), oi (4 : Int32), oi x4] [] _
    refine XS.iload X1.here hx rfl (hb hby own_d2_43) rfl ?_
    show oS p e below T1 m 45 #[oa a0, oa a0, oi (8 : Int32), oi (4 : Int32), oi x4] [(.int x4)] _
    refine XS.ifNo X1.here hx rfl (hb hby own_d2_45) rfl ((if0 _ _).trans (flt b16).1) ?_
    show oS p e below T1 m 48 #[oa a0, oa a0, oi (8 : Int32), oi (4 : Int32), oi x4] [] _
    refine XS.iload X1.here hx rfl (hb hby own_d2_48) rfl ?_
    show oS p e below T1 m 50 #[oa a0, oa a0, oi (8 : Int32), oi (4 : Int32), oi x4] [(.int x4)] _
    refine XS.iconst X1.here hx rfl (hb hby own_d2_50) ?_
    show oS p e below T1 m 51 #[oa a0, oa a0, oi (8 : Int32), oi (4 : Int32), oi x4] [(.int (3 : Int32)), (.int x4)] _
    refine XS.icmpYes X1.here hx rfl (pc0 := 51) (pc' := 69) rfl (hb hby own_d2_51) rfl (flt b17).2.2.2 (by decide) (by decide) ?_
    show oS p e below T1 m 69 #[oa a0, oa a0, oi (8 : Int32), oi (4 : Int32), oi x4] [] _
    refine XS.iinc X1.here hx rfl (hb hby own_d2_69) rfl (l' := #[oa a0, oa a0, oi (8 : Int32), oi (5 : Int32), oi x4]) rfl ?_
    show oS p e below T1 m 72 #[oa a0, oa a0, oi (8 : Int32), oi (5 : Int32), oi x4] [] _
    refine XS.goto X1.here hx rfl (pc0 := 72) (pc' := 33) rfl (hb hby own_d2_72) (by decide) (by decide) ?_
    show oS p e below T1 m 33 #[oa a0, oa a0, oi (8 : Int32), oi (5 : Int32), oi x4] [] _
    refine XS.iloadN X1.here hx rfl (hb hby own_d2_33) rfl ?_
    show oS p e below T1 m 34 #[oa a0, oa a0, oi (8 : Int32), oi (5 : Int32), oi x4] [(.int (5 : Int32))] _
    refine XS.iloadN X1.here hx rfl (hb hby own_d2_34) rfl ?_
    show oS p e below T1 m 35 #[oa a0, oa a0, oi (8 : Int32), oi (5 : Int32), oi x4] [(.int (8 : Int32)), (.int (5 : Int32))] _
    refine XS.icmpNo X1.here hx rfl (hb hby own_d2_35) rfl (tlt b18).2.1 ?_
    show oS p e below T1 m 38 #[oa a0, oa a0, oi (8 : Int32), oi (5 : Int32), oi x4] [] _
    refine XS.aloadN X1.here hx rfl (hb hby own_d2_38) rfl rfl ?_
    show oS p e below T1 m 39 #[oa a0, oa a0, oi (8 : Int32), oi (5 : Int32), oi x4] [(.ref a0)] _
    refine XS.iloadN X1.here hx rfl (hb hby own_d2_39) rfl ?_
    show oS p e below T1 m 40 #[oa a0, oa a0, oi (8 : Int32), oi (5 : Int32), oi x4] [(.int (5 : Int32)), (.ref a0)] _
    refine oLdI X1 hx hZ e1 V_a0 (v := (.int x5)) ⟨by decide, by decide⟩ rfl (hb hby own_d2_40) ?_
    show oS p e below T1 m 41 #[oa a0, oa a0, oi (8 : Int32), oi (5 : Int32), oi x4] [(.int x5)] _
    refine XS.istore X1.here hx rfl (hb hby own_d2_41) rfl (l' := #[oa a0, oa a0, oi (8 : Int32), oi (5 : Int32), oi x5]) rfl ?_
    show oS p e below T1 m 43 #[oa a0, oa a0, oi (8 : Int32), oi (5 : Int32), oi x5] [] _
    refine XS.iload X1.here hx rfl (hb hby own_d2_43) rfl ?_
    show oS p e below T1 m 45 #[oa a0, oa a0, oi (8 : Int32), oi (5 : Int32), oi x5] [(.int x5)] _
    refine XS.ifNo X1.here hx rfl (hb hby own_d2_45) rfl ((if0 _ _).trans (flt b19).1) ?_
    show oS p e below T1 m 48 #[oa a0, oa a0, oi (8 : Int32), oi (5 : Int32), oi x5] [] _
    refine XS.iload X1.here hx rfl (hb hby own_d2_48) rfl ?_
    show oS p e below T1 m 50 #[oa a0, oa a0, oi (8 : Int32), oi (5 : Int32), oi x5] [(.int x5)] _
    refine XS.iconst X1.here hx rfl (hb hby own_d2_50) ?_
    show oS p e below T1 m 51 #[oa a0, oa a0, oi (8 : Int32), oi (5 : Int32), oi x5] [(.int (3 : Int32)), (.int x5)] _
    refine XS.icmpYes X1.here hx rfl (pc0 := 51) (pc' := 69) rfl (hb hby own_d2_51) rfl (flt b20).2.2.2 (by decide) (by decide) ?_
    show oS p e below T1 m 69 #[oa a0, oa a0, oi (8 : Int32), oi (5 : Int32), oi x5] [] _
    refine XS.iinc X1.here hx rfl (hb hby own_d2_69) rfl (l' := #[oa a0, oa a0, oi (8 : Int32), oi (6 : Int32), oi x5]) rfl ?_
    show oS p e below T1 m 72 #[oa a0, oa a0, oi (8 : Int32), oi (6 : Int32), oi x5] [] _
    refine XS.goto X1.here hx rfl (pc0 := 72) (pc' := 33) rfl (hb hby own_d2_72) (by decide) (by decide) ?_
    show oS p e below T1 m 33 #[oa a0, oa a0, oi (8 : Int32), oi (6 : Int32), oi x5] [] _
    refine XS.iloadN X1.here hx rfl (hb hby own_d2_33) rfl ?_
    show oS p e below T1 m 34 #[oa a0, oa a0, oi (8 : Int32), oi (6 : Int32), oi x5] [(.int (6 : Int32))] _
    refine XS.iloadN X1.here hx rfl (hb hby own_d2_34) rfl ?_
    show oS p e below T1 m 35 #[oa a0, oa a0, oi (8 : Int32), oi (6 : Int32), oi x5] [(.int (8 : Int32)), (.int (6 : Int32))] _
    refine XS.icmpNo X1.here hx rfl (hb hby own_d2_35) rfl (tlt b21).2.1 ?_
    show oS p e below T1 m 38 #[oa a0, oa a0, oi (8 : Int32), oi (6 : Int32), oi x5] [] _
    refine XS.aloadN X1.here hx rfl (hb hby own_d2_38) rfl rfl ?_
    show oS p e below T1 m 39 #[oa a0, oa a0, oi (8 : Int32), oi (6 : Int32), oi x5] [(.ref a0)] _
    refine XS.iloadN X1.here hx rfl (hb hby own_d2_39) rfl ?_
    show oS p e below T1 m 40 #[oa a0, oa a0, oi (8 : Int32), oi (6 : Int32), oi x5] [(.int (6 : Int32)), (.ref a0)] _
    refine oLdI X1 hx hZ e1 V_a0 (v := (.int x6)) ⟨by decide, by decide⟩ rfl (hb hby own_d2_40) ?_
    show oS p e below T1 m 41 #[oa a0, oa a0, oi (8 : Int32), oi (6 : Int32), oi x5] [(.int x6)] _
    refine XS.istore X1.here hx rfl (hb hby own_d2_41) rfl (l' := #[oa a0, oa a0, oi (8 : Int32), oi (6 : Int32), oi x6]) rfl ?_
    show oS p e below T1 m 43 #[oa a0, oa a0, oi (8 : Int32), oi (6 : Int32), oi x6] [] _
    refine XS.iload X1.here hx rfl (hb hby own_d2_43) rfl ?_
    show oS p e below T1 m 45 #[oa a0, oa a0, oi (8 : Int32), oi (6 : Int32), oi x6] [(.int x6)] _
    refine XS.ifNo X1.here hx rfl (hb hby own_d2_45) rfl ((if0 _ _).trans (flt b22).1) ?_
    show oS p e below T1 m 48 #[oa a0, oa a0, oi (8 : Int32), oi (6 : Int32), oi x6] [] _
    refine XS.iload X1.here hx rfl (hb hby own_d2_48) rfl ?_
    show oS p e below T1 m 50 #[oa a0, oa a0, oi (8 : Int32), oi (6 : Int32), oi x6] [(.int x6)] _
    refine XS.iconst X1.here hx rfl (hb hby own_d2_50) ?_
    show oS p e below T1 m 51 #[oa a0, oa a0, oi (8 : Int32), oi (6 : Int32), oi x6] [(.int (3 : Int32)), (.int x6)] _
    refine XS.icmpYes X1.here hx rfl (pc0 := 51) (pc' := 69) rfl (hb hby own_d2_51) rfl (flt b23).2.2.2 (by decide) (by decide) ?_
    show oS p e below T1 m 69 #[oa a0, oa a0, oi (8 : Int32), oi (6 : Int32), oi x6] [] _
    refine XS.iinc X1.here hx rfl (hb hby own_d2_69) rfl (l' := #[oa a0, oa a0, oi (8 : Int32), oi (7 : Int32), oi x6]) rfl ?_
    show oS p e below T1 m 72 #[oa a0, oa a0, oi (8 : Int32), oi (7 : Int32), oi x6] [] _
    refine XS.goto X1.here hx rfl (pc0 := 72) (pc' := 33) rfl (hb hby own_d2_72) (by decide) (by decide) ?_
    show oS p e below T1 m 33 #[oa a0, oa a0, oi (8 : Int32), oi (7 : Int32), oi x6] [] _
    refine XS.iloadN X1.here hx rfl (hb hby own_d2_33) rfl ?_
    show oS p e below T1 m 34 #[oa a0, oa a0, oi (8 : Int32), oi (7 : Int32), oi x6] [(.int (7 : Int32))] _
    refine XS.iloadN X1.here hx rfl (hb hby own_d2_34) rfl ?_
    show oS p e below T1 m 35 #[oa a0, oa a0, oi (8 : Int32), oi (7 : Int32), oi x6] [(.int (8 : Int32)), (.int (7 : Int32))] _
    refine XS.icmpNo X1.here hx rfl (hb hby own_d2_35) rfl (tlt b24).2.1 ?_
    show oS p e below T1 m 38 #[oa a0, oa a0, oi (8 : Int32), oi (7 : Int32), oi x6] [] _
    refine XS.aloadN X1.here hx rfl (hb hby own_d2_38) rfl rfl ?_
    show oS p e below T1 m 39 #[oa a0, oa a0, oi (8 : Int32), oi (7 : Int32), oi x6] [(.ref a0)] _
    refine XS.iloadN X1.here hx rfl (hb hby own_d2_39) rfl ?_
    show oS p e below T1 m 40 #[oa a0, oa a0, oi (8 : Int32), oi (7 : Int32), oi x6] [(.int (7 : Int32)), (.ref a0)] _
    refine oLdI X1 hx hZ e1 V_a0 (v := (.int x7)) ⟨by decide, by decide⟩ rfl (hb hby own_d2_40) ?_
    show oS p e below T1 m 41 #[oa a0, oa a0, oi (8 : Int32), oi (7 : Int32), oi x6] [(.int x7)] _
    refine XS.istore X1.here hx rfl (hb hby own_d2_41) rfl (l' := #[oa a0, oa a0, oi (8 : Int32), oi (7 : Int32), oi x7]) rfl ?_
    show oS p e below T1 m 43 #[oa a0, oa a0, oi (8 : Int32), oi (7 : Int32), oi x7] [] _
    refine XS.iload X1.here hx rfl (hb hby own_d2_43) rfl ?_
    show oS p e below T1 m 45 #[oa a0, oa a0, oi (8 : Int32), oi (7 : Int32), oi x7] [(.int x7)] _
    refine XS.ifNo X1.here hx rfl (hb hby own_d2_45) rfl ((if0 _ _).trans (flt b25).1) ?_
    show oS p e below T1 m 48 #[oa a0, oa a0, oi (8 : Int32), oi (7 : Int32), oi x7] [] _
    refine XS.iload X1.here hx rfl (hb hby own_d2_48) rfl ?_
    show oS p e below T1 m 50 #[oa a0, oa a0, oi (8 : Int32), oi (7 : Int32), oi x7] [(.int x7)] _
    refine XS.iconst X1.here hx rfl (hb hby own_d2_50) ?_
    show oS p e below T1 m 51 #[oa a0, oa a0, oi (8 : Int32), oi (7 : Int32), oi x7] [(.int (3 : Int32)), (.int x7)] _
    refine XS.icmpYes X1.here hx rfl (pc0 := 51) (pc' := 69) rfl (hb hby own_d2_51) rfl (flt b26).2.2.2 (by decide) (by decide) ?_
    show oS p e below T1 m 69 #[oa a0, oa a0, oi (8 : Int32), oi (7 : Int32), oi x7] [] _
    refine XS.iinc X1.here hx rfl (hb hby own_d2_69) rfl (l' := #[oa a0, oa a0, oi (8 : Int32), oi (8 : Int32), oi x7]) rfl ?_
    show oS p e below T1 m 72 #[oa a0, oa a0, oi (8 : Int32), oi (8 : Int32), oi x7] [] _
    refine XS.goto X1.here hx rfl (pc0 := 72) (pc' := 33) rfl (hb hby own_d2_72) (by decide) (by decide) ?_
    show oS p e below T1 m 33 #[oa a0, oa a0, oi (8 : Int32), oi (8 : Int32), oi x7] [] _
    refine XS.iloadN X1.here hx rfl (hb hby own_d2_33) rfl ?_
    show oS p e below T1 m 34 #[oa a0, oa a0, oi (8 : Int32), oi (8 : Int32), oi x7] [(.int (8 : Int32))] _
    refine XS.iloadN X1.here hx rfl (hb hby own_d2_34) rfl ?_
    show oS p e below T1 m 35 #[oa a0, oa a0, oi (8 : Int32), oi (8 : Int32), oi x7] [(.int (8 : Int32)), (.int (8 : Int32))] _
    refine XS.icmpYes X1.here hx rfl (pc0 := 35) (pc' := 75) rfl (hb hby own_d2_35) rfl (flt b27).2.1 (by decide) (by decide) ?_
    show oS p e below T1 m 75 #[oa a0, oa a0, oi (8 : Int32), oi (8 : Int32), oi x7] [] _
    refine st28 _ ?_
    show oS p e below T28 m 78 #[oa a0, oa a0, oi (8 : Int32), oi (8 : Int32), oi x7] [(.ref b28)] _
    refine XS.dup X28.here hx rfl (hb hby own_d2_78) rfl rfl ?_
    show oS p e below T28 m 79 #[oa a0, oa a0, oi (8 : Int32), oi (8 : Int32), oi x7] [(.ref b28), (.ref b28)] _
    refine XS.aloadN X28.here hx rfl (hb hby own_d2_79) rfl rfl ?_
    show oS p e below T28 m 80 #[oa a0, oa a0, oi (8 : Int32), oi (8 : Int32), oi x7] [(.ref a0), (.ref b28), (.ref b28)] _
    refine st35 _ ?_
    show oS p e below T35 m 83 #[oa a0, oa a0, oi (8 : Int32), oi (8 : Int32), oi x7] [(.ref b35), (.ref b28), (.ref b28)] _
    refine st45 _ ?_
    show oS p e below T45 m 86 #[oa a0, oa a0, oi (8 : Int32), oi (8 : Int32), oi x7] [(.ref b35), (.ref b28), (.ref b28)] _
    refine st46.trans ?_
    show oS p e below T46 m 89 #[oa a0, oa a0, oi (8 : Int32), oi (8 : Int32), oi x7] [(.ref b28)] _
    exact retOut X46 hx Bd.returns rfl (Or.inr (Or.inr (Or.inr (Or.inr ⟨rfl, rfl, rfl⟩)))) (hb hby own_d2_89) hr
  · show own_Q2 Z a0 k_a0 x0 x1 x2 x3 x4 x5 x6 x7 h0 n0 _ T46.heap _
    exact ⟨b28, b35, k_a0, rfl, N46, K_52, sz_b28, sz_b35, Oq46_0, Oq46_1, F50⟩
theorem own_pn2 : plainName "java/lang/Enum" = true := by first | (simp [plainName, overriddenIn]; done) | decide +kernel
theorem own_d6_0 : decode jdk_37_method_2_code 0 = .ok (.aload_n 0, 1) := by decide +kernel
theorem own_d6_1 : decode jdk_37_method_2_code 1 = .ok (.getfield 7, 3) := by decide +kernel
theorem own_d6_4 : decode jdk_37_method_2_code 4 = .ok (.ireturn, 1) := by decide +kernel
theorem own_ef6 (m : MethodId) (a0 : Addr) : entryFrame m #[(.ref a0)] 1 = mkF m 0 #[oa a0] [] := by first | (simp [entryFrame, mkF, argsToLocals, Value.category]; done) | rfl
def own_f6 (w : Int32) : Int32 := w
def own_Q6 (Z : State) (a0 : Addr) (w : Int32) (h0 : Heap) (n0 : Nat) (v : Option Value) (h : Heap) (L : List Loc) : Prop := v = some (Value.int (own_f6 w)) ∧ Fr n0 L ∧ h = h0
set_option maxRecDepth 65536 in
set_option maxHeartbeats 40000000 in
theorem own_rm6 (l : Launch) (Z : State) (av : Array Value) (hw : ∀ d ∈ tables_1, d.before av Z = true) (ws : List Jvm.Cond) (a0 : Addr) (w : Int32) (h0 : Heap) (n0 : Nat) (Z0 : n0 ≤ h0.size) (F_ordinal_a0 : Fld Z h0 a0 "java/lang/Enum" "ordinal" "I" (.int w)) :
    MetFree l (⟨"java/lang/Enum", "ordinal", "()I"⟩ : MethodName) (head1 (Jvm.Cond.code (⟨"java/lang/Enum", "ordinal", "()I"⟩ : MethodName) jdk_37_method_2_code 1 (some .int) :: ws) ({ frames := 0, cells := 0, slots := 0, locals := 0 } : Room)) (fun a U => a = #[(.ref a0)] ∧ Z.Warmed39 U.vm ∧ U.heap = h0) (fun _ _ _ _ _ => True) (fun _ U o U' => ∃ v L, o = .returned v ∧ own_Q6 Z a0 w h0 n0 v U'.heap L ∧ FrameEnd U o U' L ({ frames := 0, cells := 0, slots := 0, locals := 0 } : Room).cells ({ frames := 0, cells := 0, slots := 0, locals := 0 } : Room).slots) := by
  refine MetFree.of_bodySF (plainFor_of_name own_pn2) hisR ?_
  intro p e s m args below meth c s₁ Bd hml0 hP hK
  obtain ⟨rfl, hZ, hh⟩ := hP
  have hx := Bd.exec
  have hby := Bd.bytes
  have hml : c.maxLocals = 1 := hml0
  have hown : s.vm.findClass "java/lang/Enum" = some m.cls := findClass_of_methodNamed Bd.named
  have hnm := (name_of_methodNamed Bd.named Bd.method).1
  have X0 : Stand p l e ({ frames := 0, cells := 0, slots := 0, locals := 0 } : Room) s m #[(.ref a0)] below meth c s₁ [] 0 0 := Stand.of_body Bd
  have e0 : s₁.heap = h0 := by rw [← hh, Bd.state]; rfl
  have N0 := Fr.nil n0
  have pre0 : ∀ t, Steps p.tables e below (s₁.setTop (mkF m 0 #[oa a0] [])) t → Steps p.tables e below (s₁.setTop (entryFrame m #[(.ref a0)] 1)) t := fun t k => castTop (own_ef6 m a0) k
  obtain ⟨T1, X1, e1, st1⟩ := getF X0 hx hZ hown (host := "") (Or.inl (hw _ (List.mem_of_getElem? (i := 45) rfl))) Via.refl e0 F_ordinal_a0 (g := (mkF m 1 #[oa a0] [(.ref a0)])) rfl rfl (hb hby own_d6_1)
  obtain ⟨fs, hr, hrun, hended, hW, hsame⟩ := X1.leave (v := (some (.int w))) (fun h => by rw [Bd.returns] at h; cases h)
  refine ⟨_, _, pre0 _ ?_, hrun, hended, _, _, rfl, ?_, ⟨_, rfl⟩, hW, hsame.mono (by decide) (by decide)⟩
  · show oS p e below s₁ m 0 #[oa a0] [] _
    refine XS.aloadN X0.here hx rfl (hb hby own_d6_0) rfl rfl ?_
    show oS p e below s₁ m 1 #[oa a0] [(.ref a0)] _
    refine st1 _ ?_
    show oS p e below T1 m 4 #[oa a0] [(.int w)] _
    exact retOut X1 hx Bd.returns rfl (Or.inl ⟨rfl, Or.inl rfl, _, rfl⟩) (hb hby own_d6_4) hr
  · show own_Q6 Z a0 w h0 n0 _ T1.heap _
    rw [e1]
    exact ⟨congrArg (fun z => some (Value.int z)) (by rw [own_f6]), N0, rfl⟩
theorem own_pd1 : parseMethodDescriptor "()I" = some ⟨[], some .int⟩ := by decide +kernel
theorem own_d5_0 : decode prog_39_method_4_code 0 = .ok (.aload_n 0, 1) := by decide +kernel
theorem own_d5_1 : decode prog_39_method_4_code 1 = .ok (.getfield 7, 3) := by decide +kernel
theorem own_d5_4 : decode prog_39_method_4_code 4 = .ok (.aload_n 1, 1) := by decide +kernel
theorem own_d5_5 : decode prog_39_method_4_code 5 = .ok (.invokevirtual 47, 3) := by decide +kernel
theorem own_d5_8 : decode prog_39_method_4_code 8 = .ok (.iaload, 1) := by decide +kernel
theorem own_d5_9 : decode prog_39_method_4_code 9 = .ok (.ireturn, 1) := by decide +kernel
theorem own_ef5_0 (m : MethodId) (a0 : Addr) (a1 : Addr) : entryFrame m #[(.ref a0), (.ref a1)] 2 = mkF m 0 #[oa a0, oa a1] [] := by first | (simp [entryFrame, mkF, argsToLocals, Value.category]; done) | rfl
def own_f5_0 (x0 : Int32) : Int32 := x0
def own_Q5_0 (Z : State) (a0 : Addr) (a1 : Addr) (b : Addr) (k_b : ClassId) (x0 : Int32) (x1 : Int32) (x2 : Int32) (x3 : Int32) (x4 : Int32) (x5 : Int32) (x6 : Int32) (x7 : Int32) (h0 : Heap) (n0 : Nat) (v : Option Value) (h : Heap) (L : List Loc) : Prop := v = some (Value.int (own_f5_0 x0)) ∧ Fr n0 L ∧ h = h0
set_option maxRecDepth 65536 in
set_option maxHeartbeats 40000000 in
theorem own_rm5_0 (l : Launch) (Z : State) (av : Array Value) (hw : ∀ d ∈ tables_1, d.before av Z = true) (ws : List Jvm.Cond) (a0 : Addr) (a1 : Addr) (b : Addr) (k_b : ClassId) (x0 : Int32) (x1 : Int32) (x2 : Int32) (x3 : Int32) (x4 : Int32) (x5 : Int32) (x6 : Int32) (x7 : Int32) (h0 : Heap) (n0 : Nat) (Z0 : n0 ≤ h0.size) (F_byModule_a0 : Fld Z h0 a0 "com/example/muster/muster/model/Levels" "byModule" "[I" (.ref b)) (V_b : Arv Z h0 b k_b .int (8 : Int32) [(.int x0), (.int x1), (.int x2), (.int x3), (.int x4), (.int x5), (.int x6), (.int x7)] (.int (0 : Int32))) (E_a1 : Exa Z h0 a1 "com/example/muster/muster/model/ProjectModule") (F_ordinal_a1 : Fld Z h0 a1 "java/lang/Enum" "ordinal" "I" (.int (0 : Int32))) :
    MetFree l (⟨"com/example/muster/muster/model/Levels", "of", "(Lcom/example/muster/muster/model/ProjectModule;)I"⟩ : MethodName) (head1 (Jvm.Cond.code (⟨"com/example/muster/muster/model/Levels", "of", "(Lcom/example/muster/muster/model/ProjectModule;)I"⟩ : MethodName) prog_39_method_4_code 2 (some .int) :: ws) ({ frames := 1, cells := 0, slots := 0, locals := 13 } : Room)) (fun a U => a = #[(.ref a0), (.ref a1)] ∧ Z.Warmed39 U.vm ∧ U.heap = h0) (fun _ _ _ _ _ => True) (fun _ U o U' => ∃ v L, o = .returned v ∧ own_Q5_0 Z a0 a1 b k_b x0 x1 x2 x3 x4 x5 x6 x7 h0 n0 v U'.heap L ∧ FrameEnd U o U' L ({ frames := 1, cells := 0, slots := 0, locals := 13 } : Room).cells ({ frames := 1, cells := 0, slots := 0, locals := 13 } : Room).slots) := by
  refine MetFree.of_bodySF (plainFor_of_name own_pn1) hisR ?_
  intro p e s m args below meth c s₁ Bd hml0 hP hK
  obtain ⟨rfl, hZ, hh⟩ := hP
  have hx := Bd.exec
  have hby := Bd.bytes
  have hml : c.maxLocals = 2 := hml0
  have hown : s.vm.findClass "com/example/muster/muster/model/Levels" = some m.cls := findClass_of_methodNamed Bd.named
  have hnm := (name_of_methodNamed Bd.named Bd.method).1
  have X0 : Stand p l e ({ frames := 1, cells := 0, slots := 0, locals := 13 } : Room) s m #[(.ref a0), (.ref a1)] below meth c s₁ [] 0 0 := Stand.of_body Bd
  have e0 : s₁.heap = h0 := by rw [← hh, Bd.state]; rfl
  have N0 := Fr.nil n0
  have pre0 : ∀ t, Steps p.tables e below (s₁.setTop (mkF m 0 #[oa a0, oa a1] [])) t → Steps p.tables e below (s₁.setTop (entryFrame m #[(.ref a0), (.ref a1)] 2)) t := fun t k => castTop (own_ef5_0 m a0 a1) k
  obtain ⟨T1, X1, e1, st1⟩ := getF X0 hx hZ hown (host := "") (Or.inl (hw _ (List.mem_of_getElem? (i := 28) rfl))) Via.refl e0 F_byModule_a0 (g := (mkF m 1 #[oa a0, oa a1] [(.ref a0)])) rfl rfl (hb hby own_d5_1)
  obtain ⟨cq2, kq2, q2a, q2b, q2c⟩ := isOf hZ e1 E_a1
  obtain ⟨_, _, ⟨T2, L2, k2, n2⟩, -, X2, ⟨Lc2, hQ2, l2, y2, z2⟩, st2⟩ := X1.virtualBackUp hx (x := (⟨"com/example/muster/muster/model/ProjectModule", "ordinal", "()I"⟩ : MethodName)) (y := (⟨"java/lang/Enum", "ordinal", "()I"⟩ : MethodName)) (owner := "java/lang/Enum") hown (mvT hZ (hw _ (List.mem_of_getElem? (i := 38) rfl))) (mvT hZ (hw _ (List.mem_of_getElem? (i := 39) rfl))) (mvT hZ (hw _ (List.mem_of_getElem? (i := 40) rfl))) (by decide) (mvT hZ (hw _ (List.mem_of_getElem? (i := 42) rfl))) (mvT hZ (hw _ (List.mem_of_getElem? (i := 41) rfl))) (backOf (W := 1) (own_rm6 l Z av hw [] a1 (0 : Int32) h0 n0 Z0 F_ordinal_a1) hZ (hw _ (List.mem_of_getElem? (i := 44) rfl)) (hw _ (List.mem_of_getElem? (i := 43) rfl)) (by decide) (by decide)) q2a q2c (g := (mkF m 5 #[oa a0, oa a1] [(.ref a1), (.ref b)])) rfl (by rw [hml]; rfl) (Steps.refl _) (argsL := []) (rest := [(.ref b)]) (lenOf own_pd1 rfl) rfl (by show 2 * 0 + _ ≤ _; exact Nat.le_of_eq rfl) (hb hby own_d5_5) (fun _ _ => ⟨rfl, e1, (by decide : 0 + 0 ≤ _), (by decide : 0 + 0 ≤ _)⟩)
  dsimp only [Pt.U, Pt.locs, Pt.cells, Pt.slots] at X2 l2 y2 z2 st2 hQ2
  have yq2 : k2 = 0 := y2
  have zq2 : n2 = 0 := z2
  subst yq2 zq2
  obtain ⟨rfl, Nq2, eq2⟩ := hQ2
  have N2 : Fr n0 L2 := by rw [l2]; exact Fr.app N0 Nq2
  have pre3 : ∀ t, Steps p.tables e below (T2.setTop (mkF m 8 #[oa a0, oa a1] [(.int (own_f6 (0 : Int32))), (.ref b)])) t → Steps p.tables e below (s₁.setTop (entryFrame m #[(.ref a0), (.ref a1)] 2)) t := by
    intro t k
    refine pre0 t ?_
    show oS p e below s₁ m 0 #[oa a0, oa a1] [] _
    refine XS.aloadN X0.here hx rfl (hb hby own_d5_0) rfl rfl ?_
    show oS p e below s₁ m 1 #[oa a0, oa a1] [(.ref a0)] _
    refine st1 _ ?_
    show oS p e below T1 m 4 #[oa a0, oa a1] [(.ref b)] _
    refine XS.aloadN X1.here hx rfl (hb hby own_d5_4) rfl rfl ?_
    show oS p e below T1 m 5 #[oa a0, oa a1] [(.ref a1), (.ref b)] _
    refine st2.trans ?_
    exact k
  have rw_4 : (own_f6 (0 : Int32)) = (0 : Int32) := rfl
  rw [rw_4] at pre3
  obtain ⟨fs, hr, hrun, hended, hW, hsame⟩ := X2.leave (v := (some (.int x0))) (fun h => by rw [Bd.returns] at h; cases h)
  refine ⟨_, _, pre3 _ ?_, hrun, hended, _, _, rfl, ?_, ⟨_, rfl⟩, hW, hsame.mono (by decide) (by decide)⟩
  · show oS p e below T2 m 8 #[oa a0, oa a1] [(.int (0 : Int32)), (.ref b)] _
    refine oLdI X2 hx hZ eq2 V_b (v := (.int x0)) ⟨by decide, by decide⟩ rfl (hb hby own_d5_8) ?_
    show oS p e below T2 m 9 #[oa a0, oa a1] [(.int x0)] _
    exact retOut X2 hx Bd.returns rfl (Or.inl ⟨rfl, Or.inl rfl, _, rfl⟩) (hb hby own_d5_9) hr
  · show own_Q5_0 Z a0 a1 b k_b x0 x1 x2 x3 x4 x5 x6 x7 h0 n0 _ T2.heap _
    rw [eq2]
    exact ⟨congrArg (fun z => some (Value.int z)) (by rw [own_f5_0]), N2, rfl⟩
theorem own_ef5_1 (m : MethodId) (a0 : Addr) (a1 : Addr) : entryFrame m #[(.ref a0), (.ref a1)] 2 = mkF m 0 #[oa a0, oa a1] [] := by first | (simp [entryFrame, mkF, argsToLocals, Value.category]; done) | rfl
def own_f5_1 (x1 : Int32) : Int32 := x1
def own_Q5_1 (Z : State) (a0 : Addr) (a1 : Addr) (b : Addr) (k_b : ClassId) (x0 : Int32) (x1 : Int32) (x2 : Int32) (x3 : Int32) (x4 : Int32) (x5 : Int32) (x6 : Int32) (x7 : Int32) (h0 : Heap) (n0 : Nat) (v : Option Value) (h : Heap) (L : List Loc) : Prop := v = some (Value.int (own_f5_1 x1)) ∧ Fr n0 L ∧ h = h0
set_option maxRecDepth 65536 in
set_option maxHeartbeats 40000000 in
theorem own_rm5_1 (l : Launch) (Z : State) (av : Array Value) (hw : ∀ d ∈ tables_1, d.before av Z = true) (ws : List Jvm.Cond) (a0 : Addr) (a1 : Addr) (b : Addr) (k_b : ClassId) (x0 : Int32) (x1 : Int32) (x2 : Int32) (x3 : Int32) (x4 : Int32) (x5 : Int32) (x6 : Int32) (x7 : Int32) (h0 : Heap) (n0 : Nat) (Z0 : n0 ≤ h0.size) (F_byModule_a0 : Fld Z h0 a0 "com/example/muster/muster/model/Levels" "byModule" "[I" (.ref b)) (V_b : Arv Z h0 b k_b .int (8 : Int32) [(.int x0), (.int x1), (.int x2), (.int x3), (.int x4), (.int x5), (.int x6), (.int x7)] (.int (0 : Int32))) (E_a1 : Exa Z h0 a1 "com/example/muster/muster/model/ProjectModule") (F_ordinal_a1 : Fld Z h0 a1 "java/lang/Enum" "ordinal" "I" (.int (1 : Int32))) :
    MetFree l (⟨"com/example/muster/muster/model/Levels", "of", "(Lcom/example/muster/muster/model/ProjectModule;)I"⟩ : MethodName) (head1 (Jvm.Cond.code (⟨"com/example/muster/muster/model/Levels", "of", "(Lcom/example/muster/muster/model/ProjectModule;)I"⟩ : MethodName) prog_39_method_4_code 2 (some .int) :: ws) ({ frames := 1, cells := 0, slots := 0, locals := 13 } : Room)) (fun a U => a = #[(.ref a0), (.ref a1)] ∧ Z.Warmed39 U.vm ∧ U.heap = h0) (fun _ _ _ _ _ => True) (fun _ U o U' => ∃ v L, o = .returned v ∧ own_Q5_1 Z a0 a1 b k_b x0 x1 x2 x3 x4 x5 x6 x7 h0 n0 v U'.heap L ∧ FrameEnd U o U' L ({ frames := 1, cells := 0, slots := 0, locals := 13 } : Room).cells ({ frames := 1, cells := 0, slots := 0, locals := 13 } : Room).slots) := by
  refine MetFree.of_bodySF (plainFor_of_name own_pn1) hisR ?_
  intro p e s m args below meth c s₁ Bd hml0 hP hK
  obtain ⟨rfl, hZ, hh⟩ := hP
  have hx := Bd.exec
  have hby := Bd.bytes
  have hml : c.maxLocals = 2 := hml0
  have hown : s.vm.findClass "com/example/muster/muster/model/Levels" = some m.cls := findClass_of_methodNamed Bd.named
  have hnm := (name_of_methodNamed Bd.named Bd.method).1
  have X0 : Stand p l e ({ frames := 1, cells := 0, slots := 0, locals := 13 } : Room) s m #[(.ref a0), (.ref a1)] below meth c s₁ [] 0 0 := Stand.of_body Bd
  have e0 : s₁.heap = h0 := by rw [← hh, Bd.state]; rfl
  have N0 := Fr.nil n0
  have pre0 : ∀ t, Steps p.tables e below (s₁.setTop (mkF m 0 #[oa a0, oa a1] [])) t → Steps p.tables e below (s₁.setTop (entryFrame m #[(.ref a0), (.ref a1)] 2)) t := fun t k => castTop (own_ef5_1 m a0 a1) k
  obtain ⟨T1, X1, e1, st1⟩ := getF X0 hx hZ hown (host := "") (Or.inl (hw _ (List.mem_of_getElem? (i := 28) rfl))) Via.refl e0 F_byModule_a0 (g := (mkF m 1 #[oa a0, oa a1] [(.ref a0)])) rfl rfl (hb hby own_d5_1)
  obtain ⟨cq2, kq2, q2a, q2b, q2c⟩ := isOf hZ e1 E_a1
  obtain ⟨_, _, ⟨T2, L2, k2, n2⟩, -, X2, ⟨Lc2, hQ2, l2, y2, z2⟩, st2⟩ := X1.virtualBackUp hx (x := (⟨"com/example/muster/muster/model/ProjectModule", "ordinal", "()I"⟩ : MethodName)) (y := (⟨"java/lang/Enum", "ordinal", "()I"⟩ : MethodName)) (owner := "java/lang/Enum") hown (mvT hZ (hw _ (List.mem_of_getElem? (i := 38) rfl))) (mvT hZ (hw _ (List.mem_of_getElem? (i := 39) rfl))) (mvT hZ (hw _ (List.mem_of_getElem? (i := 40) rfl))) (by decide) (mvT hZ (hw _ (List.mem_of_getElem? (i := 42) rfl))) (mvT hZ (hw _ (List.mem_of_getElem? (i := 41) rfl))) (backOf (W := 1) (own_rm6 l Z av hw [] a1 (1 : Int32) h0 n0 Z0 F_ordinal_a1) hZ (hw _ (List.mem_of_getElem? (i := 44) rfl)) (hw _ (List.mem_of_getElem? (i := 43) rfl)) (by decide) (by decide)) q2a q2c (g := (mkF m 5 #[oa a0, oa a1] [(.ref a1), (.ref b)])) rfl (by rw [hml]; rfl) (Steps.refl _) (argsL := []) (rest := [(.ref b)]) (lenOf own_pd1 rfl) rfl (by show 2 * 0 + _ ≤ _; exact Nat.le_of_eq rfl) (hb hby own_d5_5) (fun _ _ => ⟨rfl, e1, (by decide : 0 + 0 ≤ _), (by decide : 0 + 0 ≤ _)⟩)
  dsimp only [Pt.U, Pt.locs, Pt.cells, Pt.slots] at X2 l2 y2 z2 st2 hQ2
  have yq2 : k2 = 0 := y2
  have zq2 : n2 = 0 := z2
  subst yq2 zq2
  obtain ⟨rfl, Nq2, eq2⟩ := hQ2
  have N2 : Fr n0 L2 := by rw [l2]; exact Fr.app N0 Nq2
  have pre3 : ∀ t, Steps p.tables e below (T2.setTop (mkF m 8 #[oa a0, oa a1] [(.int (own_f6 (1 : Int32))), (.ref b)])) t → Steps p.tables e below (s₁.setTop (entryFrame m #[(.ref a0), (.ref a1)] 2)) t := by
    intro t k
    refine pre0 t ?_
    show oS p e below s₁ m 0 #[oa a0, oa a1] [] _
    refine XS.aloadN X0.here hx rfl (hb hby own_d5_0) rfl rfl ?_
    show oS p e below s₁ m 1 #[oa a0, oa a1] [(.ref a0)] _
    refine st1 _ ?_
    show oS p e below T1 m 4 #[oa a0, oa a1] [(.ref b)] _
    refine XS.aloadN X1.here hx rfl (hb hby own_d5_4) rfl rfl ?_
    show oS p e below T1 m 5 #[oa a0, oa a1] [(.ref a1), (.ref b)] _
    refine st2.trans ?_
    exact k
  have rw_4 : (own_f6 (1 : Int32)) = (1 : Int32) := rfl
  rw [rw_4] at pre3
  obtain ⟨fs, hr, hrun, hended, hW, hsame⟩ := X2.leave (v := (some (.int x1))) (fun h => by rw [Bd.returns] at h; cases h)
  refine ⟨_, _, pre3 _ ?_, hrun, hended, _, _, rfl, ?_, ⟨_, rfl⟩, hW, hsame.mono (by decide) (by decide)⟩
  · show oS p e below T2 m 8 #[oa a0, oa a1] [(.int (1 : Int32)), (.ref b)] _
    refine oLdI X2 hx hZ eq2 V_b (v := (.int x1)) ⟨by decide, by decide⟩ rfl (hb hby own_d5_8) ?_
    show oS p e below T2 m 9 #[oa a0, oa a1] [(.int x1)] _
    exact retOut X2 hx Bd.returns rfl (Or.inl ⟨rfl, Or.inl rfl, _, rfl⟩) (hb hby own_d5_9) hr
  · show own_Q5_1 Z a0 a1 b k_b x0 x1 x2 x3 x4 x5 x6 x7 h0 n0 _ T2.heap _
    rw [eq2]
    exact ⟨congrArg (fun z => some (Value.int z)) (by rw [own_f5_1]), N2, rfl⟩
theorem own_ef5_2 (m : MethodId) (a0 : Addr) (a1 : Addr) : entryFrame m #[(.ref a0), (.ref a1)] 2 = mkF m 0 #[oa a0, oa a1] [] := by first | (simp [entryFrame, mkF, argsToLocals, Value.category]; done) | rfl
def own_f5_2 (x2 : Int32) : Int32 := x2
def own_Q5_2 (Z : State) (a0 : Addr) (a1 : Addr) (b : Addr) (k_b : ClassId) (x0 : Int32) (x1 : Int32) (x2 : Int32) (x3 : Int32) (x4 : Int32) (x5 : Int32) (x6 : Int32) (x7 : Int32) (h0 : Heap) (n0 : Nat) (v : Option Value) (h : Heap) (L : List Loc) : Prop := v = some (Value.int (own_f5_2 x2)) ∧ Fr n0 L ∧ h = h0
set_option maxRecDepth 65536 in
set_option maxHeartbeats 40000000 in
theorem own_rm5_2 (l : Launch) (Z : State) (av : Array Value) (hw : ∀ d ∈ tables_1, d.before av Z = true) (ws : List Jvm.Cond) (a0 : Addr) (a1 : Addr) (b : Addr) (k_b : ClassId) (x0 : Int32) (x1 : Int32) (x2 : Int32) (x3 : Int32) (x4 : Int32) (x5 : Int32) (x6 : Int32) (x7 : Int32) (h0 : Heap) (n0 : Nat) (Z0 : n0 ≤ h0.size) (F_byModule_a0 : Fld Z h0 a0 "com/example/muster/muster/model/Levels" "byModule" "[I" (.ref b)) (V_b : Arv Z h0 b k_b .int (8 : Int32) [(.int x0), (.int x1), (.int x2), (.int x3), (.int x4), (.int x5), (.int x6), (.int x7)] (.int (0 : Int32))) (E_a1 : Exa Z h0 a1 "com/example/muster/muster/model/ProjectModule") (F_ordinal_a1 : Fld Z h0 a1 "java/lang/Enum" "ordinal" "I" (.int (2 : Int32))) :
    MetFree l (⟨"com/example/muster/muster/model/Levels", "of", "(Lcom/example/muster/muster/model/ProjectModule;)I"⟩ : MethodName) (head1 (Jvm.Cond.code (⟨"com/example/muster/muster/model/Levels", "of", "(Lcom/example/muster/muster/model/ProjectModule;)I"⟩ : MethodName) prog_39_method_4_code 2 (some .int) :: ws) ({ frames := 1, cells := 0, slots := 0, locals := 13 } : Room)) (fun a U => a = #[(.ref a0), (.ref a1)] ∧ Z.Warmed39 U.vm ∧ U.heap = h0) (fun _ _ _ _ _ => True) (fun _ U o U' => ∃ v L, o = .returned v ∧ own_Q5_2 Z a0 a1 b k_b x0 x1 x2 x3 x4 x5 x6 x7 h0 n0 v U'.heap L ∧ FrameEnd U o U' L ({ frames := 1, cells := 0, slots := 0, locals := 13 } : Room).cells ({ frames := 1, cells := 0, slots := 0, locals := 13 } : Room).slots) := by
  refine MetFree.of_bodySF (plainFor_of_name own_pn1) hisR ?_
  intro p e s m args below meth c s₁ Bd hml0 hP hK
  obtain ⟨rfl, hZ, hh⟩ := hP
  have hx := Bd.exec
  have hby := Bd.bytes
  have hml : c.maxLocals = 2 := hml0
  have hown : s.vm.findClass "com/example/muster/muster/model/Levels" = some m.cls := findClass_of_methodNamed Bd.named
  have hnm := (name_of_methodNamed Bd.named Bd.method).1
  have X0 : Stand p l e ({ frames := 1, cells := 0, slots := 0, locals := 13 } : Room) s m #[(.ref a0), (.ref a1)] below meth c s₁ [] 0 0 := Stand.of_body Bd
  have e0 : s₁.heap = h0 := by rw [← hh, Bd.state]; rfl
  have N0 := Fr.nil n0
  have pre0 : ∀ t, Steps p.tables e below (s₁.setTop (mkF m 0 #[oa a0, oa a1] [])) t → Steps p.tables e below (s₁.setTop (entryFrame m #[(.ref a0), (.ref a1)] 2)) t := fun t k => castTop (own_ef5_2 m a0 a1) k
  obtain ⟨T1, X1, e1, st1⟩ := getF X0 hx hZ hown (host := "") (Or.inl (hw _ (List.mem_of_getElem? (i := 28) rfl))) Via.refl e0 F_byModule_a0 (g := (mkF m 1 #[oa a0, oa a1] [(.ref a0)])) rfl rfl (hb hby own_d5_1)
  obtain ⟨cq2, kq2, q2a, q2b, q2c⟩ := isOf hZ e1 E_a1
  obtain ⟨_, _, ⟨T2, L2, k2, n2⟩, -, X2, ⟨Lc2, hQ2, l2, y2, z2⟩, st2⟩ := X1.virtualBackUp hx (x := (⟨"com/example/muster/muster/model/ProjectModule", "ordinal", "()I"⟩ : MethodName)) (y := (⟨"java/lang/Enum", "ordinal", "()I"⟩ : MethodName)) (owner := "java/lang/Enum") hown (mvT hZ (hw _ (List.mem_of_getElem? (i := 38) rfl))) (mvT hZ (hw _ (List.mem_of_getElem? (i := 39) rfl))) (mvT hZ (hw _ (List.mem_of_getElem? (i := 40) rfl))) (by decide) (mvT hZ (hw _ (List.mem_of_getElem? (i := 42) rfl))) (mvT hZ (hw _ (List.mem_of_getElem? (i := 41) rfl))) (backOf (W := 1) (own_rm6 l Z av hw [] a1 (2 : Int32) h0 n0 Z0 F_ordinal_a1) hZ (hw _ (List.mem_of_getElem? (i := 44) rfl)) (hw _ (List.mem_of_getElem? (i := 43) rfl)) (by decide) (by decide)) q2a q2c (g := (mkF m 5 #[oa a0, oa a1] [(.ref a1), (.ref b)])) rfl (by rw [hml]; rfl) (Steps.refl _) (argsL := []) (rest := [(.ref b)]) (lenOf own_pd1 rfl) rfl (by show 2 * 0 + _ ≤ _; exact Nat.le_of_eq rfl) (hb hby own_d5_5) (fun _ _ => ⟨rfl, e1, (by decide : 0 + 0 ≤ _), (by decide : 0 + 0 ≤ _)⟩)
  dsimp only [Pt.U, Pt.locs, Pt.cells, Pt.slots] at X2 l2 y2 z2 st2 hQ2
  have yq2 : k2 = 0 := y2
  have zq2 : n2 = 0 := z2
  subst yq2 zq2
  obtain ⟨rfl, Nq2, eq2⟩ := hQ2
  have N2 : Fr n0 L2 := by rw [l2]; exact Fr.app N0 Nq2
  have pre3 : ∀ t, Steps p.tables e below (T2.setTop (mkF m 8 #[oa a0, oa a1] [(.int (own_f6 (2 : Int32))), (.ref b)])) t → Steps p.tables e below (s₁.setTop (entryFrame m #[(.ref a0), (.ref a1)] 2)) t := by
    intro t k
    refine pre0 t ?_
    show oS p e below s₁ m 0 #[oa a0, oa a1] [] _
    refine XS.aloadN X0.here hx rfl (hb hby own_d5_0) rfl rfl ?_
    show oS p e below s₁ m 1 #[oa a0, oa a1] [(.ref a0)] _
    refine st1 _ ?_
    show oS p e below T1 m 4 #[oa a0, oa a1] [(.ref b)] _
    refine XS.aloadN X1.here hx rfl (hb hby own_d5_4) rfl rfl ?_
    show oS p e below T1 m 5 #[oa a0, oa a1] [(.ref a1), (.ref b)] _
    refine st2.trans ?_
    exact k
  have rw_4 : (own_f6 (2 : Int32)) = (2 : Int32) := rfl
  rw [rw_4] at pre3
  obtain ⟨fs, hr, hrun, hended, hW, hsame⟩ := X2.leave (v := (some (.int x2))) (fun h => by rw [Bd.returns] at h; cases h)
  refine ⟨_, _, pre3 _ ?_, hrun, hended, _, _, rfl, ?_, ⟨_, rfl⟩, hW, hsame.mono (by decide) (by decide)⟩
  · show oS p e below T2 m 8 #[oa a0, oa a1] [(.int (2 : Int32)), (.ref b)] _
    refine oLdI X2 hx hZ eq2 V_b (v := (.int x2)) ⟨by decide, by decide⟩ rfl (hb hby own_d5_8) ?_
    show oS p e below T2 m 9 #[oa a0, oa a1] [(.int x2)] _
    exact retOut X2 hx Bd.returns rfl (Or.inl ⟨rfl, Or.inl rfl, _, rfl⟩) (hb hby own_d5_9) hr
  · show own_Q5_2 Z a0 a1 b k_b x0 x1 x2 x3 x4 x5 x6 x7 h0 n0 _ T2.heap _
    rw [eq2]
    exact ⟨congrArg (fun z => some (Value.int z)) (by rw [own_f5_2]), N2, rfl⟩
theorem own_ef5_3 (m : MethodId) (a0 : Addr) (a1 : Addr) : entryFrame m #[(.ref a0), (.ref a1)] 2 = mkF m 0 #[oa a0, oa a1] [] := by first | (simp [entryFrame, mkF, argsToLocals, Value.category]; done) | rfl
def own_f5_3 (x3 : Int32) : Int32 := x3
def own_Q5_3 (Z : State) (a0 : Addr) (a1 : Addr) (b : Addr) (k_b : ClassId) (x0 : Int32) (x1 : Int32) (x2 : Int32) (x3 : Int32) (x4 : Int32) (x5 : Int32) (x6 : Int32) (x7 : Int32) (h0 : Heap) (n0 : Nat) (v : Option Value) (h : Heap) (L : List Loc) : Prop := v = some (Value.int (own_f5_3 x3)) ∧ Fr n0 L ∧ h = h0
set_option maxRecDepth 65536 in
set_option maxHeartbeats 40000000 in
theorem own_rm5_3 (l : Launch) (Z : State) (av : Array Value) (hw : ∀ d ∈ tables_1, d.before av Z = true) (ws : List Jvm.Cond) (a0 : Addr) (a1 : Addr) (b : Addr) (k_b : ClassId) (x0 : Int32) (x1 : Int32) (x2 : Int32) (x3 : Int32) (x4 : Int32) (x5 : Int32) (x6 : Int32) (x7 : Int32) (h0 : Heap) (n0 : Nat) (Z0 : n0 ≤ h0.size) (F_byModule_a0 : Fld Z h0 a0 "com/example/muster/muster/model/Levels" "byModule" "[I" (.ref b)) (V_b : Arv Z h0 b k_b .int (8 : Int32) [(.int x0), (.int x1), (.int x2), (.int x3), (.int x4), (.int x5), (.int x6), (.int x7)] (.int (0 : Int32))) (E_a1 : Exa Z h0 a1 "com/example/muster/muster/model/ProjectModule") (F_ordinal_a1 : Fld Z h0 a1 "java/lang/Enum" "ordinal" "I" (.int (3 : Int32))) :
    MetFree l (⟨"com/example/muster/muster/model/Levels", "of", "(Lcom/example/muster/muster/model/ProjectModule;)I"⟩ : MethodName) (head1 (Jvm.Cond.code (⟨"com/example/muster/muster/model/Levels", "of", "(Lcom/example/muster/muster/model/ProjectModule;)I"⟩ : MethodName) prog_39_method_4_code 2 (some .int) :: ws) ({ frames := 1, cells := 0, slots := 0, locals := 13 } : Room)) (fun a U => a = #[(.ref a0), (.ref a1)] ∧ Z.Warmed39 U.vm ∧ U.heap = h0) (fun _ _ _ _ _ => True) (fun _ U o U' => ∃ v L, o = .returned v ∧ own_Q5_3 Z a0 a1 b k_b x0 x1 x2 x3 x4 x5 x6 x7 h0 n0 v U'.heap L ∧ FrameEnd U o U' L ({ frames := 1, cells := 0, slots := 0, locals := 13 } : Room).cells ({ frames := 1, cells := 0, slots := 0, locals := 13 } : Room).slots) := by
  refine MetFree.of_bodySF (plainFor_of_name own_pn1) hisR ?_
  intro p e s m args below meth c s₁ Bd hml0 hP hK
  obtain ⟨rfl, hZ, hh⟩ := hP
  have hx := Bd.exec
  have hby := Bd.bytes
  have hml : c.maxLocals = 2 := hml0
  have hown : s.vm.findClass "com/example/muster/muster/model/Levels" = some m.cls := findClass_of_methodNamed Bd.named
  have hnm := (name_of_methodNamed Bd.named Bd.method).1
  have X0 : Stand p l e ({ frames := 1, cells := 0, slots := 0, locals := 13 } : Room) s m #[(.ref a0), (.ref a1)] below meth c s₁ [] 0 0 := Stand.of_body Bd
  have e0 : s₁.heap = h0 := by rw [← hh, Bd.state]; rfl
  have N0 := Fr.nil n0
  have pre0 : ∀ t, Steps p.tables e below (s₁.setTop (mkF m 0 #[oa a0, oa a1] [])) t → Steps p.tables e below (s₁.setTop (entryFrame m #[(.ref a0), (.ref a1)] 2)) t := fun t k => castTop (own_ef5_3 m a0 a1) k
  obtain ⟨T1, X1, e1, st1⟩ := getF X0 hx hZ hown (host := "") (Or.inl (hw _ (List.mem_of_getElem? (i := 28) rfl))) Via.refl e0 F_byModule_a0 (g := (mkF m 1 #[oa a0, oa a1] [(.ref a0)])) rfl rfl (hb hby own_d5_1)
  obtain ⟨cq2, kq2, q2a, q2b, q2c⟩ := isOf hZ e1 E_a1
  obtain ⟨_, _, ⟨T2, L2, k2, n2⟩, -, X2, ⟨Lc2, hQ2, l2, y2, z2⟩, st2⟩ := X1.virtualBackUp hx (x := (⟨"com/example/muster/muster/model/ProjectModule", "ordinal", "()I"⟩ : MethodName)) (y := (⟨"java/lang/Enum", "ordinal", "()I"⟩ : MethodName)) (owner := "java/lang/Enum") hown (mvT hZ (hw _ (List.mem_of_getElem? (i := 38) rfl))) (mvT hZ (hw _ (List.mem_of_getElem? (i := 39) rfl))) (mvT hZ (hw _ (List.mem_of_getElem? (i := 40) rfl))) (by decide) (mvT hZ (hw _ (List.mem_of_getElem? (i := 42) rfl))) (mvT hZ (hw _ (List.mem_of_getElem? (i := 41) rfl))) (backOf (W := 1) (own_rm6 l Z av hw [] a1 (3 : Int32) h0 n0 Z0 F_ordinal_a1) hZ (hw _ (List.mem_of_getElem? (i := 44) rfl)) (hw _ (List.mem_of_getElem? (i := 43) rfl)) (by decide) (by decide)) q2a q2c (g := (mkF m 5 #[oa a0, oa a1] [(.ref a1), (.ref b)])) rfl (by rw [hml]; rfl) (Steps.refl _) (argsL := []) (rest := [(.ref b)]) (lenOf own_pd1 rfl) rfl (by show 2 * 0 + _ ≤ _; exact Nat.le_of_eq rfl) (hb hby own_d5_5) (fun _ _ => ⟨rfl, e1, (by decide : 0 + 0 ≤ _), (by decide : 0 + 0 ≤ _)⟩)
  dsimp only [Pt.U, Pt.locs, Pt.cells, Pt.slots] at X2 l2 y2 z2 st2 hQ2
  have yq2 : k2 = 0 := y2
  have zq2 : n2 = 0 := z2
  subst yq2 zq2
  obtain ⟨rfl, Nq2, eq2⟩ := hQ2
  have N2 : Fr n0 L2 := by rw [l2]; exact Fr.app N0 Nq2
  have pre3 : ∀ t, Steps p.tables e below (T2.setTop (mkF m 8 #[oa a0, oa a1] [(.int (own_f6 (3 : Int32))), (.ref b)])) t → Steps p.tables e below (s₁.setTop (entryFrame m #[(.ref a0), (.ref a1)] 2)) t := by
    intro t k
    refine pre0 t ?_
    show oS p e below s₁ m 0 #[oa a0, oa a1] [] _
    refine XS.aloadN X0.here hx rfl (hb hby own_d5_0) rfl rfl ?_
    show oS p e below s₁ m 1 #[oa a0, oa a1] [(.ref a0)] _
    refine st1 _ ?_
    show oS p e below T1 m 4 #[oa a0, oa a1] [(.ref b)] _
    refine XS.aloadN X1.here hx rfl (hb hby own_d5_4) rfl rfl ?_
    show oS p e below T1 m 5 #[oa a0, oa a1] [(.ref a1), (.ref b)] _
    refine st2.trans ?_
    exact k
  have rw_4 : (own_f6 (3 : Int32)) = (3 : Int32) := rfl
  rw [rw_4] at pre3
  obtain ⟨fs, hr, hrun, hended, hW, hsame⟩ := X2.leave (v := (some (.int x3))) (fun h => by rw [Bd.returns] at h; cases h)
  refine ⟨_, _, pre3 _ ?_, hrun, hended, _, _, rfl, ?_, ⟨_, rfl⟩, hW, hsame.mono (by decide) (by decide)⟩
  · show oS p e below T2 m 8 #[oa a0, oa a1] [(.int (3 : Int32)), (.ref b)] _
    refine oLdI X2 hx hZ eq2 V_b (v := (.int x3)) ⟨by decide, by decide⟩ rfl (hb hby own_d5_8) ?_
    show oS p e below T2 m 9 #[oa a0, oa a1] [(.int x3)] _
    exact retOut X2 hx Bd.returns rfl (Or.inl ⟨rfl, Or.inl rfl, _, rfl⟩) (hb hby own_d5_9) hr
  · show own_Q5_3 Z a0 a1 b k_b x0 x1 x2 x3 x4 x5 x6 x7 h0 n0 _ T2.heap _
    rw [eq2]
    exact ⟨congrArg (fun z => some (Value.int z)) (by rw [own_f5_3]), N2, rfl⟩
theorem own_ef5_4 (m : MethodId) (a0 : Addr) (a1 : Addr) : entryFrame m #[(.ref a0), (.ref a1)] 2 = mkF m 0 #[oa a0, oa a1] [] := by first | (simp [entryFrame, mkF, argsToLocals, Value.category]; done) | rfl
def own_f5_4 (x4 : Int32) : Int32 := x4
def own_Q5_4 (Z : State) (a0 : Addr) (a1 : Addr) (b : Addr) (k_b : ClassId) (x0 : Int32) (x1 : Int32) (x2 : Int32) (x3 : Int32) (x4 : Int32) (x5 : Int32) (x6 : Int32) (x7 : Int32) (h0 : Heap) (n0 : Nat) (v : Option Value) (h : Heap) (L : List Loc) : Prop := v = some (Value.int (own_f5_4 x4)) ∧ Fr n0 L ∧ h = h0
set_option maxRecDepth 65536 in
set_option maxHeartbeats 40000000 in
theorem own_rm5_4 (l : Launch) (Z : State) (av : Array Value) (hw : ∀ d ∈ tables_1, d.before av Z = true) (ws : List Jvm.Cond) (a0 : Addr) (a1 : Addr) (b : Addr) (k_b : ClassId) (x0 : Int32) (x1 : Int32) (x2 : Int32) (x3 : Int32) (x4 : Int32) (x5 : Int32) (x6 : Int32) (x7 : Int32) (h0 : Heap) (n0 : Nat) (Z0 : n0 ≤ h0.size) (F_byModule_a0 : Fld Z h0 a0 "com/example/muster/muster/model/Levels" "byModule" "[I" (.ref b)) (V_b : Arv Z h0 b k_b .int (8 : Int32) [(.int x0), (.int x1), (.int x2), (.int x3), (.int x4), (.int x5), (.int x6), (.int x7)] (.int (0 : Int32))) (E_a1 : Exa Z h0 a1 "com/example/muster/muster/model/ProjectModule") (F_ordinal_a1 : Fld Z h0 a1 "java/lang/Enum" "ordinal" "I" (.int (4 : Int32))) :
    MetFree l (⟨"com/example/muster/muster/model/Levels", "of", "(Lcom/example/muster/muster/model/ProjectModule;)I"⟩ : MethodName) (head1 (Jvm.Cond.code (⟨"com/example/muster/muster/model/Levels", "of", "(Lcom/example/muster/muster/model/ProjectModule;)I"⟩ : MethodName) prog_39_method_4_code 2 (some .int) :: ws) ({ frames := 1, cells := 0, slots := 0, locals := 13 } : Room)) (fun a U => a = #[(.ref a0), (.ref a1)] ∧ Z.Warmed39 U.vm ∧ U.heap = h0) (fun _ _ _ _ _ => True) (fun _ U o U' => ∃ v L, o = .returned v ∧ own_Q5_4 Z a0 a1 b k_b x0 x1 x2 x3 x4 x5 x6 x7 h0 n0 v U'.heap L ∧ FrameEnd U o U' L ({ frames := 1, cells := 0, slots := 0, locals := 13 } : Room).cells ({ frames := 1, cells := 0, slots := 0, locals := 13 } : Room).slots) := by
  refine MetFree.of_bodySF (plainFor_of_name own_pn1) hisR ?_
  intro p e s m args below meth c s₁ Bd hml0 hP hK
  obtain ⟨rfl, hZ, hh⟩ := hP
  have hx := Bd.exec
  have hby := Bd.bytes
  have hml : c.maxLocals = 2 := hml0
  have hown : s.vm.findClass "com/example/muster/muster/model/Levels" = some m.cls := findClass_of_methodNamed Bd.named
  have hnm := (name_of_methodNamed Bd.named Bd.method).1
  have X0 : Stand p l e ({ frames := 1, cells := 0, slots := 0, locals := 13 } : Room) s m #[(.ref a0), (.ref a1)] below meth c s₁ [] 0 0 := Stand.of_body Bd
  have e0 : s₁.heap = h0 := by rw [← hh, Bd.state]; rfl
  have N0 := Fr.nil n0
  have pre0 : ∀ t, Steps p.tables e below (s₁.setTop (mkF m 0 #[oa a0, oa a1] [])) t → Steps p.tables e below (s₁.setTop (entryFrame m #[(.ref a0), (.ref a1)] 2)) t := fun t k => castTop (own_ef5_4 m a0 a1) k
  obtain ⟨T1, X1, e1, st1⟩ := getF X0 hx hZ hown (host := "") (Or.inl (hw _ (List.mem_of_getElem? (i := 28) rfl))) Via.refl e0 F_byModule_a0 (g := (mkF m 1 #[oa a0, oa a1] [(.ref a0)])) rfl rfl (hb hby own_d5_1)
  obtain ⟨cq2, kq2, q2a, q2b, q2c⟩ := isOf hZ e1 E_a1
  obtain ⟨_, _, ⟨T2, L2, k2, n2⟩, -, X2, ⟨Lc2, hQ2, l2, y2, z2⟩, st2⟩ := X1.virtualBackUp hx (x := (⟨"com/example/muster/muster/model/ProjectModule", "ordinal", "()I"⟩ : MethodName)) (y := (⟨"java/lang/Enum", "ordinal", "()I"⟩ : MethodName)) (owner := "java/lang/Enum") hown (mvT hZ (hw _ (List.mem_of_getElem? (i := 38) rfl))) (mvT hZ (hw _ (List.mem_of_getElem? (i := 39) rfl))) (mvT hZ (hw _ (List.mem_of_getElem? (i := 40) rfl))) (by decide) (mvT hZ (hw _ (List.mem_of_getElem? (i := 42) rfl))) (mvT hZ (hw _ (List.mem_of_getElem? (i := 41) rfl))) (backOf (W := 1) (own_rm6 l Z av hw [] a1 (4 : Int32) h0 n0 Z0 F_ordinal_a1) hZ (hw _ (List.mem_of_getElem? (i := 44) rfl)) (hw _ (List.mem_of_getElem? (i := 43) rfl)) (by decide) (by decide)) q2a q2c (g := (mkF m 5 #[oa a0, oa a1] [(.ref a1), (.ref b)])) rfl (by rw [hml]; rfl) (Steps.refl _) (argsL := []) (rest := [(.ref b)]) (lenOf own_pd1 rfl) rfl (by show 2 * 0 + _ ≤ _; exact Nat.le_of_eq rfl) (hb hby own_d5_5) (fun _ _ => ⟨rfl, e1, (by decide : 0 + 0 ≤ _), (by decide : 0 + 0 ≤ _)⟩)
  dsimp only [Pt.U, Pt.locs, Pt.cells, Pt.slots] at X2 l2 y2 z2 st2 hQ2
  have yq2 : k2 = 0 := y2
  have zq2 : n2 = 0 := z2
  subst yq2 zq2
  obtain ⟨rfl, Nq2, eq2⟩ := hQ2
  have N2 : Fr n0 L2 := by rw [l2]; exact Fr.app N0 Nq2
  have pre3 : ∀ t, Steps p.tables e below (T2.setTop (mkF m 8 #[oa a0, oa a1] [(.int (own_f6 (4 : Int32))), (.ref b)])) t → Steps p.tables e below (s₁.setTop (entryFrame m #[(.ref a0), (.ref a1)] 2)) t := by
    intro t k
    refine pre0 t ?_
    show oS p e below s₁ m 0 #[oa a0, oa a1] [] _
    refine XS.aloadN X0.here hx rfl (hb hby own_d5_0) rfl rfl ?_
    show oS p e below s₁ m 1 #[oa a0, oa a1] [(.ref a0)] _
    refine st1 _ ?_
    show oS p e below T1 m 4 #[oa a0, oa a1] [(.ref b)] _
    refine XS.aloadN X1.here hx rfl (hb hby own_d5_4) rfl rfl ?_
    show oS p e below T1 m 5 #[oa a0, oa a1] [(.ref a1), (.ref b)] _
    refine st2.trans ?_
    exact k
  have rw_4 : (own_f6 (4 : Int32)) = (4 : Int32) := rfl
  rw [rw_4] at pre3
  obtain ⟨fs, hr, hrun, hended, hW, hsame⟩ := X2.leave (v := (some (.int x4))) (fun h => by rw [Bd.returns] at h; cases h)
  refine ⟨_, _, pre3 _ ?_, hrun, hended, _, _, rfl, ?_, ⟨_, rfl⟩, hW, hsame.mono (by decide) (by decide)⟩
  · show oS p e below T2 m 8 #[oa a0, oa a1] [(.int (4 : Int32)), (.ref b)] _
    refine oLdI X2 hx hZ eq2 V_b (v := (.int x4)) ⟨by decide, by decide⟩ rfl (hb hby own_d5_8) ?_
    show oS p e below T2 m 9 #[oa a0, oa a1] [(.int x4)] _
    exact retOut X2 hx Bd.returns rfl (Or.inl ⟨rfl, Or.inl rfl, _, rfl⟩) (hb hby own_d5_9) hr
  · show own_Q5_4 Z a0 a1 b k_b x0 x1 x2 x3 x4 x5 x6 x7 h0 n0 _ T2.heap _
    rw [eq2]
    exact ⟨congrArg (fun z => some (Value.int z)) (by rw [own_f5_4]), N2, rfl⟩
theorem own_ef5_5 (m : MethodId) (a0 : Addr) (a1 : Addr) : entryFrame m #[(.ref a0), (.ref a1)] 2 = mkF m 0 #[oa a0, oa a1] [] := by first | (simp [entryFrame, mkF, argsToLocals, Value.category]; done) | rfl
def own_f5_5 (x5 : Int32) : Int32 := x5
def own_Q5_5 (Z : State) (a0 : Addr) (a1 : Addr) (b : Addr) (k_b : ClassId) (x0 : Int32) (x1 : Int32) (x2 : Int32) (x3 : Int32) (x4 : Int32) (x5 : Int32) (x6 : Int32) (x7 : Int32) (h0 : Heap) (n0 : Nat) (v : Option Value) (h : Heap) (L : List Loc) : Prop := v = some (Value.int (own_f5_5 x5)) ∧ Fr n0 L ∧ h = h0
set_option maxRecDepth 65536 in
set_option maxHeartbeats 40000000 in
theorem own_rm5_5 (l : Launch) (Z : State) (av : Array Value) (hw : ∀ d ∈ tables_1, d.before av Z = true) (ws : List Jvm.Cond) (a0 : Addr) (a1 : Addr) (b : Addr) (k_b : ClassId) (x0 : Int32) (x1 : Int32) (x2 : Int32) (x3 : Int32) (x4 : Int32) (x5 : Int32) (x6 : Int32) (x7 : Int32) (h0 : Heap) (n0 : Nat) (Z0 : n0 ≤ h0.size) (F_byModule_a0 : Fld Z h0 a0 "com/example/muster/muster/model/Levels" "byModule" "[I" (.ref b)) (V_b : Arv Z h0 b k_b .int (8 : Int32) [(.int x0), (.int x1), (.int x2), (.int x3), (.int x4), (.int x5), (.int x6), (.int x7)] (.int (0 : Int32))) (E_a1 : Exa Z h0 a1 "com/example/muster/muster/model/ProjectModule") (F_ordinal_a1 : Fld Z h0 a1 "java/lang/Enum" "ordinal" "I" (.int (5 : Int32))) :
    MetFree l (⟨"com/example/muster/muster/model/Levels", "of", "(Lcom/example/muster/muster/model/ProjectModule;)I"⟩ : MethodName) (head1 (Jvm.Cond.code (⟨"com/example/muster/muster/model/Levels", "of", "(Lcom/example/muster/muster/model/ProjectModule;)I"⟩ : MethodName) prog_39_method_4_code 2 (some .int) :: ws) ({ frames := 1, cells := 0, slots := 0, locals := 13 } : Room)) (fun a U => a = #[(.ref a0), (.ref a1)] ∧ Z.Warmed39 U.vm ∧ U.heap = h0) (fun _ _ _ _ _ => True) (fun _ U o U' => ∃ v L, o = .returned v ∧ own_Q5_5 Z a0 a1 b k_b x0 x1 x2 x3 x4 x5 x6 x7 h0 n0 v U'.heap L ∧ FrameEnd U o U' L ({ frames := 1, cells := 0, slots := 0, locals := 13 } : Room).cells ({ frames := 1, cells := 0, slots := 0, locals := 13 } : Room).slots) := by
  refine MetFree.of_bodySF (plainFor_of_name own_pn1) hisR ?_
  intro p e s m args below meth c s₁ Bd hml0 hP hK
  obtain ⟨rfl, hZ, hh⟩ := hP
  have hx := Bd.exec
  have hby := Bd.bytes
  have hml : c.maxLocals = 2 := hml0
  have hown : s.vm.findClass "com/example/muster/muster/model/Levels" = some m.cls := findClass_of_methodNamed Bd.named
  have hnm := (name_of_methodNamed Bd.named Bd.method).1
  have X0 : Stand p l e ({ frames := 1, cells := 0, slots := 0, locals := 13 } : Room) s m #[(.ref a0), (.ref a1)] below meth c s₁ [] 0 0 := Stand.of_body Bd
  have e0 : s₁.heap = h0 := by rw [← hh, Bd.state]; rfl
  have N0 := Fr.nil n0
  have pre0 : ∀ t, Steps p.tables e below (s₁.setTop (mkF m 0 #[oa a0, oa a1] [])) t → Steps p.tables e below (s₁.setTop (entryFrame m #[(.ref a0), (.ref a1)] 2)) t := fun t k => castTop (own_ef5_5 m a0 a1) k
  obtain ⟨T1, X1, e1, st1⟩ := getF X0 hx hZ hown (host := "") (Or.inl (hw _ (List.mem_of_getElem? (i := 28) rfl))) Via.refl e0 F_byModule_a0 (g := (mkF m 1 #[oa a0, oa a1] [(.ref a0)])) rfl rfl (hb hby own_d5_1)
  obtain ⟨cq2, kq2, q2a, q2b, q2c⟩ := isOf hZ e1 E_a1
  obtain ⟨_, _, ⟨T2, L2, k2, n2⟩, -, X2, ⟨Lc2, hQ2, l2, y2, z2⟩, st2⟩ := X1.virtualBackUp hx (x := (⟨"com/example/muster/muster/model/ProjectModule", "ordinal", "()I"⟩ : MethodName)) (y := (⟨"java/lang/Enum", "ordinal", "()I"⟩ : MethodName)) (owner := "java/lang/Enum") hown (mvT hZ (hw _ (List.mem_of_getElem? (i := 38) rfl))) (mvT hZ (hw _ (List.mem_of_getElem? (i := 39) rfl))) (mvT hZ (hw _ (List.mem_of_getElem? (i := 40) rfl))) (by decide) (mvT hZ (hw _ (List.mem_of_getElem? (i := 42) rfl))) (mvT hZ (hw _ (List.mem_of_getElem? (i := 41) rfl))) (backOf (W := 1) (own_rm6 l Z av hw [] a1 (5 : Int32) h0 n0 Z0 F_ordinal_a1) hZ (hw _ (List.mem_of_getElem? (i := 44) rfl)) (hw _ (List.mem_of_getElem? (i := 43) rfl)) (by decide) (by decide)) q2a q2c (g := (mkF m 5 #[oa a0, oa a1] [(.ref a1), (.ref b)])) rfl (by rw [hml]; rfl) (Steps.refl _) (argsL := []) (rest := [(.ref b)]) (lenOf own_pd1 rfl) rfl (by show 2 * 0 + _ ≤ _; exact Nat.le_of_eq rfl) (hb hby own_d5_5) (fun _ _ => ⟨rfl, e1, (by decide : 0 + 0 ≤ _), (by decide : 0 + 0 ≤ _)⟩)
  dsimp only [Pt.U, Pt.locs, Pt.cells, Pt.slots] at X2 l2 y2 z2 st2 hQ2
  have yq2 : k2 = 0 := y2
  have zq2 : n2 = 0 := z2
  subst yq2 zq2
  obtain ⟨rfl, Nq2, eq2⟩ := hQ2
  have N2 : Fr n0 L2 := by rw [l2]; exact Fr.app N0 Nq2
  have pre3 : ∀ t, Steps p.tables e below (T2.setTop (mkF m 8 #[oa a0, oa a1] [(.int (own_f6 (5 : Int32))), (.ref b)])) t → Steps p.tables e below (s₁.setTop (entryFrame m #[(.ref a0), (.ref a1)] 2)) t := by
    intro t k
    refine pre0 t ?_
    show oS p e below s₁ m 0 #[oa a0, oa a1] [] _
    refine XS.aloadN X0.here hx rfl (hb hby own_d5_0) rfl rfl ?_
    show oS p e below s₁ m 1 #[oa a0, oa a1] [(.ref a0)] _
    refine st1 _ ?_
    show oS p e below T1 m 4 #[oa a0, oa a1] [(.ref b)] _
    refine XS.aloadN X1.here hx rfl (hb hby own_d5_4) rfl rfl ?_
    show oS p e below T1 m 5 #[oa a0, oa a1] [(.ref a1), (.ref b)] _
    refine st2.trans ?_
    exact k
  have rw_4 : (own_f6 (5 : Int32)) = (5 : Int32) := rfl
  rw [rw_4] at pre3
  obtain ⟨fs, hr, hrun, hended, hW, hsame⟩ := X2.leave (v := (some (.int x5))) (fun h => by rw [Bd.returns] at h; cases h)
  refine ⟨_, _, pre3 _ ?_, hrun, hended, _, _, rfl, ?_, ⟨_, rfl⟩, hW, hsame.mono (by decide) (by decide)⟩
  · show oS p e below T2 m 8 #[oa a0, oa a1] [(.int (5 : Int32)), (.ref b)] _
    refine oLdI X2 hx hZ eq2 V_b (v := (.int x5)) ⟨by decide, by decide⟩ rfl (hb hby own_d5_8) ?_
    show oS p e below T2 m 9 #[oa a0, oa a1] [(.int x5)] _
    exact retOut X2 hx Bd.returns rfl (Or.inl ⟨rfl, Or.inl rfl, _, rfl⟩) (hb hby own_d5_9) hr
  · show own_Q5_5 Z a0 a1 b k_b x0 x1 x2 x3 x4 x5 x6 x7 h0 n0 _ T2.heap _
    rw [eq2]
    exact ⟨congrArg (fun z => some (Value.int z)) (by rw [own_f5_5]), N2, rfl⟩
theorem own_ef5_6 (m : MethodId) (a0 : Addr) (a1 : Addr) : entryFrame m #[(.ref a0), (.ref a1)] 2 = mkF m 0 #[oa a0, oa a1] [] := by first | (simp [entryFrame, mkF, argsToLocals, Value.category]; done) | rfl
def own_f5_6 (x6 : Int32) : Int32 := x6
def own_Q5_6 (Z : State) (a0 : Addr) (a1 : Addr) (b : Addr) (k_b : ClassId) (x0 : Int32) (x1 : Int32) (x2 : Int32) (x3 : Int32) (x4 : Int32) (x5 : Int32) (x6 : Int32) (x7 : Int32) (h0 : Heap) (n0 : Nat) (v : Option Value) (h : Heap) (L : List Loc) : Prop := v = some (Value.int (own_f5_6 x6)) ∧ Fr n0 L ∧ h = h0
set_option maxRecDepth 65536 in
set_option maxHeartbeats 40000000 in
theorem own_rm5_6 (l : Launch) (Z : State) (av : Array Value) (hw : ∀ d ∈ tables_1, d.before av Z = true) (ws : List Jvm.Cond) (a0 : Addr) (a1 : Addr) (b : Addr) (k_b : ClassId) (x0 : Int32) (x1 : Int32) (x2 : Int32) (x3 : Int32) (x4 : Int32) (x5 : Int32) (x6 : Int32) (x7 : Int32) (h0 : Heap) (n0 : Nat) (Z0 : n0 ≤ h0.size) (F_byModule_a0 : Fld Z h0 a0 "com/example/muster/muster/model/Levels" "byModule" "[I" (.ref b)) (V_b : Arv Z h0 b k_b .int (8 : Int32) [(.int x0), (.int x1), (.int x2), (.int x3), (.int x4), (.int x5), (.int x6), (.int x7)] (.int (0 : Int32))) (E_a1 : Exa Z h0 a1 "com/example/muster/muster/model/ProjectModule") (F_ordinal_a1 : Fld Z h0 a1 "java/lang/Enum" "ordinal" "I" (.int (6 : Int32))) :
    MetFree l (⟨"com/example/muster/muster/model/Levels", "of", "(Lcom/example/muster/muster/model/ProjectModule;)I"⟩ : MethodName) (head1 (Jvm.Cond.code (⟨"com/example/muster/muster/model/Levels", "of", "(Lcom/example/muster/muster/model/ProjectModule;)I"⟩ : MethodName) prog_39_method_4_code 2 (some .int) :: ws) ({ frames := 1, cells := 0, slots := 0, locals := 13 } : Room)) (fun a U => a = #[(.ref a0), (.ref a1)] ∧ Z.Warmed39 U.vm ∧ U.heap = h0) (fun _ _ _ _ _ => True) (fun _ U o U' => ∃ v L, o = .returned v ∧ own_Q5_6 Z a0 a1 b k_b x0 x1 x2 x3 x4 x5 x6 x7 h0 n0 v U'.heap L ∧ FrameEnd U o U' L ({ frames := 1, cells := 0, slots := 0, locals := 13 } : Room).cells ({ frames := 1, cells := 0, slots := 0, locals := 13 } : Room).slots) := by
  refine MetFree.of_bodySF (plainFor_of_name own_pn1) hisR ?_
  intro p e s m args below meth c s₁ Bd hml0 hP hK
  obtain ⟨rfl, hZ, hh⟩ := hP
  have hx := Bd.exec
  have hby := Bd.bytes
  have hml : c.maxLocals = 2 := hml0
  have hown : s.vm.findClass "com/example/muster/muster/model/Levels" = some m.cls := findClass_of_methodNamed Bd.named
  have hnm := (name_of_methodNamed Bd.named Bd.method).1
  have X0 : Stand p l e ({ frames := 1, cells := 0, slots := 0, locals := 13 } : Room) s m #[(.ref a0), (.ref a1)] below meth c s₁ [] 0 0 := Stand.of_body Bd
  have e0 : s₁.heap = h0 := by rw [← hh, Bd.state]; rfl
  have N0 := Fr.nil n0
  have pre0 : ∀ t, Steps p.tables e below (s₁.setTop (mkF m 0 #[oa a0, oa a1] [])) t → Steps p.tables e below (s₁.setTop (entryFrame m #[(.ref a0), (.ref a1)] 2)) t := fun t k => castTop (own_ef5_6 m a0 a1) k
  obtain ⟨T1, X1, e1, st1⟩ := getF X0 hx hZ hown (host := "") (Or.inl (hw _ (List.mem_of_getElem? (i := 28) rfl))) Via.refl e0 F_byModule_a0 (g := (mkF m 1 #[oa a0, oa a1] [(.ref a0)])) rfl rfl (hb hby own_d5_1)
  obtain ⟨cq2, kq2, q2a, q2b, q2c⟩ := isOf hZ e1 E_a1
  obtain ⟨_, _, ⟨T2, L2, k2, n2⟩, -, X2, ⟨Lc2, hQ2, l2, y2, z2⟩, st2⟩ := X1.virtualBackUp hx (x := (⟨"com/example/muster/muster/model/ProjectModule", "ordinal", "()I"⟩ : MethodName)) (y := (⟨"java/lang/Enum", "ordinal", "()I"⟩ : MethodName)) (owner := "java/lang/Enum") hown (mvT hZ (hw _ (List.mem_of_getElem? (i := 38) rfl))) (mvT hZ (hw _ (List.mem_of_getElem? (i := 39) rfl))) (mvT hZ (hw _ (List.mem_of_getElem? (i := 40) rfl))) (by decide) (mvT hZ (hw _ (List.mem_of_getElem? (i := 42) rfl))) (mvT hZ (hw _ (List.mem_of_getElem? (i := 41) rfl))) (backOf (W := 1) (own_rm6 l Z av hw [] a1 (6 : Int32) h0 n0 Z0 F_ordinal_a1) hZ (hw _ (List.mem_of_getElem? (i := 44) rfl)) (hw _ (List.mem_of_getElem? (i := 43) rfl)) (by decide) (by decide)) q2a q2c (g := (mkF m 5 #[oa a0, oa a1] [(.ref a1), (.ref b)])) rfl (by rw [hml]; rfl) (Steps.refl _) (argsL := []) (rest := [(.ref b)]) (lenOf own_pd1 rfl) rfl (by show 2 * 0 + _ ≤ _; exact Nat.le_of_eq rfl) (hb hby own_d5_5) (fun _ _ => ⟨rfl, e1, (by decide : 0 + 0 ≤ _), (by decide : 0 + 0 ≤ _)⟩)
  dsimp only [Pt.U, Pt.locs, Pt.cells, Pt.slots] at X2 l2 y2 z2 st2 hQ2
  have yq2 : k2 = 0 := y2
  have zq2 : n2 = 0 := z2
  subst yq2 zq2
  obtain ⟨rfl, Nq2, eq2⟩ := hQ2
  have N2 : Fr n0 L2 := by rw [l2]; exact Fr.app N0 Nq2
  have pre3 : ∀ t, Steps p.tables e below (T2.setTop (mkF m 8 #[oa a0, oa a1] [(.int (own_f6 (6 : Int32))), (.ref b)])) t → Steps p.tables e below (s₁.setTop (entryFrame m #[(.ref a0), (.ref a1)] 2)) t := by
    intro t k
    refine pre0 t ?_
    show oS p e below s₁ m 0 #[oa a0, oa a1] [] _
    refine XS.aloadN X0.here hx rfl (hb hby own_d5_0) rfl rfl ?_
    show oS p e below s₁ m 1 #[oa a0, oa a1] [(.ref a0)] _
    refine st1 _ ?_
    show oS p e below T1 m 4 #[oa a0, oa a1] [(.ref b)] _
    refine XS.aloadN X1.here hx rfl (hb hby own_d5_4) rfl rfl ?_
    show oS p e below T1 m 5 #[oa a0, oa a1] [(.ref a1), (.ref b)] _
    refine st2.trans ?_
    exact k
  have rw_4 : (own_f6 (6 : Int32)) = (6 : Int32) := rfl
  rw [rw_4] at pre3
  obtain ⟨fs, hr, hrun, hended, hW, hsame⟩ := X2.leave (v := (some (.int x6))) (fun h => by rw [Bd.returns] at h; cases h)
  refine ⟨_, _, pre3 _ ?_, hrun, hended, _, _, rfl, ?_, ⟨_, rfl⟩, hW, hsame.mono (by decide) (by decide)⟩
  · show oS p e below T2 m 8 #[oa a0, oa a1] [(.int (6 : Int32)), (.ref b)] _
    refine oLdI X2 hx hZ eq2 V_b (v := (.int x6)) ⟨by decide, by decide⟩ rfl (hb hby own_d5_8) ?_
    show oS p e below T2 m 9 #[oa a0, oa a1] [(.int x6)] _
    exact retOut X2 hx Bd.returns rfl (Or.inl ⟨rfl, Or.inl rfl, _, rfl⟩) (hb hby own_d5_9) hr
  · show own_Q5_6 Z a0 a1 b k_b x0 x1 x2 x3 x4 x5 x6 x7 h0 n0 _ T2.heap _
    rw [eq2]
    exact ⟨congrArg (fun z => some (Value.int z)) (by rw [own_f5_6]), N2, rfl⟩
theorem own_ef5_7 (m : MethodId) (a0 : Addr) (a1 : Addr) : entryFrame m #[(.ref a0), (.ref a1)] 2 = mkF m 0 #[oa a0, oa a1] [] := by first | (simp [entryFrame, mkF, argsToLocals, Value.category]; done) | rfl
def own_f5_7 (x7 : Int32) : Int32 := x7
def own_Q5_7 (Z : State) (a0 : Addr) (a1 : Addr) (b : Addr) (k_b : ClassId) (x0 : Int32) (x1 : Int32) (x2 : Int32) (x3 : Int32) (x4 : Int32) (x5 : Int32) (x6 : Int32) (x7 : Int32) (h0 : Heap) (n0 : Nat) (v : Option Value) (h : Heap) (L : List Loc) : Prop := v = some (Value.int (own_f5_7 x7)) ∧ Fr n0 L ∧ h = h0
set_option maxRecDepth 65536 in
set_option maxHeartbeats 40000000 in
theorem own_rm5_7 (l : Launch) (Z : State) (av : Array Value) (hw : ∀ d ∈ tables_1, d.before av Z = true) (ws : List Jvm.Cond) (a0 : Addr) (a1 : Addr) (b : Addr) (k_b : ClassId) (x0 : Int32) (x1 : Int32) (x2 : Int32) (x3 : Int32) (x4 : Int32) (x5 : Int32) (x6 : Int32) (x7 : Int32) (h0 : Heap) (n0 : Nat) (Z0 : n0 ≤ h0.size) (F_byModule_a0 : Fld Z h0 a0 "com/example/muster/muster/model/Levels" "byModule" "[I" (.ref b)) (V_b : Arv Z h0 b k_b .int (8 : Int32) [(.int x0), (.int x1), (.int x2), (.int x3), (.int x4), (.int x5), (.int x6), (.int x7)] (.int (0 : Int32))) (E_a1 : Exa Z h0 a1 "com/example/muster/muster/model/ProjectModule") (F_ordinal_a1 : Fld Z h0 a1 "java/lang/Enum" "ordinal" "I" (.int (7 : Int32))) :
    MetFree l (⟨"com/example/muster/muster/model/Levels", "of", "(Lcom/example/muster/muster/model/ProjectModule;)I"⟩ : MethodName) (head1 (Jvm.Cond.code (⟨"com/example/muster/muster/model/Levels", "of", "(Lcom/example/muster/muster/model/ProjectModule;)I"⟩ : MethodName) prog_39_method_4_code 2 (some .int) :: ws) ({ frames := 1, cells := 0, slots := 0, locals := 13 } : Room)) (fun a U => a = #[(.ref a0), (.ref a1)] ∧ Z.Warmed39 U.vm ∧ U.heap = h0) (fun _ _ _ _ _ => True) (fun _ U o U' => ∃ v L, o = .returned v ∧ own_Q5_7 Z a0 a1 b k_b x0 x1 x2 x3 x4 x5 x6 x7 h0 n0 v U'.heap L ∧ FrameEnd U o U' L ({ frames := 1, cells := 0, slots := 0, locals := 13 } : Room).cells ({ frames := 1, cells := 0, slots := 0, locals := 13 } : Room).slots) := by
  refine MetFree.of_bodySF (plainFor_of_name own_pn1) hisR ?_
  intro p e s m args below meth c s₁ Bd hml0 hP hK
  obtain ⟨rfl, hZ, hh⟩ := hP
  have hx := Bd.exec
  have hby := Bd.bytes
  have hml : c.maxLocals = 2 := hml0
  have hown : s.vm.findClass "com/example/muster/muster/model/Levels" = some m.cls := findClass_of_methodNamed Bd.named
  have hnm := (name_of_methodNamed Bd.named Bd.method).1
  have X0 : Stand p l e ({ frames := 1, cells := 0, slots := 0, locals := 13 } : Room) s m #[(.ref a0), (.ref a1)] below meth c s₁ [] 0 0 := Stand.of_body Bd
  have e0 : s₁.heap = h0 := by rw [← hh, Bd.state]; rfl
  have N0 := Fr.nil n0
  have pre0 : ∀ t, Steps p.tables e below (s₁.setTop (mkF m 0 #[oa a0, oa a1] [])) t → Steps p.tables e below (s₁.setTop (entryFrame m #[(.ref a0), (.ref a1)] 2)) t := fun t k => castTop (own_ef5_7 m a0 a1) k
  obtain ⟨T1, X1, e1, st1⟩ := getF X0 hx hZ hown (host := "") (Or.inl (hw _ (List.mem_of_getElem? (i := 28) rfl))) Via.refl e0 F_byModule_a0 (g := (mkF m 1 #[oa a0, oa a1] [(.ref a0)])) rfl rfl (hb hby own_d5_1)
  obtain ⟨cq2, kq2, q2a, q2b, q2c⟩ := isOf hZ e1 E_a1
  obtain ⟨_, _, ⟨T2, L2, k2, n2⟩, -, X2, ⟨Lc2, hQ2, l2, y2, z2⟩, st2⟩ := X1.virtualBackUp hx (x := (⟨"com/example/muster/muster/model/ProjectModule", "ordinal", "()I"⟩ : MethodName)) (y := (⟨"java/lang/Enum", "ordinal", "()I"⟩ : MethodName)) (owner := "java/lang/Enum") hown (mvT hZ (hw _ (List.mem_of_getElem? (i := 38) rfl))) (mvT hZ (hw _ (List.mem_of_getElem? (i := 39) rfl))) (mvT hZ (hw _ (List.mem_of_getElem? (i := 40) rfl))) (by decide) (mvT hZ (hw _ (List.mem_of_getElem? (i := 42) rfl))) (mvT hZ (hw _ (List.mem_of_getElem? (i := 41) rfl))) (backOf (W := 1) (own_rm6 l Z av hw [] a1 (7 : Int32) h0 n0 Z0 F_ordinal_a1) hZ (hw _ (List.mem_of_getElem? (i := 44) rfl)) (hw _ (List.mem_of_getElem? (i := 43) rfl)) (by decide) (by decide)) q2a q2c (g := (mkF m 5 #[oa a0, oa a1] [(.ref a1), (.ref b)])) rfl (by rw [hml]; rfl) (Steps.refl _) (argsL := []) (rest := [(.ref b)]) (lenOf own_pd1 rfl) rfl (by show 2 * 0 + _ ≤ _; exact Nat.le_of_eq rfl) (hb hby own_d5_5) (fun _ _ => ⟨rfl, e1, (by decide : 0 + 0 ≤ _), (by decide : 0 + 0 ≤ _)⟩)
  dsimp only [Pt.U, Pt.locs, Pt.cells, Pt.slots] at X2 l2 y2 z2 st2 hQ2
  have yq2 : k2 = 0 := y2
  have zq2 : n2 = 0 := z2
  subst yq2 zq2
  obtain ⟨rfl, Nq2, eq2⟩ := hQ2
  have N2 : Fr n0 L2 := by rw [l2]; exact Fr.app N0 Nq2
  have pre3 : ∀ t, Steps p.tables e below (T2.setTop (mkF m 8 #[oa a0, oa a1] [(.int (own_f6 (7 : Int32))), (.ref b)])) t → Steps p.tables e below (s₁.setTop (entryFrame m #[(.ref a0), (.ref a1)] 2)) t := by
    intro t k
    refine pre0 t ?_
    show oS p e below s₁ m 0 #[oa a0, oa a1] [] _
    refine XS.aloadN X0.here hx rfl (hb hby own_d5_0) rfl rfl ?_
    show oS p e below s₁ m 1 #[oa a0, oa a1] [(.ref a0)] _
    refine st1 _ ?_
    show oS p e below T1 m 4 #[oa a0, oa a1] [(.ref b)] _
    refine XS.aloadN X1.here hx rfl (hb hby own_d5_4) rfl rfl ?_
    show oS p e below T1 m 5 #[oa a0, oa a1] [(.ref a1), (.ref b)] _
    refine st2.trans ?_
    exact k
  have rw_4 : (own_f6 (7 : Int32)) = (7 : Int32) := rfl
  rw [rw_4] at pre3
  obtain ⟨fs, hr, hrun, hended, hW, hsame⟩ := X2.leave (v := (some (.int x7))) (fun h => by rw [Bd.returns] at h; cases h)
  refine ⟨_, _, pre3 _ ?_, hrun, hended, _, _, rfl, ?_, ⟨_, rfl⟩, hW, hsame.mono (by decide) (by decide)⟩
  · show oS p e below T2 m 8 #[oa a0, oa a1] [(.int (7 : Int32)), (.ref b)] _
    refine oLdI X2 hx hZ eq2 V_b (v := (.int x7)) ⟨by decide, by decide⟩ rfl (hb hby own_d5_8) ?_
    show oS p e below T2 m 9 #[oa a0, oa a1] [(.int x7)] _
    exact retOut X2 hx Bd.returns rfl (Or.inl ⟨rfl, Or.inl rfl, _, rfl⟩) (hb hby own_d5_9) hr
  · show own_Q5_7 Z a0 a1 b k_b x0 x1 x2 x3 x4 x5 x6 x7 h0 n0 _ T2.heap _
    rw [eq2]
    exact ⟨congrArg (fun z => some (Value.int z)) (by rw [own_f5_7]), N2, rfl⟩
theorem own_lv (p i : Int32) : ¬ (own_f1 p i < (0 : Int32)) ∧ ¬ ((3 : Int32) < own_f1 p i) := by
  unfold own_f1
  have h : ∀ y : Int32, (y &&& (3 : Int32)).toInt = y.toInt % 4 := fun y => c_mask y 3 2 (by decide) (by decide)
  simp only [own_ltp, Int32.reduceToInt, h]
  omega
theorem own_pd2 : parseMethodDescriptor "(II)I" = some ⟨[.int, .int], some .int⟩ := by decide +kernel
theorem own_pd3 : parseMethodDescriptor "([I)Lcom/example/muster/muster/model/Levels;" = some ⟨[(.array .int)], some (.object "com/example/muster/muster/model/Levels")⟩ := by decide +kernel
theorem own_pd4 : parseMethodDescriptor "(Lcom/example/muster/muster/model/ProjectModule;)I" = some ⟨[(.object "com/example/muster/muster/model/ProjectModule")], some .int⟩ := by decide +kernel
theorem own_ef0 (m : MethodId) (p0 : Int32) : entryFrame m #[(.int p0)] maxLocals = mkF m 0 #[oi p0, .unset, .unset] [] := by first | (simp [entryFrame, mkF, argsToLocals, Value.category, maxLocals]; done) | rfl
def own_Q0 (Z : State) (p0 : Int32) (aM0 : Addr) (aM1 : Addr) (aM2 : Addr) (aM3 : Addr) (aM4 : Addr) (aM5 : Addr) (aM6 : Addr) (aM7 : Addr) (h0 : Heap) (n0 : Nat) (v : Option Value) (h : Heap) (L : List Loc) : Prop := v = some (Value.int (1 : Int32)) ∧ Fr n0 L
set_option maxRecDepth 65536 in
set_option maxHeartbeats 40000000 in
theorem own_rm0 (l : Launch) (Z : State) (av : Array Value) (hw : ∀ d ∈ tables_1, d.before av Z = true) (ws : List Jvm.Cond) (p0 : Int32) (aM0 : Addr) (aM1 : Addr) (aM2 : Addr) (aM3 : Addr) (aM4 : Addr) (aM5 : Addr) (aM6 : Addr) (aM7 : Addr) (h0 : Heap) (n0 : Nat) (Z0 : n0 ≤ h0.size) (S_MODULES : Sta Z h0 "com/example/muster/muster/model/Levels" "MODULES" "I" (.int (8 : Int32))) (S_MILESTONE : Sta Z h0 "com/example/muster/muster/model/ProjectModule" "MILESTONE" "Lcom/example/muster/muster/model/ProjectModule;" (.ref aM0)) (S_DISCUSSION : Sta Z h0 "com/example/muster/muster/model/ProjectModule" "DISCUSSION" "Lcom/example/muster/muster/model/ProjectModule;" (.ref aM1)) (S_FILE : Sta Z h0 "com/example/muster/muster/model/ProjectModule" "FILE" "Lcom/example/muster/muster/model/ProjectModule;" (.ref aM2)) (S_NOTEBOOK : Sta Z h0 "com/example/muster/muster/model/ProjectModule" "NOTEBOOK" "Lcom/example/muster/muster/model/ProjectModule;" (.ref aM3)) (S_REPOSITORY : Sta Z h0 "com/example/muster/muster/model/ProjectModule" "REPOSITORY" "Lcom/example/muster/muster/model/ProjectModule;" (.ref aM4)) (S_TASK : Sta Z h0 "com/example/muster/muster/model/ProjectModule" "TASK" "Lcom/example/muster/muster/model/ProjectModule;" (.ref aM5)) (S_TRACKING : Sta Z h0 "com/example/muster/muster/model/ProjectModule" "TRACKING" "Lcom/example/muster/muster/model/ProjectModule;" (.ref aM6)) (S_TODO_LIST : Sta Z h0 "com/example/muster/muster/model/ProjectModule" "TODO_LIST" "Lcom/example/muster/muster/model/ProjectModule;" (.ref aM7)) (E_aM0 : Exa Z h0 aM0 "com/example/muster/muster/model/ProjectModule") (E_aM1 : Exa Z h0 aM1 "com/example/muster/muster/model/ProjectModule") (E_aM2 : Exa Z h0 aM2 "com/example/muster/muster/model/ProjectModule") (E_aM3 : Exa Z h0 aM3 "com/example/muster/muster/model/ProjectModule") (E_aM4 : Exa Z h0 aM4 "com/example/muster/muster/model/ProjectModule") (E_aM5 : Exa Z h0 aM5 "com/example/muster/muster/model/ProjectModule") (E_aM6 : Exa Z h0 aM6 "com/example/muster/muster/model/ProjectModule") (E_aM7 : Exa Z h0 aM7 "com/example/muster/muster/model/ProjectModule") (F_ordinal_aM0 : Fld Z h0 aM0 "java/lang/Enum" "ordinal" "I" (.int (0 : Int32))) (F_ordinal_aM1 : Fld Z h0 aM1 "java/lang/Enum" "ordinal" "I" (.int (1 : Int32))) (F_ordinal_aM2 : Fld Z h0 aM2 "java/lang/Enum" "ordinal" "I" (.int (2 : Int32))) (F_ordinal_aM3 : Fld Z h0 aM3 "java/lang/Enum" "ordinal" "I" (.int (3 : Int32))) (F_ordinal_aM4 : Fld Z h0 aM4 "java/lang/Enum" "ordinal" "I" (.int (4 : Int32))) (F_ordinal_aM5 : Fld Z h0 aM5 "java/lang/Enum" "ordinal" "I" (.int (5 : Int32))) (F_ordinal_aM6 : Fld Z h0 aM6 "java/lang/Enum" "ordinal" "I" (.int (6 : Int32))) (F_ordinal_aM7 : Fld Z h0 aM7 "java/lang/Enum" "ordinal" "I" (.int (7 : Int32))) :
    MetFree l x (head1 (Jvm.Cond.code x code maxLocals ret :: ws) room_1) (fun a U => a = #[(.int p0)] ∧ Z.Warmed39 U.vm ∧ U.heap = h0) (fun _ _ _ _ _ => True) (fun _ U o U' => ∃ v L, o = .returned v ∧ own_Q0 Z p0 aM0 aM1 aM2 aM3 aM4 aM5 aM6 aM7 h0 n0 v U'.heap L ∧ FrameEnd U o U' L room_1.cells room_1.slots) := by
  refine MetFree.of_bodySF (plainFor_of_name own_pn0) hisR ?_
  intro p e s m args below meth c s₁ Bd hml0 hP hK
  obtain ⟨rfl, hZ, hh⟩ := hP
  have hx := Bd.exec
  have hby := Bd.bytes
  have hml : c.maxLocals = 3 := hml0
  have hown : s.vm.findClass "com/example/muster/muster/model/LevelsOfPinLaw" = some m.cls := findClass_of_methodNamed Bd.named
  have hnm := (name_of_methodNamed Bd.named Bd.method).1
  have X0 : Stand p l e room_1 s m #[(.int p0)] below meth c s₁ [] 0 0 := Stand.of_body Bd
  have e0 : s₁.heap = h0 := by rw [← hh, Bd.state]; rfl
  have N0 := Fr.nil n0
  have pre0 : ∀ t, Steps p.tables e below (s₁.setTop (mkF m 0 #[oi p0, .unset, .unset] [])) t → Steps p.tables e below (s₁.setTop (entryFrame m #[(.int p0)] maxLocals)) t := fun t k => castTop (own_ef0 m p0) k
  obtain ⟨T1, h1, k1, X1, e1, E1, A1, B1, st1⟩ := newPE X0 hx hZ (hw _ (List.mem_of_getElem? (i := 0) rfl)) e0 (g := (mkF m 2 #[oi p0, .unset, .unset] [(.int (8 : Int32))])) rfl (hb hby at_2) rfl (by decide) (cap := 8) (by decide) (by decide) (by decide) (by decide) (ad := "[I") rfl
  obtain ⟨b1, g1⟩ : ∃ z, z = h0.size := ⟨_, rfl⟩
  rw [← g1] at A1 st1 B1
  have g_b1 : n0 ≤ b1 := Nat.le_trans Z0 (Nat.le_of_eq g1.symm)
  have ne2 : aM0 ≠ b1 := Nat.ne_of_lt (Nat.lt_of_lt_of_le E_aM0.lt (Nat.le_of_eq g1.symm))
  have ne3 : aM1 ≠ b1 := Nat.ne_of_lt (Nat.lt_of_lt_of_le E_aM1.lt (Nat.le_of_eq g1.symm))
  have ne4 : aM2 ≠ b1 := Nat.ne_of_lt (Nat.lt_of_lt_of_le E_aM2.lt (Nat.le_of_eq g1.symm))
  have ne5 : aM3 ≠ b1 := Nat.ne_of_lt (Nat.lt_of_lt_of_le E_aM3.lt (Nat.le_of_eq g1.symm))
  have ne6 : aM4 ≠ b1 := Nat.ne_of_lt (Nat.lt_of_lt_of_le E_aM4.lt (Nat.le_of_eq g1.symm))
  have ne7 : aM5 ≠ b1 := Nat.ne_of_lt (Nat.lt_of_lt_of_le E_aM5.lt (Nat.le_of_eq g1.symm))
  have ne8 : aM6 ≠ b1 := Nat.ne_of_lt (Nat.lt_of_lt_of_le E_aM6.lt (Nat.le_of_eq g1.symm))
  have ne9 : aM7 ≠ b1 := Nat.ne_of_lt (Nat.lt_of_lt_of_le E_aM7.lt (Nat.le_of_eq g1.symm))
  have Z1 : n0 ≤ h1.size := Nat.le_trans Z0 E1.1
  have F10 := S_MODULES.ext E1
  have F11 := S_MILESTONE.ext E1
  have F12 := S_DISCUSSION.ext E1
  have F13 := S_FILE.ext E1
  have F14 := S_NOTEBOOK.ext E1
  have F15 := S_REPOSITORY.ext E1
  have F16 := S_TASK.ext E1
  have F17 := S_TRACKING.ext E1
  have F18 := S_TODO_LIST.ext E1
  have F19 := E_aM0.ext E1
  have F20 := E_aM1.ext E1
  have F21 := E_aM2.ext E1
  have F22 := E_aM3.ext E1
  have F23 := E_aM4.ext E1
  have F24 := E_aM5.ext E1
  have F25 := E_aM6.ext E1
  have F26 := E_aM7.ext E1
  have F27 := F_ordinal_aM0.ext E1
  have F28 := F_ordinal_aM1.ext E1
  have F29 := F_ordinal_aM2.ext E1
  have F30 := F_ordinal_aM3.ext E1
  have F31 := F_ordinal_aM4.ext E1
  have F32 := F_ordinal_aM5.ext E1
  have F33 := F_ordinal_aM6.ext E1
  have F34 := F_ordinal_aM7.ext E1
  have V_35 : Arv Z h1 b1 k1 .int (8 : Int32) [(.int (0 : Int32)), (.int (0 : Int32)), (.int (0 : Int32)), (.int (0 : Int32)), (.int (0 : Int32)), (.int (0 : Int32)), (.int (0 : Int32)), (.int (0 : Int32))] (.int (0 : Int32)) := (Arv.new A1 (by decide)).pad (pad_rep [] (.int (0 : Int32)) 8)
  obtain ⟨_, _, ⟨T36, L36, k36, n36⟩, -, X36, ⟨Lc36, hQ36, l36, y36, z36⟩, st36⟩ := Jvm.LawKit.callS X1 hx (y := (⟨"com/example/muster/muster/model/LevelsOfPinLaw", "lv", "(II)I"⟩ : MethodName)) hown (mvT hZ (hw _ (List.mem_of_getElem? (i := 1) rfl))) (mvT hZ (hw _ (List.mem_of_getElem? (i := 2) rfl))) (mvT hZ (hw _ (List.mem_of_getElem? (i := 3) rfl))) (mvT hZ (hw _ (List.mem_of_getElem? (i := 4) rfl))) (by decide) (backOf (W := 2) (own_rm1 l Z av hw [] p0 (0 : Int32) h1 n0 Z1 ) hZ (hw _ (List.mem_of_getElem? (i := 4) rfl)) (hw _ (List.mem_of_getElem? (i := 3) rfl)) (by decide) (by decide)) (g := (mkF m 9 #[oi p0, oa b1, .unset] [(.int (0 : Int32)), (.int p0), (.int (0 : Int32)), (.ref b1)])) rfl (by rw [hml]; rfl) (argsL := [(.int p0), (.int (0 : Int32))]) (rest := [(.int (0 : Int32)), (.ref b1)]) (lenOf own_pd2 rfl) rfl (by show 2 * 0 + _ ≤ _; exact Nat.le_of_eq rfl) (hb hby at_9) (fun _ _ => ⟨rfl, e1, (by decide : 1 + 0 ≤ _), (by decide : 8 + 0 ≤ _)⟩)
  dsimp only [Pt.U, Pt.locs, Pt.cells, Pt.slots] at X36 l36 y36 z36 st36 hQ36
  have yq36 : k36 = 1 := y36
  have zq36 : n36 = 8 := z36
  subst yq36 zq36
  obtain ⟨rfl, Nq36, eq36⟩ := hQ36
  have N36 : Fr n0 L36 := by rw [l36]; exact Fr.app N0 Nq36
  obtain ⟨T37, h37, X37, e37, W37, V37, st37⟩ := oStI X36 hx hZ eq36 V_35 (j := (0 : Int32)) ⟨by decide, by decide⟩ 0 rfl (Nat.le_of_ble_eq_true rfl) (g := (mkF m 12 #[oi p0, oa b1, .unset] [(.int (own_f1 p0 (0 : Int32))), (.int (0 : Int32)), (.ref b1)])) rfl rfl (hb hby at_12)
  obtain ⟨Lo37, X37, N37⟩ := oOpq X37 (Fr.snoc X37 N36 g_b1)
  have Z37 := Nat.le_trans Z1 (Keep.of_wr W37).1
  have F38 := F10.wr W37
  have F39 := F11.wr W37
  have F40 := F12.wr W37
  have F41 := F13.wr W37
  have F42 := F14.wr W37
  have F43 := F15.wr W37
  have F44 := F16.wr W37
  have F45 := F17.wr W37
  have F46 := F18.wr W37
  have F47 := F19.wr W37
  have F48 := F20.wr W37
  have F49 := F21.wr W37
  have F50 := F22.wr W37
  have F51 := F23.wr W37
  have F52 := F24.wr W37
  have F53 := F25.wr W37
  have F54 := F26.wr W37
  have F55 := F27.other W37 (Or.inl ne2)
  have F56 := F28.other W37 (Or.inl ne3)
  have F57 := F29.other W37 (Or.inl ne4)
  have F58 := F30.other W37 (Or.inl ne5)
  have F59 := F31.other W37 (Or.inl ne6)
  have F60 := F32.other W37 (Or.inl ne7)
  have F61 := F33.other W37 (Or.inl ne8)
  have F62 := F34.other W37 (Or.inl ne9)
  have F63 := B1.wr W37
  have V_64 : Arv Z h37 b1 k1 .int (8 : Int32) [(.int (own_f1 p0 (0 : Int32))), (.int (0 : Int32)), (.int (0 : Int32)), (.int (0 : Int32)), (.int (0 : Int32)), (.int (0 : Int32)), (.int (0 : Int32)), (.int (0 : Int32))] (.int (0 : Int32)) := V37
  obtain ⟨_, _, ⟨T65, L65, k65, n65⟩, -, X65, ⟨Lc65, hQ65, l65, y65, z65⟩, st65⟩ := Jvm.LawKit.callS X37 hx (y := (⟨"com/example/muster/muster/model/LevelsOfPinLaw", "lv", "(II)I"⟩ : MethodName)) hown (mvT hZ (hw _ (List.mem_of_getElem? (i := 1) rfl))) (mvT hZ (hw _ (List.mem_of_getElem? (i := 2) rfl))) (mvT hZ (hw _ (List.mem_of_getElem? (i := 3) rfl))) (mvT hZ (hw _ (List.mem_of_getElem? (i := 4) rfl))) (by decide) (backOf (W := 2) (own_rm1 l Z av hw [] p0 (1 : Int32) h37 n0 Z37 ) hZ (hw _ (List.mem_of_getElem? (i := 4) rfl)) (hw _ (List.mem_of_getElem? (i := 3) rfl)) (by decide) (by decide)) (g := (mkF m 17 #[oi p0, oa b1, .unset] [(.int (1 : Int32)), (.int p0), (.int (1 : Int32)), (.ref b1)])) rfl (by rw [hml]; rfl) (argsL := [(.int p0), (.int (1 : Int32))]) (rest := [(.int (1 : Int32)), (.ref b1)]) (lenOf own_pd2 rfl) rfl (by show 2 * 0 + _ ≤ _; exact Nat.le_of_eq rfl) (hb hby at_17) (fun _ _ => ⟨rfl, e37, (by decide : 1 + 0 ≤ _), (by decide : 8 + 0 ≤ _)⟩)
  dsimp only [Pt.U, Pt.locs, Pt.cells, Pt.slots] at X65 l65 y65 z65 st65 hQ65
  have yq65 : k65 = 1 := y65
  have zq65 : n65 = 8 := z65
  subst yq65 zq65
  obtain ⟨rfl, Nq65, eq65⟩ := hQ65
  have N65 : Fr n0 L65 := by rw [l65]; exact Fr.app N37 Nq65
  obtain ⟨T66, h66, X66, e66, W66, V66, st66⟩ := oStI X65 hx hZ eq65 V_64 (j := (1 : Int32)) ⟨by decide, by decide⟩ 1 rfl (Nat.le_of_ble_eq_true rfl) (g := (mkF m 20 #[oi p0, oa b1, .unset] [(.int (own_f1 p0 (1 : Int32))), (.int (1 : Int32)), (.ref b1)])) rfl rfl (hb hby at_20)
  obtain ⟨Lo66, X66, N66⟩ := oOpq X66 (Fr.snoc X66 N65 g_b1)
  have Z66 := Nat.le_trans Z37 (Keep.of_wr W66).1
  have F67 := F38.wr W66
  have F68 := F39.wr W66
  have F69 := F40.wr W66
  have F70 := F41.wr W66
  have F71 := F42.wr W66
  have F72 := F43.wr W66
  have F73 := F44.wr W66
  have F74 := F45.wr W66
  have F75 := F46.wr W66
  have F76 := F47.wr W66
  have F77 := F48.wr W66
  have F78 := F49.wr W66
  have F79 := F50.wr W66
  have F80 := F51.wr W66
  have F81 := F52.wr W66
  have F82 := F53.wr W66
  have F83 := F54.wr W66
  have F84 := F55.other W66 (Or.inl ne2)
  have F85 := F56.other W66 (Or.inl ne3)
  have F86 := F57.other W66 (Or.inl ne4)
  have F87 := F58.other W66 (Or.inl ne5)
  have F88 := F59.other W66 (Or.inl ne6)
  have F89 := F60.other W66 (Or.inl ne7)
  have F90 := F61.other W66 (Or.inl ne8)
  have F91 := F62.other W66 (Or.inl ne9)
  have F92 := F63.wr W66
  have V_93 : Arv Z h66 b1 k1 .int (8 : Int32) [(.int (own_f1 p0 (0 : Int32))), (.int (own_f1 p0 (1 : Int32))), (.int (0 : Int32)), (.int (0 : Int32)), (.int (0 : Int32)), (.int (0 : Int32)), (.int (0 : Int32)), (.int (0 : Int32))] (.int (0 : Int32)) := V66
  obtain ⟨_, _, ⟨T94, L94, k94, n94⟩, -, X94, ⟨Lc94, hQ94, l94, y94, z94⟩, st94⟩ := Jvm.LawKit.callS X66 hx (y := (⟨"com/example/muster/muster/model/LevelsOfPinLaw", "lv", "(II)I"⟩ : MethodName)) hown (mvT hZ (hw _ (List.mem_of_getElem? (i := 1) rfl))) (mvT hZ (hw _ (List.mem_of_getElem? (i := 2) rfl))) (mvT hZ (hw _ (List.mem_of_getElem? (i := 3) rfl))) (mvT hZ (hw _ (List.mem_of_getElem? (i := 4) rfl))) (by decide) (backOf (W := 2) (own_rm1 l Z av hw [] p0 (2 : Int32) h66 n0 Z66 ) hZ (hw _ (List.mem_of_getElem? (i := 4) rfl)) (hw _ (List.mem_of_getElem? (i := 3) rfl)) (by decide) (by decide)) (g := (mkF m 25 #[oi p0, oa b1, .unset] [(.int (2 : Int32)), (.int p0), (.int (2 : Int32)), (.ref b1)])) rfl (by rw [hml]; rfl) (argsL := [(.int p0), (.int (2 : Int32))]) (rest := [(.int (2 : Int32)), (.ref b1)]) (lenOf own_pd2 rfl) rfl (by show 2 * 0 + _ ≤ _; exact Nat.le_of_eq rfl) (hb hby at_25) (fun _ _ => ⟨rfl, e66, (by decide : 1 + 0 ≤ _), (by decide : 8 + 0 ≤ _)⟩)
  dsimp only [Pt.U, Pt.locs, Pt.cells, Pt.slots] at X94 l94 y94 z94 st94 hQ94
  have yq94 : k94 = 1 := y94
  have zq94 : n94 = 8 := z94
  subst yq94 zq94
  obtain ⟨rfl, Nq94, eq94⟩ := hQ94
  have N94 : Fr n0 L94 := by rw [l94]; exact Fr.app N66 Nq94
  obtain ⟨T95, h95, X95, e95, W95, V95, st95⟩ := oStI X94 hx hZ eq94 V_93 (j := (2 : Int32)) ⟨by decide, by decide⟩ 2 rfl (Nat.le_of_ble_eq_true rfl) (g := (mkF m 28 #[oi p0, oa b1, .unset] [(.int (own_f1 p0 (2 : Int32))), (.int (2 : Int32)), (.ref b1)])) rfl rfl (hb hby at_28)
  obtain ⟨Lo95, X95, N95⟩ := oOpq X95 (Fr.snoc X95 N94 g_b1)
  have Z95 := Nat.le_trans Z66 (Keep.of_wr W95).1
  have F96 := F67.wr W95
  have F97 := F68.wr W95
  have F98 := F69.wr W95
  have F99 := F70.wr W95
  have F100 := F71.wr W95
  have F101 := F72.wr W95
  have F102 := F73.wr W95
  have F103 := F74.wr W95
  have F104 := F75.wr W95
  have F105 := F76.wr W95
  have F106 := F77.wr W95
  have F107 := F78.wr W95
  have F108 := F79.wr W95
  have F109 := F80.wr W95
  have F110 := F81.wr W95
  have F111 := F82.wr W95
  have F112 := F83.wr W95
  have F113 := F84.other W95 (Or.inl ne2)
  have F114 := F85.other W95 (Or.inl ne3)
  have F115 := F86.other W95 (Or.inl ne4)
  have F116 := F87.other W95 (Or.inl ne5)
  have F117 := F88.other W95 (Or.inl ne6)
  have F118 := F89.other W95 (Or.inl ne7)
  have F119 := F90.other W95 (Or.inl ne8)
  have F120 := F91.other W95 (Or.inl ne9)
  have F121 := F92.wr W95
  have V_122 : Arv Z h95 b1 k1 .int (8 : Int32) [(.int (own_f1 p0 (0 : Int32))), (.int (own_f1 p0 (1 : Int32))), (.int (own_f1 p0 (2 : Int32))), (.int (0 : Int32)), (.int (0 : Int32)), (.int (0 : Int32)), (.int (0 : Int32)), (.int (0 : Int32))] (.int (0 : Int32)) := V95
  obtain ⟨_, _, ⟨T123, L123, k123, n123⟩, -, X123, ⟨Lc123, hQ123, l123, y123, z123⟩, st123⟩ := Jvm.LawKit.callS X95 hx (y := (⟨"com/example/muster/muster/model/LevelsOfPinLaw", "lv", "(II)I"⟩ : MethodName)) hown (mvT hZ (hw _ (List.mem_of_getElem? (i := 1) rfl))) (mvT hZ (hw _ (List.mem_of_getElem? (i := 2) rfl))) (mvT hZ (hw _ (List.mem_of_getElem? (i := 3) rfl))) (mvT hZ (hw _ (List.mem_of_getElem? (i := 4) rfl))) (by decide) (backOf (W := 2) (own_rm1 l Z av hw [] p0 (3 : Int32) h95 n0 Z95 ) hZ (hw _ (List.mem_of_getElem? (i := 4) rfl)) (hw _ (List.mem_of_getElem? (i := 3) rfl)) (by decide) (by decide)) (g := (mkF m 33 #[oi p0, oa b1, .unset] [(.int (3 : Int32)), (.int p0), (.int (3 : Int32)), (.ref b1)])) rfl (by rw [hml]; rfl) (argsL := [(.int p0), (.int (3 : Int32))]) (rest := [(.int (3 : Int32)), (.ref b1)]) (lenOf own_pd2 rfl) rfl (by show 2 * 0 + _ ≤ _; exact Nat.le_of_eq rfl) (hb hby at_33) (fun _ _ => ⟨rfl, e95, (by decide : 1 + 0 ≤ _), (by decide : 8 + 0 ≤ _)⟩)
  dsimp only [Pt.U, Pt.locs, Pt.cells, Pt.slots] at X123 l123 y123 z123 st123 hQ123
  have yq123 : k123 = 1 := y123
  have zq123 : n123 = 8 := z123
  subst yq123 zq123
  obtain ⟨rfl, Nq123, eq123⟩ := hQ123
  have N123 : Fr n0 L123 := by rw [l123]; exact Fr.app N95 Nq123
  obtain ⟨T124, h124, X124, e124, W124, V124, st124⟩ := oStI X123 hx hZ eq123 V_122 (j := (3 : Int32)) ⟨by decide, by decide⟩ 3 rfl (Nat.le_of_ble_eq_true rfl) (g := (mkF m 36 #[oi p0, oa b1, .unset] [(.int (own_f1 p0 (3 : Int32))), (.int (3 : Int32)), (.ref b1)])) rfl rfl (hb hby at_36)
  obtain ⟨Lo124, X124, N124⟩ := oOpq X124 (Fr.snoc X124 N123 g_b1)
  have Z124 := Nat.le_trans Z95 (Keep.of_wr W124).1
  have F125 := F96.wr W124
  have F126 := F97.wr W124
  have F127 := F98.wr W124
  have F128 := F99.wr W124
  have F129 := F100.wr W124
  have F130 := F101.wr W124
  have F131 := F102.wr W124
  have F132 := F103.wr W124
  have F133 := F104.wr W124
  have F134 := F105.wr W124
  have F135 := F106.wr W124
  have F136 := F107.wr W124
  have F137 := F108.wr W124
  have F138 := F109.wr W124
  have F139 := F110.wr W124
  have F140 := F111.wr W124
  have F141 := F112.wr W124
  have F142 := F113.other W124 (Or.inl ne2)
  have F143 := F114.other W124 (Or.inl ne3)
  have F144 := F115.other W124 (Or.inl ne4)
  have F145 := F116.other W124 (Or.inl ne5)
  have F146 := F117.other W124 (Or.inl ne6)
  have F147 := F118.other W124 (Or.inl ne7)
  have F148 := F119.other W124 (Or.inl ne8)
  have F149 := F120.other W124 (Or.inl ne9)
  have F150 := F121.wr W124
  have V_151 : Arv Z h124 b1 k1 .int (8 : Int32) [(.int (own_f1 p0 (0 : Int32))), (.int (own_f1 p0 (1 : Int32))), (.int (own_f1 p0 (2 : Int32))), (.int (own_f1 p0 (3 : Int32))), (.int (0 : Int32)), (.int (0 : Int32)), (.int (0 : Int32)), (.int (0 : Int32))] (.int (0 : Int32)) := V124
  obtain ⟨_, _, ⟨T152, L152, k152, n152⟩, -, X152, ⟨Lc152, hQ152, l152, y152, z152⟩, st152⟩ := Jvm.LawKit.callS X124 hx (y := (⟨"com/example/muster/muster/model/LevelsOfPinLaw", "lv", "(II)I"⟩ : MethodName)) hown (mvT hZ (hw _ (List.mem_of_getElem? (i := 1) rfl))) (mvT hZ (hw _ (List.mem_of_getElem? (i := 2) rfl))) (mvT hZ (hw _ (List.mem_of_getElem? (i := 3) rfl))) (mvT hZ (hw _ (List.mem_of_getElem? (i := 4) rfl))) (by decide) (backOf (W := 2) (own_rm1 l Z av hw [] p0 (4 : Int32) h124 n0 Z124 ) hZ (hw _ (List.mem_of_getElem? (i := 4) rfl)) (hw _ (List.mem_of_getElem? (i := 3) rfl)) (by decide) (by decide)) (g := (mkF m 41 #[oi p0, oa b1, .unset] [(.int (4 : Int32)), (.int p0), (.int (4 : Int32)), (.ref b1)])) rfl (by rw [hml]; rfl) (argsL := [(.int p0), (.int (4 : Int32))]) (rest := [(.int (4 : Int32)), (.ref b1)]) (lenOf own_pd2 rfl) rfl (by show 2 * 0 + _ ≤ _; exact Nat.le_of_eq rfl) (hb hby at_41) (fun _ _ => ⟨rfl, e124, (by decide : 1 + 0 ≤ _), (by decide : 8 + 0 ≤ _)⟩)
  dsimp only [Pt.U, Pt.locs, Pt.cells, Pt.slots] at X152 l152 y152 z152 st152 hQ152
  have yq152 : k152 = 1 := y152
  have zq152 : n152 = 8 := z152
  subst yq152 zq152
  obtain ⟨rfl, Nq152, eq152⟩ := hQ152
  have N152 : Fr n0 L152 := by rw [l152]; exact Fr.app N124 Nq152
  obtain ⟨T153, h153, X153, e153, W153, V153, st153⟩ := oStI X152 hx hZ eq152 V_151 (j := (4 : Int32)) ⟨by decide, by decide⟩ 4 rfl (Nat.le_of_ble_eq_true rfl) (g := (mkF m 44 #[oi p0, oa b1, .unset] [(.int (own_f1 p0 (4 : Int32))), (.int (4 : Int32)), (.ref b1)])) rfl rfl (hb hby at_44)
  obtain ⟨Lo153, X153, N153⟩ := oOpq X153 (Fr.snoc X153 N152 g_b1)
  have Z153 := Nat.le_trans Z124 (Keep.of_wr W153).1
  have F154 := F125.wr W153
  have F155 := F126.wr W153
  have F156 := F127.wr W153
  have F157 := F128.wr W153
  have F158 := F129.wr W153
  have F159 := F130.wr W153
  have F160 := F131.wr W153
  have F161 := F132.wr W153
  have F162 := F133.wr W153
  have F163 := F134.wr W153
  have F164 := F135.wr W153
  have F165 := F136.wr W153
  have F166 := F137.wr W153
  have F167 := F138.wr W153
  have F168 := F139.wr W153
  have F169 := F140.wr W153
  have F170 := F141.wr W153
  have F171 := F142.other W153 (Or.inl ne2)
  have F172 := F143.other W153 (Or.inl ne3)
  have F173 := F144.other W153 (Or.inl ne4)
  have F174 := F145.other W153 (Or.inl ne5)
  have F175 := F146.other W153 (Or.inl ne6)
  have F176 := F147.other W153 (Or.inl ne7)
  have F177 := F148.other W153 (Or.inl ne8)
  have F178 := F149.other W153 (Or.inl ne9)
  have F179 := F150.wr W153
  have V_180 : Arv Z h153 b1 k1 .int (8 : Int32) [(.int (own_f1 p0 (0 : Int32))), (.int (own_f1 p0 (1 : Int32))), (.int (own_f1 p0 (2 : Int32))), (.int (own_f1 p0 (3 : Int32))), (.int (own_f1 p0 (4 : Int32))), (.int (0 : Int32)), (.int (0 : Int32)), (.int (0 : Int32))] (.int (0 : Int32)) := V153
  obtain ⟨_, _, ⟨T181, L181, k181, n181⟩, -, X181, ⟨Lc181, hQ181, l181, y181, z181⟩, st181⟩ := Jvm.LawKit.callS X153 hx (y := (⟨"com/example/muster/muster/model/LevelsOfPinLaw", "lv", "(II)I"⟩ : MethodName)) hown (mvT hZ (hw _ (List.mem_of_getElem? (i := 1) rfl))) (mvT hZ (hw _ (List.mem_of_getElem? (i := 2) rfl))) (mvT hZ (hw _ (List.mem_of_getElem? (i := 3) rfl))) (mvT hZ (hw _ (List.mem_of_getElem? (i := 4) rfl))) (by decide) (backOf (W := 2) (own_rm1 l Z av hw [] p0 (5 : Int32) h153 n0 Z153 ) hZ (hw _ (List.mem_of_getElem? (i := 4) rfl)) (hw _ (List.mem_of_getElem? (i := 3) rfl)) (by decide) (by decide)) (g := (mkF m 49 #[oi p0, oa b1, .unset] [(.int (5 : Int32)), (.int p0), (.int (5 : Int32)), (.ref b1)])) rfl (by rw [hml]; rfl) (argsL := [(.int p0), (.int (5 : Int32))]) (rest := [(.int (5 : Int32)), (.ref b1)]) (lenOf own_pd2 rfl) rfl (by show 2 * 0 + _ ≤ _; exact Nat.le_of_eq rfl) (hb hby at_49) (fun _ _ => ⟨rfl, e153, (by decide : 1 + 0 ≤ _), (by decide : 8 + 0 ≤ _)⟩)
  dsimp only [Pt.U, Pt.locs, Pt.cells, Pt.slots] at X181 l181 y181 z181 st181 hQ181
  have yq181 : k181 = 1 := y181
  have zq181 : n181 = 8 := z181
  subst yq181 zq181
  obtain ⟨rfl, Nq181, eq181⟩ := hQ181
  have N181 : Fr n0 L181 := by rw [l181]; exact Fr.app N153 Nq181
  obtain ⟨T182, h182, X182, e182, W182, V182, st182⟩ := oStI X181 hx hZ eq181 V_180 (j := (5 : Int32)) ⟨by decide, by decide⟩ 5 rfl (Nat.le_of_ble_eq_true rfl) (g := (mkF m 52 #[oi p0, oa b1, .unset] [(.int (own_f1 p0 (5 : Int32))), (.int (5 : Int32)), (.ref b1)])) rfl rfl (hb hby at_52)
  obtain ⟨Lo182, X182, N182⟩ := oOpq X182 (Fr.snoc X182 N181 g_b1)
  have Z182 := Nat.le_trans Z153 (Keep.of_wr W182).1
  have F183 := F154.wr W182
  have F184 := F155.wr W182
  have F185 := F156.wr W182
  have F186 := F157.wr W182
  have F187 := F158.wr W182
  have F188 := F159.wr W182
  have F189 := F160.wr W182
  have F190 := F161.wr W182
  have F191 := F162.wr W182
  have F192 := F163.wr W182
  have F193 := F164.wr W182
  have F194 := F165.wr W182
  have F195 := F166.wr W182
  have F196 := F167.wr W182
  have F197 := F168.wr W182
  have F198 := F169.wr W182
  have F199 := F170.wr W182
  have F200 := F171.other W182 (Or.inl ne2)
  have F201 := F172.other W182 (Or.inl ne3)
  have F202 := F173.other W182 (Or.inl ne4)
  have F203 := F174.other W182 (Or.inl ne5)
  have F204 := F175.other W182 (Or.inl ne6)
  have F205 := F176.other W182 (Or.inl ne7)
  have F206 := F177.other W182 (Or.inl ne8)
  have F207 := F178.other W182 (Or.inl ne9)
  have F208 := F179.wr W182
  have V_209 : Arv Z h182 b1 k1 .int (8 : Int32) [(.int (own_f1 p0 (0 : Int32))), (.int (own_f1 p0 (1 : Int32))), (.int (own_f1 p0 (2 : Int32))), (.int (own_f1 p0 (3 : Int32))), (.int (own_f1 p0 (4 : Int32))), (.int (own_f1 p0 (5 : Int32))), (.int (0 : Int32)), (.int (0 : Int32))] (.int (0 : Int32)) := V182
  obtain ⟨_, _, ⟨T210, L210, k210, n210⟩, -, X210, ⟨Lc210, hQ210, l210, y210, z210⟩, st210⟩ := Jvm.LawKit.callS X182 hx (y := (⟨"com/example/muster/muster/model/LevelsOfPinLaw", "lv", "(II)I"⟩ : MethodName)) hown (mvT hZ (hw _ (List.mem_of_getElem? (i := 1) rfl))) (mvT hZ (hw _ (List.mem_of_getElem? (i := 2) rfl))) (mvT hZ (hw _ (List.mem_of_getElem? (i := 3) rfl))) (mvT hZ (hw _ (List.mem_of_getElem? (i := 4) rfl))) (by decide) (backOf (W := 2) (own_rm1 l Z av hw [] p0 (6 : Int32) h182 n0 Z182 ) hZ (hw _ (List.mem_of_getElem? (i := 4) rfl)) (hw _ (List.mem_of_getElem? (i := 3) rfl)) (by decide) (by decide)) (g := (mkF m 59 #[oi p0, oa b1, .unset] [(.int (6 : Int32)), (.int p0), (.int (6 : Int32)), (.ref b1)])) rfl (by rw [hml]; rfl) (argsL := [(.int p0), (.int (6 : Int32))]) (rest := [(.int (6 : Int32)), (.ref b1)]) (lenOf own_pd2 rfl) rfl (by show 2 * 0 + _ ≤ _; exact Nat.le_of_eq rfl) (hb hby at_59) (fun _ _ => ⟨rfl, e182, (by decide : 1 + 0 ≤ _), (by decide : 8 + 0 ≤ _)⟩)
  dsimp only [Pt.U, Pt.locs, Pt.cells, Pt.slots] at X210 l210 y210 z210 st210 hQ210
  have yq210 : k210 = 1 := y210
  have zq210 : n210 = 8 := z210
  subst yq210 zq210
  obtain ⟨rfl, Nq210, eq210⟩ := hQ210
  have N210 : Fr n0 L210 := by rw [l210]; exact Fr.app N182 Nq210
  obtain ⟨T211, h211, X211, e211, W211, V211, st211⟩ := oStI X210 hx hZ eq210 V_209 (j := (6 : Int32)) ⟨by decide, by decide⟩ 6 rfl (Nat.le_of_ble_eq_true rfl) (g := (mkF m 62 #[oi p0, oa b1, .unset] [(.int (own_f1 p0 (6 : Int32))), (.int (6 : Int32)), (.ref b1)])) rfl rfl (hb hby at_62)
  obtain ⟨Lo211, X211, N211⟩ := oOpq X211 (Fr.snoc X211 N210 g_b1)
  have Z211 := Nat.le_trans Z182 (Keep.of_wr W211).1
  have F212 := F183.wr W211
  have F213 := F184.wr W211
  have F214 := F185.wr W211
  have F215 := F186.wr W211
  have F216 := F187.wr W211
  have F217 := F188.wr W211
  have F218 := F189.wr W211
  have F219 := F190.wr W211
  have F220 := F191.wr W211
  have F221 := F192.wr W211
  have F222 := F193.wr W211
  have F223 := F194.wr W211
  have F224 := F195.wr W211
  have F225 := F196.wr W211
  have F226 := F197.wr W211
  have F227 := F198.wr W211
  have F228 := F199.wr W211
  have F229 := F200.other W211 (Or.inl ne2)
  have F230 := F201.other W211 (Or.inl ne3)
  have F231 := F202.other W211 (Or.inl ne4)
  have F232 := F203.other W211 (Or.inl ne5)
  have F233 := F204.other W211 (Or.inl ne6)
  have F234 := F205.other W211 (Or.inl ne7)
  have F235 := F206.other W211 (Or.inl ne8)
  have F236 := F207.other W211 (Or.inl ne9)
  have F237 := F208.wr W211
  have V_238 : Arv Z h211 b1 k1 .int (8 : Int32) [(.int (own_f1 p0 (0 : Int32))), (.int (own_f1 p0 (1 : Int32))), (.int (own_f1 p0 (2 : Int32))), (.int (own_f1 p0 (3 : Int32))), (.int (own_f1 p0 (4 : Int32))), (.int (own_f1 p0 (5 : Int32))), (.int (own_f1 p0 (6 : Int32))), (.int (0 : Int32))] (.int (0 : Int32)) := V211
  obtain ⟨_, _, ⟨T239, L239, k239, n239⟩, -, X239, ⟨Lc239, hQ239, l239, y239, z239⟩, st239⟩ := Jvm.LawKit.callS X211 hx (y := (⟨"com/example/muster/muster/model/LevelsOfPinLaw", "lv", "(II)I"⟩ : MethodName)) hown (mvT hZ (hw _ (List.mem_of_getElem? (i := 1) rfl))) (mvT hZ (hw _ (List.mem_of_getElem? (i := 2) rfl))) (mvT hZ (hw _ (List.mem_of_getElem? (i := 3) rfl))) (mvT hZ (hw _ (List.mem_of_getElem? (i := 4) rfl))) (by decide) (backOf (W := 2) (own_rm1 l Z av hw [] p0 (7 : Int32) h211 n0 Z211 ) hZ (hw _ (List.mem_of_getElem? (i := 4) rfl)) (hw _ (List.mem_of_getElem? (i := 3) rfl)) (by decide) (by decide)) (g := (mkF m 69 #[oi p0, oa b1, .unset] [(.int (7 : Int32)), (.int p0), (.int (7 : Int32)), (.ref b1)])) rfl (by rw [hml]; rfl) (argsL := [(.int p0), (.int (7 : Int32))]) (rest := [(.int (7 : Int32)), (.ref b1)]) (lenOf own_pd2 rfl) rfl (by show 2 * 0 + _ ≤ _; exact Nat.le_of_eq rfl) (hb hby at_69) (fun _ _ => ⟨rfl, e211, (by decide : 1 + 0 ≤ _), (by decide : 8 + 0 ≤ _)⟩)
  dsimp only [Pt.U, Pt.locs, Pt.cells, Pt.slots] at X239 l239 y239 z239 st239 hQ239
  have yq239 : k239 = 1 := y239
  have zq239 : n239 = 8 := z239
  subst yq239 zq239
  obtain ⟨rfl, Nq239, eq239⟩ := hQ239
  have N239 : Fr n0 L239 := by rw [l239]; exact Fr.app N211 Nq239
  obtain ⟨T240, h240, X240, e240, W240, V240, st240⟩ := oStI X239 hx hZ eq239 V_238 (j := (7 : Int32)) ⟨by decide, by decide⟩ 7 rfl (Nat.le_of_ble_eq_true rfl) (g := (mkF m 72 #[oi p0, oa b1, .unset] [(.int (own_f1 p0 (7 : Int32))), (.int (7 : Int32)), (.ref b1)])) rfl rfl (hb hby at_72)
  obtain ⟨Lo240, X240, N240⟩ := oOpq X240 (Fr.snoc X240 N239 g_b1)
  have Z240 := Nat.le_trans Z211 (Keep.of_wr W240).1
  have F241 := F212.wr W240
  have F242 := F213.wr W240
  have F243 := F214.wr W240
  have F244 := F215.wr W240
  have F245 := F216.wr W240
  have F246 := F217.wr W240
  have F247 := F218.wr W240
  have F248 := F219.wr W240
  have F249 := F220.wr W240
  have F250 := F221.wr W240
  have F251 := F222.wr W240
  have F252 := F223.wr W240
  have F253 := F224.wr W240
  have F254 := F225.wr W240
  have F255 := F226.wr W240
  have F256 := F227.wr W240
  have F257 := F228.wr W240
  have F258 := F229.other W240 (Or.inl ne2)
  have F259 := F230.other W240 (Or.inl ne3)
  have F260 := F231.other W240 (Or.inl ne4)
  have F261 := F232.other W240 (Or.inl ne5)
  have F262 := F233.other W240 (Or.inl ne6)
  have F263 := F234.other W240 (Or.inl ne7)
  have F264 := F235.other W240 (Or.inl ne8)
  have F265 := F236.other W240 (Or.inl ne9)
  have F266 := F237.wr W240
  have V_267 : Arv Z h240 b1 k1 .int (8 : Int32) [(.int (own_f1 p0 (0 : Int32))), (.int (own_f1 p0 (1 : Int32))), (.int (own_f1 p0 (2 : Int32))), (.int (own_f1 p0 (3 : Int32))), (.int (own_f1 p0 (4 : Int32))), (.int (own_f1 p0 (5 : Int32))), (.int (own_f1 p0 (6 : Int32))), (.int (own_f1 p0 (7 : Int32)))] (.int (0 : Int32)) := V240
  obtain ⟨_, _, ⟨T268, L268, k268, n268⟩, -, X268, ⟨Lc268, hQ268, l268, y268, z268⟩, st268⟩ := Jvm.LawKit.callS X240 hx (y := (⟨"com/example/muster/muster/model/Levels", "of", "([I)Lcom/example/muster/muster/model/Levels;"⟩ : MethodName)) hown (mvT hZ (hw _ (List.mem_of_getElem? (i := 5) rfl))) (mvT hZ (hw _ (List.mem_of_getElem? (i := 6) rfl))) (mvT hZ (hw _ (List.mem_of_getElem? (i := 7) rfl))) (mvT hZ (hw _ (List.mem_of_getElem? (i := 8) rfl))) (by decide) (backOf (W := 0) (own_rm2 l Z av hw [] b1 k1 (own_f1 p0 (0 : Int32)) (own_f1 p0 (1 : Int32)) (own_f1 p0 (2 : Int32)) (own_f1 p0 (3 : Int32)) (own_f1 p0 (4 : Int32)) (own_f1 p0 (5 : Int32)) (own_f1 p0 (6 : Int32)) (own_f1 p0 (7 : Int32)) h240 n0 Z240 V_267 F266 F241 ((own_lv _ _).1) ((own_lv _ _).1) ((own_lv _ _).1) ((own_lv _ _).1) ((own_lv _ _).1) ((own_lv _ _).1) ((own_lv _ _).1) ((own_lv _ _).1) ((own_lv _ _).2) ((own_lv _ _).2) ((own_lv _ _).2) ((own_lv _ _).2) ((own_lv _ _).2) ((own_lv _ _).2) ((own_lv _ _).2) ((own_lv _ _).2)) hZ (hw _ (List.mem_of_getElem? (i := 8) rfl)) (hw _ (List.mem_of_getElem? (i := 7) rfl)) (by decide) (by decide)) (g := (mkF m 74 #[oi p0, oa b1, .unset] [(.ref b1)])) rfl (by rw [hml]; rfl) (argsL := [(.ref b1)]) (rest := []) (lenOf own_pd3 rfl) rfl (by show 2 * 0 + _ ≤ _; exact Nat.le_of_eq rfl) (hb hby at_74) (fun _ _ => ⟨rfl, e240, (by decide : 1 + 2 ≤ _), (by decide : 8 + 9 ≤ _)⟩)
  dsimp only [Pt.U, Pt.locs, Pt.cells, Pt.slots] at X268 l268 y268 z268 st268 hQ268
  have yq268 : k268 = 3 := y268
  have zq268 : n268 = 17 := z268
  subst yq268 zq268
  obtain ⟨o_268, b_268, k_b_268, rfl, Nq268, Kq268, gq268_o, gq268_b, Oq268_0, Oq268_1, Oq268_2⟩ := hQ268
  have N268 : Fr n0 L268 := by rw [l268]; exact Fr.app N240 Nq268
  have Z268 : n0 ≤ T268.heap.size := Nat.le_trans Z240 Kq268.1
  have g_o_268 : n0 ≤ o_268 := Nat.le_trans Z240 gq268_o
  have ne269 : aM0 ≠ o_268 := Nat.ne_of_lt (Nat.lt_of_lt_of_le F250.lt gq268_o)
  have ne270 : aM1 ≠ o_268 := Nat.ne_of_lt (Nat.lt_of_lt_of_le F251.lt gq268_o)
  have ne271 : aM2 ≠ o_268 := Nat.ne_of_lt (Nat.lt_of_lt_of_le F252.lt gq268_o)
  have ne272 : aM3 ≠ o_268 := Nat.ne_of_lt (Nat.lt_of_lt_of_le F253.lt gq268_o)
  have ne273 : aM4 ≠ o_268 := Nat.ne_of_lt (Nat.lt_of_lt_of_le F254.lt gq268_o)
  have ne274 : aM5 ≠ o_268 := Nat.ne_of_lt (Nat.lt_of_lt_of_le F255.lt gq268_o)
  have ne275 : aM6 ≠ o_268 := Nat.ne_of_lt (Nat.lt_of_lt_of_le F256.lt gq268_o)
  have ne276 : aM7 ≠ o_268 := Nat.ne_of_lt (Nat.lt_of_lt_of_le F257.lt gq268_o)
  have ne277 : b1 ≠ o_268 := Nat.ne_of_lt (Nat.lt_of_lt_of_le V_267.lt gq268_o)
  have g_b_268 : n0 ≤ b_268 := Nat.le_trans Z240 gq268_b
  have ne278 : aM0 ≠ b_268 := Nat.ne_of_lt (Nat.lt_of_lt_of_le F250.lt gq268_b)
  have ne279 : aM1 ≠ b_268 := Nat.ne_of_lt (Nat.lt_of_lt_of_le F251.lt gq268_b)
  have ne280 : aM2 ≠ b_268 := Nat.ne_of_lt (Nat.lt_of_lt_of_le F252.lt gq268_b)
  have ne281 : aM3 ≠ b_268 := Nat.ne_of_lt (Nat.lt_of_lt_of_le F253.lt gq268_b)
  have ne282 : aM4 ≠ b_268 := Nat.ne_of_lt (Nat.lt_of_lt_of_le F254.lt gq268_b)
  have ne283 : aM5 ≠ b_268 := Nat.ne_of_lt (Nat.lt_of_lt_of_le F255.lt gq268_b)
  have ne284 : aM6 ≠ b_268 := Nat.ne_of_lt (Nat.lt_of_lt_of_le F256.lt gq268_b)
  have ne285 : aM7 ≠ b_268 := Nat.ne_of_lt (Nat.lt_of_lt_of_le F257.lt gq268_b)
  have ne286 : b1 ≠ b_268 := Nat.ne_of_lt (Nat.lt_of_lt_of_le V_267.lt gq268_b)
  have F287 := own_stakeep Kq268 F241
  have F288 := own_stakeep Kq268 F242
  have F289 := own_stakeep Kq268 F243
  have F290 := own_stakeep Kq268 F244
  have F291 := own_stakeep Kq268 F245
  have F292 := own_stakeep Kq268 F246
  have F293 := own_stakeep Kq268 F247
  have F294 := own_stakeep Kq268 F248
  have F295 := own_stakeep Kq268 F249
  have F296 := F250.keep Kq268
  have F297 := F251.keep Kq268
  have F298 := F252.keep Kq268
  have F299 := F253.keep Kq268
  have F300 := F254.keep Kq268
  have F301 := F255.keep Kq268
  have F302 := F256.keep Kq268
  have F303 := F257.keep Kq268
  have F304 := F258.keep Kq268 nin0
  have F305 := F259.keep Kq268 nin0
  have F306 := F260.keep Kq268 nin0
  have F307 := F261.keep Kq268 nin0
  have F308 := F262.keep Kq268 nin0
  have F309 := F263.keep Kq268 nin0
  have F310 := F264.keep Kq268 nin0
  have F311 := F265.keep Kq268 nin0
  have F312 := V_267.keep Kq268 nin0
  have F313 := F266.keep Kq268
  obtain ⟨T314, h314, X314, e314, W314, V314, st314⟩ := oStI X268 hx hZ rfl F312 (j := (0 : Int32)) ⟨by decide, by decide⟩ 0 rfl (Nat.le_of_ble_eq_true rfl) (g := (mkF m 87 #[oi p0, oa b1, oa o_268] [(.int (((own_f1 p0 (0 : Int32)) + (1 : Int32)) &&& (3 : Int32))), (.int (0 : Int32)), (.ref b1)])) rfl rfl (hb hby at_87)
  obtain ⟨Lo314, X314, N314⟩ := oOpq X314 (Fr.snoc X314 N268 g_b1)
  have Z314 := Nat.le_trans Z268 (Keep.of_wr W314).1
  have F315 := F287.wr W314
  have F316 := F288.wr W314
  have F317 := F289.wr W314
  have F318 := F290.wr W314
  have F319 := F291.wr W314
  have F320 := F292.wr W314
  have F321 := F293.wr W314
  have F322 := F294.wr W314
  have F323 := F295.wr W314
  have F324 := F296.wr W314
  have F325 := F297.wr W314
  have F326 := F298.wr W314
  have F327 := F299.wr W314
  have F328 := F300.wr W314
  have F329 := F301.wr W314
  have F330 := F302.wr W314
  have F331 := F303.wr W314
  have F332 := F304.other W314 (Or.inl ne2)
  have F333 := F305.other W314 (Or.inl ne3)
  have F334 := F306.other W314 (Or.inl ne4)
  have F335 := F307.other W314 (Or.inl ne5)
  have F336 := F308.other W314 (Or.inl ne6)
  have F337 := F309.other W314 (Or.inl ne7)
  have F338 := F310.other W314 (Or.inl ne8)
  have F339 := F311.other W314 (Or.inl ne9)
  have F340 := F313.wr W314
  have F341 := Oq268_0.wr W314
  have F342 := Oq268_1.other W314 (Or.inl (Ne.symm ne277))
  have F343 := Oq268_2.other W314 (Ne.symm ne286)
  have V_344 : Arv Z h314 b1 k1 .int (8 : Int32) [(.int (((own_f1 p0 (0 : Int32)) + (1 : Int32)) &&& (3 : Int32))), (.int (own_f1 p0 (1 : Int32))), (.int (own_f1 p0 (2 : Int32))), (.int (own_f1 p0 (3 : Int32))), (.int (own_f1 p0 (4 : Int32))), (.int (own_f1 p0 (5 : Int32))), (.int (own_f1 p0 (6 : Int32))), (.int (own_f1 p0 (7 : Int32)))] (.int (0 : Int32)) := V314
  obtain ⟨T345, h345, X345, e345, W345, V345, st345⟩ := oStI X314 hx hZ e314 V_344 (j := (1 : Int32)) ⟨by decide, by decide⟩ 1 rfl (Nat.le_of_ble_eq_true rfl) (g := (mkF m 97 #[oi p0, oa b1, oa o_268] [(.int (((own_f1 p0 (1 : Int32)) + (1 : Int32)) &&& (3 : Int32))), (.int (1 : Int32)), (.ref b1)])) rfl rfl (hb hby at_97)
  obtain ⟨Lo345, X345, N345⟩ := oOpq X345 (Fr.snoc X345 N314 g_b1)
  have Z345 := Nat.le_trans Z314 (Keep.of_wr W345).1
  have F346 := F315.wr W345
  have F347 := F316.wr W345
  have F348 := F317.wr W345
  have F349 := F318.wr W345
  have F350 := F319.wr W345
  have F351 := F320.wr W345
  have F352 := F321.wr W345
  have F353 := F322.wr W345
  have F354 := F323.wr W345
  have F355 := F324.wr W345
  have F356 := F325.wr W345
  have F357 := F326.wr W345
  have F358 := F327.wr W345
  have F359 := F328.wr W345
  have F360 := F329.wr W345
  have F361 := F330.wr W345
  have F362 := F331.wr W345
  have F363 := F332.other W345 (Or.inl ne2)
  have F364 := F333.other W345 (Or.inl ne3)
  have F365 := F334.other W345 (Or.inl ne4)
  have F366 := F335.other W345 (Or.inl ne5)
  have F367 := F336.other W345 (Or.inl ne6)
  have F368 := F337.other W345 (Or.inl ne7)
  have F369 := F338.other W345 (Or.inl ne8)
  have F370 := F339.other W345 (Or.inl ne9)
  have F371 := F340.wr W345
  have F372 := F341.wr W345
  have F373 := F342.other W345 (Or.inl (Ne.symm ne277))
  have F374 := F343.other W345 (Ne.symm ne286)
  have V_375 : Arv Z h345 b1 k1 .int (8 : Int32) [(.int (((own_f1 p0 (0 : Int32)) + (1 : Int32)) &&& (3 : Int32))), (.int (((own_f1 p0 (1 : Int32)) + (1 : Int32)) &&& (3 : Int32))), (.int (own_f1 p0 (2 : Int32))), (.int (own_f1 p0 (3 : Int32))), (.int (own_f1 p0 (4 : Int32))), (.int (own_f1 p0 (5 : Int32))), (.int (own_f1 p0 (6 : Int32))), (.int (own_f1 p0 (7 : Int32)))] (.int (0 : Int32)) := V345
  obtain ⟨T376, h376, X376, e376, W376, V376, st376⟩ := oStI X345 hx hZ e345 V_375 (j := (2 : Int32)) ⟨by decide, by decide⟩ 2 rfl (Nat.le_of_ble_eq_true rfl) (g := (mkF m 107 #[oi p0, oa b1, oa o_268] [(.int (((own_f1 p0 (2 : Int32)) + (1 : Int32)) &&& (3 : Int32))), (.int (2 : Int32)), (.ref b1)])) rfl rfl (hb hby at_107)
  obtain ⟨Lo376, X376, N376⟩ := oOpq X376 (Fr.snoc X376 N345 g_b1)
  have Z376 := Nat.le_trans Z345 (Keep.of_wr W376).1
  have F377 := F346.wr W376
  have F378 := F347.wr W376
  have F379 := F348.wr W376
  have F380 := F349.wr W376
  have F381 := F350.wr W376
  have F382 := F351.wr W376
  have F383 := F352.wr W376
  have F384 := F353.wr W376
  have F385 := F354.wr W376
  have F386 := F355.wr W376
  have F387 := F356.wr W376
  have F388 := F357.wr W376
  have F389 := F358.wr W376
  have F390 := F359.wr W376
  have F391 := F360.wr W376
  have F392 := F361.wr W376
  have F393 := F362.wr W376
  have F394 := F363.other W376 (Or.inl ne2)
  have F395 := F364.other W376 (Or.inl ne3)
  have F396 := F365.other W376 (Or.inl ne4)
  have F397 := F366.other W376 (Or.inl ne5)
  have F398 := F367.other W376 (Or.inl ne6)
  have F399 := F368.other W376 (Or.inl ne7)
  have F400 := F369.other W376 (Or.inl ne8)
  have F401 := F370.other W376 (Or.inl ne9)
  have F402 := F371.wr W376
  have F403 := F372.wr W376
  have F404 := F373.other W376 (Or.inl (Ne.symm ne277))
  have F405 := F374.other W376 (Ne.symm ne286)
  have V_406 : Arv Z h376 b1 k1 .int (8 : Int32) [(.int (((own_f1 p0 (0 : Int32)) + (1 : Int32)) &&& (3 : Int32))), (.int (((own_f1 p0 (1 : Int32)) + (1 : Int32)) &&& (3 : Int32))), (.int (((own_f1 p0 (2 : Int32)) + (1 : Int32)) &&& (3 : Int32))), (.int (own_f1 p0 (3 : Int32))), (.int (own_f1 p0 (4 : Int32))), (.int (own_f1 p0 (5 : Int32))), (.int (own_f1 p0 (6 : Int32))), (.int (own_f1 p0 (7 : Int32)))] (.int (0 : Int32)) := V376
  obtain ⟨T407, h407, X407, e407, W407, V407, st407⟩ := oStI X376 hx hZ e376 V_406 (j := (3 : Int32)) ⟨by decide, by decide⟩ 3 rfl (Nat.le_of_ble_eq_true rfl) (g := (mkF m 117 #[oi p0, oa b1, oa o_268] [(.int (((own_f1 p0 (3 : Int32)) + (1 : Int32)) &&& (3 : Int32))), (.int (3 : Int32)), (.ref b1)])) rfl rfl (hb hby at_117)
  obtain ⟨Lo407, X407, N407⟩ := oOpq X407 (Fr.snoc X407 N376 g_b1)
  have Z407 := Nat.le_trans Z376 (Keep.of_wr W407).1
  have F408 := F377.wr W407
  have F409 := F378.wr W407
  have F410 := F379.wr W407
  have F411 := F380.wr W407
  have F412 := F381.wr W407
  have F413 := F382.wr W407
  have F414 := F383.wr W407
  have F415 := F384.wr W407
  have F416 := F385.wr W407
  have F417 := F386.wr W407
  have F418 := F387.wr W407
  have F419 := F388.wr W407
  have F420 := F389.wr W407
  have F421 := F390.wr W407
  have F422 := F391.wr W407
  have F423 := F392.wr W407
  have F424 := F393.wr W407
  have F425 := F394.other W407 (Or.inl ne2)
  have F426 := F395.other W407 (Or.inl ne3)
  have F427 := F396.other W407 (Or.inl ne4)
  have F428 := F397.other W407 (Or.inl ne5)
  have F429 := F398.other W407 (Or.inl ne6)
  have F430 := F399.other W407 (Or.inl ne7)
  have F431 := F400.other W407 (Or.inl ne8)
  have F432 := F401.other W407 (Or.inl ne9)
  have F433 := F402.wr W407
  have F434 := F403.wr W407
  have F435 := F404.other W407 (Or.inl (Ne.symm ne277))
  have F436 := F405.other W407 (Ne.symm ne286)
  have V_437 : Arv Z h407 b1 k1 .int (8 : Int32) [(.int (((own_f1 p0 (0 : Int32)) + (1 : Int32)) &&& (3 : Int32))), (.int (((own_f1 p0 (1 : Int32)) + (1 : Int32)) &&& (3 : Int32))), (.int (((own_f1 p0 (2 : Int32)) + (1 : Int32)) &&& (3 : Int32))), (.int (((own_f1 p0 (3 : Int32)) + (1 : Int32)) &&& (3 : Int32))), (.int (own_f1 p0 (4 : Int32))), (.int (own_f1 p0 (5 : Int32))), (.int (own_f1 p0 (6 : Int32))), (.int (own_f1 p0 (7 : Int32)))] (.int (0 : Int32)) := V407
  obtain ⟨T438, h438, X438, e438, W438, V438, st438⟩ := oStI X407 hx hZ e407 V_437 (j := (4 : Int32)) ⟨by decide, by decide⟩ 4 rfl (Nat.le_of_ble_eq_true rfl) (g := (mkF m 127 #[oi p0, oa b1, oa o_268] [(.int (((own_f1 p0 (4 : Int32)) + (1 : Int32)) &&& (3 : Int32))), (.int (4 : Int32)), (.ref b1)])) rfl rfl (hb hby at_127)
  obtain ⟨Lo438, X438, N438⟩ := oOpq X438 (Fr.snoc X438 N407 g_b1)
  have Z438 := Nat.le_trans Z407 (Keep.of_wr W438).1
  have F439 := F408.wr W438
  have F440 := F409.wr W438
  have F441 := F410.wr W438
  have F442 := F411.wr W438
  have F443 := F412.wr W438
  have F444 := F413.wr W438
  have F445 := F414.wr W438
  have F446 := F415.wr W438
  have F447 := F416.wr W438
  have F448 := F417.wr W438
  have F449 := F418.wr W438
  have F450 := F419.wr W438
  have F451 := F420.wr W438
  have F452 := F421.wr W438
  have F453 := F422.wr W438
  have F454 := F423.wr W438
  have F455 := F424.wr W438
  have F456 := F425.other W438 (Or.inl ne2)
  have F457 := F426.other W438 (Or.inl ne3)
  have F458 := F427.other W438 (Or.inl ne4)
  have F459 := F428.other W438 (Or.inl ne5)
  have F460 := F429.other W438 (Or.inl ne6)
  have F461 := F430.other W438 (Or.inl ne7)
  have F462 := F431.other W438 (Or.inl ne8)
  have F463 := F432.other W438 (Or.inl ne9)
  have F464 := F433.wr W438
  have F465 := F434.wr W438
  have F466 := F435.other W438 (Or.inl (Ne.symm ne277))
  have F467 := F436.other W438 (Ne.symm ne286)
  have V_468 : Arv Z h438 b1 k1 .int (8 : Int32) [(.int (((own_f1 p0 (0 : Int32)) + (1 : Int32)) &&& (3 : Int32))), (.int (((own_f1 p0 (1 : Int32)) + (1 : Int32)) &&& (3 : Int32))), (.int (((own_f1 p0 (2 : Int32)) + (1 : Int32)) &&& (3 : Int32))), (.int (((own_f1 p0 (3 : Int32)) + (1 : Int32)) &&& (3 : Int32))), (.int (((own_f1 p0 (4 : Int32)) + (1 : Int32)) &&& (3 : Int32))), (.int (own_f1 p0 (5 : Int32))), (.int (own_f1 p0 (6 : Int32))), (.int (own_f1 p0 (7 : Int32)))] (.int (0 : Int32)) := V438
  obtain ⟨T469, h469, X469, e469, W469, V469, st469⟩ := oStI X438 hx hZ e438 V_468 (j := (5 : Int32)) ⟨by decide, by decide⟩ 5 rfl (Nat.le_of_ble_eq_true rfl) (g := (mkF m 137 #[oi p0, oa b1, oa o_268] [(.int (((own_f1 p0 (5 : Int32)) + (1 : Int32)) &&& (3 : Int32))), (.int (5 : Int32)), (.ref b1)])) rfl rfl (hb hby at_137)
  obtain ⟨Lo469, X469, N469⟩ := oOpq X469 (Fr.snoc X469 N438 g_b1)
  have Z469 := Nat.le_trans Z438 (Keep.of_wr W469).1
  have F470 := F439.wr W469
  have F471 := F440.wr W469
  have F472 := F441.wr W469
  have F473 := F442.wr W469
  have F474 := F443.wr W469
  have F475 := F444.wr W469
  have F476 := F445.wr W469
  have F477 := F446.wr W469
  have F478 := F447.wr W469
  have F479 := F448.wr W469
  have F480 := F449.wr W469
  have F481 := F450.wr W469
  have F482 := F451.wr W469
  have F483 := F452.wr W469
  have F484 := F453.wr W469
  have F485 := F454.wr W469
  have F486 := F455.wr W469
  have F487 := F456.other W469 (Or.inl ne2)
  have F488 := F457.other W469 (Or.inl ne3)
  have F489 := F458.other W469 (Or.inl ne4)
  have F490 := F459.other W469 (Or.inl ne5)
  have F491 := F460.other W469 (Or.inl ne6)
  have F492 := F461.other W469 (Or.inl ne7)
  have F493 := F462.other W469 (Or.inl ne8)
  have F494 := F463.other W469 (Or.inl ne9)
  have F495 := F464.wr W469
  have F496 := F465.wr W469
  have F497 := F466.other W469 (Or.inl (Ne.symm ne277))
  have F498 := F467.other W469 (Ne.symm ne286)
  have V_499 : Arv Z h469 b1 k1 .int (8 : Int32) [(.int (((own_f1 p0 (0 : Int32)) + (1 : Int32)) &&& (3 : Int32))), (.int (((own_f1 p0 (1 : Int32)) + (1 : Int32)) &&& (3 : Int32))), (.int (((own_f1 p0 (2 : Int32)) + (1 : Int32)) &&& (3 : Int32))), (.int (((own_f1 p0 (3 : Int32)) + (1 : Int32)) &&& (3 : Int32))), (.int (((own_f1 p0 (4 : Int32)) + (1 : Int32)) &&& (3 : Int32))), (.int (((own_f1 p0 (5 : Int32)) + (1 : Int32)) &&& (3 : Int32))), (.int (own_f1 p0 (6 : Int32))), (.int (own_f1 p0 (7 : Int32)))] (.int (0 : Int32)) := V469
  obtain ⟨T500, h500, X500, e500, W500, V500, st500⟩ := oStI X469 hx hZ e469 V_499 (j := (6 : Int32)) ⟨by decide, by decide⟩ 6 rfl (Nat.le_of_ble_eq_true rfl) (g := (mkF m 149 #[oi p0, oa b1, oa o_268] [(.int (((own_f1 p0 (6 : Int32)) + (1 : Int32)) &&& (3 : Int32))), (.int (6 : Int32)), (.ref b1)])) rfl rfl (hb hby at_149)
  obtain ⟨Lo500, X500, N500⟩ := oOpq X500 (Fr.snoc X500 N469 g_b1)
  have Z500 := Nat.le_trans Z469 (Keep.of_wr W500).1
  have F501 := F470.wr W500
  have F502 := F471.wr W500
  have F503 := F472.wr W500
  have F504 := F473.wr W500
  have F505 := F474.wr W500
  have F506 := F475.wr W500
  have F507 := F476.wr W500
  have F508 := F477.wr W500
  have F509 := F478.wr W500
  have F510 := F479.wr W500
  have F511 := F480.wr W500
  have F512 := F481.wr W500
  have F513 := F482.wr W500
  have F514 := F483.wr W500
  have F515 := F484.wr W500
  have F516 := F485.wr W500
  have F517 := F486.wr W500
  have F518 := F487.other W500 (Or.inl ne2)
  have F519 := F488.other W500 (Or.inl ne3)
  have F520 := F489.other W500 (Or.inl ne4)
  have F521 := F490.other W500 (Or.inl ne5)
  have F522 := F491.other W500 (Or.inl ne6)
  have F523 := F492.other W500 (Or.inl ne7)
  have F524 := F493.other W500 (Or.inl ne8)
  have F525 := F494.other W500 (Or.inl ne9)
  have F526 := F495.wr W500
  have F527 := F496.wr W500
  have F528 := F497.other W500 (Or.inl (Ne.symm ne277))
  have F529 := F498.other W500 (Ne.symm ne286)
  have V_530 : Arv Z h500 b1 k1 .int (8 : Int32) [(.int (((own_f1 p0 (0 : Int32)) + (1 : Int32)) &&& (3 : Int32))), (.int (((own_f1 p0 (1 : Int32)) + (1 : Int32)) &&& (3 : Int32))), (.int (((own_f1 p0 (2 : Int32)) + (1 : Int32)) &&& (3 : Int32))), (.int (((own_f1 p0 (3 : Int32)) + (1 : Int32)) &&& (3 : Int32))), (.int (((own_f1 p0 (4 : Int32)) + (1 : Int32)) &&& (3 : Int32))), (.int (((own_f1 p0 (5 : Int32)) + (1 : Int32)) &&& (3 : Int32))), (.int (((own_f1 p0 (6 : Int32)) + (1 : Int32)) &&& (3 : Int32))), (.int (own_f1 p0 (7 : Int32)))] (.int (0 : Int32)) := V500
  obtain ⟨T531, h531, X531, e531, W531, V531, st531⟩ := oStI X500 hx hZ e500 V_530 (j := (7 : Int32)) ⟨by decide, by decide⟩ 7 rfl (Nat.le_of_ble_eq_true rfl) (g := (mkF m 161 #[oi p0, oa b1, oa o_268] [(.int (((own_f1 p0 (7 : Int32)) + (1 : Int32)) &&& (3 : Int32))), (.int (7 : Int32)), (.ref b1)])) rfl rfl (hb hby at_161)
  obtain ⟨Lo531, X531, N531⟩ := oOpq X531 (Fr.snoc X531 N500 g_b1)
  have Z531 := Nat.le_trans Z500 (Keep.of_wr W531).1
  have F532 := F501.wr W531
  have F533 := F502.wr W531
  have F534 := F503.wr W531
  have F535 := F504.wr W531
  have F536 := F505.wr W531
  have F537 := F506.wr W531
  have F538 := F507.wr W531
  have F539 := F508.wr W531
  have F540 := F509.wr W531
  have F541 := F510.wr W531
  have F542 := F511.wr W531
  have F543 := F512.wr W531
  have F544 := F513.wr W531
  have F545 := F514.wr W531
  have F546 := F515.wr W531
  have F547 := F516.wr W531
  have F548 := F517.wr W531
  have F549 := F518.other W531 (Or.inl ne2)
  have F550 := F519.other W531 (Or.inl ne3)
  have F551 := F520.other W531 (Or.inl ne4)
  have F552 := F521.other W531 (Or.inl ne5)
  have F553 := F522.other W531 (Or.inl ne6)
  have F554 := F523.other W531 (Or.inl ne7)
  have F555 := F524.other W531 (Or.inl ne8)
  have F556 := F525.other W531 (Or.inl ne9)
  have F557 := F526.wr W531
  have F558 := F527.wr W531
  have F559 := F528.other W531 (Or.inl (Ne.symm ne277))
  have F560 := F529.other W531 (Ne.symm ne286)
  have V_561 : Arv Z h531 b1 k1 .int (8 : Int32) [(.int (((own_f1 p0 (0 : Int32)) + (1 : Int32)) &&& (3 : Int32))), (.int (((own_f1 p0 (1 : Int32)) + (1 : Int32)) &&& (3 : Int32))), (.int (((own_f1 p0 (2 : Int32)) + (1 : Int32)) &&& (3 : Int32))), (.int (((own_f1 p0 (3 : Int32)) + (1 : Int32)) &&& (3 : Int32))), (.int (((own_f1 p0 (4 : Int32)) + (1 : Int32)) &&& (3 : Int32))), (.int (((own_f1 p0 (5 : Int32)) + (1 : Int32)) &&& (3 : Int32))), (.int (((own_f1 p0 (6 : Int32)) + (1 : Int32)) &&& (3 : Int32))), (.int (((own_f1 p0 (7 : Int32)) + (1 : Int32)) &&& (3 : Int32)))] (.int (0 : Int32)) := V531
  obtain ⟨T562, X562, e562, st562⟩ := getS2 X531 hx hZ hown (host := "") (Or.inl (hw _ (List.mem_of_getElem? (i := 30) rfl))) Via.refl e531 F533 (g := (mkF m 163 #[oi p0, oa b1, oa o_268] [(.ref o_268)])) rfl (hb hby at_163)
  obtain ⟨cq563, kq563, q563a, q563b, q563c⟩ := isOf hZ e562 F558
  obtain ⟨_, _, ⟨T563, L563, k563, n563⟩, -, X563, ⟨Lc563, hQ563, l563, y563, z563⟩, st563⟩ := X562.virtualBack hx (y := (⟨"com/example/muster/muster/model/Levels", "of", "(Lcom/example/muster/muster/model/ProjectModule;)I"⟩ : MethodName)) (z := (⟨"com/example/muster/muster/model/Levels", "of", "(Lcom/example/muster/muster/model/ProjectModule;)I"⟩ : MethodName)) hown (mvT hZ (hw _ (List.mem_of_getElem? (i := 33) rfl))) (mvT hZ (hw _ (List.mem_of_getElem? (i := 34) rfl))) (notFace_of_selects (args := #[]) (mvT hZ (hw _ (List.mem_of_getElem? (i := 36) rfl)))) (mvT hZ (hw _ (List.mem_of_getElem? (i := 36) rfl))) (mvT hZ (hw _ (List.mem_of_getElem? (i := 35) rfl))) (by decide) (backOf (W := 0) (own_rm5_0 l Z av hw [] o_268 aM0 b_268 k_b_268 (own_f1 p0 (0 : Int32)) (own_f1 p0 (1 : Int32)) (own_f1 p0 (2 : Int32)) (own_f1 p0 (3 : Int32)) (own_f1 p0 (4 : Int32)) (own_f1 p0 (5 : Int32)) (own_f1 p0 (6 : Int32)) (own_f1 p0 (7 : Int32)) h531 n0 Z531 F559 F560 F541 F549) hZ (hw _ (List.mem_of_getElem? (i := 37) rfl)) (hw _ (List.mem_of_getElem? (i := 7) rfl)) (by decide) (by decide)) q563a q563c (g := (mkF m 166 #[oi p0, oa b1, oa o_268] [(.ref aM0), (.ref o_268)])) rfl (by rw [hml]; rfl) (Steps.refl _) (argsL := [(.ref aM0)]) (rest := []) (lenOf own_pd4 rfl) rfl (by show 2 * 0 + _ ≤ _; exact Nat.le_of_eq rfl) (hb hby at_166) (fun _ _ => ⟨rfl, e562, (by decide : 3 + 0 ≤ _), (by decide : 17 + 0 ≤ _)⟩)
  dsimp only [Pt.U, Pt.locs, Pt.cells, Pt.slots] at X563 l563 y563 z563 st563 hQ563
  have yq563 : k563 = 3 := y563
  have zq563 : n563 = 17 := z563
  subst yq563 zq563
  obtain ⟨rfl, Nq563, eq563⟩ := hQ563
  have N563 : Fr n0 L563 := by rw [l563]; exact Fr.app N531 Nq563
  obtain ⟨_, _, ⟨T564, L564, k564, n564⟩, -, X564, ⟨Lc564, hQ564, l564, y564, z564⟩, st564⟩ := Jvm.LawKit.callS X563 hx (y := (⟨"com/example/muster/muster/model/LevelsOfPinLaw", "lv", "(II)I"⟩ : MethodName)) hown (mvT hZ (hw _ (List.mem_of_getElem? (i := 1) rfl))) (mvT hZ (hw _ (List.mem_of_getElem? (i := 2) rfl))) (mvT hZ (hw _ (List.mem_of_getElem? (i := 3) rfl))) (mvT hZ (hw _ (List.mem_of_getElem? (i := 4) rfl))) (by decide) (backOf (W := 1) (own_rm1 l Z av hw [] p0 (0 : Int32) h531 n0 Z531 ) hZ (hw _ (List.mem_of_getElem? (i := 4) rfl)) (hw _ (List.mem_of_getElem? (i := 3) rfl)) (by decide) (by decide)) (g := (mkF m 171 #[oi p0, oa b1, oa o_268] [(.int (0 : Int32)), (.int p0), (.int (own_f5_0 (own_f1 p0 (0 : Int32))))])) rfl (by rw [hml]; rfl) (argsL := [(.int p0), (.int (0 : Int32))]) (rest := [(.int (own_f5_0 (own_f1 p0 (0 : Int32))))]) (lenOf own_pd2 rfl) rfl (by show 2 * 0 + _ ≤ _; exact Nat.le_of_eq rfl) (hb hby at_171) (fun _ _ => ⟨rfl, eq563, (by decide : 3 + 0 ≤ _), (by decide : 17 + 0 ≤ _)⟩)
  dsimp only [Pt.U, Pt.locs, Pt.cells, Pt.slots] at X564 l564 y564 z564 st564 hQ564
  have yq564 : k564 = 3 := y564
  have zq564 : n564 = 17 := z564
  subst yq564 zq564
  obtain ⟨rfl, Nq564, eq564⟩ := hQ564
  have N564 : Fr n0 L564 := by rw [l564]; exact Fr.app N563 Nq564
  have b565 : (own_f5_0 (own_f1 p0 (0 : Int32))) = (own_f1 p0 (0 : Int32)) := rfl
  obtain ⟨T566, X566, e566, st566⟩ := getS2 X564 hx hZ hown (host := "") (Or.inl (hw _ (List.mem_of_getElem? (i := 47) rfl))) Via.refl eq564 F534 (g := (mkF m 178 #[oi p0, oa b1, oa o_268] [(.ref o_268)])) rfl (hb hby at_178)
  obtain ⟨cq567, kq567, q567a, q567b, q567c⟩ := isOf hZ e566 F558
  obtain ⟨_, _, ⟨T567, L567, k567, n567⟩, -, X567, ⟨Lc567, hQ567, l567, y567, z567⟩, st567⟩ := X566.virtualBack hx (y := (⟨"com/example/muster/muster/model/Levels", "of", "(Lcom/example/muster/muster/model/ProjectModule;)I"⟩ : MethodName)) (z := (⟨"com/example/muster/muster/model/Levels", "of", "(Lcom/example/muster/muster/model/ProjectModule;)I"⟩ : MethodName)) hown (mvT hZ (hw _ (List.mem_of_getElem? (i := 33) rfl))) (mvT hZ (hw _ (List.mem_of_getElem? (i := 34) rfl))) (notFace_of_selects (args := #[]) (mvT hZ (hw _ (List.mem_of_getElem? (i := 36) rfl)))) (mvT hZ (hw _ (List.mem_of_getElem? (i := 36) rfl))) (mvT hZ (hw _ (List.mem_of_getElem? (i := 35) rfl))) (by decide) (backOf (W := 0) (own_rm5_1 l Z av hw [] o_268 aM1 b_268 k_b_268 (own_f1 p0 (0 : Int32)) (own_f1 p0 (1 : Int32)) (own_f1 p0 (2 : Int32)) (own_f1 p0 (3 : Int32)) (own_f1 p0 (4 : Int32)) (own_f1 p0 (5 : Int32)) (own_f1 p0 (6 : Int32)) (own_f1 p0 (7 : Int32)) h531 n0 Z531 F559 F560 F542 F550) hZ (hw _ (List.mem_of_getElem? (i := 37) rfl)) (hw _ (List.mem_of_getElem? (i := 7) rfl)) (by decide) (by decide)) q567a q567c (g := (mkF m 181 #[oi p0, oa b1, oa o_268] [(.ref aM1), (.ref o_268)])) rfl (by rw [hml]; rfl) (Steps.refl _) (argsL := [(.ref aM1)]) (rest := []) (lenOf own_pd4 rfl) rfl (by show 2 * 0 + _ ≤ _; exact Nat.le_of_eq rfl) (hb hby at_181) (fun _ _ => ⟨rfl, e566, (by decide : 3 + 0 ≤ _), (by decide : 17 + 0 ≤ _)⟩)
  dsimp only [Pt.U, Pt.locs, Pt.cells, Pt.slots] at X567 l567 y567 z567 st567 hQ567
  have yq567 : k567 = 3 := y567
  have zq567 : n567 = 17 := z567
  subst yq567 zq567
  obtain ⟨rfl, Nq567, eq567⟩ := hQ567
  have N567 : Fr n0 L567 := by rw [l567]; exact Fr.app N564 Nq567
  obtain ⟨_, _, ⟨T568, L568, k568, n568⟩, -, X568, ⟨Lc568, hQ568, l568, y568, z568⟩, st568⟩ := Jvm.LawKit.callS X567 hx (y := (⟨"com/example/muster/muster/model/LevelsOfPinLaw", "lv", "(II)I"⟩ : MethodName)) hown (mvT hZ (hw _ (List.mem_of_getElem? (i := 1) rfl))) (mvT hZ (hw _ (List.mem_of_getElem? (i := 2) rfl))) (mvT hZ (hw _ (List.mem_of_getElem? (i := 3) rfl))) (mvT hZ (hw _ (List.mem_of_getElem? (i := 4) rfl))) (by decide) (backOf (W := 1) (own_rm1 l Z av hw [] p0 (1 : Int32) h531 n0 Z531 ) hZ (hw _ (List.mem_of_getElem? (i := 4) rfl)) (hw _ (List.mem_of_getElem? (i := 3) rfl)) (by decide) (by decide)) (g := (mkF m 186 #[oi p0, oa b1, oa o_268] [(.int (1 : Int32)), (.int p0), (.int (own_f5_1 (own_f1 p0 (1 : Int32))))])) rfl (by rw [hml]; rfl) (argsL := [(.int p0), (.int (1 : Int32))]) (rest := [(.int (own_f5_1 (own_f1 p0 (1 : Int32))))]) (lenOf own_pd2 rfl) rfl (by show 2 * 0 + _ ≤ _; exact Nat.le_of_eq rfl) (hb hby at_186) (fun _ _ => ⟨rfl, eq567, (by decide : 3 + 0 ≤ _), (by decide : 17 + 0 ≤ _)⟩)
  dsimp only [Pt.U, Pt.locs, Pt.cells, Pt.slots] at X568 l568 y568 z568 st568 hQ568
  have yq568 : k568 = 3 := y568
  have zq568 : n568 = 17 := z568
  subst yq568 zq568
  obtain ⟨rfl, Nq568, eq568⟩ := hQ568
  have N568 : Fr n0 L568 := by rw [l568]; exact Fr.app N567 Nq568
  have b569 : (own_f5_1 (own_f1 p0 (1 : Int32))) = (own_f1 p0 (1 : Int32)) := rfl
  obtain ⟨T570, X570, e570, st570⟩ := getS2 X568 hx hZ hown (host := "") (Or.inl (hw _ (List.mem_of_getElem? (i := 49) rfl))) Via.refl eq568 F535 (g := (mkF m 193 #[oi p0, oa b1, oa o_268] [(.ref o_268)])) rfl (hb hby at_193)
  obtain ⟨cq571, kq571, q571a, q571b, q571c⟩ := isOf hZ e570 F558
  obtain ⟨_, _, ⟨T571, L571, k571, n571⟩, -, X571, ⟨Lc571, hQ571, l571, y571, z571⟩, st571⟩ := X570.virtualBack hx (y := (⟨"com/example/muster/muster/model/Levels", "of", "(Lcom/example/muster/muster/model/ProjectModule;)I"⟩ : MethodName)) (z := (⟨"com/example/muster/muster/model/Levels", "of", "(Lcom/example/muster/muster/model/ProjectModule;)I"⟩ : MethodName)) hown (mvT hZ (hw _ (List.mem_of_getElem? (i := 33) rfl))) (mvT hZ (hw _ (List.mem_of_getElem? (i := 34) rfl))) (notFace_of_selects (args := #[]) (mvT hZ (hw _ (List.mem_of_getElem? (i := 36) rfl)))) (mvT hZ (hw _ (List.mem_of_getElem? (i := 36) rfl))) (mvT hZ (hw _ (List.mem_of_getElem? (i := 35) rfl))) (by decide) (backOf (W := 0) (own_rm5_2 l Z av hw [] o_268 aM2 b_268 k_b_268 (own_f1 p0 (0 : Int32)) (own_f1 p0 (1 : Int32)) (own_f1 p0 (2 : Int32)) (own_f1 p0 (3 : Int32)) (own_f1 p0 (4 : Int32)) (own_f1 p0 (5 : Int32)) (own_f1 p0 (6 : Int32)) (own_f1 p0 (7 : Int32)) h531 n0 Z531 F559 F560 F543 F551) hZ (hw _ (List.mem_of_getElem? (i := 37) rfl)) (hw _ (List.mem_of_getElem? (i := 7) rfl)) (by decide) (by decide)) q571a q571c (g := (mkF m 196 #[oi p0, oa b1, oa o_268] [(.ref aM2), (.ref o_268)])) rfl (by rw [hml]; rfl) (Steps.refl _) (argsL := [(.ref aM2)]) (rest := []) (lenOf own_pd4 rfl) rfl (by show 2 * 0 + _ ≤ _; exact Nat.le_of_eq rfl) (hb hby at_196) (fun _ _ => ⟨rfl, e570, (by decide : 3 + 0 ≤ _), (by decide : 17 + 0 ≤ _)⟩)
  dsimp only [Pt.U, Pt.locs, Pt.cells, Pt.slots] at X571 l571 y571 z571 st571 hQ571
  have yq571 : k571 = 3 := y571
  have zq571 : n571 = 17 := z571
  subst yq571 zq571
  obtain ⟨rfl, Nq571, eq571⟩ := hQ571
  have N571 : Fr n0 L571 := by rw [l571]; exact Fr.app N568 Nq571
  obtain ⟨_, _, ⟨T572, L572, k572, n572⟩, -, X572, ⟨Lc572, hQ572, l572, y572, z572⟩, st572⟩ := Jvm.LawKit.callS X571 hx (y := (⟨"com/example/muster/muster/model/LevelsOfPinLaw", "lv", "(II)I"⟩ : MethodName)) hown (mvT hZ (hw _ (List.mem_of_getElem? (i := 1) rfl))) (mvT hZ (hw _ (List.mem_of_getElem? (i := 2) rfl))) (mvT hZ (hw _ (List.mem_of_getElem? (i := 3) rfl))) (mvT hZ (hw _ (List.mem_of_getElem? (i := 4) rfl))) (by decide) (backOf (W := 1) (own_rm1 l Z av hw [] p0 (2 : Int32) h531 n0 Z531 ) hZ (hw _ (List.mem_of_getElem? (i := 4) rfl)) (hw _ (List.mem_of_getElem? (i := 3) rfl)) (by decide) (by decide)) (g := (mkF m 201 #[oi p0, oa b1, oa o_268] [(.int (2 : Int32)), (.int p0), (.int (own_f5_2 (own_f1 p0 (2 : Int32))))])) rfl (by rw [hml]; rfl) (argsL := [(.int p0), (.int (2 : Int32))]) (rest := [(.int (own_f5_2 (own_f1 p0 (2 : Int32))))]) (lenOf own_pd2 rfl) rfl (by show 2 * 0 + _ ≤ _; exact Nat.le_of_eq rfl) (hb hby at_201) (fun _ _ => ⟨rfl, eq571, (by decide : 3 + 0 ≤ _), (by decide : 17 + 0 ≤ _)⟩)
  dsimp only [Pt.U, Pt.locs, Pt.cells, Pt.slots] at X572 l572 y572 z572 st572 hQ572
  have yq572 : k572 = 3 := y572
  have zq572 : n572 = 17 := z572
  subst yq572 zq572
  obtain ⟨rfl, Nq572, eq572⟩ := hQ572
  have N572 : Fr n0 L572 := by rw [l572]; exact Fr.app N571 Nq572
  have b573 : (own_f5_2 (own_f1 p0 (2 : Int32))) = (own_f1 p0 (2 : Int32)) := rfl
  obtain ⟨T574, X574, e574, st574⟩ := getS2 X572 hx hZ hown (host := "") (Or.inl (hw _ (List.mem_of_getElem? (i := 51) rfl))) Via.refl eq572 F536 (g := (mkF m 208 #[oi p0, oa b1, oa o_268] [(.ref o_268)])) rfl (hb hby at_208)
  obtain ⟨cq575, kq575, q575a, q575b, q575c⟩ := isOf hZ e574 F558
  obtain ⟨_, _, ⟨T575, L575, k575, n575⟩, -, X575, ⟨Lc575, hQ575, l575, y575, z575⟩, st575⟩ := X574.virtualBack hx (y := (⟨"com/example/muster/muster/model/Levels", "of", "(Lcom/example/muster/muster/model/ProjectModule;)I"⟩ : MethodName)) (z := (⟨"com/example/muster/muster/model/Levels", "of", "(Lcom/example/muster/muster/model/ProjectModule;)I"⟩ : MethodName)) hown (mvT hZ (hw _ (List.mem_of_getElem? (i := 33) rfl))) (mvT hZ (hw _ (List.mem_of_getElem? (i := 34) rfl))) (notFace_of_selects (args := #[]) (mvT hZ (hw _ (List.mem_of_getElem? (i := 36) rfl)))) (mvT hZ (hw _ (List.mem_of_getElem? (i := 36) rfl))) (mvT hZ (hw _ (List.mem_of_getElem? (i := 35) rfl))) (by decide) (backOf (W := 0) (own_rm5_3 l Z av hw [] o_268 aM3 b_268 k_b_268 (own_f1 p0 (0 : Int32)) (own_f1 p0 (1 : Int32)) (own_f1 p0 (2 : Int32)) (own_f1 p0 (3 : Int32)) (own_f1 p0 (4 : Int32)) (own_f1 p0 (5 : Int32)) (own_f1 p0 (6 : Int32)) (own_f1 p0 (7 : Int32)) h531 n0 Z531 F559 F560 F544 F552) hZ (hw _ (List.mem_of_getElem? (i := 37) rfl)) (hw _ (List.mem_of_getElem? (i := 7) rfl)) (by decide) (by decide)) q575a q575c (g := (mkF m 211 #[oi p0, oa b1, oa o_268] [(.ref aM3), (.ref o_268)])) rfl (by rw [hml]; rfl) (Steps.refl _) (argsL := [(.ref aM3)]) (rest := []) (lenOf own_pd4 rfl) rfl (by show 2 * 0 + _ ≤ _; exact Nat.le_of_eq rfl) (hb hby at_211) (fun _ _ => ⟨rfl, e574, (by decide : 3 + 0 ≤ _), (by decide : 17 + 0 ≤ _)⟩)
  dsimp only [Pt.U, Pt.locs, Pt.cells, Pt.slots] at X575 l575 y575 z575 st575 hQ575
  have yq575 : k575 = 3 := y575
  have zq575 : n575 = 17 := z575
  subst yq575 zq575
  obtain ⟨rfl, Nq575, eq575⟩ := hQ575
  have N575 : Fr n0 L575 := by rw [l575]; exact Fr.app N572 Nq575
  obtain ⟨_, _, ⟨T576, L576, k576, n576⟩, -, X576, ⟨Lc576, hQ576, l576, y576, z576⟩, st576⟩ := Jvm.LawKit.callS X575 hx (y := (⟨"com/example/muster/muster/model/LevelsOfPinLaw", "lv", "(II)I"⟩ : MethodName)) hown (mvT hZ (hw _ (List.mem_of_getElem? (i := 1) rfl))) (mvT hZ (hw _ (List.mem_of_getElem? (i := 2) rfl))) (mvT hZ (hw _ (List.mem_of_getElem? (i := 3) rfl))) (mvT hZ (hw _ (List.mem_of_getElem? (i := 4) rfl))) (by decide) (backOf (W := 1) (own_rm1 l Z av hw [] p0 (3 : Int32) h531 n0 Z531 ) hZ (hw _ (List.mem_of_getElem? (i := 4) rfl)) (hw _ (List.mem_of_getElem? (i := 3) rfl)) (by decide) (by decide)) (g := (mkF m 216 #[oi p0, oa b1, oa o_268] [(.int (3 : Int32)), (.int p0), (.int (own_f5_3 (own_f1 p0 (3 : Int32))))])) rfl (by rw [hml]; rfl) (argsL := [(.int p0), (.int (3 : Int32))]) (rest := [(.int (own_f5_3 (own_f1 p0 (3 : Int32))))]) (lenOf own_pd2 rfl) rfl (by show 2 * 0 + _ ≤ _; exact Nat.le_of_eq rfl) (hb hby at_216) (fun _ _ => ⟨rfl, eq575, (by decide : 3 + 0 ≤ _), (by decide : 17 + 0 ≤ _)⟩)
  dsimp only [Pt.U, Pt.locs, Pt.cells, Pt.slots] at X576 l576 y576 z576 st576 hQ576
  have yq576 : k576 = 3 := y576
  have zq576 : n576 = 17 := z576
  subst yq576 zq576
  obtain ⟨rfl, Nq576, eq576⟩ := hQ576
  have N576 : Fr n0 L576 := by rw [l576]; exact Fr.app N575 Nq576
  have b577 : (own_f5_3 (own_f1 p0 (3 : Int32))) = (own_f1 p0 (3 : Int32)) := rfl
  obtain ⟨T578, X578, e578, st578⟩ := getS2 X576 hx hZ hown (host := "") (Or.inl (hw _ (List.mem_of_getElem? (i := 53) rfl))) Via.refl eq576 F537 (g := (mkF m 223 #[oi p0, oa b1, oa o_268] [(.ref o_268)])) rfl (hb hby at_223)
  obtain ⟨cq579, kq579, q579a, q579b, q579c⟩ := isOf hZ e578 F558
  obtain ⟨_, _, ⟨T579, L579, k579, n579⟩, -, X579, ⟨Lc579, hQ579, l579, y579, z579⟩, st579⟩ := X578.virtualBack hx (y := (⟨"com/example/muster/muster/model/Levels", "of", "(Lcom/example/muster/muster/model/ProjectModule;)I"⟩ : MethodName)) (z := (⟨"com/example/muster/muster/model/Levels", "of", "(Lcom/example/muster/muster/model/ProjectModule;)I"⟩ : MethodName)) hown (mvT hZ (hw _ (List.mem_of_getElem? (i := 33) rfl))) (mvT hZ (hw _ (List.mem_of_getElem? (i := 34) rfl))) (notFace_of_selects (args := #[]) (mvT hZ (hw _ (List.mem_of_getElem? (i := 36) rfl)))) (mvT hZ (hw _ (List.mem_of_getElem? (i := 36) rfl))) (mvT hZ (hw _ (List.mem_of_getElem? (i := 35) rfl))) (by decide) (backOf (W := 0) (own_rm5_4 l Z av hw [] o_268 aM4 b_268 k_b_268 (own_f1 p0 (0 : Int32)) (own_f1 p0 (1 : Int32)) (own_f1 p0 (2 : Int32)) (own_f1 p0 (3 : Int32)) (own_f1 p0 (4 : Int32)) (own_f1 p0 (5 : Int32)) (own_f1 p0 (6 : Int32)) (own_f1 p0 (7 : Int32)) h531 n0 Z531 F559 F560 F545 F553) hZ (hw _ (List.mem_of_getElem? (i := 37) rfl)) (hw _ (List.mem_of_getElem? (i := 7) rfl)) (by decide) (by decide)) q579a q579c (g := (mkF m 226 #[oi p0, oa b1, oa o_268] [(.ref aM4), (.ref o_268)])) rfl (by rw [hml]; rfl) (Steps.refl _) (argsL := [(.ref aM4)]) (rest := []) (lenOf own_pd4 rfl) rfl (by show 2 * 0 + _ ≤ _; exact Nat.le_of_eq rfl) (hb hby at_226) (fun _ _ => ⟨rfl, e578, (by decide : 3 + 0 ≤ _), (by decide : 17 + 0 ≤ _)⟩)
  dsimp only [Pt.U, Pt.locs, Pt.cells, Pt.slots] at X579 l579 y579 z579 st579 hQ579
  have yq579 : k579 = 3 := y579
  have zq579 : n579 = 17 := z579
  subst yq579 zq579
  obtain ⟨rfl, Nq579, eq579⟩ := hQ579
  have N579 : Fr n0 L579 := by rw [l579]; exact Fr.app N576 Nq579
  obtain ⟨_, _, ⟨T580, L580, k580, n580⟩, -, X580, ⟨Lc580, hQ580, l580, y580, z580⟩, st580⟩ := Jvm.LawKit.callS X579 hx (y := (⟨"com/example/muster/muster/model/LevelsOfPinLaw", "lv", "(II)I"⟩ : MethodName)) hown (mvT hZ (hw _ (List.mem_of_getElem? (i := 1) rfl))) (mvT hZ (hw _ (List.mem_of_getElem? (i := 2) rfl))) (mvT hZ (hw _ (List.mem_of_getElem? (i := 3) rfl))) (mvT hZ (hw _ (List.mem_of_getElem? (i := 4) rfl))) (by decide) (backOf (W := 1) (own_rm1 l Z av hw [] p0 (4 : Int32) h531 n0 Z531 ) hZ (hw _ (List.mem_of_getElem? (i := 4) rfl)) (hw _ (List.mem_of_getElem? (i := 3) rfl)) (by decide) (by decide)) (g := (mkF m 231 #[oi p0, oa b1, oa o_268] [(.int (4 : Int32)), (.int p0), (.int (own_f5_4 (own_f1 p0 (4 : Int32))))])) rfl (by rw [hml]; rfl) (argsL := [(.int p0), (.int (4 : Int32))]) (rest := [(.int (own_f5_4 (own_f1 p0 (4 : Int32))))]) (lenOf own_pd2 rfl) rfl (by show 2 * 0 + _ ≤ _; exact Nat.le_of_eq rfl) (hb hby at_231) (fun _ _ => ⟨rfl, eq579, (by decide : 3 + 0 ≤ _), (by decide : 17 + 0 ≤ _)⟩)
  dsimp only [Pt.U, Pt.locs, Pt.cells, Pt.slots] at X580 l580 y580 z580 st580 hQ580
  have yq580 : k580 = 3 := y580
  have zq580 : n580 = 17 := z580
  subst yq580 zq580
  obtain ⟨rfl, Nq580, eq580⟩ := hQ580
  have N580 : Fr n0 L580 := by rw [l580]; exact Fr.app N579 Nq580
  have b581 : (own_f5_4 (own_f1 p0 (4 : Int32))) = (own_f1 p0 (4 : Int32)) := rfl
  obtain ⟨T582, X582, e582, st582⟩ := getS2 X580 hx hZ hown (host := "") (Or.inl (hw _ (List.mem_of_getElem? (i := 55) rfl))) Via.refl eq580 F538 (g := (mkF m 238 #[oi p0, oa b1, oa o_268] [(.ref o_268)])) rfl (hb hby at_238)
  obtain ⟨cq583, kq583, q583a, q583b, q583c⟩ := isOf hZ e582 F558
  obtain ⟨_, _, ⟨T583, L583, k583, n583⟩, -, X583, ⟨Lc583, hQ583, l583, y583, z583⟩, st583⟩ := X582.virtualBack hx (y := (⟨"com/example/muster/muster/model/Levels", "of", "(Lcom/example/muster/muster/model/ProjectModule;)I"⟩ : MethodName)) (z := (⟨"com/example/muster/muster/model/Levels", "of", "(Lcom/example/muster/muster/model/ProjectModule;)I"⟩ : MethodName)) hown (mvT hZ (hw _ (List.mem_of_getElem? (i := 33) rfl))) (mvT hZ (hw _ (List.mem_of_getElem? (i := 34) rfl))) (notFace_of_selects (args := #[]) (mvT hZ (hw _ (List.mem_of_getElem? (i := 36) rfl)))) (mvT hZ (hw _ (List.mem_of_getElem? (i := 36) rfl))) (mvT hZ (hw _ (List.mem_of_getElem? (i := 35) rfl))) (by decide) (backOf (W := 0) (own_rm5_5 l Z av hw [] o_268 aM5 b_268 k_b_268 (own_f1 p0 (0 : Int32)) (own_f1 p0 (1 : Int32)) (own_f1 p0 (2 : Int32)) (own_f1 p0 (3 : Int32)) (own_f1 p0 (4 : Int32)) (own_f1 p0 (5 : Int32)) (own_f1 p0 (6 : Int32)) (own_f1 p0 (7 : Int32)) h531 n0 Z531 F559 F560 F546 F554) hZ (hw _ (List.mem_of_getElem? (i := 37) rfl)) (hw _ (List.mem_of_getElem? (i := 7) rfl)) (by decide) (by decide)) q583a q583c (g := (mkF m 241 #[oi p0, oa b1, oa o_268] [(.ref aM5), (.ref o_268)])) rfl (by rw [hml]; rfl) (Steps.refl _) (argsL := [(.ref aM5)]) (rest := []) (lenOf own_pd4 rfl) rfl (by show 2 * 0 + _ ≤ _; exact Nat.le_of_eq rfl) (hb hby at_241) (fun _ _ => ⟨rfl, e582, (by decide : 3 + 0 ≤ _), (by decide : 17 + 0 ≤ _)⟩)
  dsimp only [Pt.U, Pt.locs, Pt.cells, Pt.slots] at X583 l583 y583 z583 st583 hQ583
  have yq583 : k583 = 3 := y583
  have zq583 : n583 = 17 := z583
  subst yq583 zq583
  obtain ⟨rfl, Nq583, eq583⟩ := hQ583
  have N583 : Fr n0 L583 := by rw [l583]; exact Fr.app N580 Nq583
  obtain ⟨_, _, ⟨T584, L584, k584, n584⟩, -, X584, ⟨Lc584, hQ584, l584, y584, z584⟩, st584⟩ := Jvm.LawKit.callS X583 hx (y := (⟨"com/example/muster/muster/model/LevelsOfPinLaw", "lv", "(II)I"⟩ : MethodName)) hown (mvT hZ (hw _ (List.mem_of_getElem? (i := 1) rfl))) (mvT hZ (hw _ (List.mem_of_getElem? (i := 2) rfl))) (mvT hZ (hw _ (List.mem_of_getElem? (i := 3) rfl))) (mvT hZ (hw _ (List.mem_of_getElem? (i := 4) rfl))) (by decide) (backOf (W := 1) (own_rm1 l Z av hw [] p0 (5 : Int32) h531 n0 Z531 ) hZ (hw _ (List.mem_of_getElem? (i := 4) rfl)) (hw _ (List.mem_of_getElem? (i := 3) rfl)) (by decide) (by decide)) (g := (mkF m 246 #[oi p0, oa b1, oa o_268] [(.int (5 : Int32)), (.int p0), (.int (own_f5_5 (own_f1 p0 (5 : Int32))))])) rfl (by rw [hml]; rfl) (argsL := [(.int p0), (.int (5 : Int32))]) (rest := [(.int (own_f5_5 (own_f1 p0 (5 : Int32))))]) (lenOf own_pd2 rfl) rfl (by show 2 * 0 + _ ≤ _; exact Nat.le_of_eq rfl) (hb hby at_246) (fun _ _ => ⟨rfl, eq583, (by decide : 3 + 0 ≤ _), (by decide : 17 + 0 ≤ _)⟩)
  dsimp only [Pt.U, Pt.locs, Pt.cells, Pt.slots] at X584 l584 y584 z584 st584 hQ584
  have yq584 : k584 = 3 := y584
  have zq584 : n584 = 17 := z584
  subst yq584 zq584
  obtain ⟨rfl, Nq584, eq584⟩ := hQ584
  have N584 : Fr n0 L584 := by rw [l584]; exact Fr.app N583 Nq584
  have b585 : (own_f5_5 (own_f1 p0 (5 : Int32))) = (own_f1 p0 (5 : Int32)) := rfl
  obtain ⟨T586, X586, e586, st586⟩ := getS2 X584 hx hZ hown (host := "") (Or.inl (hw _ (List.mem_of_getElem? (i := 57) rfl))) Via.refl eq584 F539 (g := (mkF m 253 #[oi p0, oa b1, oa o_268] [(.ref o_268)])) rfl (hb hby at_253)
  obtain ⟨cq587, kq587, q587a, q587b, q587c⟩ := isOf hZ e586 F558
  obtain ⟨_, _, ⟨T587, L587, k587, n587⟩, -, X587, ⟨Lc587, hQ587, l587, y587, z587⟩, st587⟩ := X586.virtualBack hx (y := (⟨"com/example/muster/muster/model/Levels", "of", "(Lcom/example/muster/muster/model/ProjectModule;)I"⟩ : MethodName)) (z := (⟨"com/example/muster/muster/model/Levels", "of", "(Lcom/example/muster/muster/model/ProjectModule;)I"⟩ : MethodName)) hown (mvT hZ (hw _ (List.mem_of_getElem? (i := 33) rfl))) (mvT hZ (hw _ (List.mem_of_getElem? (i := 34) rfl))) (notFace_of_selects (args := #[]) (mvT hZ (hw _ (List.mem_of_getElem? (i := 36) rfl)))) (mvT hZ (hw _ (List.mem_of_getElem? (i := 36) rfl))) (mvT hZ (hw _ (List.mem_of_getElem? (i := 35) rfl))) (by decide) (backOf (W := 0) (own_rm5_6 l Z av hw [] o_268 aM6 b_268 k_b_268 (own_f1 p0 (0 : Int32)) (own_f1 p0 (1 : Int32)) (own_f1 p0 (2 : Int32)) (own_f1 p0 (3 : Int32)) (own_f1 p0 (4 : Int32)) (own_f1 p0 (5 : Int32)) (own_f1 p0 (6 : Int32)) (own_f1 p0 (7 : Int32)) h531 n0 Z531 F559 F560 F547 F555) hZ (hw _ (List.mem_of_getElem? (i := 37) rfl)) (hw _ (List.mem_of_getElem? (i := 7) rfl)) (by decide) (by decide)) q587a q587c (g := (mkF m 256 #[oi p0, oa b1, oa o_268] [(.ref aM6), (.ref o_268)])) rfl (by rw [hml]; rfl) (Steps.refl _) (argsL := [(.ref aM6)]) (rest := []) (lenOf own_pd4 rfl) rfl (by show 2 * 0 + _ ≤ _; exact Nat.le_of_eq rfl) (hb hby at_256) (fun _ _ => ⟨rfl, e586, (by decide : 3 + 0 ≤ _), (by decide : 17 + 0 ≤ _)⟩)
  dsimp only [Pt.U, Pt.locs, Pt.cells, Pt.slots] at X587 l587 y587 z587 st587 hQ587
  have yq587 : k587 = 3 := y587
  have zq587 : n587 = 17 := z587
  subst yq587 zq587
  obtain ⟨rfl, Nq587, eq587⟩ := hQ587
  have N587 : Fr n0 L587 := by rw [l587]; exact Fr.app N584 Nq587
  obtain ⟨_, _, ⟨T588, L588, k588, n588⟩, -, X588, ⟨Lc588, hQ588, l588, y588, z588⟩, st588⟩ := Jvm.LawKit.callS X587 hx (y := (⟨"com/example/muster/muster/model/LevelsOfPinLaw", "lv", "(II)I"⟩ : MethodName)) hown (mvT hZ (hw _ (List.mem_of_getElem? (i := 1) rfl))) (mvT hZ (hw _ (List.mem_of_getElem? (i := 2) rfl))) (mvT hZ (hw _ (List.mem_of_getElem? (i := 3) rfl))) (mvT hZ (hw _ (List.mem_of_getElem? (i := 4) rfl))) (by decide) (backOf (W := 1) (own_rm1 l Z av hw [] p0 (6 : Int32) h531 n0 Z531 ) hZ (hw _ (List.mem_of_getElem? (i := 4) rfl)) (hw _ (List.mem_of_getElem? (i := 3) rfl)) (by decide) (by decide)) (g := (mkF m 262 #[oi p0, oa b1, oa o_268] [(.int (6 : Int32)), (.int p0), (.int (own_f5_6 (own_f1 p0 (6 : Int32))))])) rfl (by rw [hml]; rfl) (argsL := [(.int p0), (.int (6 : Int32))]) (rest := [(.int (own_f5_6 (own_f1 p0 (6 : Int32))))]) (lenOf own_pd2 rfl) rfl (by show 2 * 0 + _ ≤ _; exact Nat.le_of_eq rfl) (hb hby at_262) (fun _ _ => ⟨rfl, eq587, (by decide : 3 + 0 ≤ _), (by decide : 17 + 0 ≤ _)⟩)
  dsimp only [Pt.U, Pt.locs, Pt.cells, Pt.slots] at X588 l588 y588 z588 st588 hQ588
  have yq588 : k588 = 3 := y588
  have zq588 : n588 = 17 := z588
  subst yq588 zq588
  obtain ⟨rfl, Nq588, eq588⟩ := hQ588
  have N588 : Fr n0 L588 := by rw [l588]; exact Fr.app N587 Nq588
  have b589 : (own_f5_6 (own_f1 p0 (6 : Int32))) = (own_f1 p0 (6 : Int32)) := rfl
  obtain ⟨T590, X590, e590, st590⟩ := getS2 X588 hx hZ hown (host := "") (Or.inl (hw _ (List.mem_of_getElem? (i := 59) rfl))) Via.refl eq588 F540 (g := (mkF m 269 #[oi p0, oa b1, oa o_268] [(.ref o_268)])) rfl (hb hby at_269)
  obtain ⟨cq591, kq591, q591a, q591b, q591c⟩ := isOf hZ e590 F558
  obtain ⟨_, _, ⟨T591, L591, k591, n591⟩, -, X591, ⟨Lc591, hQ591, l591, y591, z591⟩, st591⟩ := X590.virtualBack hx (y := (⟨"com/example/muster/muster/model/Levels", "of", "(Lcom/example/muster/muster/model/ProjectModule;)I"⟩ : MethodName)) (z := (⟨"com/example/muster/muster/model/Levels", "of", "(Lcom/example/muster/muster/model/ProjectModule;)I"⟩ : MethodName)) hown (mvT hZ (hw _ (List.mem_of_getElem? (i := 33) rfl))) (mvT hZ (hw _ (List.mem_of_getElem? (i := 34) rfl))) (notFace_of_selects (args := #[]) (mvT hZ (hw _ (List.mem_of_getElem? (i := 36) rfl)))) (mvT hZ (hw _ (List.mem_of_getElem? (i := 36) rfl))) (mvT hZ (hw _ (List.mem_of_getElem? (i := 35) rfl))) (by decide) (backOf (W := 0) (own_rm5_7 l Z av hw [] o_268 aM7 b_268 k_b_268 (own_f1 p0 (0 : Int32)) (own_f1 p0 (1 : Int32)) (own_f1 p0 (2 : Int32)) (own_f1 p0 (3 : Int32)) (own_f1 p0 (4 : Int32)) (own_f1 p0 (5 : Int32)) (own_f1 p0 (6 : Int32)) (own_f1 p0 (7 : Int32)) h531 n0 Z531 F559 F560 F548 F556) hZ (hw _ (List.mem_of_getElem? (i := 37) rfl)) (hw _ (List.mem_of_getElem? (i := 7) rfl)) (by decide) (by decide)) q591a q591c (g := (mkF m 272 #[oi p0, oa b1, oa o_268] [(.ref aM7), (.ref o_268)])) rfl (by rw [hml]; rfl) (Steps.refl _) (argsL := [(.ref aM7)]) (rest := []) (lenOf own_pd4 rfl) rfl (by show 2 * 0 + _ ≤ _; exact Nat.le_of_eq rfl) (hb hby at_272) (fun _ _ => ⟨rfl, e590, (by decide : 3 + 0 ≤ _), (by decide : 17 + 0 ≤ _)⟩)
  dsimp only [Pt.U, Pt.locs, Pt.cells, Pt.slots] at X591 l591 y591 z591 st591 hQ591
  have yq591 : k591 = 3 := y591
  have zq591 : n591 = 17 := z591
  subst yq591 zq591
  obtain ⟨rfl, Nq591, eq591⟩ := hQ591
  have N591 : Fr n0 L591 := by rw [l591]; exact Fr.app N588 Nq591
  obtain ⟨_, _, ⟨T592, L592, k592, n592⟩, -, X592, ⟨Lc592, hQ592, l592, y592, z592⟩, st592⟩ := Jvm.LawKit.callS X591 hx (y := (⟨"com/example/muster/muster/model/LevelsOfPinLaw", "lv", "(II)I"⟩ : MethodName)) hown (mvT hZ (hw _ (List.mem_of_getElem? (i := 1) rfl))) (mvT hZ (hw _ (List.mem_of_getElem? (i := 2) rfl))) (mvT hZ (hw _ (List.mem_of_getElem? (i := 3) rfl))) (mvT hZ (hw _ (List.mem_of_getElem? (i := 4) rfl))) (by decide) (backOf (W := 1) (own_rm1 l Z av hw [] p0 (7 : Int32) h531 n0 Z531 ) hZ (hw _ (List.mem_of_getElem? (i := 4) rfl)) (hw _ (List.mem_of_getElem? (i := 3) rfl)) (by decide) (by decide)) (g := (mkF m 278 #[oi p0, oa b1, oa o_268] [(.int (7 : Int32)), (.int p0), (.int (own_f5_7 (own_f1 p0 (7 : Int32))))])) rfl (by rw [hml]; rfl) (argsL := [(.int p0), (.int (7 : Int32))]) (rest := [(.int (own_f5_7 (own_f1 p0 (7 : Int32))))]) (lenOf own_pd2 rfl) rfl (by show 2 * 0 + _ ≤ _; exact Nat.le_of_eq rfl) (hb hby at_278) (fun _ _ => ⟨rfl, eq591, (by decide : 3 + 0 ≤ _), (by decide : 17 + 0 ≤ _)⟩)
  dsimp only [Pt.U, Pt.locs, Pt.cells, Pt.slots] at X592 l592 y592 z592 st592 hQ592
  have yq592 : k592 = 3 := y592
  have zq592 : n592 = 17 := z592
  subst yq592 zq592
  obtain ⟨rfl, Nq592, eq592⟩ := hQ592
  have N592 : Fr n0 L592 := by rw [l592]; exact Fr.app N591 Nq592
  have b593 : (own_f5_7 (own_f1 p0 (7 : Int32))) = (own_f1 p0 (7 : Int32)) := rfl
  obtain ⟨fs, hr, hrun, hended, hW, hsame⟩ := X592.leave (v := (some (.int (1 : Int32)))) (fun h => by rw [Bd.returns] at h; cases h)
  refine ⟨_, _, pre0 _ ?_, hrun, hended, _, _, rfl, ?_, ⟨_, rfl⟩, hW, hsame.mono (by decide) (by decide)⟩
  · show oS p e below s₁ m 0 #[oi p0, .unset, .unset] [] _
    refine XS.bipush X0.here hx rfl (hb hby at_0) ?_
    show oS p e below s₁ m 2 #[oi p0, .unset, .unset] [(.int (8 : Int32))] _
    refine st1 _ ?_
    show oS p e below T1 m 4 #[oi p0, .unset, .unset] [(.ref b1)] _
    refine XS.astoreN X1.here hx rfl (hb hby at_4) rfl rfl (l' := #[oi p0, oa b1, .unset]) rfl ?_
    show oS p e below T1 m 5 #[oi p0, oa b1, .unset] [] _
    refine XS.aloadN X1.here hx rfl (hb hby at_5) rfl rfl ?_
    show oS p e below T1 m 6 #[oi p0, oa b1, .unset] [(.ref b1)] _
    refine XS.iconst X1.here hx rfl (hb hby at_6) ?_
    show oS p e below T1 m 7 #[oi p0, oa b1, .unset] [(.int (0 : Int32)), (.ref b1)] _
    refine XS.iloadN X1.here hx rfl (hb hby at_7) rfl ?_
    show oS p e below T1 m 8 #[oi p0, oa b1, .unset] [(.int p0), (.int (0 : Int32)), (.ref b1)] _
    refine XS.iconst X1.here hx rfl (hb hby at_8) ?_
    show oS p e below T1 m 9 #[oi p0, oa b1, .unset] [(.int (0 : Int32)), (.int p0), (.int (0 : Int32)), (.ref b1)] _
    refine st36 _ ?_
    show oS p e below T36 m 12 #[oi p0, oa b1, .unset] [(.int (own_f1 p0 (0 : Int32))), (.int (0 : Int32)), (.ref b1)] _
    refine st37 _ ?_
    show oS p e below T37 m 13 #[oi p0, oa b1, .unset] [] _
    refine XS.aloadN X37.here hx rfl (hb hby at_13) rfl rfl ?_
    show oS p e below T37 m 14 #[oi p0, oa b1, .unset] [(.ref b1)] _
    refine XS.iconst X37.here hx rfl (hb hby at_14) ?_
    show oS p e below T37 m 15 #[oi p0, oa b1, .unset] [(.int (1 : Int32)), (.ref b1)] _
    refine XS.iloadN X37.here hx rfl (hb hby at_15) rfl ?_
    show oS p e below T37 m 16 #[oi p0, oa b1, .unset] [(.int p0), (.int (1 : Int32)), (.ref b1)] _
    refine XS.iconst X37.here hx rfl (hb hby at_16) ?_
    show oS p e below T37 m 17 #[oi p0, oa b1, .unset] [(.int (1 : Int32)), (.int p0), (.int (1 : Int32)), (.ref b1)] _
    refine st65 _ ?_
    show oS p e below T65 m 20 #[oi p0, oa b1, .unset] [(.int (own_f1 p0 (1 : Int32))), (.int (1 : Int32)), (.ref b1)] _
    refine st66 _ ?_
    show oS p e below T66 m 21 #[oi p0, oa b1, .unset] [] _
    refine XS.aloadN X66.here hx rfl (hb hby at_21) rfl rfl ?_
    show oS p e below T66 m 22 #[oi p0, oa b1, .unset] [(.ref b1)] _
    refine XS.iconst X66.here hx rfl (hb hby at_22) ?_
    show oS p e below T66 m 23 #[oi p0, oa b1, .unset] [(.int (2 : Int32)), (.ref b1)] _
    refine XS.iloadN X66.here hx rfl (hb hby at_23) rfl ?_
    show oS p e below T66 m 24 #[oi p0, oa b1, .unset] [(.int p0), (.int (2 : Int32)), (.ref b1)] _
    refine XS.iconst X66.here hx rfl (hb hby at_24) ?_
    show oS p e below T66 m 25 #[oi p0, oa b1, .unset] [(.int (2 : Int32)), (.int p0), (.int (2 : Int32)), (.ref b1)] _
    refine st94 _ ?_
    show oS p e below T94 m 28 #[oi p0, oa b1, .unset] [(.int (own_f1 p0 (2 : Int32))), (.int (2 : Int32)), (.ref b1)] _
    refine st95 _ ?_
    show oS p e below T95 m 29 #[oi p0, oa b1, .unset] [] _
    refine XS.aloadN X95.here hx rfl (hb hby at_29) rfl rfl ?_
    show oS p e below T95 m 30 #[oi p0, oa b1, .unset] [(.ref b1)] _
    refine XS.iconst X95.here hx rfl (hb hby at_30) ?_
    show oS p e below T95 m 31 #[oi p0, oa b1, .unset] [(.int (3 : Int32)), (.ref b1)] _
    refine XS.iloadN X95.here hx rfl (hb hby at_31) rfl ?_
    show oS p e below T95 m 32 #[oi p0, oa b1, .unset] [(.int p0), (.int (3 : Int32)), (.ref b1)] _
    refine XS.iconst X95.here hx rfl (hb hby at_32) ?_
    show oS p e below T95 m 33 #[oi p0, oa b1, .unset] [(.int (3 : Int32)), (.int p0), (.int (3 : Int32)), (.ref b1)] _
    refine st123 _ ?_
    show oS p e below T123 m 36 #[oi p0, oa b1, .unset] [(.int (own_f1 p0 (3 : Int32))), (.int (3 : Int32)), (.ref b1)] _
    refine st124 _ ?_
    show oS p e below T124 m 37 #[oi p0, oa b1, .unset] [] _
    refine XS.aloadN X124.here hx rfl (hb hby at_37) rfl rfl ?_
    show oS p e below T124 m 38 #[oi p0, oa b1, .unset] [(.ref b1)] _
    refine XS.iconst X124.here hx rfl (hb hby at_38) ?_
    show oS p e below T124 m 39 #[oi p0, oa b1, .unset] [(.int (4 : Int32)), (.ref b1)] _
    refine XS.iloadN X124.here hx rfl (hb hby at_39) rfl ?_
    show oS p e below T124 m 40 #[oi p0, oa b1, .unset] [(.int p0), (.int (4 : Int32)), (.ref b1)] _
    refine XS.iconst X124.here hx rfl (hb hby at_40) ?_
    show oS p e below T124 m 41 #[oi p0, oa b1, .unset] [(.int (4 : Int32)), (.int p0), (.int (4 : Int32)), (.ref b1)] _
    refine st152 _ ?_
    show oS p e below T152 m 44 #[oi p0, oa b1, .unset] [(.int (own_f1 p0 (4 : Int32))), (.int (4 : Int32)), (.ref b1)] _
    refine st153 _ ?_
    show oS p e below T153 m 45 #[oi p0, oa b1, .unset] [] _
    refine XS.aloadN X153.here hx rfl (hb hby at_45) rfl rfl ?_
    show oS p e below T153 m 46 #[oi p0, oa b1, .unset] [(.ref b1)] _
    refine XS.iconst X153.here hx rfl (hb hby at_46) ?_
    show oS p e below T153 m 47 #[oi p0, oa b1, .unset] [(.int (5 : Int32)), (.ref b1)] _
    refine XS.iloadN X153.here hx rfl (hb hby at_47) rfl ?_
    show oS p e below T153 m 48 #[oi p0, oa b1, .unset] [(.int p0), (.int (5 : Int32)), (.ref b1)] _
    refine XS.iconst X153.here hx rfl (hb hby at_48) ?_
    show oS p e below T153 m 49 #[oi p0, oa b1, .unset] [(.int (5 : Int32)), (.int p0), (.int (5 : Int32)), (.ref b1)] _
    refine st181 _ ?_
    show oS p e below T181 m 52 #[oi p0, oa b1, .unset] [(.int (own_f1 p0 (5 : Int32))), (.int (5 : Int32)), (.ref b1)] _
    refine st182 _ ?_
    show oS p e below T182 m 53 #[oi p0, oa b1, .unset] [] _
    refine XS.aloadN X182.here hx rfl (hb hby at_53) rfl rfl ?_
    show oS p e below T182 m 54 #[oi p0, oa b1, .unset] [(.ref b1)] _
    refine XS.bipush X182.here hx rfl (hb hby at_54) ?_
    show oS p e below T182 m 56 #[oi p0, oa b1, .unset] [(.int (6 : Int32)), (.ref b1)] _
    refine XS.iloadN X182.here hx rfl (hb hby at_56) rfl ?_
    show oS p e below T182 m 57 #[oi p0, oa b1, .unset] [(.int p0), (.int (6 : Int32)), (.ref b1)] _
    refine XS.bipush X182.here hx rfl (hb hby at_57) ?_
    show oS p e below T182 m 59 #[oi p0, oa b1, .unset] [(.int (6 : Int32)), (.int p0), (.int (6 : Int32)), (.ref b1)] _
    refine st210 _ ?_
    show oS p e below T210 m 62 #[oi p0, oa b1, .unset] [(.int (own_f1 p0 (6 : Int32))), (.int (6 : Int32)), (.ref b1)] _
    refine st211 _ ?_
    show oS p e below T211 m 63 #[oi p0, oa b1, .unset] [] _
    refine XS.aloadN X211.here hx rfl (hb hby at_63) rfl rfl ?_
    show oS p e below T211 m 64 #[oi p0, oa b1, .unset] [(.ref b1)] _
    refine XS.bipush X211.here hx rfl (hb hby at_64) ?_
    show oS p e below T211 m 66 #[oi p0, oa b1, .unset] [(.int (7 : Int32)), (.ref b1)] _
    refine XS.iloadN X211.here hx rfl (hb hby at_66) rfl ?_
    show oS p e below T211 m 67 #[oi p0, oa b1, .unset] [(.int p0), (.int (7 : Int32)), (.ref b1)] _
    refine XS.bipush X211.here hx rfl (hb hby at_67) ?_
    show oS p e below T211 m 69 #[oi p0, oa b1, .unset] [(.int (7 : Int32)), (.int p0), (.int (7 : Int32)), (.ref b1)] _
    refine st239 _ ?_
    show oS p e below T239 m 72 #[oi p0, oa b1, .unset] [(.int (own_f1 p0 (7 : Int32))), (.int (7 : Int32)), (.ref b1)] _
    refine st240 _ ?_
    show oS p e below T240 m 73 #[oi p0, oa b1, .unset] [] _
    refine XS.aloadN X240.here hx rfl (hb hby at_73) rfl rfl ?_
    show oS p e below T240 m 74 #[oi p0, oa b1, .unset] [(.ref b1)] _
    refine st268 _ ?_
    show oS p e below T268 m 77 #[oi p0, oa b1, .unset] [(.ref o_268)] _
    refine XS.astoreN X268.here hx rfl (hb hby at_77) rfl rfl (l' := #[oi p0, oa b1, oa o_268]) rfl ?_
    show oS p e below T268 m 78 #[oi p0, oa b1, oa o_268] [] _
    refine XS.aloadN X268.here hx rfl (hb hby at_78) rfl rfl ?_
    show oS p e below T268 m 79 #[oi p0, oa b1, oa o_268] [(.ref b1)] _
    refine XS.iconst X268.here hx rfl (hb hby at_79) ?_
    show oS p e below T268 m 80 #[oi p0, oa b1, oa o_268] [(.int (0 : Int32)), (.ref b1)] _
    refine XS.aloadN X268.here hx rfl (hb hby at_80) rfl rfl ?_
    show oS p e below T268 m 81 #[oi p0, oa b1, oa o_268] [(.ref b1), (.int (0 : Int32)), (.ref b1)] _
    refine XS.iconst X268.here hx rfl (hb hby at_81) ?_
    show oS p e below T268 m 82 #[oi p0, oa b1, oa o_268] [(.int (0 : Int32)), (.ref b1), (.int (0 : Int32)), (.ref b1)] _
    refine oLdI X268 hx hZ rfl F312 (v := (.int (own_f1 p0 (0 : Int32)))) ⟨by decide, by decide⟩ rfl (hb hby at_82) ?_
    show oS p e below T268 m 83 #[oi p0, oa b1, oa o_268] [(.int (own_f1 p0 (0 : Int32))), (.int (0 : Int32)), (.ref b1)] _
    refine XS.iconst X268.here hx rfl (hb hby at_83) ?_
    show oS p e below T268 m 84 #[oi p0, oa b1, oa o_268] [(.int (1 : Int32)), (.int (own_f1 p0 (0 : Int32))), (.int (0 : Int32)), (.ref b1)] _
    refine XS.iadd X268.here hx rfl (hb hby at_84) rfl ?_
    show oS p e below T268 m 85 #[oi p0, oa b1, oa o_268] [(.int ((own_f1 p0 (0 : Int32)) + (1 : Int32))), (.int (0 : Int32)), (.ref b1)] _
    refine XS.iconst X268.here hx rfl (hb hby at_85) ?_
    show oS p e below T268 m 86 #[oi p0, oa b1, oa o_268] [(.int (3 : Int32)), (.int ((own_f1 p0 (0 : Int32)) + (1 : Int32))), (.int (0 : Int32)), (.ref b1)] _
    refine XS.iand X268.here hx rfl (hb hby at_86) rfl ?_
    show oS p e below T268 m 87 #[oi p0, oa b1, oa o_268] [(.int (((own_f1 p0 (0 : Int32)) + (1 : Int32)) &&& (3 : Int32))), (.int (0 : Int32)), (.ref b1)] _
    refine st314 _ ?_
    show oS p e below T314 m 88 #[oi p0, oa b1, oa o_268] [] _
    refine XS.aloadN X314.here hx rfl (hb hby at_88) rfl rfl ?_
    show oS p e below T314 m 89 #[oi p0, oa b1, oa o_268] [(.ref b1)] _
    refine XS.iconst X314.here hx rfl (hb hby at_89) ?_
    show oS p e below T314 m 90 #[oi p0, oa b1, oa o_268] [(.int (1 : Int32)), (.ref b1)] _
    refine XS.aloadN X314.here hx rfl (hb hby at_90) rfl rfl ?_
    show oS p e below T314 m 91 #[oi p0, oa b1, oa o_268] [(.ref b1), (.int (1 : Int32)), (.ref b1)] _
    refine XS.iconst X314.here hx rfl (hb hby at_91) ?_
    show oS p e below T314 m 92 #[oi p0, oa b1, oa o_268] [(.int (1 : Int32)), (.ref b1), (.int (1 : Int32)), (.ref b1)] _
    refine oLdI X314 hx hZ e314 V_344 (v := (.int (own_f1 p0 (1 : Int32)))) ⟨by decide, by decide⟩ rfl (hb hby at_92) ?_
    show oS p e below T314 m 93 #[oi p0, oa b1, oa o_268] [(.int (own_f1 p0 (1 : Int32))), (.int (1 : Int32)), (.ref b1)] _
    refine XS.iconst X314.here hx rfl (hb hby at_93) ?_
    show oS p e below T314 m 94 #[oi p0, oa b1, oa o_268] [(.int (1 : Int32)), (.int (own_f1 p0 (1 : Int32))), (.int (1 : Int32)), (.ref b1)] _
    refine XS.iadd X314.here hx rfl (hb hby at_94) rfl ?_
    show oS p e below T314 m 95 #[oi p0, oa b1, oa o_268] [(.int ((own_f1 p0 (1 : Int32)) + (1 : Int32))), (.int (1 : Int32)), (.ref b1)] _
    refine XS.iconst X314.here hx rfl (hb hby at_95) ?_
    show oS p e below T314 m 96 #[oi p0, oa b1, oa o_268] [(.int (3 : Int32)), (.int ((own_f1 p0 (1 : Int32)) + (1 : Int32))), (.int (1 : Int32)), (.ref b1)] _
    refine XS.iand X314.here hx rfl (hb hby at_96) rfl ?_
    show oS p e below T314 m 97 #[oi p0, oa b1, oa o_268] [(.int (((own_f1 p0 (1 : Int32)) + (1 : Int32)) &&& (3 : Int32))), (.int (1 : Int32)), (.ref b1)] _
    refine st345 _ ?_
    show oS p e below T345 m 98 #[oi p0, oa b1, oa o_268] [] _
    refine XS.aloadN X345.here hx rfl (hb hby at_98) rfl rfl ?_
    show oS p e below T345 m 99 #[oi p0, oa b1, oa o_268] [(.ref b1)] _
    refine XS.iconst X345.here hx rfl (hb hby at_99) ?_
    show oS p e below T345 m 100 #[oi p0, oa b1, oa o_268] [(.int (2 : Int32)), (.ref b1)] _
    refine XS.aloadN X345.here hx rfl (hb hby at_100) rfl rfl ?_
    show oS p e below T345 m 101 #[oi p0, oa b1, oa o_268] [(.ref b1), (.int (2 : Int32)), (.ref b1)] _
    refine XS.iconst X345.here hx rfl (hb hby at_101) ?_
    show oS p e below T345 m 102 #[oi p0, oa b1, oa o_268] [(.int (2 : Int32)), (.ref b1), (.int (2 : Int32)), (.ref b1)] _
    refine oLdI X345 hx hZ e345 V_375 (v := (.int (own_f1 p0 (2 : Int32)))) ⟨by decide, by decide⟩ rfl (hb hby at_102) ?_
    show oS p e below T345 m 103 #[oi p0, oa b1, oa o_268] [(.int (own_f1 p0 (2 : Int32))), (.int (2 : Int32)), (.ref b1)] _
    refine XS.iconst X345.here hx rfl (hb hby at_103) ?_
    show oS p e below T345 m 104 #[oi p0, oa b1, oa o_268] [(.int (1 : Int32)), (.int (own_f1 p0 (2 : Int32))), (.int (2 : Int32)), (.ref b1)] _
    refine XS.iadd X345.here hx rfl (hb hby at_104) rfl ?_
    show oS p e below T345 m 105 #[oi p0, oa b1, oa o_268] [(.int ((own_f1 p0 (2 : Int32)) + (1 : Int32))), (.int (2 : Int32)), (.ref b1)] _
    refine XS.iconst X345.here hx rfl (hb hby at_105) ?_
    show oS p e below T345 m 106 #[oi p0, oa b1, oa o_268] [(.int (3 : Int32)), (.int ((own_f1 p0 (2 : Int32)) + (1 : Int32))), (.int (2 : Int32)), (.ref b1)] _
    refine XS.iand X345.here hx rfl (hb hby at_106) rfl ?_
    show oS p e below T345 m 107 #[oi p0, oa b1, oa o_268] [(.int (((own_f1 p0 (2 : Int32)) + (1 : Int32)) &&& (3 : Int32))), (.int (2 : Int32)), (.ref b1)] _
    refine st376 _ ?_
    show oS p e below T376 m 108 #[oi p0, oa b1, oa o_268] [] _
    refine XS.aloadN X376.here hx rfl (hb hby at_108) rfl rfl ?_
    show oS p e below T376 m 109 #[oi p0, oa b1, oa o_268] [(.ref b1)] _
    refine XS.iconst X376.here hx rfl (hb hby at_109) ?_
    show oS p e below T376 m 110 #[oi p0, oa b1, oa o_268] [(.int (3 : Int32)), (.ref b1)] _
    refine XS.aloadN X376.here hx rfl (hb hby at_110) rfl rfl ?_
    show oS p e below T376 m 111 #[oi p0, oa b1, oa o_268] [(.ref b1), (.int (3 : Int32)), (.ref b1)] _
    refine XS.iconst X376.here hx rfl (hb hby at_111) ?_
    show oS p e below T376 m 112 #[oi p0, oa b1, oa o_268] [(.int (3 : Int32)), (.ref b1), (.int (3 : Int32)), (.ref b1)] _
    refine oLdI X376 hx hZ e376 V_406 (v := (.int (own_f1 p0 (3 : Int32)))) ⟨by decide, by decide⟩ rfl (hb hby at_112) ?_
    show oS p e below T376 m 113 #[oi p0, oa b1, oa o_268] [(.int (own_f1 p0 (3 : Int32))), (.int (3 : Int32)), (.ref b1)] _
    refine XS.iconst X376.here hx rfl (hb hby at_113) ?_
    show oS p e below T376 m 114 #[oi p0, oa b1, oa o_268] [(.int (1 : Int32)), (.int (own_f1 p0 (3 : Int32))), (.int (3 : Int32)), (.ref b1)] _
    refine XS.iadd X376.here hx rfl (hb hby at_114) rfl ?_
    show oS p e below T376 m 115 #[oi p0, oa b1, oa o_268] [(.int ((own_f1 p0 (3 : Int32)) + (1 : Int32))), (.int (3 : Int32)), (.ref b1)] _
    refine XS.iconst X376.here hx rfl (hb hby at_115) ?_
    show oS p e below T376 m 116 #[oi p0, oa b1, oa o_268] [(.int (3 : Int32)), (.int ((own_f1 p0 (3 : Int32)) + (1 : Int32))), (.int (3 : Int32)), (.ref b1)] _
    refine XS.iand X376.here hx rfl (hb hby at_116) rfl ?_
    show oS p e below T376 m 117 #[oi p0, oa b1, oa o_268] [(.int (((own_f1 p0 (3 : Int32)) + (1 : Int32)) &&& (3 : Int32))), (.int (3 : Int32)), (.ref b1)] _
    refine st407 _ ?_
    show oS p e below T407 m 118 #[oi p0, oa b1, oa o_268] [] _
    refine XS.aloadN X407.here hx rfl (hb hby at_118) rfl rfl ?_
    show oS p e below T407 m 119 #[oi p0, oa b1, oa o_268] [(.ref b1)] _
    refine XS.iconst X407.here hx rfl (hb hby at_119) ?_
    show oS p e below T407 m 120 #[oi p0, oa b1, oa o_268] [(.int (4 : Int32)), (.ref b1)] _
    refine XS.aloadN X407.here hx rfl (hb hby at_120) rfl rfl ?_
    show oS p e below T407 m 121 #[oi p0, oa b1, oa o_268] [(.ref b1), (.int (4 : Int32)), (.ref b1)] _
    refine XS.iconst X407.here hx rfl (hb hby at_121) ?_
    show oS p e below T407 m 122 #[oi p0, oa b1, oa o_268] [(.int (4 : Int32)), (.ref b1), (.int (4 : Int32)), (.ref b1)] _
    refine oLdI X407 hx hZ e407 V_437 (v := (.int (own_f1 p0 (4 : Int32)))) ⟨by decide, by decide⟩ rfl (hb hby at_122) ?_
    show oS p e below T407 m 123 #[oi p0, oa b1, oa o_268] [(.int (own_f1 p0 (4 : Int32))), (.int (4 : Int32)), (.ref b1)] _
    refine XS.iconst X407.here hx rfl (hb hby at_123) ?_
    show oS p e below T407 m 124 #[oi p0, oa b1, oa o_268] [(.int (1 : Int32)), (.int (own_f1 p0 (4 : Int32))), (.int (4 : Int32)), (.ref b1)] _
    refine XS.iadd X407.here hx rfl (hb hby at_124) rfl ?_
    show oS p e below T407 m 125 #[oi p0, oa b1, oa o_268] [(.int ((own_f1 p0 (4 : Int32)) + (1 : Int32))), (.int (4 : Int32)), (.ref b1)] _
    refine XS.iconst X407.here hx rfl (hb hby at_125) ?_
    show oS p e below T407 m 126 #[oi p0, oa b1, oa o_268] [(.int (3 : Int32)), (.int ((own_f1 p0 (4 : Int32)) + (1 : Int32))), (.int (4 : Int32)), (.ref b1)] _
    refine XS.iand X407.here hx rfl (hb hby at_126) rfl ?_
    show oS p e below T407 m 127 #[oi p0, oa b1, oa o_268] [(.int (((own_f1 p0 (4 : Int32)) + (1 : Int32)) &&& (3 : Int32))), (.int (4 : Int32)), (.ref b1)] _
    refine st438 _ ?_
    show oS p e below T438 m 128 #[oi p0, oa b1, oa o_268] [] _
    refine XS.aloadN X438.here hx rfl (hb hby at_128) rfl rfl ?_
    show oS p e below T438 m 129 #[oi p0, oa b1, oa o_268] [(.ref b1)] _
    refine XS.iconst X438.here hx rfl (hb hby at_129) ?_
    show oS p e below T438 m 130 #[oi p0, oa b1, oa o_268] [(.int (5 : Int32)), (.ref b1)] _
    refine XS.aloadN X438.here hx rfl (hb hby at_130) rfl rfl ?_
    show oS p e below T438 m 131 #[oi p0, oa b1, oa o_268] [(.ref b1), (.int (5 : Int32)), (.ref b1)] _
    refine XS.iconst X438.here hx rfl (hb hby at_131) ?_
    show oS p e below T438 m 132 #[oi p0, oa b1, oa o_268] [(.int (5 : Int32)), (.ref b1), (.int (5 : Int32)), (.ref b1)] _
    refine oLdI X438 hx hZ e438 V_468 (v := (.int (own_f1 p0 (5 : Int32)))) ⟨by decide, by decide⟩ rfl (hb hby at_132) ?_
    show oS p e below T438 m 133 #[oi p0, oa b1, oa o_268] [(.int (own_f1 p0 (5 : Int32))), (.int (5 : Int32)), (.ref b1)] _
    refine XS.iconst X438.here hx rfl (hb hby at_133) ?_
    show oS p e below T438 m 134 #[oi p0, oa b1, oa o_268] [(.int (1 : Int32)), (.int (own_f1 p0 (5 : Int32))), (.int (5 : Int32)), (.ref b1)] _
    refine XS.iadd X438.here hx rfl (hb hby at_134) rfl ?_
    show oS p e below T438 m 135 #[oi p0, oa b1, oa o_268] [(.int ((own_f1 p0 (5 : Int32)) + (1 : Int32))), (.int (5 : Int32)), (.ref b1)] _
    refine XS.iconst X438.here hx rfl (hb hby at_135) ?_
    show oS p e below T438 m 136 #[oi p0, oa b1, oa o_268] [(.int (3 : Int32)), (.int ((own_f1 p0 (5 : Int32)) + (1 : Int32))), (.int (5 : Int32)), (.ref b1)] _
    refine XS.iand X438.here hx rfl (hb hby at_136) rfl ?_
    show oS p e below T438 m 137 #[oi p0, oa b1, oa o_268] [(.int (((own_f1 p0 (5 : Int32)) + (1 : Int32)) &&& (3 : Int32))), (.int (5 : Int32)), (.ref b1)] _
    refine st469 _ ?_
    show oS p e below T469 m 138 #[oi p0, oa b1, oa o_268] [] _
    refine XS.aloadN X469.here hx rfl (hb hby at_138) rfl rfl ?_
    show oS p e below T469 m 139 #[oi p0, oa b1, oa o_268] [(.ref b1)] _
    refine XS.bipush X469.here hx rfl (hb hby at_139) ?_
    show oS p e below T469 m 141 #[oi p0, oa b1, oa o_268] [(.int (6 : Int32)), (.ref b1)] _
    refine XS.aloadN X469.here hx rfl (hb hby at_141) rfl rfl ?_
    show oS p e below T469 m 142 #[oi p0, oa b1, oa o_268] [(.ref b1), (.int (6 : Int32)), (.ref b1)] _
    refine XS.bipush X469.here hx rfl (hb hby at_142) ?_
    show oS p e below T469 m 144 #[oi p0, oa b1, oa o_268] [(.int (6 : Int32)), (.ref b1), (.int (6 : Int32)), (.ref b1)] _
    refine oLdI X469 hx hZ e469 V_499 (v := (.int (own_f1 p0 (6 : Int32)))) ⟨by decide, by decide⟩ rfl (hb hby at_144) ?_
    show oS p e below T469 m 145 #[oi p0, oa b1, oa o_268] [(.int (own_f1 p0 (6 : Int32))), (.int (6 : Int32)), (.ref b1)] _
    refine XS.iconst X469.here hx rfl (hb hby at_145) ?_
    show oS p e below T469 m 146 #[oi p0, oa b1, oa o_268] [(.int (1 : Int32)), (.int (own_f1 p0 (6 : Int32))), (.int (6 : Int32)), (.ref b1)] _
    refine XS.iadd X469.here hx rfl (hb hby at_146) rfl ?_
    show oS p e below T469 m 147 #[oi p0, oa b1, oa o_268] [(.int ((own_f1 p0 (6 : Int32)) + (1 : Int32))), (.int (6 : Int32)), (.ref b1)] _
    refine XS.iconst X469.here hx rfl (hb hby at_147) ?_
    show oS p e below T469 m 148 #[oi p0, oa b1, oa o_268] [(.int (3 : Int32)), (.int ((own_f1 p0 (6 : Int32)) + (1 : Int32))), (.int (6 : Int32)), (.ref b1)] _
    refine XS.iand X469.here hx rfl (hb hby at_148) rfl ?_
    show oS p e below T469 m 149 #[oi p0, oa b1, oa o_268] [(.int (((own_f1 p0 (6 : Int32)) + (1 : Int32)) &&& (3 : Int32))), (.int (6 : Int32)), (.ref b1)] _
    refine st500 _ ?_
    show oS p e below T500 m 150 #[oi p0, oa b1, oa o_268] [] _
    refine XS.aloadN X500.here hx rfl (hb hby at_150) rfl rfl ?_
    show oS p e below T500 m 151 #[oi p0, oa b1, oa o_268] [(.ref b1)] _
    refine XS.bipush X500.here hx rfl (hb hby at_151) ?_
    show oS p e below T500 m 153 #[oi p0, oa b1, oa o_268] [(.int (7 : Int32)), (.ref b1)] _
    refine XS.aloadN X500.here hx rfl (hb hby at_153) rfl rfl ?_
    show oS p e below T500 m 154 #[oi p0, oa b1, oa o_268] [(.ref b1), (.int (7 : Int32)), (.ref b1)] _
    refine XS.bipush X500.here hx rfl (hb hby at_154) ?_
    show oS p e below T500 m 156 #[oi p0, oa b1, oa o_268] [(.int (7 : Int32)), (.ref b1), (.int (7 : Int32)), (.ref b1)] _
    refine oLdI X500 hx hZ e500 V_530 (v := (.int (own_f1 p0 (7 : Int32)))) ⟨by decide, by decide⟩ rfl (hb hby at_156) ?_
    show oS p e below T500 m 157 #[oi p0, oa b1, oa o_268] [(.int (own_f1 p0 (7 : Int32))), (.int (7 : Int32)), (.ref b1)] _
    refine XS.iconst X500.here hx rfl (hb hby at_157) ?_
    show oS p e below T500 m 158 #[oi p0, oa b1, oa o_268] [(.int (1 : Int32)), (.int (own_f1 p0 (7 : Int32))), (.int (7 : Int32)), (.ref b1)] _
    refine XS.iadd X500.here hx rfl (hb hby at_158) rfl ?_
    show oS p e below T500 m 159 #[oi p0, oa b1, oa o_268] [(.int ((own_f1 p0 (7 : Int32)) + (1 : Int32))), (.int (7 : Int32)), (.ref b1)] _
    refine XS.iconst X500.here hx rfl (hb hby at_159) ?_
    show oS p e below T500 m 160 #[oi p0, oa b1, oa o_268] [(.int (3 : Int32)), (.int ((own_f1 p0 (7 : Int32)) + (1 : Int32))), (.int (7 : Int32)), (.ref b1)] _
    refine XS.iand X500.here hx rfl (hb hby at_160) rfl ?_
    show oS p e below T500 m 161 #[oi p0, oa b1, oa o_268] [(.int (((own_f1 p0 (7 : Int32)) + (1 : Int32)) &&& (3 : Int32))), (.int (7 : Int32)), (.ref b1)] _
    refine st531 _ ?_
    show oS p e below T531 m 162 #[oi p0, oa b1, oa o_268] [] _
    refine XS.aloadN X531.here hx rfl (hb hby at_162) rfl rfl ?_
    show oS p e below T531 m 163 #[oi p0, oa b1, oa o_268] [(.ref o_268)] _
    refine st562 _ ?_
    show oS p e below T562 m 166 #[oi p0, oa b1, oa o_268] [(.ref aM0), (.ref o_268)] _
    refine st563.trans ?_
    show oS p e below T563 m 169 #[oi p0, oa b1, oa o_268] [(.int (own_f5_0 (own_f1 p0 (0 : Int32))))] _
    refine XS.iloadN X563.here hx rfl (hb hby at_169) rfl ?_
    show oS p e below T563 m 170 #[oi p0, oa b1, oa o_268] [(.int p0), (.int (own_f5_0 (own_f1 p0 (0 : Int32))))] _
    refine XS.iconst X563.here hx rfl (hb hby at_170) ?_
    show oS p e below T563 m 171 #[oi p0, oa b1, oa o_268] [(.int (0 : Int32)), (.int p0), (.int (own_f5_0 (own_f1 p0 (0 : Int32))))] _
    refine st564 _ ?_
    show oS p e below T564 m 174 #[oi p0, oa b1, oa o_268] [(.int (own_f1 p0 (0 : Int32))), (.int (own_f5_0 (own_f1 p0 (0 : Int32))))] _
    refine XS.icmpNo X564.here hx rfl (hb hby at_174) rfl (teq b565).2 ?_
    show oS p e below T564 m 177 #[oi p0, oa b1, oa o_268] [] _
    refine XS.aloadN X564.here hx rfl (hb hby at_177) rfl rfl ?_
    show oS p e below T564 m 178 #[oi p0, oa b1, oa o_268] [(.ref o_268)] _
    refine st566 _ ?_
    show oS p e below T566 m 181 #[oi p0, oa b1, oa o_268] [(.ref aM1), (.ref o_268)] _
    refine st567.trans ?_
    show oS p e below T567 m 184 #[oi p0, oa b1, oa o_268] [(.int (own_f5_1 (own_f1 p0 (1 : Int32))))] _
    refine XS.iloadN X567.here hx rfl (hb hby at_184) rfl ?_
    show oS p e below T567 m 185 #[oi p0, oa b1, oa o_268] [(.int p0), (.int (own_f5_1 (own_f1 p0 (1 : Int32))))] _
    refine XS.iconst X567.here hx rfl (hb hby at_185) ?_
    show oS p e below T567 m 186 #[oi p0, oa b1, oa o_268] [(.int (1 : Int32)), (.int p0), (.int (own_f5_1 (own_f1 p0 (1 : Int32))))] _
    refine st568 _ ?_
    show oS p e below T568 m 189 #[oi p0, oa b1, oa o_268] [(.int (own_f1 p0 (1 : Int32))), (.int (own_f5_1 (own_f1 p0 (1 : Int32))))] _
    refine XS.icmpNo X568.here hx rfl (hb hby at_189) rfl (teq b569).2 ?_
    show oS p e below T568 m 192 #[oi p0, oa b1, oa o_268] [] _
    refine XS.aloadN X568.here hx rfl (hb hby at_192) rfl rfl ?_
    show oS p e below T568 m 193 #[oi p0, oa b1, oa o_268] [(.ref o_268)] _
    refine st570 _ ?_
    show oS p e below T570 m 196 #[oi p0, oa b1, oa o_268] [(.ref aM2), (.ref o_268)] _
    refine st571.trans ?_
    show oS p e below T571 m 199 #[oi p0, oa b1, oa o_268] [(.int (own_f5_2 (own_f1 p0 (2 : Int32))))] _
    refine XS.iloadN X571.here hx rfl (hb hby at_199) rfl ?_
    show oS p e below T571 m 200 #[oi p0, oa b1, oa o_268] [(.int p0), (.int (own_f5_2 (own_f1 p0 (2 : Int32))))] _
    refine XS.iconst X571.here hx rfl (hb hby at_200) ?_
    show oS p e below T571 m 201 #[oi p0, oa b1, oa o_268] [(.int (2 : Int32)), (.int p0), (.int (own_f5_2 (own_f1 p0 (2 : Int32))))] _
    refine st572 _ ?_
    show oS p e below T572 m 204 #[oi p0, oa b1, oa o_268] [(.int (own_f1 p0 (2 : Int32))), (.int (own_f5_2 (own_f1 p0 (2 : Int32))))] _
    refine XS.icmpNo X572.here hx rfl (hb hby at_204) rfl (teq b573).2 ?_
    show oS p e below T572 m 207 #[oi p0, oa b1, oa o_268] [] _
    refine XS.aloadN X572.here hx rfl (hb hby at_207) rfl rfl ?_
    show oS p e below T572 m 208 #[oi p0, oa b1, oa o_268] [(.ref o_268)] _
    refine st574 _ ?_
    show oS p e below T574 m 211 #[oi p0, oa b1, oa o_268] [(.ref aM3), (.ref o_268)] _
    refine st575.trans ?_
    show oS p e below T575 m 214 #[oi p0, oa b1, oa o_268] [(.int (own_f5_3 (own_f1 p0 (3 : Int32))))] _
    refine XS.iloadN X575.here hx rfl (hb hby at_214) rfl ?_
    show oS p e below T575 m 215 #[oi p0, oa b1, oa o_268] [(.int p0), (.int (own_f5_3 (own_f1 p0 (3 : Int32))))] _
    refine XS.iconst X575.here hx rfl (hb hby at_215) ?_
    show oS p e below T575 m 216 #[oi p0, oa b1, oa o_268] [(.int (3 : Int32)), (.int p0), (.int (own_f5_3 (own_f1 p0 (3 : Int32))))] _
    refine st576 _ ?_
    show oS p e below T576 m 219 #[oi p0, oa b1, oa o_268] [(.int (own_f1 p0 (3 : Int32))), (.int (own_f5_3 (own_f1 p0 (3 : Int32))))] _
    refine XS.icmpNo X576.here hx rfl (hb hby at_219) rfl (teq b577).2 ?_
    show oS p e below T576 m 222 #[oi p0, oa b1, oa o_268] [] _
    refine XS.aloadN X576.here hx rfl (hb hby at_222) rfl rfl ?_
    show oS p e below T576 m 223 #[oi p0, oa b1, oa o_268] [(.ref o_268)] _
    refine st578 _ ?_
    show oS p e below T578 m 226 #[oi p0, oa b1, oa o_268] [(.ref aM4), (.ref o_268)] _
    refine st579.trans ?_
    show oS p e below T579 m 229 #[oi p0, oa b1, oa o_268] [(.int (own_f5_4 (own_f1 p0 (4 : Int32))))] _
    refine XS.iloadN X579.here hx rfl (hb hby at_229) rfl ?_
    show oS p e below T579 m 230 #[oi p0, oa b1, oa o_268] [(.int p0), (.int (own_f5_4 (own_f1 p0 (4 : Int32))))] _
    refine XS.iconst X579.here hx rfl (hb hby at_230) ?_
    show oS p e below T579 m 231 #[oi p0, oa b1, oa o_268] [(.int (4 : Int32)), (.int p0), (.int (own_f5_4 (own_f1 p0 (4 : Int32))))] _
    refine st580 _ ?_
    show oS p e below T580 m 234 #[oi p0, oa b1, oa o_268] [(.int (own_f1 p0 (4 : Int32))), (.int (own_f5_4 (own_f1 p0 (4 : Int32))))] _
    refine XS.icmpNo X580.here hx rfl (hb hby at_234) rfl (teq b581).2 ?_
    show oS p e below T580 m 237 #[oi p0, oa b1, oa o_268] [] _
    refine XS.aloadN X580.here hx rfl (hb hby at_237) rfl rfl ?_
    show oS p e below T580 m 238 #[oi p0, oa b1, oa o_268] [(.ref o_268)] _
    refine st582 _ ?_
    show oS p e below T582 m 241 #[oi p0, oa b1, oa o_268] [(.ref aM5), (.ref o_268)] _
    refine st583.trans ?_
    show oS p e below T583 m 244 #[oi p0, oa b1, oa o_268] [(.int (own_f5_5 (own_f1 p0 (5 : Int32))))] _
    refine XS.iloadN X583.here hx rfl (hb hby at_244) rfl ?_
    show oS p e below T583 m 245 #[oi p0, oa b1, oa o_268] [(.int p0), (.int (own_f5_5 (own_f1 p0 (5 : Int32))))] _
    refine XS.iconst X583.here hx rfl (hb hby at_245) ?_
    show oS p e below T583 m 246 #[oi p0, oa b1, oa o_268] [(.int (5 : Int32)), (.int p0), (.int (own_f5_5 (own_f1 p0 (5 : Int32))))] _
    refine st584 _ ?_
    show oS p e below T584 m 249 #[oi p0, oa b1, oa o_268] [(.int (own_f1 p0 (5 : Int32))), (.int (own_f5_5 (own_f1 p0 (5 : Int32))))] _
    refine XS.icmpNo X584.here hx rfl (hb hby at_249) rfl (teq b585).2 ?_
    show oS p e below T584 m 252 #[oi p0, oa b1, oa o_268] [] _
    refine XS.aloadN X584.here hx rfl (hb hby at_252) rfl rfl ?_
    show oS p e below T584 m 253 #[oi p0, oa b1, oa o_268] [(.ref o_268)] _
    refine st586 _ ?_
    show oS p e below T586 m 256 #[oi p0, oa b1, oa o_268] [(.ref aM6), (.ref o_268)] _
    refine st587.trans ?_
    show oS p e below T587 m 259 #[oi p0, oa b1, oa o_268] [(.int (own_f5_6 (own_f1 p0 (6 : Int32))))] _
    refine XS.iloadN X587.here hx rfl (hb hby at_259) rfl ?_
    show oS p e below T587 m 260 #[oi p0, oa b1, oa o_268] [(.int p0), (.int (own_f5_6 (own_f1 p0 (6 : Int32))))] _
    refine XS.bipush X587.here hx rfl (hb hby at_260) ?_
    show oS p e below T587 m 262 #[oi p0, oa b1, oa o_268] [(.int (6 : Int32)), (.int p0), (.int (own_f5_6 (own_f1 p0 (6 : Int32))))] _
    refine st588 _ ?_
    show oS p e below T588 m 265 #[oi p0, oa b1, oa o_268] [(.int (own_f1 p0 (6 : Int32))), (.int (own_f5_6 (own_f1 p0 (6 : Int32))))] _
    refine XS.icmpNo X588.here hx rfl (hb hby at_265) rfl (teq b589).2 ?_
    show oS p e below T588 m 268 #[oi p0, oa b1, oa o_268] [] _
    refine XS.aloadN X588.here hx rfl (hb hby at_268) rfl rfl ?_
    show oS p e below T588 m 269 #[oi p0, oa b1, oa o_268] [(.ref o_268)] _
    refine st590 _ ?_
    show oS p e below T590 m 272 #[oi p0, oa b1, oa o_268] [(.ref aM7), (.ref o_268)] _
    refine st591.trans ?_
    show oS p e below T591 m 275 #[oi p0, oa b1, oa o_268] [(.int (own_f5_7 (own_f1 p0 (7 : Int32))))] _
    refine XS.iloadN X591.here hx rfl (hb hby at_275) rfl ?_
    show oS p e below T591 m 276 #[oi p0, oa b1, oa o_268] [(.int p0), (.int (own_f5_7 (own_f1 p0 (7 : Int32))))] _
    refine XS.bipush X591.here hx rfl (hb hby at_276) ?_
    show oS p e below T591 m 278 #[oi p0, oa b1, oa o_268] [(.int (7 : Int32)), (.int p0), (.int (own_f5_7 (own_f1 p0 (7 : Int32))))] _
    refine st592 _ ?_
    show oS p e below T592 m 281 #[oi p0, oa b1, oa o_268] [(.int (own_f1 p0 (7 : Int32))), (.int (own_f5_7 (own_f1 p0 (7 : Int32))))] _
    refine XS.icmpNo X592.here hx rfl (hb hby at_281) rfl (teq b593).2 ?_
    show oS p e below T592 m 284 #[oi p0, oa b1, oa o_268] [] _
    refine XS.iconst X592.here hx rfl (hb hby at_284) ?_
    show oS p e below T592 m 285 #[oi p0, oa b1, oa o_268] [(.int (1 : Int32))] _
    refine XS.goto X592.here hx rfl (pc0 := 285) (pc' := 289) rfl (hb hby at_285) (by decide) (by decide) ?_
    show oS p e below T592 m 289 #[oi p0, oa b1, oa o_268] [(.int (1 : Int32))] _
    exact retN X592 hx (t := .boolean) Bd.returns (by simp) (hb hby at_289) hr
  · show own_Q0 Z p0 aM0 aM1 aM2 aM3 aM4 aM5 aM6 aM7 h0 n0 _ T592.heap _
    rw [eq592]
    exact ⟨rfl, N592⟩
set_option maxRecDepth 65536 in
set_option maxHeartbeats 40000000 in
theorem own_comes {Post : Tables → Env → Array Value → State → Outcome → State → Prop} (hpost : ∀ tb e args s v u, (limb_1_1.after args s (.returned v) u = true ∧ limb_1_2.after args s (.returned v) u = true ∧ True) → FrameEnd s (.returned v) u (Jvm.fieldLocs frame_1_writes args s ++ Jvm.arrayLocs frame_1_arrays args s ++ Jvm.staticLocs frame_1_statics s) 16 128 → Post tb e args s (.returned v) u) :
    ArmFor flags0 classFile x code maxLocals ret World_1 tables_1 room_1 Calls_1 rest_1 Pre_1 Post := by
  intro l hfl _ _ p e ha hc hk s m args below hf hA hF happ hP
  obtain ⟨hcalls, hrest, hpre⟩ := hP
  obtain ⟨-, -, -, hnamed, -, -, -, hat⟩ := (Spec.applies_iff hf).mp happ
  obtain ⟨hg, hn⟩ := and_e (Cond.before_iff.mp (show (Jvm.Cond.and given_1 narrow_1).before args s = true from hpre))
  obtain ⟨gv1, gv2⟩ := and_e hg
  obtain ⟨w0, rfl⟩ : ∃ w0 : Value, args = #[w0] := by
    have hs : args.size = 1 := by simpa [Cond.value, given_1] using gv1
    obtain ⟨L⟩ := args
    match L, hs with
    | [w0], _ => exact ⟨w0, rfl⟩
  have hw := fun d (hd : d ∈ tables_1) => atoms_spec (ws := Jvm.Cond.code x code maxLocals ret :: tables_1) hat d (List.mem_cons_of_mem _ hd)
  have hfit : Fit s := fun {y c} hc i hi => by
    obtain ⟨ha, rfl⟩ := Array.getElem?_eq_some_iff.mp hc
    have q := List.all_eq_true.mp ((Array.all_eq_true_iff_forall_mem.mp hF) _ (Array.getElem_mem ha)) i (List.mem_range.mpr hi)
    simpa [Array.getElem?_eq_getElem hi] using q
  obtain ⟨i0, ei0⟩ := is_v gv2
  obtain rfl : w0 = (.int i0) := Option.some.inj ei0
  obtain ⟨na1, na2⟩ := and_e hn
  obtain ⟨na3, na4⟩ := and_e na2
  obtain ⟨na5, na6⟩ := and_e na4
  obtain ⟨na7, na8⟩ := and_e na6
  obtain ⟨na9, na10⟩ := and_e na8
  obtain ⟨na11, na12⟩ := and_e na10
  obtain ⟨na13, na14⟩ := and_e na12
  obtain ⟨na15, na16⟩ := and_e na14
  obtain ⟨na17, na18⟩ := and_e na16
  obtain ⟨na19, na20⟩ := and_e na18
  obtain ⟨na21, na22⟩ := and_e na20
  obtain ⟨na23, na24⟩ := and_e na22
  obtain ⟨na25, na26⟩ := and_e na24
  obtain ⟨na27, na28⟩ := and_e na26
  obtain ⟨na29, na30⟩ := and_e na28
  obtain ⟨na31, na32⟩ := and_e na30
  obtain ⟨aM0, ev_aM0⟩ := exa_v na3
  have E_aM0 : Exa s s.heap aM0 "com/example/muster/muster/model/ProjectModule" := Exa.start ev_aM0 na3
  have S_MILESTONE : Sta s s.heap "com/example/muster/muster/model/ProjectModule" "MILESTONE" "Lcom/example/muster/muster/model/ProjectModule;" (.ref aM0) := Sta.start ev_aM0 (Or.inr ⟨(hw _ (List.mem_of_getElem? (i := 31) rfl)), (hw _ (List.mem_of_getElem? (i := 32) rfl))⟩)
  obtain ⟨aM1, ev_aM1⟩ := exa_v na7
  have E_aM1 : Exa s s.heap aM1 "com/example/muster/muster/model/ProjectModule" := Exa.start ev_aM1 na7
  have S_DISCUSSION : Sta s s.heap "com/example/muster/muster/model/ProjectModule" "DISCUSSION" "Lcom/example/muster/muster/model/ProjectModule;" (.ref aM1) := Sta.start ev_aM1 (Or.inr ⟨(hw _ (List.mem_of_getElem? (i := 31) rfl)), (hw _ (List.mem_of_getElem? (i := 48) rfl))⟩)
  obtain ⟨aM2, ev_aM2⟩ := exa_v na11
  have E_aM2 : Exa s s.heap aM2 "com/example/muster/muster/model/ProjectModule" := Exa.start ev_aM2 na11
  have S_FILE : Sta s s.heap "com/example/muster/muster/model/ProjectModule" "FILE" "Lcom/example/muster/muster/model/ProjectModule;" (.ref aM2) := Sta.start ev_aM2 (Or.inr ⟨(hw _ (List.mem_of_getElem? (i := 31) rfl)), (hw _ (List.mem_of_getElem? (i := 50) rfl))⟩)
  obtain ⟨aM3, ev_aM3⟩ := exa_v na15
  have E_aM3 : Exa s s.heap aM3 "com/example/muster/muster/model/ProjectModule" := Exa.start ev_aM3 na15
  have S_NOTEBOOK : Sta s s.heap "com/example/muster/muster/model/ProjectModule" "NOTEBOOK" "Lcom/example/muster/muster/model/ProjectModule;" (.ref aM3) := Sta.start ev_aM3 (Or.inr ⟨(hw _ (List.mem_of_getElem? (i := 31) rfl)), (hw _ (List.mem_of_getElem? (i := 52) rfl))⟩)
  obtain ⟨aM4, ev_aM4⟩ := exa_v na19
  have E_aM4 : Exa s s.heap aM4 "com/example/muster/muster/model/ProjectModule" := Exa.start ev_aM4 na19
  have S_REPOSITORY : Sta s s.heap "com/example/muster/muster/model/ProjectModule" "REPOSITORY" "Lcom/example/muster/muster/model/ProjectModule;" (.ref aM4) := Sta.start ev_aM4 (Or.inr ⟨(hw _ (List.mem_of_getElem? (i := 31) rfl)), (hw _ (List.mem_of_getElem? (i := 54) rfl))⟩)
  obtain ⟨aM5, ev_aM5⟩ := exa_v na23
  have E_aM5 : Exa s s.heap aM5 "com/example/muster/muster/model/ProjectModule" := Exa.start ev_aM5 na23
  have S_TASK : Sta s s.heap "com/example/muster/muster/model/ProjectModule" "TASK" "Lcom/example/muster/muster/model/ProjectModule;" (.ref aM5) := Sta.start ev_aM5 (Or.inr ⟨(hw _ (List.mem_of_getElem? (i := 31) rfl)), (hw _ (List.mem_of_getElem? (i := 56) rfl))⟩)
  obtain ⟨aM6, ev_aM6⟩ := exa_v na27
  have E_aM6 : Exa s s.heap aM6 "com/example/muster/muster/model/ProjectModule" := Exa.start ev_aM6 na27
  have S_TRACKING : Sta s s.heap "com/example/muster/muster/model/ProjectModule" "TRACKING" "Lcom/example/muster/muster/model/ProjectModule;" (.ref aM6) := Sta.start ev_aM6 (Or.inr ⟨(hw _ (List.mem_of_getElem? (i := 31) rfl)), (hw _ (List.mem_of_getElem? (i := 58) rfl))⟩)
  obtain ⟨aM7, ev_aM7⟩ := exa_v na31
  have E_aM7 : Exa s s.heap aM7 "com/example/muster/muster/model/ProjectModule" := Exa.start ev_aM7 na31
  have S_TODO_LIST : Sta s s.heap "com/example/muster/muster/model/ProjectModule" "TODO_LIST" "Lcom/example/muster/muster/model/ProjectModule;" (.ref aM7) := Sta.start ev_aM7 (Or.inr ⟨(hw _ (List.mem_of_getElem? (i := 31) rfl)), (hw _ (List.mem_of_getElem? (i := 60) rfl))⟩)
  have O_aM0 : Fld s s.heap aM0 "java/lang/Enum" "ordinal" "I" (.int (0 : Int32)) := Fld.start ((fld_at ev_aM0).symm.trans (own_eqI na5))
  have O_aM1 : Fld s s.heap aM1 "java/lang/Enum" "ordinal" "I" (.int (1 : Int32)) := Fld.start ((fld_at ev_aM1).symm.trans (own_eqI na9))
  have O_aM2 : Fld s s.heap aM2 "java/lang/Enum" "ordinal" "I" (.int (2 : Int32)) := Fld.start ((fld_at ev_aM2).symm.trans (own_eqI na13))
  have O_aM3 : Fld s s.heap aM3 "java/lang/Enum" "ordinal" "I" (.int (3 : Int32)) := Fld.start ((fld_at ev_aM3).symm.trans (own_eqI na17))
  have O_aM4 : Fld s s.heap aM4 "java/lang/Enum" "ordinal" "I" (.int (4 : Int32)) := Fld.start ((fld_at ev_aM4).symm.trans (own_eqI na21))
  have O_aM5 : Fld s s.heap aM5 "java/lang/Enum" "ordinal" "I" (.int (5 : Int32)) := Fld.start ((fld_at ev_aM5).symm.trans (own_eqI na25))
  have O_aM6 : Fld s s.heap aM6 "java/lang/Enum" "ordinal" "I" (.int (6 : Int32)) := Fld.start ((fld_at ev_aM6).symm.trans (own_eqI na29))
  have O_aM7 : Fld s s.heap aM7 "java/lang/Enum" "ordinal" "I" (.int (7 : Int32)) := Fld.start ((fld_at ev_aM7).symm.trans (own_eqI na32))
  have S_MODULES : Sta s s.heap "com/example/muster/muster/model/Levels" "MODULES" "I" (.int (8 : Int32)) := Sta.start (own_eqI na1) (Or.inr ⟨(hw _ (List.mem_of_getElem? (i := 7) rfl)), (hw _ (List.mem_of_getElem? (i := 10) rfl))⟩)
  obtain ⟨n, o, h1, h2, h3, _, L, rfl, ⟨rfl, N⟩, hq⟩ := own_rm0 l s _ hw tables_1 i0 aM0 aM1 aM2 aM3 aM4 aM5 aM6 aM7 s.heap s.heap.size (Nat.le_refl _) S_MODULES S_MILESTONE S_DISCUSSION S_FILE S_NOTEBOOK S_REPOSITORY S_TASK S_TRACKING S_TODO_LIST E_aM0 E_aM1 E_aM2 E_aM3 E_aM4 E_aM5 E_aM6 E_aM7 O_aM0 O_aM1 O_aM2 O_aM3 O_aM4 O_aM5 O_aM6 O_aM7 p e ha hc hk s m _ below hf ((Spec.applies_iff_loose hf).mp happ).1 ⟨rfl, State.Warmed39.refl s, rfl⟩ trivial
  refine ⟨n, _, h1, h2, h3, hpost _ _ _ _ _ _ ⟨Cond.after_iff.mpr rfl, Cond.after_iff.mpr (eq_i res_at (Term.int_eval (1)) rfl), trivial⟩ ⟨hq.1, hq.2.1, (hq.2.2.sift fun y hy => Or.inr (N y hy)).mono (by decide) (by decide)⟩⟩
theorem main_1_1 : Claimed_1_1 := own_comes fun _ _ _ _ _ _ h hF => ⟨h.1, hF⟩
theorem main_1_2 : Claimed_1_2 := own_comes fun _ _ _ _ _ _ h hF => ⟨h.2.1, hF⟩
end Jvm.Pilot.@@N@@
namespace Jvm.Pilot.@@N@@
open Jvm Jvm.ClassFile Sem Op Lib Jvm.Free Jvm.Stand Jvm.Pilot.@@N@@.Jvm.D
/-! MADE BY PROGRAM (witnessworld.py) out of the Statement's table words and the real class files: 13 classes; the members and pool entries that the words name. The judged class is class 1, her method 2. -/
namespace start1
open Jvm.ClassFile
def u (s : String) : CpInfo := .utf8 (stringToUtf16 s)
/-- a pool by its gaps: so many unusable entries, then the entry; so many at the end -/
def gap : Nat → List CpInfo → List CpInfo
  | 0, r => r
  | n + 1, r => .unusable :: gap n r
def poolList (es : List (Nat × CpInfo)) (last : Nat) : List CpInfo := es.foldr (fun e r => gap e.1 (e.2 :: r)) (gap last [])
def pool (es : List (Nat × CpInfo)) (last : Nat) : Array CpInfo := ⟨poolList es last⟩
def fileOf (pool : Array CpInfo) (this : Nat) (attrs : Array Attribute := #[]) (ms : Array MethodInfo := #[]) (fl : Nat := 33) (sup : Nat := 0) (ifs : Array Nat := #[]) (fds : Array FieldInfo := #[]) : ClassFile where
  minorVersion := 0
  majorVersion := 65
  constantPool := pool
  accessFlags := fl
  thisClass := this
  superClass := sup
  interfaces := ifs
  fields := fds
  methods := ms
  attributes := attrs
def plain (name : String) (sup : Option ClassId) : Class where
  name := name
  kind := .ordinary
  loader := none
  accessFlags := 33
  super := sup
  interfaces := #[]
  cf := none
  fields := #[]
  methods := #[]
  instanceTypes := #[]
  staticTypes := #[]
  resolved := #[]
  callSites := []
  init := .initialized
  statics := none
  mirror := none

def pool0 : Array CpInfo := pool [(5, u "<init>"), (0, u "()V"), (1, .class_ 10), (1, u "java/lang/Object"), (85, u "clone"), (0, u "()Ljava/lang/Object;")] 26

def k0c0 : Code := { maxStack := 0, maxLocals := 1, code := object_method_1_code, exceptionTable := #[], attributes := #[] }
def k0m0 : Method := { name := "<init>", desc := "()V", sig := { parameters := [], returnType := none }, accessFlags := 1, code := some k0c0 }
def k0m1 : Method := { name := "clone", desc := "()Ljava/lang/Object;", sig := { parameters := [], returnType := some (.object "java/lang/Object") }, accessFlags := 260, code := none }
/-- java/lang/Object -/
def k0 : Class := { plain "java/lang/Object" none with
  accessFlags := 33
  interfaces := #[]
  cf := some (fileOf pool0 8 #[] #[{ accessFlags := 1, nameIndex := 5, descriptorIndex := 6, attributes := #[] }, { accessFlags := 260, nameIndex := 96, descriptorIndex := 97, attributes := #[] }] 33 0 #[] #[])
  fields := #[]
  methods := #[k0m0, k0m1]
  instanceTypes := #[]
  staticTypes := #[]
  resolved := Array.replicate 124 none
  statics := none }

def pool1 : Array CpInfo := pool [(2, .class_ 4), (1, u "java/lang/Object"), (0, u "<init>"), (0, u "()V"), (0, .methodref 8 9), (0, .class_ 10), (0, .nameAndType 11 12), (0, u "com/example/muster/muster/model/LevelsOfPinLaw"), (0, u "lv"), (0, u "(II)I"), (0, .methodref 14 15), (0, .class_ 16), (0, .nameAndType 17 18), (0, u "com/example/muster/muster/model/Levels"), (0, u "of"), (0, u "([I)Lcom/example/muster/muster/model/Levels;"), (0, .fieldref 20 21), (0, .class_ 22), (0, .nameAndType 23 24), (0, u "com/example/muster/muster/model/ProjectModule"), (0, u "MILESTONE"), (0, u "Lcom/example/muster/muster/model/ProjectModule;"), (0, .methodref 14 26), (0, .nameAndType 17 27), (0, u "(Lcom/example/muster/muster/model/ProjectModule;)I"), (0, .fieldref 20 29), (0, .nameAndType 30 24), (0, u "DISCUSSION"), (0, .fieldref 20 32), (0, .nameAndType 33 24), (0, u "FILE"), (0, .fieldref 20 35), (0, .nameAndType 36 24), (0, u "NOTEBOOK"), (0, .fieldref 20 38), (0, .nameAndType 39 24), (0, u "REPOSITORY"), (0, .fieldref 20 41), (0, .nameAndType 42 24), (0, u "TASK"), (0, .fieldref 20 44), (0, .nameAndType 45 24), (0, u "TRACKING"), (0, .fieldref 20 47), (0, .nameAndType 48 24), (0, u "TODO_LIST"), (2, u "law"), (0, u "(I)Z")] 5

def k1m0 : Method := { name := "<init>", desc := "()V", sig := { parameters := [], returnType := none }, accessFlags := 2, code := none }
def k1c1 : Code := { maxStack := 3, maxLocals := 2, code := method_2_code, exceptionTable := #[], attributes := #[] }
def k1m1 : Method := { name := "lv", desc := "(II)I", sig := { parameters := [.int, .int], returnType := some .int }, accessFlags := 10, code := some k1c1 }
def k1c2 : Code := { maxStack := 4, maxLocals := 3, code := code, exceptionTable := #[], attributes := #[] }
def k1m2 : Method := { name := "law", desc := "(I)Z", sig := { parameters := [.int], returnType := some .boolean }, accessFlags := 9, code := some k1c2 }
/-- com/example/muster/muster/model/LevelsOfPinLaw -/
def k1 : Class := { plain "com/example/muster/muster/model/LevelsOfPinLaw" (some 0) with
  accessFlags := 49
  interfaces := #[]
  cf := some (fileOf pool1 8 #[] #[{ accessFlags := 2, nameIndex := 5, descriptorIndex := 6, attributes := #[] }, { accessFlags := 10, nameIndex := 11, descriptorIndex := 12, attributes := #[] }, { accessFlags := 9, nameIndex := 51, descriptorIndex := 52, attributes := #[] }] 49 2 #[] #[])
  fields := #[]
  methods := #[k1m0, k1m1, k1m2]
  instanceTypes := #[]
  staticTypes := #[]
  resolved := Array.replicate 58 none
  statics := none }

def pool2 : Array CpInfo := pool [(1, .methodref 2 3), (0, .class_ 4), (0, .nameAndType 5 6), (0, u "java/lang/Object"), (0, u "<init>"), (0, u "()V"), (0, .fieldref 8 9), (0, .class_ 10), (0, .nameAndType 11 12), (0, u "com/example/muster/muster/model/Levels"), (0, u "byModule"), (0, u "[I"), (0, .fieldref 8 14), (0, .nameAndType 15 16), (0, u "MODULES"), (0, u "I"), (12, .methodref 30 31), (0, .class_ 12), (0, .nameAndType 32 33), (0, u "clone"), (0, u "()Ljava/lang/Object;"), (0, .methodref 8 35), (0, .nameAndType 5 36), (0, u "([I)V"), (8, u "of"), (0, u "([I)Lcom/example/muster/muster/model/Levels;"), (0, .methodref 48 49), (0, .class_ 50), (0, .nameAndType 51 52), (0, u "com/example/muster/muster/model/ProjectModule"), (0, u "ordinal"), (0, u "()I"), (4, u "HIGHEST"), (7, u "(Lcom/example/muster/muster/model/ProjectModule;)I")] 20

def k2c0 : Code := { maxStack := 2, maxLocals := 2, code := prog_39_method_1_code, exceptionTable := #[], attributes := #[] }
def k2m0 : Method := { name := "<init>", desc := "([I)V", sig := { parameters := [(.array .int)], returnType := none }, accessFlags := 2, code := some k2c0 }
def k2c1 : Code := { maxStack := 4, maxLocals := 5, code := prog_39_method_2_code, exceptionTable := #[], attributes := #[] }
def k2m1 : Method := { name := "of", desc := "([I)Lcom/example/muster/muster/model/Levels;", sig := { parameters := [(.array .int)], returnType := some (.object "com/example/muster/muster/model/Levels") }, accessFlags := 137, code := some k2c1 }
def k2c2 : Code := { maxStack := 2, maxLocals := 2, code := prog_39_method_4_code, exceptionTable := #[], attributes := #[] }
def k2m2 : Method := { name := "of", desc := "(Lcom/example/muster/muster/model/ProjectModule;)I", sig := { parameters := [(.object "com/example/muster/muster/model/ProjectModule")], returnType := some .int }, accessFlags := 1, code := some k2c2 }
/-- com/example/muster/muster/model/Levels -/
def k2 : Class := { plain "com/example/muster/muster/model/Levels" (some 0) with
  accessFlags := 49
  interfaces := #[]
  cf := some (fileOf pool2 8 #[] #[{ accessFlags := 2, nameIndex := 5, descriptorIndex := 36, attributes := #[] }, { accessFlags := 137, nameIndex := 45, descriptorIndex := 46, attributes := #[] }, { accessFlags := 1, nameIndex := 45, descriptorIndex := 65, attributes := #[] }] 49 2 #[] #[{ accessFlags := 25, nameIndex := 57, descriptorIndex := 16, attributes := #[] }, { accessFlags := 26, nameIndex := 15, descriptorIndex := 16, attributes := #[] }, { accessFlags := 18, nameIndex := 11, descriptorIndex := 12, attributes := #[] }])
  fields := #[{ name := "HIGHEST", type := .int, accessFlags := 25, slot := 0, constantValue := 0 }, { name := "MODULES", type := .int, accessFlags := 26, slot := 1, constantValue := 0 }, { name := "byModule", type := (.array .int), accessFlags := 18, slot := 0, constantValue := 0 }]
  methods := #[k2m0, k2m1, k2m2]
  instanceTypes := #[(.array .int)]
  staticTypes := #[.int, .int]
  resolved := Array.replicate 86 none
  statics := some 0 }

def pool3 : Array CpInfo := pool [(1, .class_ 2), (0, u "java/lang/Cloneable"), (0, .class_ 4), (0, u "java/lang/Object")] 2

/-- java/lang/Cloneable -/
def k3 : Class := { plain "java/lang/Cloneable" (some 0) with
  accessFlags := 1537
  interfaces := #[]
  cf := some (fileOf pool3 1 #[] #[] 1537 3 #[] #[])
  fields := #[]
  methods := #[]
  instanceTypes := #[]
  staticTypes := #[]
  resolved := Array.replicate 7 none
  statics := none }

def pool4 : Array CpInfo := pool [(1, .class_ 2), (0, u "java/lang/constant/Constable"), (0, .class_ 4), (0, u "java/lang/Object")] 6

/-- java/lang/constant/Constable -/
def k4 : Class := { plain "java/lang/constant/Constable" (some 0) with
  accessFlags := 1537
  interfaces := #[]
  cf := some (fileOf pool4 1 #[] #[] 1537 3 #[] #[])
  fields := #[]
  methods := #[]
  instanceTypes := #[]
  staticTypes := #[]
  resolved := Array.replicate 11 none
  statics := none }

def pool5 : Array CpInfo := pool [(1, .class_ 2), (0, u "java/lang/Comparable"), (0, .class_ 4), (0, u "java/lang/Object")] 7

/-- java/lang/Comparable -/
def k5 : Class := { plain "java/lang/Comparable" (some 0) with
  accessFlags := 1537
  interfaces := #[]
  cf := some (fileOf pool5 1 #[] #[] 1537 3 #[] #[])
  fields := #[]
  methods := #[]
  instanceTypes := #[]
  staticTypes := #[]
  resolved := Array.replicate 12 none
  statics := none }

def pool6 : Array CpInfo := pool [(1, .class_ 2), (0, u "java/io/Serializable"), (0, .class_ 4), (0, u "java/lang/Object")] 2

/-- java/io/Serializable -/
def k6 : Class := { plain "java/io/Serializable" (some 0) with
  accessFlags := 1537
  interfaces := #[]
  cf := some (fileOf pool6 1 #[] #[] 1537 3 #[] #[])
  fields := #[]
  methods := #[]
  instanceTypes := #[]
  staticTypes := #[]
  resolved := Array.replicate 7 none
  statics := none }

def pool7 : Array CpInfo := pool [(2, .class_ 4), (1, u "java/lang/Enum"), (0, u "name"), (0, u "Ljava/lang/String;"), (0, .fieldref 2 8), (0, .nameAndType 9 10), (0, u "ordinal"), (0, u "I"), (1, .class_ 14), (1, u "java/lang/Object"), (4, u "hash"), (86, .class_ 108), (1, u "java/lang/Enum$EnumDesc"), (2, .class_ 112), (0, u "java/lang/constant/Constable"), (0, .class_ 114), (0, u "java/lang/Comparable"), (0, .class_ 116), (0, u "java/io/Serializable"), (9, u "()I")] 77

def k7c0 : Code := { maxStack := 1, maxLocals := 1, code := jdk_37_method_2_code, exceptionTable := #[], attributes := #[] }
def k7m0 : Method := { name := "ordinal", desc := "()I", sig := { parameters := [], returnType := some .int }, accessFlags := 17, code := some k7c0 }
/-- java/lang/Enum -/
def k7 : Class := { plain "java/lang/Enum" (some 0) with
  accessFlags := 1057
  interfaces := #[4, 5, 6]
  cf := some (fileOf pool7 2 #[.nestMembers #[106]] #[{ accessFlags := 17, nameIndex := 9, descriptorIndex := 126, attributes := #[] }] 1057 12 #[111, 113, 115] #[{ accessFlags := 18, nameIndex := 5, descriptorIndex := 6, attributes := #[] }, { accessFlags := 18, nameIndex := 9, descriptorIndex := 10, attributes := #[] }, { accessFlags := 2, nameIndex := 19, descriptorIndex := 10, attributes := #[] }])
  fields := #[{ name := "name", type := (.object "java/lang/String"), accessFlags := 18, slot := 0, constantValue := 0 }, { name := "ordinal", type := .int, accessFlags := 18, slot := 1, constantValue := 0 }, { name := "hash", type := .int, accessFlags := 2, slot := 2, constantValue := 0 }]
  methods := #[k7m0]
  instanceTypes := #[(.object "java/lang/String"), .int, .int]
  staticTypes := #[]
  resolved := Array.replicate 204 none
  statics := none }

def pool8 : Array CpInfo := pool [(1, .class_ 2), (0, u "com/example/muster/muster/model/ProjectModule"), (2, u "MILESTONE"), (0, u "Lcom/example/muster/muster/model/ProjectModule;"), (2, u "DISCUSSION"), (2, u "FILE"), (2, u "NOTEBOOK"), (2, u "REPOSITORY"), (2, u "TASK"), (2, u "TRACKING"), (2, u "TODO_LIST"), (2, u "$VALUES"), (0, u "[Lcom/example/muster/muster/model/ProjectModule;"), (6, .class_ 40), (1, u "java/lang/Enum"), (24, u "key"), (0, u "Ljava/lang/String;")] 44

/-- com/example/muster/muster/model/ProjectModule -/
def k8 : Class := { plain "com/example/muster/muster/model/ProjectModule" (some 7) with
  accessFlags := 16433
  interfaces := #[]
  cf := some (fileOf pool8 1 #[] #[] 16433 38 #[] #[{ accessFlags := 16409, nameIndex := 5, descriptorIndex := 6, attributes := #[] }, { accessFlags := 16409, nameIndex := 9, descriptorIndex := 6, attributes := #[] }, { accessFlags := 16409, nameIndex := 12, descriptorIndex := 6, attributes := #[] }, { accessFlags := 16409, nameIndex := 15, descriptorIndex := 6, attributes := #[] }, { accessFlags := 16409, nameIndex := 18, descriptorIndex := 6, attributes := #[] }, { accessFlags := 16409, nameIndex := 21, descriptorIndex := 6, attributes := #[] }, { accessFlags := 16409, nameIndex := 24, descriptorIndex := 6, attributes := #[] }, { accessFlags := 16409, nameIndex := 27, descriptorIndex := 6, attributes := #[] }, { accessFlags := 18, nameIndex := 65, descriptorIndex := 66, attributes := #[] }, { accessFlags := 4122, nameIndex := 30, descriptorIndex := 31, attributes := #[] }])
  fields := #[{ name := "MILESTONE", type := (.object "com/example/muster/muster/model/ProjectModule"), accessFlags := 16409, slot := 0, constantValue := 0 }, { name := "DISCUSSION", type := (.object "com/example/muster/muster/model/ProjectModule"), accessFlags := 16409, slot := 1, constantValue := 0 }, { name := "FILE", type := (.object "com/example/muster/muster/model/ProjectModule"), accessFlags := 16409, slot := 2, constantValue := 0 }, { name := "NOTEBOOK", type := (.object "com/example/muster/muster/model/ProjectModule"), accessFlags := 16409, slot := 3, constantValue := 0 }, { name := "REPOSITORY", type := (.object "com/example/muster/muster/model/ProjectModule"), accessFlags := 16409, slot := 4, constantValue := 0 }, { name := "TASK", type := (.object "com/example/muster/muster/model/ProjectModule"), accessFlags := 16409, slot := 5, constantValue := 0 }, { name := "TRACKING", type := (.object "com/example/muster/muster/model/ProjectModule"), accessFlags := 16409, slot := 6, constantValue := 0 }, { name := "TODO_LIST", type := (.object "com/example/muster/muster/model/ProjectModule"), accessFlags := 16409, slot := 7, constantValue := 0 }, { name := "key", type := (.object "java/lang/String"), accessFlags := 18, slot := 3, constantValue := 0 }, { name := "$VALUES", type := (.array (.object "com/example/muster/muster/model/ProjectModule")), accessFlags := 4122, slot := 8, constantValue := 0 }]
  methods := #[]
  instanceTypes := #[(.object "java/lang/String"), .int, .int, (.object "java/lang/String")]
  staticTypes := #[(.object "com/example/muster/muster/model/ProjectModule"), (.object "com/example/muster/muster/model/ProjectModule"), (.object "com/example/muster/muster/model/ProjectModule"), (.object "com/example/muster/muster/model/ProjectModule"), (.object "com/example/muster/muster/model/ProjectModule"), (.object "com/example/muster/muster/model/ProjectModule"), (.object "com/example/muster/muster/model/ProjectModule"), (.object "com/example/muster/muster/model/ProjectModule"), (.array (.object "com/example/muster/muster/model/ProjectModule"))]
  resolved := Array.replicate 111 none
  statics := some 1 }

/-- the primitive byte -/
def k9 : Class := { plain "byte" none with kind := .primitive 'B', accessFlags := 0x411 }
/-- [B -/
def k10 : Class := { plain "[B" (some 0) with kind := .array 9 .byte, interfaces := #[3, 6], accessFlags := 1041 }

/-- the primitive int -/
def k11 : Class := { plain "int" none with kind := .primitive 'I', accessFlags := 0x411 }
/-- [I -/
def k12 : Class := { plain "[I" (some 0) with kind := .array 11 .int, interfaces := #[3, 6], accessFlags := 1041 }

def heap : Heap := #[{ cls := 2, slots := #[.int 0, .int 8], vm := .statics 2 },
  { cls := 8, slots := #[.ref 2, .ref 3, .ref 4, .ref 5, .ref 6, .ref 7, .ref 8, .ref 9, .null], vm := .statics 8 },
  { cls := 8, slots := #[.null, .int 0, .int 0, .null], vm := .none },
  { cls := 8, slots := #[.null, .int 1, .int 0, .null], vm := .none },
  { cls := 8, slots := #[.null, .int 2, .int 0, .null], vm := .none },
  { cls := 8, slots := #[.null, .int 3, .int 0, .null], vm := .none },
  { cls := 8, slots := #[.null, .int 4, .int 0, .null], vm := .none },
  { cls := 8, slots := #[.null, .int 5, .int 0, .null], vm := .none },
  { cls := 8, slots := #[.null, .int 6, .int 0, .null], vm := .none },
  { cls := 8, slots := #[.null, .int 7, .int 0, .null], vm := .none }]
def classes : Array Class := #[k0, k1, k2, k3, k4, k5, k6, k7, k8, k9, k10, k11, k12]
def interned : List (Array UInt16 × Addr) := []
def slotsUsed : Nat := 43
def theMethod : MethodId := ⟨1, 2⟩
def args0 : Array Value := #[.int 27]
def aboutOver (below : List Frame) : State where
  vm := { classes := classes, interned := interned.toArray }
  heap := heap
  slotsUsed := slotsUsed
  threads := #[{ frames := .invoking theMethod args0 :: below }]
def below0 : List Frame := [.native { method := ⟨0, 0⟩, args := #[] }]
def about1 : State := aboutOver below0
def p0 : Program := .bare "" "" ""
def e0 : Env := launch0.env 0 0 0
theorem w_frames : about1.frames = Frame.invoking theMethod args0 :: below0 := rfl
set_option maxRecDepth 65536 in
theorem w_args : argsFit about1.vm theMethod args0 = true := by decide +kernel
set_option maxRecDepth 65536 in
theorem w_heap : heapFits about1 = true := by decide +kernel
set_option maxRecDepth 65536 in
theorem w_runnable : about1.curStatus? = some .runnable := by decide +kernel
set_option maxRecDepth 65536 in
theorem w_alone : about1.alone = true := by decide +kernel
set_option maxRecDepth 65536 in
theorem w_named : about1.methodNamed? x = some theMethod := by decide +kernel
set_option maxRecDepth 65536 in
theorem w_hears : about1.hears theMethod below0 = true := by decide +kernel
set_option maxRecDepth 65536 in
theorem w_ripe : about1.ripe theMethod args0 below0 = true := by decide +kernel
theorem w_running : about1.status = .running := rfl
set_option maxRecDepth 65536 in
theorem w_room : about1.hasRoom e0.platform room_1 = true :=
  launch0.hasRoom_least _ room_1 (by decide +kernel) (by decide +kernel) (by decide +kernel) (by decide +kernel) (by decide +kernel) (by decide +kernel)
theorem allAtoms_all (ts : List Jvm.Cond) (a : Array Jvm.Value) (st : Jvm.State) : (allAtoms ts).before a st = ts.all (fun c => c.before a st) := by
  induction ts with
  | nil => rfl
  | cons c t ih =>
    show (Jvm.Cond.and c (allAtoms t)).before a st = _
    rw [Jvm.Cond.before_and, ih, List.all_cons]
def words1 : List Jvm.Cond := Jvm.Cond.code x code maxLocals ret :: tables_1
/-- a 'code' word, met by the world's own term for the bytes: nothing is compared byte by byte -/
theorem code_word {y : MethodName} {bytes : ByteArray} {mx : Nat} {rt : Option FieldType} {a : Array Value} {s : State} {m : MethodId} {meth : Method} {c : Code} (h1 : s.methodNamed? y = some m) (h2 : s.vm.method? m = some meth) (h3 : meth.code = some c) (h4 : c.code = bytes)
    (h5 : (c.maxLocals == mx && c.exceptionTable.isEmpty && decide (c.maxStack ≤ mostOperands) && decide (meth.sig.returnType = rt) && !meth.locks && decide (parseMethodDescriptor y.desc = some meth.sig)) = true) : (Jvm.Cond.code y bytes mx rt).before a s = true := by
  simp only [Bool.and_eq_true, beq_iff_eq, Bool.not_eq_true', decide_eq_true_eq] at h5
  obtain ⟨⟨⟨⟨⟨g1, g2⟩, g3⟩, g4⟩, g5⟩, g6⟩ := h5
  simp [Cond.before, Cond.holds, Cond.value, h1, h2, h3, h4, g1, g2, g3, g4, g5, g6]
def isCode : Jvm.Cond → Bool
  | .code _ _ _ _ => true
  | _ => false
theorem all_split {L : List Jvm.Cond} {P : Jvm.Cond → Bool} (h1 : L.all (fun c => isCode c || P c) = true) (h2 : ∀ c ∈ L.filter isCode, P c = true) : L.all P = true := by
  refine List.all_eq_true.mpr fun c hc => ?_
  have h := List.all_eq_true.mp h1 c hc
  rcases Bool.eq_false_or_eq_true (isCode c) with hi | hi
  · exact h2 c (List.mem_filter.mpr ⟨hc, hi⟩)
  · simpa [hi] using h
set_option maxRecDepth 65536 in
theorem w_c0 : (Jvm.Cond.code x code maxLocals ret).before args0 about1 = true := code_word (m := ⟨1, 2⟩) (meth := k1m2) (c := k1c2) (by decide +kernel) rfl rfl rfl (by decide +kernel)
set_option maxRecDepth 65536 in
theorem w_c1 : (Jvm.Cond.code ({ cls := "com/example/muster/muster/model/LevelsOfPinLaw", name := "lv", desc := "(II)I" } : Jvm.MethodName) method_2_code (2 : Nat) (Option.some Jvm.ClassFile.FieldType.int)).before args0 about1 = true := code_word (m := ⟨1, 1⟩) (meth := k1m1) (c := k1c1) (by decide +kernel) rfl rfl rfl (by decide +kernel)
set_option maxRecDepth 65536 in
theorem w_c2 : (Jvm.Cond.code ({ cls := "com/example/muster/muster/model/Levels", name := "of", desc := "([I)Lcom/example/muster/muster/model/Levels;" } : Jvm.MethodName) prog_39_method_2_code (5 : Nat) (Option.some (Jvm.ClassFile.FieldType.object "com/example/muster/muster/model/Levels"))).before args0 about1 = true := code_word (m := ⟨2, 1⟩) (meth := k2m1) (c := k2c1) (by decide +kernel) rfl rfl rfl (by decide +kernel)
set_option maxRecDepth 65536 in
theorem w_c3 : (Jvm.Cond.code ({ cls := "com/example/muster/muster/model/Levels", name := "<init>", desc := "([I)V" } : Jvm.MethodName) prog_39_method_1_code (2 : Nat) (Option.none : Option Jvm.ClassFile.FieldType)).before args0 about1 = true := code_word (m := ⟨2, 0⟩) (meth := k2m0) (c := k2c0) (by decide +kernel) rfl rfl rfl (by decide +kernel)
set_option maxRecDepth 65536 in
theorem w_c4 : (Jvm.Cond.code ({ cls := "java/lang/Object", name := "<init>", desc := "()V" } : Jvm.MethodName) object_method_1_code (1 : Nat) (Option.none : Option Jvm.ClassFile.FieldType)).before args0 about1 = true := code_word (m := ⟨0, 0⟩) (meth := k0m0) (c := k0c0) (by decide +kernel) rfl rfl rfl (by decide +kernel)
set_option maxRecDepth 65536 in
theorem w_c5 : (Jvm.Cond.code ({ cls := "com/example/muster/muster/model/Levels", name := "of", desc := "(Lcom/example/muster/muster/model/ProjectModule;)I" } : Jvm.MethodName) prog_39_method_4_code (2 : Nat) (Option.some Jvm.ClassFile.FieldType.int)).before args0 about1 = true := code_word (m := ⟨2, 2⟩) (meth := k2m2) (c := k2c2) (by decide +kernel) rfl rfl rfl (by decide +kernel)
set_option maxRecDepth 65536 in
theorem w_c6 : (Jvm.Cond.code ({ cls := "java/lang/Enum", name := "ordinal", desc := "()I" } : Jvm.MethodName) jdk_37_method_2_code (1 : Nat) (Option.some Jvm.ClassFile.FieldType.int)).before args0 about1 = true := code_word (m := ⟨7, 0⟩) (meth := k7m0) (c := k7c0) (by decide +kernel) rfl rfl rfl (by decide +kernel)
def codes1 : List Jvm.Cond := [Jvm.Cond.code x code maxLocals ret, Jvm.Cond.code ({ cls := "com/example/muster/muster/model/LevelsOfPinLaw", name := "lv", desc := "(II)I" } : Jvm.MethodName) method_2_code (2 : Nat) (Option.some Jvm.ClassFile.FieldType.int), Jvm.Cond.code ({ cls := "com/example/muster/muster/model/Levels", name := "of", desc := "([I)Lcom/example/muster/muster/model/Levels;" } : Jvm.MethodName) prog_39_method_2_code (5 : Nat) (Option.some (Jvm.ClassFile.FieldType.object "com/example/muster/muster/model/Levels")), Jvm.Cond.code ({ cls := "com/example/muster/muster/model/Levels", name := "<init>", desc := "([I)V" } : Jvm.MethodName) prog_39_method_1_code (2 : Nat) (Option.none : Option Jvm.ClassFile.FieldType), Jvm.Cond.code ({ cls := "java/lang/Object", name := "<init>", desc := "()V" } : Jvm.MethodName) object_method_1_code (1 : Nat) (Option.none : Option Jvm.ClassFile.FieldType), Jvm.Cond.code ({ cls := "com/example/muster/muster/model/Levels", name := "of", desc := "(Lcom/example/muster/muster/model/ProjectModule;)I" } : Jvm.MethodName) prog_39_method_4_code (2 : Nat) (Option.some Jvm.ClassFile.FieldType.int), Jvm.Cond.code ({ cls := "java/lang/Enum", name := "ordinal", desc := "()I" } : Jvm.MethodName) jdk_37_method_2_code (1 : Nat) (Option.some Jvm.ClassFile.FieldType.int)]
set_option maxRecDepth 65536 in
theorem codes_eq : words1.filter isCode = codes1 := rfl
theorem w_codes : ∀ c ∈ words1.filter isCode, c.before args0 about1 = true := by
  rw [codes_eq]
  intro c hc
  simp only [codes1, List.mem_cons, List.not_mem_nil, or_false] at hc
  rcases hc with rfl | rfl | rfl | rfl | rfl | rfl | rfl
  · exact w_c0
  · exact w_c1
  · exact w_c2
  · exact w_c3
  · exact w_c4
  · exact w_c5
  · exact w_c6
set_option maxRecDepth 65536 in
theorem w_t1 : (words1.take 24).all (fun c => isCode c || c.before args0 about1) = true := by decide +kernel
set_option maxRecDepth 65536 in
theorem w_t2 : ((words1.drop 24).take 24).all (fun c => isCode c || c.before args0 about1) = true := by decide +kernel
set_option maxRecDepth 65536 in
theorem w_t3 : ((words1.drop 24).drop 24).all (fun c => isCode c || c.before args0 about1) = true := by decide +kernel
theorem w_tables : (allAtoms (Jvm.Cond.code x code maxLocals ret :: tables_1)).before args0 about1 = true := by
  rw [allAtoms_all]
  show words1.all (fun c => c.before args0 about1) = true
  refine all_split ?_ w_codes
  rw [← List.take_append_drop 24 words1, List.all_append, w_t1, ← List.take_append_drop 24 (words1.drop 24), List.all_append, w_t2, w_t3]
  rfl
set_option maxRecDepth 65536 in
theorem w_case : (Jvm.Cond.and given_1 narrow_1).before args0 about1 = true := by decide +kernel
theorem w_applies : (headSpec (Jvm.Cond.code x code maxLocals ret :: tables_1) room_1).applies x e0.platform about1 = true :=
  (Spec.applies_iff w_frames).mpr ⟨w_running, w_runnable, w_alone, w_named, w_hears, w_ripe, w_room, w_tables⟩
theorem atStart : AtStart classFile x code maxLocals ret World_1 tables_1 room_1 Calls_1 rest_1 Pre_1 launch0 p0 e0 about1 theMethod args0 below0 :=
  ⟨lists_1, trivial, launch0.admits_env _ _ _, launch0.least_env, fairChoices_fair.cas, fairChoices_fair.clock, w_frames, w_args, w_heap, w_applies, trivial, trivial, w_case⟩
end start1
theorem witness_1 : WitnessClaimed_1 := ⟨start1.p0, start1.e0, start1.about1, start1.theMethod, start1.args0, start1.below0, start1.atStart⟩
end Jvm.Pilot.@@N@@
