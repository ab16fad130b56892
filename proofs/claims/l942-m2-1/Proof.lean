import JvmDerived
import JvmDerived.Pilot.@@N@@Statement
import JvmDerived.Pilot.@@N@@Code
set_option linter.unusedVariables false
set_option linter.unusedSimpArgs false
namespace Jvm.Pilot.@@N@@
open Jvm Jvm.ClassFile Sem Op Lib Jvm.Free Jvm.Stand Jvm.LawKit Jvm.RoadKit Bundle Jvm.Pilot.@@N@@.Jvm.D
section OwnKit
variable {p : Program} {l : Launch} {e : Env} {R : Room} {s : State} {m : MethodId} {args : Array Value} {below : List Frame} {meth : Method} {c : Code} {T : State} {locs : List Loc} {cells slots : Nat} {Z : State} {h : Heap} {a : Addr} {k : ClassId} {z : Int32} {vs : List Value} {dv : Value}
theorem oLen (X : Stand p l e R s m args below meth c T locs cells slots) (hx : p.tables.exec = Jvm.exec) (hZ : Z.Warmed39 s.vm) (eT : T.heap = h) {ty : FieldType} (F : Arv Z h a k ty z vs dv) {g : JFrame} (hg : g.method = m) {rest : List Value} (hs : g.stack = .ref a :: rest) (hd : decode c.code g.pc = .ok (.arraylength, 1)) (target : State)
    (hr : Steps p.tables e below (T.setTop { g with pc := g.pc + 1, stack := .int z :: rest }) target) : Steps p.tables e below (T.setTop g) target := by
  obtain ⟨cl, A, -, S, M, -, -⟩ := F
  refine X.arraylength hx (by rw [eT]; exact A.1) (State.isArrayOf_alike hZ.alike A.2.1) hg hs hd target ?_
  rw [len_of S M]
  exact hr
theorem oLdI (X : Stand p l e R s m args below meth c T locs cells slots) (hx : p.tables.exec = Jvm.exec) (hZ : Z.Warmed39 s.vm) (eT : T.heap = h) (F : Arv Z h a k .int z vs dv) {j : Int32} {v : Value} (hj : ¬ j < 0 ∧ j < z) (hv : vs.getD j.toNatClampNeg dv = v) {g : JFrame} (hg : g.method = m) {rest : List Value} (hs : g.stack = .int j :: .ref a :: rest) (hd : decode c.code g.pc = .ok (.iaload, 1)) (target : State)
    (hr : Steps p.tables e below (T.setTop { g with pc := g.pc + 1, stack := v :: rest }) target) : Steps p.tables e below (T.setTop g) target := by
  obtain ⟨cl, A, -, S, -, H, -⟩ := F
  have hin := inb_of S hj
  exact X.iaload hx (by rw [eT]; exact A.1) (State.isArrayOf_alike hZ.alike A.2.1) A.2.2 hin (Has.at H hin hv) hg hs hd target hr
theorem oLdB (X : Stand p l e R s m args below meth c T locs cells slots) (hx : p.tables.exec = Jvm.exec) (hZ : Z.Warmed39 s.vm) (eT : T.heap = h) (F : Arv Z h a k .byte z vs dv) {j : Int32} {v : Value} (hj : ¬ j < 0 ∧ j < z) (hv : vs.getD j.toNatClampNeg dv = v) {g : JFrame} (hg : g.method = m) {rest : List Value} (hs : g.stack = .int j :: .ref a :: rest) (hd : decode c.code g.pc = .ok (.baload, 1)) (target : State)
    (hr : Steps p.tables e below (T.setTop { g with pc := g.pc + 1, stack := v :: rest }) target) : Steps p.tables e below (T.setTop g) target := by
  obtain ⟨cl, A, -, S, -, H, -⟩ := F
  have hin := inb_of S hj
  exact X.baloadBytes hx (by rw [eT]; exact A.1) (State.isArrayOf_alike hZ.alike A.2.1) A.2.2 hin (Has.at H hin hv) hg hs hd target hr
theorem oLdJ (X : Stand p l e R s m args below meth c T locs cells slots) (hx : p.tables.exec = Jvm.exec) (hZ : Z.Warmed39 s.vm) (eT : T.heap = h) (F : Arv Z h a k .long z vs dv) {j : Int32} {v : Value} (hj : ¬ j < 0 ∧ j < z) (hv : vs.getD j.toNatClampNeg dv = v) {g : JFrame} (hg : g.method = m) {rest : List Value} (hs : g.stack = .int j :: .ref a :: rest) (hd : decode c.code g.pc = .ok (.laload, 1)) (target : State)
    (hr : Steps p.tables e below (T.setTop { g with pc := g.pc + 1, stack := v :: rest }) target) : Steps p.tables e below (T.setTop g) target := by
  obtain ⟨cl, A, -, S, -, H, -⟩ := F
  have hin := inb_of S hj
  exact X.laload hx (by rw [eT]; exact A.1) (State.isArrayOf_alike hZ.alike A.2.1) A.2.2 hin (Has.at H hin hv) hg hs hd target hr
theorem oLdD (X : Stand p l e R s m args below meth c T locs cells slots) (hx : p.tables.exec = Jvm.exec) (hZ : Z.Warmed39 s.vm) (eT : T.heap = h) (F : Arv Z h a k .double z vs dv) {j : Int32} {v : Value} (hj : ¬ j < 0 ∧ j < z) (hv : vs.getD j.toNatClampNeg dv = v) {g : JFrame} (hg : g.method = m) {rest : List Value} (hs : g.stack = .int j :: .ref a :: rest) (hd : decode c.code g.pc = .ok (.daload, 1)) (target : State)
    (hr : Steps p.tables e below (T.setTop { g with pc := g.pc + 1, stack := v :: rest }) target) : Steps p.tables e below (T.setTop g) target := by
  obtain ⟨cl, A, -, S, -, H, -⟩ := F
  have hin := inb_of S hj
  exact X.daload hx (by rw [eT]; exact A.1) (State.isArrayOf_alike hZ.alike A.2.1) A.2.2 hin (Has.at H hin hv) hg hs hd target hr
theorem oStI (X : Stand p l e R s m args below meth c T locs cells slots) (hx : p.tables.exec = Jvm.exec) (hZ : Z.Warmed39 s.vm) (eT : T.heap = h) (F : Arv Z h a k .int z vs dv) {j : Int32} {x : Int32} (hj : ¬ j < 0 ∧ j < z) (i : Nat) (hi : j.toNatClampNeg = i) (hl : i < vs.length) {g : JFrame} (hg : g.method = m) {rest : List Value} (hs : g.stack = .int x :: .int j :: .ref a :: rest) (hd : decode c.code g.pc = .ok (.iastore, 1)) :
    ∃ T' h', Stand p l e R s m args below meth c T' (locs ++ [⟨a, j.toNatClampNeg⟩]) cells slots ∧ T'.heap = h' ∧ Wr h h' a j.toNatClampNeg (.int x) ∧ Arv Z h' a k .int z (vs.set i (.int x)) dv ∧ ∀ target, Steps p.tables e below (T'.setTop { g with pc := g.pc + 1, stack := rest }) target → Steps p.tables e below (T.setTop g) target := by
  obtain ⟨cl, A, q1, S, M, H, G⟩ := F
  obtain ⟨T', h', X', e', W, st⟩ := stI X hx hZ eT A (j := j) (inb_of S hj) hg hs hd
  exact ⟨T', h', X', e', W, Arv.set A q1 S M H G rfl W i hi hl, st⟩
theorem oStB (X : Stand p l e R s m args below meth c T locs cells slots) (hx : p.tables.exec = Jvm.exec) (hZ : Z.Warmed39 s.vm) (eT : T.heap = h) (F : Arv Z h a k .byte z vs dv) {j : Int32} {x : Int32} (hj : ¬ j < 0 ∧ j < z) (i : Nat) (hi : j.toNatClampNeg = i) (hl : i < vs.length) {g : JFrame} (hg : g.method = m) {rest : List Value} (hs : g.stack = .int x :: .int j :: .ref a :: rest) (hd : decode c.code g.pc = .ok (.bastore, 1)) :
    ∃ T' h', Stand p l e R s m args below meth c T' (locs ++ [⟨a, j.toNatClampNeg⟩]) cells slots ∧ T'.heap = h' ∧ Wr h h' a j.toNatClampNeg (.int (nar .byte x)) ∧ Arv Z h' a k .byte z (vs.set i (.int (nar .byte x))) dv ∧ ∀ target, Steps p.tables e below (T'.setTop { g with pc := g.pc + 1, stack := rest }) target → Steps p.tables e below (T.setTop g) target := by
  obtain ⟨cl, A, q1, S, M, H, G⟩ := F
  obtain ⟨T', h', X', e', W, st⟩ := stB X hx hZ eT A (j := j) (inb_of S hj) hg hs hd
  exact ⟨T', h', X', e', W, Arv.set A q1 S M H G (fits_nar_byte x) W i hi hl, st⟩
theorem oStJ (X : Stand p l e R s m args below meth c T locs cells slots) (hx : p.tables.exec = Jvm.exec) (hZ : Z.Warmed39 s.vm) (eT : T.heap = h) (F : Arv Z h a k .long z vs dv) {j : Int32} {x : Int64} (hj : ¬ j < 0 ∧ j < z) (i : Nat) (hi : j.toNatClampNeg = i) (hl : i < vs.length) {g : JFrame} (hg : g.method = m) {rest : List Value} (hs : g.stack = .long x :: .int j :: .ref a :: rest) (hd : decode c.code g.pc = .ok (.lastore, 1)) :
    ∃ T' h', Stand p l e R s m args below meth c T' (locs ++ [⟨a, j.toNatClampNeg⟩]) cells slots ∧ T'.heap = h' ∧ Wr h h' a j.toNatClampNeg (.long x) ∧ Arv Z h' a k .long z (vs.set i (.long x)) dv ∧ ∀ target, Steps p.tables e below (T'.setTop { g with pc := g.pc + 1, stack := rest }) target → Steps p.tables e below (T.setTop g) target := by
  obtain ⟨cl, A, q1, S, M, H, G⟩ := F
  obtain ⟨T', h', X', e', W, st⟩ := stJ X hx hZ eT A (j := j) (inb_of S hj) hg hs hd
  exact ⟨T', h', X', e', W, Arv.set A q1 S M H G rfl W i hi hl, st⟩
theorem oStD (X : Stand p l e R s m args below meth c T locs cells slots) (hx : p.tables.exec = Jvm.exec) (hZ : Z.Warmed39 s.vm) (eT : T.heap = h) (F : Arv Z h a k .double z vs dv) {j : Int32} {x : UInt64} (hj : ¬ j < 0 ∧ j < z) (i : Nat) (hi : j.toNatClampNeg = i) (hl : i < vs.length) {g : JFrame} (hg : g.method = m) {rest : List Value} (hs : g.stack = .double x :: .int j :: .ref a :: rest) (hd : decode c.code g.pc = .ok (.dastore, 1)) :
    ∃ T' h', Stand p l e R s m args below meth c T' (locs ++ [⟨a, j.toNatClampNeg⟩]) cells slots ∧ T'.heap = h' ∧ Wr h h' a j.toNatClampNeg (.double x) ∧ Arv Z h' a k .double z (vs.set i (.double x)) dv ∧ ∀ target, Steps p.tables e below (T'.setTop { g with pc := g.pc + 1, stack := rest }) target → Steps p.tables e below (T.setTop g) target := by
  obtain ⟨cl, A, q1, S, M, H, G⟩ := F
  obtain ⟨T', h', X', e', W, st⟩ := stD X hx hZ eT A (j := j) (inb_of S hj) hg hs hd
  exact ⟨T', h', X', e', W, Arv.set A q1 S M H G rfl W i hi hl, st⟩
end OwnKit
abbrev oi (x : Int32) : Slot := .val (.int x)
abbrev oj (x : Int64) : Slot := .val (.long x)
abbrev oa (x : Addr) : Slot := .val (.ref x)
abbrev od (x : UInt64) : Slot := .val (.double x)
abbrev oS (p : Program) (e : Env) (below : List Frame) (T : State) (m : MethodId) (pc : Nat) (L : Array Slot) (S : List Value) (t : State) : Prop := Steps p.tables e below (T.setTop (mkF m pc L S)) t
theorem own_ltp (x k : Int32) : (x < k) = (x.toInt < k.toInt) := propext Int32.lt_iff_toInt_lt
theorem own_eqp (x k : Int32) : (x = k) = (x.toInt = k.toInt) := propext Int32.toInt_inj.symm
theorem own_ltpL (x k : Int64) : (x < k) = (x.toInt < k.toInt) := propext Int64.lt_iff_toInt_lt
theorem own_eqpL (x k : Int64) : (x = k) = (x.toInt = k.toInt) := propext Int64.toInt_inj.symm
theorem own_of_range {P : Int32 → Prop} (n : Nat) (h : ∀ i : Fin n, P (Int32.ofNat i.1)) (x : Int32) (h0 : 0 ≤ x.toInt) (h1 : x.toInt < (n : Int)) : P x := by
  have e : Int32.ofNat x.toInt.toNat = x := by
    rw [← Int32.ofInt_eq_ofNat, Int.toNat_of_nonneg h0, Int32.ofInt_toInt]
  have q := h ⟨x.toInt.toNat, by omega⟩
  rwa [e] at q
theorem own_getD (ws : List Int32) (n : Nat) : (ws.map Value.int).getD n (.int (0 : Int32)) = .int (ws.getD n 0) := by
  simp only [List.getD_eq_getElem?_getD, List.getElem?_map]
  cases ws[n]? <;> rfl

theorem own_pn0 : plainName "com/example/trawl_tables/trawltables/Router" = true := by first | (simp [plainName, overriddenIn]; done) | decide +kernel
theorem own_d2_0 : decode prog_7_method_4_code 0 = .ok (.lload_n 0, 1) := by decide +kernel
theorem own_d2_1 : decode prog_7_method_4_code 1 = .ok (.ldc2_w 100, 3) := by decide +kernel
theorem own_d2_4 : decode prog_7_method_4_code 4 = .ok (.lmul, 1) := by decide +kernel
theorem own_d2_5 : decode prog_7_method_4_code 5 = .ok (.lstore_n 3, 1) := by decide +kernel
theorem own_d2_6 : decode prog_7_method_4_code 6 = .ok (.ldc2_w 102, 3) := by decide +kernel
theorem own_d2_9 : decode prog_7_method_4_code 9 = .ok (.lstore 5, 2) := by decide +kernel
theorem own_d2_11 : decode prog_7_method_4_code 11 = .ok (.iload_n 2, 1) := by decide +kernel
theorem own_d2_12 : decode prog_7_method_4_code 12 = .ok (.i2l, 1) := by decide +kernel
theorem own_d2_13 : decode prog_7_method_4_code 13 = .ok (.ldc2_w 104, 3) := by decide +kernel
theorem own_d2_16 : decode prog_7_method_4_code 16 = .ok (.lmul, 1) := by decide +kernel
theorem own_d2_17 : decode prog_7_method_4_code 17 = .ok (.iload_n 2, 1) := by decide +kernel
theorem own_d2_18 : decode prog_7_method_4_code 18 = .ok (.i2l, 1) := by decide +kernel
theorem own_d2_19 : decode prog_7_method_4_code 19 = .ok (.ladd, 1) := by decide +kernel
theorem own_d2_20 : decode prog_7_method_4_code 20 = .ok (.lstore 7, 2) := by decide +kernel
theorem own_d2_22 : decode prog_7_method_4_code 22 = .ok (.lload_n 3, 1) := by decide +kernel
theorem own_d2_23 : decode prog_7_method_4_code 23 = .ok (.lload 5, 2) := by decide +kernel
theorem own_d2_25 : decode prog_7_method_4_code 25 = .ok (.ladd, 1) := by decide +kernel
theorem own_d2_26 : decode prog_7_method_4_code 26 = .ok (.lload 7, 2) := by decide +kernel
theorem own_d2_28 : decode prog_7_method_4_code 28 = .ok (.ladd, 1) := by decide +kernel
theorem own_d2_29 : decode prog_7_method_4_code 29 = .ok (.lreturn, 1) := by decide +kernel
theorem own_ef2 (m : MethodId) (q0 : Int64) (p1 : Int32) : entryFrame m #[(.long q0), (.int p1)] 9 = mkF m 0 #[oj q0, .second, oi p1, .unset, .unset, .unset, .unset, .unset, .unset] [] := by first | (simp [entryFrame, mkF, argsToLocals, Value.category]; done) | rfl
def own_f2 (q0 : Int64) (p1 : Int32) : Int64 := (((q0 * (64 : Int64)) + (6500 : Int64)) + (((p1.toInt64) * (100 : Int64)) + (p1.toInt64)))
def own_Q2 (Z : State) (q0 : Int64) (p1 : Int32) (h0 : Heap) (n0 : Nat) (v : Option Value) (h : Heap) (L : List Loc) : Prop := v = some (Value.long (own_f2 q0 p1)) ∧ Fr n0 L ∧ h = h0
set_option maxRecDepth 65536 in
set_option maxHeartbeats 40000000 in
theorem own_rm2 (l : Launch) (Z : State) (av : Array Value) (hw : ∀ d ∈ tables_1, d.before av Z = true) (ws : List Jvm.Cond) (q0 : Int64) (p1 : Int32) (h0 : Heap) (n0 : Nat) (Z0 : n0 ≤ h0.size) :
    MetFree l (⟨"com/example/trawl_tables/trawltables/Router", "parameters", "(JI)J"⟩ : MethodName) (head1 (Jvm.Cond.code (⟨"com/example/trawl_tables/trawltables/Router", "parameters", "(JI)J"⟩ : MethodName) prog_7_method_4_code 9 (some .long) :: ws) ({ frames := 0, cells := 0, slots := 0, locals := 0 } : Room)) (fun a U => a = #[(.long q0), (.int p1)] ∧ Z.Warmed39 U.vm ∧ U.heap = h0) (fun _ _ _ _ _ => True) (fun _ U o U' => ∃ v L, o = .returned v ∧ own_Q2 Z q0 p1 h0 n0 v U'.heap L ∧ FrameEnd U o U' L ({ frames := 0, cells := 0, slots := 0, locals := 0 } : Room).cells ({ frames := 0, cells := 0, slots := 0, locals := 0 } : Room).slots) := by
  refine MetFree.of_bodySF (plainFor_of_name own_pn0) hisR ?_
  intro p e s m args below meth c s₁ Bd hml0 hP hK
  obtain ⟨rfl, hZ, hh⟩ := hP
  have hx := Bd.exec
  have hby := Bd.bytes
  have hml : c.maxLocals = 9 := hml0
  have hown : s.vm.findClass "com/example/trawl_tables/trawltables/Router" = some m.cls := findClass_of_methodNamed Bd.named
  have hnm := (name_of_methodNamed Bd.named Bd.method).1
  have X0 : Stand p l e ({ frames := 0, cells := 0, slots := 0, locals := 0 } : Room) s m #[(.long q0), (.int p1)] below meth c s₁ [] 0 0 := Stand.of_body Bd
  have e0 : s₁.heap = h0 := by rw [← hh, Bd.state]; rfl
  have N0 := Fr.nil n0
  have pre0 : ∀ t, Steps p.tables e below (s₁.setTop (mkF m 0 #[oj q0, .second, oi p1, .unset, .unset, .unset, .unset, .unset, .unset] [])) t → Steps p.tables e below (s₁.setTop (entryFrame m #[(.long q0), (.int p1)] 9)) t := fun t k => castTop (own_ef2 m q0 p1) k
  obtain ⟨fs, hr, hrun, hended, hW, hsame⟩ := X0.leave (v := (some (.long (((q0 * (64 : Int64)) + (6500 : Int64)) + (((p1.toInt64) * (100 : Int64)) + (p1.toInt64)))))) (fun h => by rw [Bd.returns] at h; cases h)
  refine ⟨_, _, pre0 _ ?_, hrun, hended, _, _, rfl, ?_, ⟨_, rfl⟩, hW, hsame.mono (by decide) (by decide)⟩
  · show oS p e below s₁ m 0 #[oj q0, .second, oi p1, .unset, .unset, .unset, .unset, .unset, .unset] [] _
    refine XS.lloadN X0.here hx rfl (hb hby own_d2_0) rfl ?_
    show oS p e below s₁ m 1 #[oj q0, .second, oi p1, .unset, .unset, .unset, .unset, .unset, .unset] [(.long q0)] _
    refine X0.ldc2Long hx hown (mvT hZ (hw _ (List.mem_of_getElem? (i := 8) rfl))) (g := (mkF m 1 #[oj q0, .second, oi p1, .unset, .unset, .unset, .unset, .unset, .unset] [(.long q0)])) rfl (hb hby own_d2_1) _ ?_
    show oS p e below s₁ m 4 #[oj q0, .second, oi p1, .unset, .unset, .unset, .unset, .unset, .unset] [(.long (64 : Int64)), (.long q0)] _
    refine XS.lmul X0.here hx rfl (hb hby own_d2_4) rfl ?_
    show oS p e below s₁ m 5 #[oj q0, .second, oi p1, .unset, .unset, .unset, .unset, .unset, .unset] [(.long (q0 * (64 : Int64)))] _
    refine XS.lstoreN X0.here hx rfl (hb hby own_d2_5) rfl (l' := #[oj q0, .second, oi p1, oj (q0 * (64 : Int64)), .second, .unset, .unset, .unset, .unset]) rfl ?_
    show oS p e below s₁ m 6 #[oj q0, .second, oi p1, oj (q0 * (64 : Int64)), .second, .unset, .unset, .unset, .unset] [] _
    refine X0.ldc2Long hx hown (mvT hZ (hw _ (List.mem_of_getElem? (i := 9) rfl))) (g := (mkF m 6 #[oj q0, .second, oi p1, oj (q0 * (64 : Int64)), .second, .unset, .unset, .unset, .unset] [])) rfl (hb hby own_d2_6) _ ?_
    show oS p e below s₁ m 9 #[oj q0, .second, oi p1, oj (q0 * (64 : Int64)), .second, .unset, .unset, .unset, .unset] [(.long (6500 : Int64))] _
    refine XS.lstore X0.here hx rfl (hb hby own_d2_9) rfl (l' := #[oj q0, .second, oi p1, oj (q0 * (64 : Int64)), .second, oj (6500 : Int64), .second, .unset, .unset]) rfl ?_
    show oS p e below s₁ m 11 #[oj q0, .second, oi p1, oj (q0 * (64 : Int64)), .second, oj (6500 : Int64), .second, .unset, .unset] [] _
    refine XS.iloadN X0.here hx rfl (hb hby own_d2_11) rfl ?_
    show oS p e below s₁ m 12 #[oj q0, .second, oi p1, oj (q0 * (64 : Int64)), .second, oj (6500 : Int64), .second, .unset, .unset] [(.int p1)] _
    refine XS.i2l X0.here hx rfl (hb hby own_d2_12) rfl ?_
    show oS p e below s₁ m 13 #[oj q0, .second, oi p1, oj (q0 * (64 : Int64)), .second, oj (6500 : Int64), .second, .unset, .unset] [(.long (p1.toInt64))] _
    refine X0.ldc2Long hx hown (mvT hZ (hw _ (List.mem_of_getElem? (i := 10) rfl))) (g := (mkF m 13 #[oj q0, .second, oi p1, oj (q0 * (64 : Int64)), .second, oj (6500 : Int64), .second, .unset, .unset] [(.long (p1.toInt64))])) rfl (hb hby own_d2_13) _ ?_
    show oS p e below s₁ m 16 #[oj q0, .second, oi p1, oj (q0 * (64 : Int64)), .second, oj (6500 : Int64), .second, .unset, .unset] [(.long (100 : Int64)), (.long (p1.toInt64))] _
    refine XS.lmul X0.here hx rfl (hb hby own_d2_16) rfl ?_
    show oS p e below s₁ m 17 #[oj q0, .second, oi p1, oj (q0 * (64 : Int64)), .second, oj (6500 : Int64), .second, .unset, .unset] [(.long ((p1.toInt64) * (100 : Int64)))] _
    refine XS.iloadN X0.here hx rfl (hb hby own_d2_17) rfl ?_
    show oS p e below s₁ m 18 #[oj q0, .second, oi p1, oj (q0 * (64 : Int64)), .second, oj (6500 : Int64), .second, .unset, .unset] [(.int p1), (.long ((p1.toInt64) * (100 : Int64)))] _
    refine XS.i2l X0.here hx rfl (hb hby own_d2_18) rfl ?_
    show oS p e below s₁ m 19 #[oj q0, .second, oi p1, oj (q0 * (64 : Int64)), .second, oj (6500 : Int64), .second, .unset, .unset] [(.long (p1.toInt64)), (.long ((p1.toInt64) * (100 : Int64)))] _
    refine XS.ladd X0.here hx rfl (hb hby own_d2_19) rfl ?_
    show oS p e below s₁ m 20 #[oj q0, .second, oi p1, oj (q0 * (64 : Int64)), .second, oj (6500 : Int64), .second, .unset, .unset] [(.long (((p1.toInt64) * (100 : Int64)) + (p1.toInt64)))] _
    refine XS.lstore X0.here hx rfl (hb hby own_d2_20) rfl (l' := #[oj q0, .second, oi p1, oj (q0 * (64 : Int64)), .second, oj (6500 : Int64), .second, oj (((p1.toInt64) * (100 : Int64)) + (p1.toInt64)), .second]) rfl ?_
    show oS p e below s₁ m 22 #[oj q0, .second, oi p1, oj (q0 * (64 : Int64)), .second, oj (6500 : Int64), .second, oj (((p1.toInt64) * (100 : Int64)) + (p1.toInt64)), .second] [] _
    refine XS.lloadN X0.here hx rfl (hb hby own_d2_22) rfl ?_
    show oS p e below s₁ m 23 #[oj q0, .second, oi p1, oj (q0 * (64 : Int64)), .second, oj (6500 : Int64), .second, oj (((p1.toInt64) * (100 : Int64)) + (p1.toInt64)), .second] [(.long (q0 * (64 : Int64)))] _
    refine XS.lload X0.here hx rfl (hb hby own_d2_23) rfl ?_
    show oS p e below s₁ m 25 #[oj q0, .second, oi p1, oj (q0 * (64 : Int64)), .second, oj (6500 : Int64), .second, oj (((p1.toInt64) * (100 : Int64)) + (p1.toInt64)), .second] [(.long (6500 : Int64)), (.long (q0 * (64 : Int64)))] _
    refine XS.ladd X0.here hx rfl (hb hby own_d2_25) rfl ?_
    show oS p e below s₁ m 26 #[oj q0, .second, oi p1, oj (q0 * (64 : Int64)), .second, oj (6500 : Int64), .second, oj (((p1.toInt64) * (100 : Int64)) + (p1.toInt64)), .second] [(.long ((q0 * (64 : Int64)) + (6500 : Int64)))] _
    refine XS.lload X0.here hx rfl (hb hby own_d2_26) rfl ?_
    show oS p e below s₁ m 28 #[oj q0, .second, oi p1, oj (q0 * (64 : Int64)), .second, oj (6500 : Int64), .second, oj (((p1.toInt64) * (100 : Int64)) + (p1.toInt64)), .second] [(.long (((p1.toInt64) * (100 : Int64)) + (p1.toInt64))), (.long ((q0 * (64 : Int64)) + (6500 : Int64)))] _
    refine XS.ladd X0.here hx rfl (hb hby own_d2_28) rfl ?_
    show oS p e below s₁ m 29 #[oj q0, .second, oi p1, oj (q0 * (64 : Int64)), .second, oj (6500 : Int64), .second, oj (((p1.toInt64) * (100 : Int64)) + (p1.toInt64)), .second] [(.long (((q0 * (64 : Int64)) + (6500 : Int64)) + (((p1.toInt64) * (100 : Int64)) + (p1.toInt64))))] _
    exact retOut X0 hx Bd.returns rfl (Or.inr (Or.inl ⟨rfl, rfl, _, rfl⟩)) (hb hby own_d2_29) hr
  · show own_Q2 Z q0 p1 h0 n0 _ s₁.heap _
    rw [e0]
    exact ⟨congrArg (fun z => some (Value.long z)) (by rw [own_f2]), N0, rfl⟩
theorem own_pd0 : parseMethodDescriptor "(JI)J" = some ⟨[.long, .int], some .long⟩ := by decide +kernel
theorem own_d1_0 : decode prog_7_method_3_code 0 = .ok (.ldc2_w 87, 3) := by decide +kernel
theorem own_d1_3 : decode prog_7_method_3_code 3 = .ok (.lconst 0, 1) := by decide +kernel
theorem own_d1_4 : decode prog_7_method_3_code 4 = .ok (.iconst 0, 1) := by decide +kernel
theorem own_d1_5 : decode prog_7_method_3_code 5 = .ok (.invokestatic 89, 3) := by decide +kernel
theorem own_d1_8 : decode prog_7_method_3_code 8 = .ok (.lsub, 1) := by decide +kernel
theorem own_d1_9 : decode prog_7_method_3_code 9 = .ok (.lstore_n 0, 1) := by decide +kernel
theorem own_d1_10 : decode prog_7_method_3_code 10 = .ok (.lload_n 0, 1) := by decide +kernel
theorem own_d1_11 : decode prog_7_method_3_code 11 = .ok (.ldc2_w 98, 3) := by decide +kernel
theorem own_d1_14 : decode prog_7_method_3_code 14 = .ok (.ldiv, 1) := by decide +kernel
theorem own_d1_15 : decode prog_7_method_3_code 15 = .ok (.l2i, 1) := by decide +kernel
theorem own_d1_16 : decode prog_7_method_3_code 16 = .ok (.ireturn, 1) := by decide +kernel
theorem own_ef1 (m : MethodId)  : entryFrame m #[] 2 = mkF m 0 #[.unset, .unset] [] := by first | (simp [entryFrame, mkF, argsToLocals, Value.category]; done) | rfl
def own_f1  : Int32 := ((((3020000 : Int64) - (own_f2 (0 : Int64) (0 : Int32))) / (101 : Int64)).toInt32)
def own_Q1 (Z : State)  (h0 : Heap) (n0 : Nat) (v : Option Value) (h : Heap) (L : List Loc) : Prop := v = some (Value.int own_f1) ∧ Fr n0 L ∧ h = h0
set_option maxRecDepth 65536 in
set_option maxHeartbeats 40000000 in
theorem own_rm1 (l : Launch) (Z : State) (av : Array Value) (hw : ∀ d ∈ tables_1, d.before av Z = true) (ws : List Jvm.Cond)  (h0 : Heap) (n0 : Nat) (Z0 : n0 ≤ h0.size) :
    MetFree l (⟨"com/example/trawl_tables/trawltables/Router", "relationBound", "()I"⟩ : MethodName) (head1 (Jvm.Cond.code (⟨"com/example/trawl_tables/trawltables/Router", "relationBound", "()I"⟩ : MethodName) prog_7_method_3_code 2 (some .int) :: ws) ({ frames := 1, cells := 0, slots := 0, locals := 22 } : Room)) (fun a U => a = #[] ∧ Z.Warmed39 U.vm ∧ U.heap = h0) (fun _ _ _ _ _ => True) (fun _ U o U' => ∃ v L, o = .returned v ∧ own_Q1 Z  h0 n0 v U'.heap L ∧ FrameEnd U o U' L ({ frames := 1, cells := 0, slots := 0, locals := 22 } : Room).cells ({ frames := 1, cells := 0, slots := 0, locals := 22 } : Room).slots) := by
  refine MetFree.of_bodySF (plainFor_of_name own_pn0) hisR ?_
  intro p e s m args below meth c s₁ Bd hml0 hP hK
  obtain ⟨rfl, hZ, hh⟩ := hP
  have hx := Bd.exec
  have hby := Bd.bytes
  have hml : c.maxLocals = 2 := hml0
  have hown : s.vm.findClass "com/example/trawl_tables/trawltables/Router" = some m.cls := findClass_of_methodNamed Bd.named
  have hnm := (name_of_methodNamed Bd.named Bd.method).1
  have X0 : Stand p l e ({ frames := 1, cells := 0, slots := 0, locals := 22 } : Room) s m #[] below meth c s₁ [] 0 0 := Stand.of_body Bd
  have e0 : s₁.heap = h0 := by rw [← hh, Bd.state]; rfl
  have N0 := Fr.nil n0
  have pre0 : ∀ t, Steps p.tables e below (s₁.setTop (mkF m 0 #[.unset, .unset] [])) t → Steps p.tables e below (s₁.setTop (entryFrame m #[] 2)) t := fun t k => castTop (own_ef1 m ) k
  obtain ⟨_, _, ⟨T1, L1, k1, n1⟩, -, X1, ⟨Lc1, hQ1, l1, y1, z1⟩, st1⟩ := Jvm.LawKit.callS X0 hx (y := (⟨"com/example/trawl_tables/trawltables/Router", "parameters", "(JI)J"⟩ : MethodName)) hown (mvT hZ (hw _ (List.mem_of_getElem? (i := 5) rfl))) (mvT hZ (hw _ (List.mem_of_getElem? (i := 6) rfl))) (mvT hZ (hw _ (List.mem_of_getElem? (i := 2) rfl))) (mvT hZ (hw _ (List.mem_of_getElem? (i := 7) rfl))) (by decide) (backOf (W := 2) (own_rm2 l Z av hw [] (0 : Int64) (0 : Int32) h0 n0 Z0 ) hZ (hw _ (List.mem_of_getElem? (i := 7) rfl)) (hw _ (List.mem_of_getElem? (i := 2) rfl)) (by decide) (by decide)) (g := (mkF m 5 #[.unset, .unset] [(.int (0 : Int32)), (.long (0 : Int64)), (.long (3020000 : Int64))])) rfl (by rw [hml]; rfl) (argsL := [(.long (0 : Int64)), (.int (0 : Int32))]) (rest := [(.long (3020000 : Int64))]) (lenOf own_pd0 rfl) rfl (by show 2 * 0 + _ ≤ _; exact Nat.le_of_eq rfl) (hb hby own_d1_5) (fun _ _ => ⟨rfl, e0, (by decide : 0 + 0 ≤ _), (by decide : 0 + 0 ≤ _)⟩)
  dsimp only [Pt.U, Pt.locs, Pt.cells, Pt.slots] at X1 l1 y1 z1 st1 hQ1
  subst l1 y1 z1
  obtain ⟨rfl, Nq1, eq1⟩ := hQ1
  have N1 := Fr.app N0 Nq1
  obtain ⟨fs, hr, hrun, hended, hW, hsame⟩ := X1.leave (v := (some (.int ((((3020000 : Int64) - (own_f2 (0 : Int64) (0 : Int32))) / (101 : Int64)).toInt32)))) (fun h => by rw [Bd.returns] at h; cases h)
  refine ⟨_, _, pre0 _ ?_, hrun, hended, _, _, rfl, ?_, ⟨_, rfl⟩, hW, hsame.mono (by decide) (by decide)⟩
  · show oS p e below s₁ m 0 #[.unset, .unset] [] _
    refine X0.ldc2Long hx hown (mvT hZ (hw _ (List.mem_of_getElem? (i := 4) rfl))) (g := (mkF m 0 #[.unset, .unset] [])) rfl (hb hby own_d1_0) _ ?_
    show oS p e below s₁ m 3 #[.unset, .unset] [(.long (3020000 : Int64))] _
    refine XS.lconst X0.here hx rfl (hb hby own_d1_3) ?_
    show oS p e below s₁ m 4 #[.unset, .unset] [(.long (0 : Int64)), (.long (3020000 : Int64))] _
    refine XS.iconst X0.here hx rfl (hb hby own_d1_4) ?_
    show oS p e below s₁ m 5 #[.unset, .unset] [(.int (0 : Int32)), (.long (0 : Int64)), (.long (3020000 : Int64))] _
    refine st1 _ ?_
    show oS p e below T1 m 8 #[.unset, .unset] [(.long (own_f2 (0 : Int64) (0 : Int32))), (.long (3020000 : Int64))] _
    refine XS.lsub X1.here hx rfl (hb hby own_d1_8) rfl ?_
    show oS p e below T1 m 9 #[.unset, .unset] [(.long ((3020000 : Int64) - (own_f2 (0 : Int64) (0 : Int32))))] _
    refine XS.lstoreN X1.here hx rfl (hb hby own_d1_9) rfl (l' := #[oj ((3020000 : Int64) - (own_f2 (0 : Int64) (0 : Int32))), .second]) rfl ?_
    show oS p e below T1 m 10 #[oj ((3020000 : Int64) - (own_f2 (0 : Int64) (0 : Int32))), .second] [] _
    refine XS.lloadN X1.here hx rfl (hb hby own_d1_10) rfl ?_
    show oS p e below T1 m 11 #[oj ((3020000 : Int64) - (own_f2 (0 : Int64) (0 : Int32))), .second] [(.long ((3020000 : Int64) - (own_f2 (0 : Int64) (0 : Int32))))] _
    refine X1.ldc2Long hx hown (mvT hZ (hw _ (List.mem_of_getElem? (i := 11) rfl))) (g := (mkF m 11 #[oj ((3020000 : Int64) - (own_f2 (0 : Int64) (0 : Int32))), .second] [(.long ((3020000 : Int64) - (own_f2 (0 : Int64) (0 : Int32))))])) rfl (hb hby own_d1_11) _ ?_
    show oS p e below T1 m 14 #[oj ((3020000 : Int64) - (own_f2 (0 : Int64) (0 : Int32))), .second] [(.long (101 : Int64)), (.long ((3020000 : Int64) - (own_f2 (0 : Int64) (0 : Int32))))] _
    refine XS.ldiv X1.here hx rfl (hb hby own_d1_14) rfl (by decide) ?_
    show oS p e below T1 m 15 #[oj ((3020000 : Int64) - (own_f2 (0 : Int64) (0 : Int32))), .second] [(.long (((3020000 : Int64) - (own_f2 (0 : Int64) (0 : Int32))) / (101 : Int64)))] _
    refine XS.l2i X1.here hx rfl (hb hby own_d1_15) rfl ?_
    show oS p e below T1 m 16 #[oj ((3020000 : Int64) - (own_f2 (0 : Int64) (0 : Int32))), .second] [(.int ((((3020000 : Int64) - (own_f2 (0 : Int64) (0 : Int32))) / (101 : Int64)).toInt32))] _
    exact retOut X1 hx Bd.returns rfl (Or.inl ⟨rfl, Or.inl rfl, _, rfl⟩) (hb hby own_d1_16) hr
  · show own_Q1 Z  h0 n0 _ T1.heap _
    rw [eq1]
    exact ⟨congrArg (fun z => some (Value.int z)) (by rw [own_f1]), N1, rfl⟩
theorem own_r : (own_f1 : Int32) = (29836 : Int32) := by decide +kernel
theorem own_eq (k : Int32) : (if (29836 : Int32) < k then (0 : Int32) else (1 : Int32)) = (if (3020000 : Int64) < (((k.toInt64 * (101 : Int64)) + (6400 : Int64)) + (100 : Int64)) then (0 : Int32) else (1 : Int32)) := by
  have h1 := c_lmul k.toInt64 101
  have h2 := c_ladd (k.toInt64 * 101) 6400
  have h3 := c_ladd (k.toInt64 * 101 + 6400) 100
  have h4 := rng32 k
  have h5 := rng64 (k.toInt64 * 101)
  have h6 := rng64 (k.toInt64 * 101 + 6400)
  have h7 := rng64 (k.toInt64 * 101 + 6400 + 100)
  have h8 := c_i2l k
  simp only [Int64.reduceToInt, h8] at h1 h2 h3
  have g1 : (k.toInt64 * 101).toInt = k.toInt * 101 := by omega
  have g2 : (k.toInt64 * 101 + 6400).toInt = k.toInt * 101 + 6400 := by omega
  have g3 : (k.toInt64 * 101 + 6400 + 100).toInt = k.toInt * 101 + 6500 := by omega
  simp only [own_ltpL, own_ltp, Int64.reduceToInt, Int32.reduceToInt, g3]
  repeat' split
  all_goals first | rfl | (exfalso; omega)
theorem own_pd1 : parseMethodDescriptor "()I" = some ⟨[], some .int⟩ := by decide +kernel
theorem own_pn1 : plainName "com/example/trawl_tables/trawltables/RouterRelationBoundPinLaw" = true := by first | (simp [plainName, overriddenIn]; done) | decide +kernel
theorem own_ef0 (m : MethodId) (p0 : Int32) : entryFrame m #[(.int p0)] maxLocals = mkF m 0 #[oi p0, .unset, .unset, .unset, .unset] [] := by first | (simp [entryFrame, mkF, argsToLocals, Value.category, maxLocals]; done) | rfl
def own_Q0 (Z : State) (p0 : Int32) (h0 : Heap) (n0 : Nat) (v : Option Value) (h : Heap) (L : List Loc) : Prop := v = some (Value.int (1 : Int32)) ∧ Fr n0 L
set_option maxRecDepth 65536 in
set_option maxHeartbeats 40000000 in
theorem own_rm0 (l : Launch) (Z : State) (av : Array Value) (hw : ∀ d ∈ tables_1, d.before av Z = true) (ws : List Jvm.Cond) (p0 : Int32) (h0 : Heap) (n0 : Nat) (Z0 : n0 ≤ h0.size) :
    MetFree l x (head1 (Jvm.Cond.code x code maxLocals ret :: ws) room_1) (fun a U => a = #[(.int p0)] ∧ Z.Warmed39 U.vm ∧ U.heap = h0) (fun _ _ _ _ _ => True) (fun _ U o U' => ∃ v L, o = .returned v ∧ own_Q0 Z p0 h0 n0 v U'.heap L ∧ FrameEnd U o U' L room_1.cells room_1.slots) := by
  refine MetFree.of_bodySF (plainFor_of_name own_pn1) hisR ?_
  intro p e s m args below meth c s₁ Bd hml0 hP hK
  obtain ⟨rfl, hZ, hh⟩ := hP
  have hx := Bd.exec
  have hby := Bd.bytes
  have hml : c.maxLocals = 5 := hml0
  have hown : s.vm.findClass "com/example/trawl_tables/trawltables/RouterRelationBoundPinLaw" = some m.cls := findClass_of_methodNamed Bd.named
  have hnm := (name_of_methodNamed Bd.named Bd.method).1
  have X0 : Stand p l e room_1 s m #[(.int p0)] below meth c s₁ [] 0 0 := Stand.of_body Bd
  have e0 : s₁.heap = h0 := by rw [← hh, Bd.state]; rfl
  have N0 := Fr.nil n0
  have pre0 : ∀ t, Steps p.tables e below (s₁.setTop (mkF m 0 #[oi p0, .unset, .unset, .unset, .unset] [])) t → Steps p.tables e below (s₁.setTop (entryFrame m #[(.int p0)] maxLocals)) t := fun t k => castTop (own_ef0 m p0) k
  obtain ⟨_, _, ⟨T1, L1, k1, n1⟩, -, X1, ⟨Lc1, hQ1, l1, y1, z1⟩, st1⟩ := Jvm.LawKit.callS X0 hx (y := (⟨"com/example/trawl_tables/trawltables/Router", "relationBound", "()I"⟩ : MethodName)) hown (mvT hZ (hw _ (List.mem_of_getElem? (i := 0) rfl))) (mvT hZ (hw _ (List.mem_of_getElem? (i := 1) rfl))) (mvT hZ (hw _ (List.mem_of_getElem? (i := 2) rfl))) (mvT hZ (hw _ (List.mem_of_getElem? (i := 3) rfl))) (by decide) (backOf (W := 0) (own_rm1 l Z av hw []  h0 n0 Z0 ) hZ (hw _ (List.mem_of_getElem? (i := 3) rfl)) (hw _ (List.mem_of_getElem? (i := 2) rfl)) (by decide) (by decide)) (g := (mkF m 0 #[oi p0, .unset, .unset, .unset, .unset] [])) rfl (by rw [hml]; rfl) (argsL := []) (rest := []) (lenOf own_pd1 rfl) rfl (by show 2 * 0 + _ ≤ _; exact Nat.le_of_eq rfl) (hb hby at_0) (fun _ _ => ⟨rfl, e0, (by decide : 0 + 0 ≤ _), (by decide : 0 + 0 ≤ _)⟩)
  dsimp only [Pt.U, Pt.locs, Pt.cells, Pt.slots] at X1 l1 y1 z1 st1 hQ1
  subst l1 y1 z1
  obtain ⟨rfl, Nq1, eq1⟩ := hQ1
  have N1 := Fr.app N0 Nq1
  have pre2 : ∀ t, Steps p.tables e below (T1.setTop (mkF m 3 #[oi p0, .unset, .unset, .unset, .unset] [(.int (own_f1 ))])) t → Steps p.tables e below (s₁.setTop (entryFrame m #[(.int p0)] maxLocals)) t := by
    intro t k
    refine pre0 t ?_
    show oS p e below s₁ m 0 #[oi p0, .unset, .unset, .unset, .unset] [] _
    refine st1 _ ?_
    exact k
  have rw_3 : (own_f1 ) = (29836 : Int32) := own_r
  rw [rw_3] at pre2
  have pre4 : ∀ t, Steps p.tables e below (T1.setTop (mkF m 24 #[oi p0, oi (29836 : Int32), oj ((((p0.toInt64) * (101 : Int64)) + (6400 : Int64)) + (100 : Int64)), .second, .unset] [(.int (lcmpW ((((p0.toInt64) * (101 : Int64)) + (6400 : Int64)) + (100 : Int64)) (3020000 : Int64)))])) t → Steps p.tables e below (s₁.setTop (entryFrame m #[(.int p0)] maxLocals)) t := by
    intro t k
    refine pre2 t ?_
    show oS p e below T1 m 3 #[oi p0, .unset, .unset, .unset, .unset] [(.int (29836 : Int32))] _
    refine XS.istoreN X1.here hx rfl (hb hby at_3) rfl (l' := #[oi p0, oi (29836 : Int32), .unset, .unset, .unset]) rfl ?_
    show oS p e below T1 m 4 #[oi p0, oi (29836 : Int32), .unset, .unset, .unset] [] _
    refine XS.iloadN X1.here hx rfl (hb hby at_4) rfl ?_
    show oS p e below T1 m 5 #[oi p0, oi (29836 : Int32), .unset, .unset, .unset] [(.int p0)] _
    refine XS.i2l X1.here hx rfl (hb hby at_5) rfl ?_
    show oS p e below T1 m 6 #[oi p0, oi (29836 : Int32), .unset, .unset, .unset] [(.long (p0.toInt64))] _
    refine X1.ldc2Long hx hown (mvT hZ (hw _ (List.mem_of_getElem? (i := 12) rfl))) (g := (mkF m 6 #[oi p0, oi (29836 : Int32), .unset, .unset, .unset] [(.long (p0.toInt64))])) rfl (hb hby at_6) _ ?_
    show oS p e below T1 m 9 #[oi p0, oi (29836 : Int32), .unset, .unset, .unset] [(.long (101 : Int64)), (.long (p0.toInt64))] _
    refine XS.lmul X1.here hx rfl (hb hby at_9) rfl ?_
    show oS p e below T1 m 10 #[oi p0, oi (29836 : Int32), .unset, .unset, .unset] [(.long ((p0.toInt64) * (101 : Int64)))] _
    refine X1.ldc2Long hx hown (mvT hZ (hw _ (List.mem_of_getElem? (i := 13) rfl))) (g := (mkF m 10 #[oi p0, oi (29836 : Int32), .unset, .unset, .unset] [(.long ((p0.toInt64) * (101 : Int64)))])) rfl (hb hby at_10) _ ?_
    show oS p e below T1 m 13 #[oi p0, oi (29836 : Int32), .unset, .unset, .unset] [(.long (6400 : Int64)), (.long ((p0.toInt64) * (101 : Int64)))] _
    refine XS.ladd X1.here hx rfl (hb hby at_13) rfl ?_
    show oS p e below T1 m 14 #[oi p0, oi (29836 : Int32), .unset, .unset, .unset] [(.long (((p0.toInt64) * (101 : Int64)) + (6400 : Int64)))] _
    refine X1.ldc2Long hx hown (mvT hZ (hw _ (List.mem_of_getElem? (i := 14) rfl))) (g := (mkF m 14 #[oi p0, oi (29836 : Int32), .unset, .unset, .unset] [(.long (((p0.toInt64) * (101 : Int64)) + (6400 : Int64)))])) rfl (hb hby at_14) _ ?_
    show oS p e below T1 m 17 #[oi p0, oi (29836 : Int32), .unset, .unset, .unset] [(.long (100 : Int64)), (.long (((p0.toInt64) * (101 : Int64)) + (6400 : Int64)))] _
    refine XS.ladd X1.here hx rfl (hb hby at_17) rfl ?_
    show oS p e below T1 m 18 #[oi p0, oi (29836 : Int32), .unset, .unset, .unset] [(.long ((((p0.toInt64) * (101 : Int64)) + (6400 : Int64)) + (100 : Int64)))] _
    refine XS.lstoreN X1.here hx rfl (hb hby at_18) rfl (l' := #[oi p0, oi (29836 : Int32), oj ((((p0.toInt64) * (101 : Int64)) + (6400 : Int64)) + (100 : Int64)), .second, .unset]) rfl ?_
    show oS p e below T1 m 19 #[oi p0, oi (29836 : Int32), oj ((((p0.toInt64) * (101 : Int64)) + (6400 : Int64)) + (100 : Int64)), .second, .unset] [] _
    refine XS.lloadN X1.here hx rfl (hb hby at_19) rfl ?_
    show oS p e below T1 m 20 #[oi p0, oi (29836 : Int32), oj ((((p0.toInt64) * (101 : Int64)) + (6400 : Int64)) + (100 : Int64)), .second, .unset] [(.long ((((p0.toInt64) * (101 : Int64)) + (6400 : Int64)) + (100 : Int64)))] _
    refine X1.ldc2Long hx hown (mvT hZ (hw _ (List.mem_of_getElem? (i := 15) rfl))) (g := (mkF m 20 #[oi p0, oi (29836 : Int32), oj ((((p0.toInt64) * (101 : Int64)) + (6400 : Int64)) + (100 : Int64)), .second, .unset] [(.long ((((p0.toInt64) * (101 : Int64)) + (6400 : Int64)) + (100 : Int64)))])) rfl (hb hby at_20) _ ?_
    show oS p e below T1 m 23 #[oi p0, oi (29836 : Int32), oj ((((p0.toInt64) * (101 : Int64)) + (6400 : Int64)) + (100 : Int64)), .second, .unset] [(.long (3020000 : Int64)), (.long ((((p0.toInt64) * (101 : Int64)) + (6400 : Int64)) + (100 : Int64)))] _
    refine XS.lcmp X1.here hx rfl (hb hby at_23) rfl ?_
    exact k
  obtain ⟨v6, hv6⟩ : ∃ z : Int32, z = (if (3020000 : Int64) < ((((p0.toInt64) * (101 : Int64)) + (6400 : Int64)) + (100 : Int64)) then (0 : Int32) else (1 : Int32)) := ⟨_, rfl⟩
  have pre7 : ∀ t, Steps p.tables e below (T1.setTop (mkF m 32 #[oi p0, oi (29836 : Int32), oj ((((p0.toInt64) * (101 : Int64)) + (6400 : Int64)) + (100 : Int64)), .second, .unset] [(.int v6)])) t → Steps p.tables e below (s₁.setTop (entryFrame m #[(.int p0)] maxLocals)) t := by
    intro t k
    by_cases c5 : (3020000 : Int64) < ((((p0.toInt64) * (101 : Int64)) + (6400 : Int64)) + (100 : Int64))
    · skip
      rw [show v6 = (0 : Int32) from hv6.trans (by rw [if_pos c5])] at k
      refine pre4 t ?_
      show oS p e below T1 m 24 #[oi p0, oi (29836 : Int32), oj ((((p0.toInt64) * (101 : Int64)) + (6400 : Int64)) + (100 : Int64)), .second, .unset] [(.int (lcmpW ((((p0.toInt64) * (101 : Int64)) + (6400 : Int64)) + (100 : Int64)) (3020000 : Int64)))] _
      refine XS.ifYes X1.here hx rfl (pc0 := 24) (pc' := 31) rfl (hb hby at_24) rfl ((if0 _ _).trans (tlt ((lw_gt ((((p0.toInt64) * (101 : Int64)) + (6400 : Int64)) + (100 : Int64)) (3020000 : Int64)).mpr c5)).2.2.1) (by decide) (by decide) ?_
      show oS p e below T1 m 31 #[oi p0, oi (29836 : Int32), oj ((((p0.toInt64) * (101 : Int64)) + (6400 : Int64)) + (100 : Int64)), .second, .unset] [] _
      refine XS.iconst X1.here hx rfl (hb hby at_31) ?_
      exact k
    · skip
      rw [show v6 = (1 : Int32) from hv6.trans (by rw [if_neg c5])] at k
      refine pre4 t ?_
      show oS p e below T1 m 24 #[oi p0, oi (29836 : Int32), oj ((((p0.toInt64) * (101 : Int64)) + (6400 : Int64)) + (100 : Int64)), .second, .unset] [(.int (lcmpW ((((p0.toInt64) * (101 : Int64)) + (6400 : Int64)) + (100 : Int64)) (3020000 : Int64)))] _
      refine XS.ifNo X1.here hx rfl (hb hby at_24) rfl ((if0 _ _).trans (flt (fun q => c5 ((lw_gt ((((p0.toInt64) * (101 : Int64)) + (6400 : Int64)) + (100 : Int64)) (3020000 : Int64)).mp q))).2.2.1) ?_
      show oS p e below T1 m 27 #[oi p0, oi (29836 : Int32), oj ((((p0.toInt64) * (101 : Int64)) + (6400 : Int64)) + (100 : Int64)), .second, .unset] [] _
      refine XS.iconst X1.here hx rfl (hb hby at_27) ?_
      show oS p e below T1 m 28 #[oi p0, oi (29836 : Int32), oj ((((p0.toInt64) * (101 : Int64)) + (6400 : Int64)) + (100 : Int64)), .second, .unset] [(.int (1 : Int32))] _
      refine XS.goto X1.here hx rfl (pc0 := 28) (pc' := 32) rfl (hb hby at_28) (by decide) (by decide) ?_
      exact k
  have pre8 : ∀ t, Steps p.tables e below (T1.setTop (mkF m 36 #[oi p0, oi (29836 : Int32), oj ((((p0.toInt64) * (101 : Int64)) + (6400 : Int64)) + (100 : Int64)), .second, oi v6] [(.int (29836 : Int32)), (.int p0)])) t → Steps p.tables e below (s₁.setTop (entryFrame m #[(.int p0)] maxLocals)) t := by
    intro t k
    refine pre7 t ?_
    show oS p e below T1 m 32 #[oi p0, oi (29836 : Int32), oj ((((p0.toInt64) * (101 : Int64)) + (6400 : Int64)) + (100 : Int64)), .second, .unset] [(.int v6)] _
    refine XS.istore X1.here hx rfl (hb hby at_32) rfl (l' := #[oi p0, oi (29836 : Int32), oj ((((p0.toInt64) * (101 : Int64)) + (6400 : Int64)) + (100 : Int64)), .second, oi v6]) rfl ?_
    show oS p e below T1 m 34 #[oi p0, oi (29836 : Int32), oj ((((p0.toInt64) * (101 : Int64)) + (6400 : Int64)) + (100 : Int64)), .second, oi v6] [] _
    refine XS.iloadN X1.here hx rfl (hb hby at_34) rfl ?_
    show oS p e below T1 m 35 #[oi p0, oi (29836 : Int32), oj ((((p0.toInt64) * (101 : Int64)) + (6400 : Int64)) + (100 : Int64)), .second, oi v6] [(.int p0)] _
    refine XS.iloadN X1.here hx rfl (hb hby at_35) rfl ?_
    exact k
  obtain ⟨v10, hv10⟩ : ∃ z : Int32, z = (if (29836 : Int32) < p0 then (0 : Int32) else (1 : Int32)) := ⟨_, rfl⟩
  have pre11 : ∀ t, Steps p.tables e below (T1.setTop (mkF m 44 #[oi p0, oi (29836 : Int32), oj ((((p0.toInt64) * (101 : Int64)) + (6400 : Int64)) + (100 : Int64)), .second, oi v6] [(.int v10)])) t → Steps p.tables e below (s₁.setTop (entryFrame m #[(.int p0)] maxLocals)) t := by
    intro t k
    by_cases c9 : (29836 : Int32) < p0
    · skip
      rw [show v10 = (0 : Int32) from hv10.trans (by rw [if_pos c9])] at k
      refine pre8 t ?_
      show oS p e below T1 m 36 #[oi p0, oi (29836 : Int32), oj ((((p0.toInt64) * (101 : Int64)) + (6400 : Int64)) + (100 : Int64)), .second, oi v6] [(.int (29836 : Int32)), (.int p0)] _
      refine XS.icmpYes X1.here hx rfl (pc0 := 36) (pc' := 43) rfl (hb hby at_36) rfl (tlt c9).2.2.1 (by decide) (by decide) ?_
      show oS p e below T1 m 43 #[oi p0, oi (29836 : Int32), oj ((((p0.toInt64) * (101 : Int64)) + (6400 : Int64)) + (100 : Int64)), .second, oi v6] [] _
      refine XS.iconst X1.here hx rfl (hb hby at_43) ?_
      exact k
    · skip
      rw [show v10 = (1 : Int32) from hv10.trans (by rw [if_neg c9])] at k
      refine pre8 t ?_
      show oS p e below T1 m 36 #[oi p0, oi (29836 : Int32), oj ((((p0.toInt64) * (101 : Int64)) + (6400 : Int64)) + (100 : Int64)), .second, oi v6] [(.int (29836 : Int32)), (.int p0)] _
      refine XS.icmpNo X1.here hx rfl (hb hby at_36) rfl (flt c9).2.2.1 ?_
      show oS p e below T1 m 39 #[oi p0, oi (29836 : Int32), oj ((((p0.toInt64) * (101 : Int64)) + (6400 : Int64)) + (100 : Int64)), .second, oi v6] [] _
      refine XS.iconst X1.here hx rfl (hb hby at_39) ?_
      show oS p e below T1 m 40 #[oi p0, oi (29836 : Int32), oj ((((p0.toInt64) * (101 : Int64)) + (6400 : Int64)) + (100 : Int64)), .second, oi v6] [(.int (1 : Int32))] _
      refine XS.goto X1.here hx rfl (pc0 := 40) (pc' := 44) rfl (hb hby at_40) (by decide) (by decide) ?_
      exact k
  have b12 : v10 = v6 := by rw [hv10, hv6]; exact own_eq _
  obtain ⟨fs, hr, hrun, hended, hW, hsame⟩ := X1.leave (v := (some (.int (1 : Int32)))) (fun h => by rw [Bd.returns] at h; cases h)
  refine ⟨_, _, pre11 _ ?_, hrun, hended, _, _, rfl, ?_, ⟨_, rfl⟩, hW, hsame.mono (by decide) (by decide)⟩
  · show oS p e below T1 m 44 #[oi p0, oi (29836 : Int32), oj ((((p0.toInt64) * (101 : Int64)) + (6400 : Int64)) + (100 : Int64)), .second, oi v6] [(.int v10)] _
    refine XS.iload X1.here hx rfl (hb hby at_44) rfl ?_
    show oS p e below T1 m 46 #[oi p0, oi (29836 : Int32), oj ((((p0.toInt64) * (101 : Int64)) + (6400 : Int64)) + (100 : Int64)), .second, oi v6] [(.int v6), (.int v10)] _
    refine XS.icmpNo X1.here hx rfl (hb hby at_46) rfl (teq b12).2 ?_
    show oS p e below T1 m 49 #[oi p0, oi (29836 : Int32), oj ((((p0.toInt64) * (101 : Int64)) + (6400 : Int64)) + (100 : Int64)), .second, oi v6] [] _
    refine XS.iconst X1.here hx rfl (hb hby at_49) ?_
    show oS p e below T1 m 50 #[oi p0, oi (29836 : Int32), oj ((((p0.toInt64) * (101 : Int64)) + (6400 : Int64)) + (100 : Int64)), .second, oi v6] [(.int (1 : Int32))] _
    refine XS.goto X1.here hx rfl (pc0 := 50) (pc' := 54) rfl (hb hby at_50) (by decide) (by decide) ?_
    show oS p e below T1 m 54 #[oi p0, oi (29836 : Int32), oj ((((p0.toInt64) * (101 : Int64)) + (6400 : Int64)) + (100 : Int64)), .second, oi v6] [(.int (1 : Int32))] _
    exact retN X1 hx (t := .boolean) Bd.returns (by simp) (hb hby at_54) hr
  · show own_Q0 Z p0 h0 n0 _ T1.heap _
    rw [eq1]
    exact ⟨rfl, N1⟩
set_option maxRecDepth 65536 in
set_option maxHeartbeats 40000000 in
theorem own_comes {Post : Tables → Env → Array Value → State → Outcome → State → Prop} (hpost : ∀ tb e args s v u, (limb_1_1.after args s (.returned v) u = true ∧ limb_1_2.after args s (.returned v) u = true ∧ True) → FrameEnd s (.returned v) u (Jvm.fieldLocs frame_1_writes args s ++ Jvm.arrayLocs frame_1_arrays args s ++ Jvm.staticLocs frame_1_statics s) 0 0 → Post tb e args s (.returned v) u) :
    ArmFor flags0 classFile x code maxLocals ret World_1 tables_1 room_1 Calls_1 rest_1 Pre_1 Post := by
  intro l hfl _ _ p e ha hc hk s m args below hf hA hF happ hP
  obtain ⟨hcalls, hrest, hpre⟩ := hP
  obtain ⟨-, -, -, hnamed, -, -, -, hat⟩ := (Spec.applies_iff hf).mp happ
  obtain ⟨hg, hn⟩ := and_e (Cond.before_iff.mp (show (Jvm.Cond.and given_1 narrow_1).before args s = true from hpre))
  obtain ⟨gv1, gv2⟩ := and_e hg
  obtain ⟨w0, rfl⟩ : ∃ w0 : Value, args = #[w0] := by
    have hs : args.size = 1 := by simpa [Cond.value, given_1] using gv1
    obtain ⟨L⟩ := args
    match L, hs with
    | [w0], _ => exact ⟨w0, rfl⟩
  have hw := fun d (hd : d ∈ tables_1) => atoms_spec (ws := Jvm.Cond.code x code maxLocals ret :: tables_1) hat d (List.mem_cons_of_mem _ hd)
  have hfit : Fit s := fun {y c} hc i hi => by
    obtain ⟨ha, rfl⟩ := Array.getElem?_eq_some_iff.mp hc
    have q := List.all_eq_true.mp ((Array.all_eq_true_iff_forall_mem.mp hF) _ (Array.getElem_mem ha)) i (List.mem_range.mpr hi)
    simpa [Array.getElem?_eq_getElem hi] using q
  obtain ⟨i0, ei0⟩ := is_v gv2
  obtain rfl : w0 = (.int i0) := Option.some.inj ei0
  obtain ⟨n, o, h1, h2, h3, _, L, rfl, ⟨rfl, N⟩, hq⟩ := own_rm0 l s _ hw tables_1 i0  s.heap s.heap.size (Nat.le_refl _)  p e ha hc hk s m _ below hf ((Spec.applies_iff_loose hf).mp happ).1 ⟨rfl, State.Warmed39.refl s, rfl⟩ trivial
  refine ⟨n, _, h1, h2, h3, hpost _ _ _ _ _ _ ⟨Cond.after_iff.mpr rfl, Cond.after_iff.mpr (eq_i res_at (Term.int_eval (1)) rfl), trivial⟩ ⟨hq.1, hq.2.1, (hq.2.2.sift fun y hy => Or.inr (N y hy)).mono (by decide) (by decide)⟩⟩
theorem main_1_1 : Claimed_1_1 := own_comes fun _ _ _ _ _ _ h hF => ⟨h.1, hF⟩
theorem main_1_2 : Claimed_1_2 := own_comes fun _ _ _ _ _ _ h hF => ⟨h.2.1, hF⟩
end Jvm.Pilot.@@N@@
namespace Jvm.Pilot.@@N@@
open Jvm Jvm.ClassFile Sem Op Lib Jvm.Free Jvm.Stand Jvm.Pilot.@@N@@.Jvm.D
/-! MADE BY PROGRAM (witnessworld.py) out of the Statement's table words and the real class files: 9 classes; the members and pool entries that the words name. The judged class is class 1, her method 1. -/
namespace start1
open Jvm.ClassFile
def u (s : String) : CpInfo := .utf8 (stringToUtf16 s)
/-- a pool by its gaps: so many unusable entries, then the entry; so many at the end -/
def gap : Nat → List CpInfo → List CpInfo
  | 0, r => r
  | n + 1, r => .unusable :: gap n r
def poolList (es : List (Nat × CpInfo)) (last : Nat) : List CpInfo := es.foldr (fun e r => gap e.1 (e.2 :: r)) (gap last [])
def pool (es : List (Nat × CpInfo)) (last : Nat) : Array CpInfo := ⟨poolList es last⟩
def fileOf (pool : Array CpInfo) (this : Nat) (attrs : Array Attribute := #[]) (ms : Array MethodInfo := #[]) (fl : Nat := 33) (sup : Nat := 0) (ifs : Array Nat := #[]) (fds : Array FieldInfo := #[]) : ClassFile where
  minorVersion := 0
  majorVersion := 65
  constantPool := pool
  accessFlags := fl
  thisClass := this
  superClass := sup
  interfaces := ifs
  fields := fds
  methods := ms
  attributes := attrs
def plain (name : String) (sup : Option ClassId) : Class where
  name := name
  kind := .ordinary
  loader := none
  accessFlags := 33
  super := sup
  interfaces := #[]
  cf := none
  fields := #[]
  methods := #[]
  instanceTypes := #[]
  staticTypes := #[]
  resolved := #[]
  callSites := []
  init := .initialized
  statics := none
  mirror := none

def pool0 : Array CpInfo := pool [(5, u "<init>"), (0, u "()V"), (1, .class_ 10), (1, u "java/lang/Object")] 113

def k0m0 : Method := { name := "<init>", desc := "()V", sig := { parameters := [], returnType := none }, accessFlags := 1, code := none }
/-- java/lang/Object -/
def k0 : Class := { plain "java/lang/Object" none with
  accessFlags := 33
  interfaces := #[]
  cf := some (fileOf pool0 8 #[] #[{ accessFlags := 1, nameIndex := 5, descriptorIndex := 6, attributes := #[] }] 33 0 #[] #[])
  fields := #[]
  methods := #[k0m0]
  instanceTypes := #[]
  staticTypes := #[]
  resolved := Array.replicate 124 none
  statics := none }

def pool1 : Array CpInfo := pool [(2, .class_ 4), (1, u "java/lang/Object"), (0, u "<init>"), (0, u "()V"), (0, .methodref 8 9), (0, .class_ 10), (0, .nameAndType 11 12), (0, u "com/example/trawl_tables/trawltables/Router"), (0, u "relationBound"), (0, u "()I"), (0, .long 101), (1, .long 6400), (1, .long 100), (1, .long 3020000), (1, .class_ 22), (0, u "com/example/trawl_tables/trawltables/RouterRelationBoundPinLaw"), (2, u "law"), (0, u "(I)Z")] 3

def k1m0 : Method := { name := "<init>", desc := "()V", sig := { parameters := [], returnType := none }, accessFlags := 2, code := none }
def k1c1 : Code := { maxStack := 4, maxLocals := 5, code := code, exceptionTable := #[], attributes := #[] }
def k1m1 : Method := { name := "law", desc := "(I)Z", sig := { parameters := [.int], returnType := some .boolean }, accessFlags := 9, code := some k1c1 }
/-- com/example/trawl_tables/trawltables/RouterRelationBoundPinLaw -/
def k1 : Class := { plain "com/example/trawl_tables/trawltables/RouterRelationBoundPinLaw" (some 0) with
  accessFlags := 49
  interfaces := #[]
  cf := some (fileOf pool1 21 #[] #[{ accessFlags := 2, nameIndex := 5, descriptorIndex := 6, attributes := #[] }, { accessFlags := 9, nameIndex := 25, descriptorIndex := 26, attributes := #[] }] 49 2 #[] #[])
  fields := #[]
  methods := #[k1m0, k1m1]
  instanceTypes := #[]
  staticTypes := #[]
  resolved := Array.replicate 30 none
  statics := none }

def pool2 : Array CpInfo := pool [(2, .class_ 4), (1, u "java/lang/Object"), (9, .class_ 16), (1, u "com/example/trawl_tables/trawltables/Router"), (0, u "vocabulary"), (0, u "Ljava/util/List;"), (5, u "ids"), (0, u "Ljava/util/Map;"), (21, u "()I"), (21, u "relations"), (0, u "I"), (2, u "embeddings"), (0, u "[F"), (2, u "hiddenWeights"), (2, u "hiddenBiases"), (2, u "outputWeights"), (2, u "outputBiases"), (0, .long 3020000), (1, .methodref 14 90), (0, .nameAndType 91 92), (0, u "parameters"), (0, u "(JI)J"), (5, .long 101), (1, .long 64), (1, .long 6500), (1, .long 100), (89, .class_ 195), (0, u "com/example/trawl_tables/trawltables/Router$Workspace"), (225, u "DIMENSIONS"), (2, u "HIDDEN"), (1, u "MAX_PARAMETERS"), (0, u "J"), (0, u "MAGIC"), (0, u "FORMAT"), (1, u "HEADER_INTS"), (8, u "relationBound")] 77

def k2c0 : Code := { maxStack := 5, maxLocals := 2, code := prog_7_method_3_code, exceptionTable := #[], attributes := #[] }
def k2m0 : Method := { name := "relationBound", desc := "()I", sig := { parameters := [], returnType := some .int }, accessFlags := 8, code := some k2c0 }
def k2c1 : Code := { maxStack := 4, maxLocals := 9, code := prog_7_method_4_code, exceptionTable := #[], attributes := #[] }
def k2m1 : Method := { name := "parameters", desc := "(JI)J", sig := { parameters := [.long, .int], returnType := some .long }, accessFlags := 10, code := some k2c1 }
/-- com/example/trawl_tables/trawltables/Router -/
def k2 : Class := { plain "com/example/trawl_tables/trawltables/Router" (some 0) with
  accessFlags := 32
  interfaces := #[]
  cf := some (fileOf pool2 14 #[.nestMembers #[194]] #[{ accessFlags := 8, nameIndex := 440, descriptorIndex := 47, attributes := #[] }, { accessFlags := 10, nameIndex := 91, descriptorIndex := 92, attributes := #[] }] 32 2 #[] #[{ accessFlags := 24, nameIndex := 421, descriptorIndex := 70, attributes := #[] }, { accessFlags := 24, nameIndex := 424, descriptorIndex := 70, attributes := #[] }, { accessFlags := 24, nameIndex := 426, descriptorIndex := 427, attributes := #[] }, { accessFlags := 26, nameIndex := 428, descriptorIndex := 70, attributes := #[] }, { accessFlags := 26, nameIndex := 429, descriptorIndex := 70, attributes := #[] }, { accessFlags := 26, nameIndex := 431, descriptorIndex := 70, attributes := #[] }, { accessFlags := 18, nameIndex := 17, descriptorIndex := 18, attributes := #[] }, { accessFlags := 18, nameIndex := 24, descriptorIndex := 25, attributes := #[] }, { accessFlags := 18, nameIndex := 69, descriptorIndex := 70, attributes := #[] }, { accessFlags := 18, nameIndex := 73, descriptorIndex := 74, attributes := #[] }, { accessFlags := 18, nameIndex := 77, descriptorIndex := 74, attributes := #[] }, { accessFlags := 18, nameIndex := 80, descriptorIndex := 74, attributes := #[] }, { accessFlags := 18, nameIndex := 83, descriptorIndex := 74, attributes := #[] }, { accessFlags := 18, nameIndex := 86, descriptorIndex := 74, attributes := #[] }])
  fields := #[{ name := "DIMENSIONS", type := .int, accessFlags := 24, slot := 0, constantValue := 0 }, { name := "HIDDEN", type := .int, accessFlags := 24, slot := 1, constantValue := 0 }, { name := "MAX_PARAMETERS", type := .long, accessFlags := 24, slot := 2, constantValue := 0 }, { name := "MAGIC", type := .int, accessFlags := 26, slot := 3, constantValue := 0 }, { name := "FORMAT", type := .int, accessFlags := 26, slot := 4, constantValue := 0 }, { name := "HEADER_INTS", type := .int, accessFlags := 26, slot := 5, constantValue := 0 }, { name := "vocabulary", type := (.object "java/util/List"), accessFlags := 18, slot := 0, constantValue := 0 }, { name := "ids", type := (.object "java/util/Map"), accessFlags := 18, slot := 1, constantValue := 0 }, { name := "relations", type := .int, accessFlags := 18, slot := 2, constantValue := 0 }, { name := "embeddings", type := (.array .float), accessFlags := 18, slot := 3, constantValue := 0 }, { name := "hiddenWeights", type := (.array .float), accessFlags := 18, slot := 4, constantValue := 0 }, { name := "hiddenBiases", type := (.array .float), accessFlags := 18, slot := 5, constantValue := 0 }, { name := "outputWeights", type := (.array .float), accessFlags := 18, slot := 6, constantValue := 0 }, { name := "outputBiases", type := (.array .float), accessFlags := 18, slot := 7, constantValue := 0 }]
  methods := #[k2m0, k2m1]
  instanceTypes := #[(.object "java/util/List"), (.object "java/util/Map"), .int, (.array .float), (.array .float), (.array .float), (.array .float), (.array .float)]
  staticTypes := #[.int, .int, .long, .int, .int, .int]
  resolved := Array.replicate 518 none
  statics := none }

def pool3 : Array CpInfo := pool [(1, u "java/lang/Cloneable"), (0, .class_ 1), (0, u "java/lang/Object"), (0, .class_ 3)] 3

/-- java/lang/Cloneable -/
def k3 : Class := { plain "java/lang/Cloneable" (some 0) with
  accessFlags := 1537
  interfaces := #[]
  cf := some (fileOf pool3 2 #[] #[] 1537 4 #[] #[])
  fields := #[]
  methods := #[]
  instanceTypes := #[]
  staticTypes := #[]
  resolved := Array.replicate 8 none
  statics := none }

def pool4 : Array CpInfo := pool [(1, u "java/io/Serializable"), (0, .class_ 1), (0, u "java/lang/Object"), (0, .class_ 3)] 3

/-- java/io/Serializable -/
def k4 : Class := { plain "java/io/Serializable" (some 0) with
  accessFlags := 1537
  interfaces := #[]
  cf := some (fileOf pool4 2 #[] #[] 1537 4 #[] #[])
  fields := #[]
  methods := #[]
  instanceTypes := #[]
  staticTypes := #[]
  resolved := Array.replicate 8 none
  statics := none }

/-- the primitive byte -/
def k5 : Class := { plain "byte" none with kind := .primitive 'B', accessFlags := 0x411 }
/-- [B -/
def k6 : Class := { plain "[B" (some 0) with kind := .array 5 .byte, interfaces := #[3, 4], accessFlags := 1041 }

/-- the primitive int -/
def k7 : Class := { plain "int" none with kind := .primitive 'I', accessFlags := 0x411 }
/-- [I -/
def k8 : Class := { plain "[I" (some 0) with kind := .array 7 .int, interfaces := #[3, 4], accessFlags := 1041 }

def heap : Heap := #[]
def classes : Array Class := #[k0, k1, k2, k3, k4, k5, k6, k7, k8]
def interned : List (Array UInt16 × Addr) := []
def slotsUsed : Nat := 0
def theMethod : MethodId := ⟨1, 1⟩
def args0 : Array Value := #[.int 5]
def aboutOver (below : List Frame) : State where
  vm := { classes := classes, interned := interned.toArray }
  heap := heap
  slotsUsed := slotsUsed
  threads := #[{ frames := .invoking theMethod args0 :: below }]
def below0 : List Frame := [.native { method := ⟨0, 0⟩, args := #[] }]
def about1 : State := aboutOver below0
def p0 : Program := .bare "" "" ""
def e0 : Env := launch0.env 0 0 0
theorem w_frames : about1.frames = Frame.invoking theMethod args0 :: below0 := rfl
set_option maxRecDepth 65536 in
theorem w_args : argsFit about1.vm theMethod args0 = true := by decide +kernel
set_option maxRecDepth 65536 in
theorem w_heap : heapFits about1 = true := by decide +kernel
set_option maxRecDepth 65536 in
theorem w_runnable : about1.curStatus? = some .runnable := by decide +kernel
set_option maxRecDepth 65536 in
theorem w_alone : about1.alone = true := by decide +kernel
set_option maxRecDepth 65536 in
theorem w_named : about1.methodNamed? x = some theMethod := by decide +kernel
set_option maxRecDepth 65536 in
theorem w_hears : about1.hears theMethod below0 = true := by decide +kernel
set_option maxRecDepth 65536 in
theorem w_ripe : about1.ripe theMethod args0 below0 = true := by decide +kernel
theorem w_running : about1.status = .running := rfl
set_option maxRecDepth 65536 in
theorem w_room : about1.hasRoom e0.platform room_1 = true :=
  launch0.hasRoom_least _ room_1 (by decide +kernel) (by decide +kernel) (by decide +kernel) (by decide +kernel) (by decide +kernel) (by decide +kernel)
theorem allAtoms_all (ts : List Jvm.Cond) (a : Array Jvm.Value) (st : Jvm.State) : (allAtoms ts).before a st = ts.all (fun c => c.before a st) := by
  induction ts with
  | nil => rfl
  | cons c t ih =>
    show (Jvm.Cond.and c (allAtoms t)).before a st = _
    rw [Jvm.Cond.before_and, ih, List.all_cons]
def words1 : List Jvm.Cond := Jvm.Cond.code x code maxLocals ret :: tables_1
/-- a 'code' word, met by the world's own term for the bytes: nothing is compared byte by byte -/
theorem code_word {y : MethodName} {bytes : ByteArray} {mx : Nat} {rt : Option FieldType} {a : Array Value} {s : State} {m : MethodId} {meth : Method} {c : Code} (h1 : s.methodNamed? y = some m) (h2 : s.vm.method? m = some meth) (h3 : meth.code = some c) (h4 : c.code = bytes)
    (h5 : (c.maxLocals == mx && c.exceptionTable.isEmpty && decide (c.maxStack ≤ mostOperands) && decide (meth.sig.returnType = rt) && !meth.locks && decide (parseMethodDescriptor y.desc = some meth.sig)) = true) : (Jvm.Cond.code y bytes mx rt).before a s = true := by
  simp only [Bool.and_eq_true, beq_iff_eq, Bool.not_eq_true', decide_eq_true_eq] at h5
  obtain ⟨⟨⟨⟨⟨g1, g2⟩, g3⟩, g4⟩, g5⟩, g6⟩ := h5
  simp [Cond.before, Cond.holds, Cond.value, h1, h2, h3, h4, g1, g2, g3, g4, g5, g6]
def isCode : Jvm.Cond → Bool
  | .code _ _ _ _ => true
  | _ => false
theorem all_split {L : List Jvm.Cond} {P : Jvm.Cond → Bool} (h1 : L.all (fun c => isCode c || P c) = true) (h2 : ∀ c ∈ L.filter isCode, P c = true) : L.all P = true := by
  refine List.all_eq_true.mpr fun c hc => ?_
  have h := List.all_eq_true.mp h1 c hc
  rcases Bool.eq_false_or_eq_true (isCode c) with hi | hi
  · exact h2 c (List.mem_filter.mpr ⟨hc, hi⟩)
  · simpa [hi] using h
set_option maxRecDepth 65536 in
theorem w_c0 : (Jvm.Cond.code x code maxLocals ret).before args0 about1 = true := code_word (m := ⟨1, 1⟩) (meth := k1m1) (c := k1c1) (by decide +kernel) rfl rfl rfl (by decide +kernel)
set_option maxRecDepth 65536 in
theorem w_c1 : (Jvm.Cond.code ({ cls := "com/example/trawl_tables/trawltables/Router", name := "relationBound", desc := "()I" } : Jvm.MethodName) prog_7_method_3_code (2 : Nat) (Option.some Jvm.ClassFile.FieldType.int)).before args0 about1 = true := code_word (m := ⟨2, 0⟩) (meth := k2m0) (c := k2c0) (by decide +kernel) rfl rfl rfl (by decide +kernel)
set_option maxRecDepth 65536 in
theorem w_c2 : (Jvm.Cond.code ({ cls := "com/example/trawl_tables/trawltables/Router", name := "parameters", desc := "(JI)J" } : Jvm.MethodName) prog_7_method_4_code (9 : Nat) (Option.some Jvm.ClassFile.FieldType.long)).before args0 about1 = true := code_word (m := ⟨2, 1⟩) (meth := k2m1) (c := k2c1) (by decide +kernel) rfl rfl rfl (by decide +kernel)
def codes1 : List Jvm.Cond := [Jvm.Cond.code x code maxLocals ret, Jvm.Cond.code ({ cls := "com/example/trawl_tables/trawltables/Router", name := "relationBound", desc := "()I" } : Jvm.MethodName) prog_7_method_3_code (2 : Nat) (Option.some Jvm.ClassFile.FieldType.int), Jvm.Cond.code ({ cls := "com/example/trawl_tables/trawltables/Router", name := "parameters", desc := "(JI)J" } : Jvm.MethodName) prog_7_method_4_code (9 : Nat) (Option.some Jvm.ClassFile.FieldType.long)]
set_option maxRecDepth 65536 in
theorem codes_eq : words1.filter isCode = codes1 := rfl
theorem w_codes : ∀ c ∈ words1.filter isCode, c.before args0 about1 = true := by
  rw [codes_eq]
  intro c hc
  simp only [codes1, List.mem_cons, List.not_mem_nil, or_false] at hc
  rcases hc with rfl | rfl | rfl
  · exact w_c0
  · exact w_c1
  · exact w_c2
set_option maxRecDepth 65536 in
theorem w_t1 : words1.all (fun c => isCode c || c.before args0 about1) = true := by decide +kernel
theorem w_tables : (allAtoms (Jvm.Cond.code x code maxLocals ret :: tables_1)).before args0 about1 = true := by
  rw [allAtoms_all]
  show words1.all (fun c => c.before args0 about1) = true
  refine all_split ?_ w_codes
  rw [w_t1]
set_option maxRecDepth 65536 in
theorem w_case : (Jvm.Cond.and given_1 narrow_1).before args0 about1 = true := by decide +kernel
theorem w_applies : (headSpec (Jvm.Cond.code x code maxLocals ret :: tables_1) room_1).applies x e0.platform about1 = true :=
  (Spec.applies_iff w_frames).mpr ⟨w_running, w_runnable, w_alone, w_named, w_hears, w_ripe, w_room, w_tables⟩
theorem atStart : AtStart classFile x code maxLocals ret World_1 tables_1 room_1 Calls_1 rest_1 Pre_1 launch0 p0 e0 about1 theMethod args0 below0 :=
  ⟨lists_1, trivial, launch0.admits_env _ _ _, launch0.least_env, fairChoices_fair.cas, fairChoices_fair.clock, w_frames, w_args, w_heap, w_applies, trivial, trivial, w_case⟩
end start1
theorem witness_1 : WitnessClaimed_1 := ⟨start1.p0, start1.e0, start1.about1, start1.theMethod, start1.args0, start1.below0, start1.atStart⟩
end Jvm.Pilot.@@N@@
