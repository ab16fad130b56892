import JvmDerived
import JvmDerived.Pilot.@@N@@Statement
import JvmDerived.Pilot.@@N@@Code
set_option linter.unusedVariables false
set_option linter.unusedSimpArgs false
namespace Jvm.Pilot.@@N@@
open Jvm Jvm.ClassFile Sem Op Lib Jvm.Free Jvm.Stand Jvm.LawKit Jvm.RoadKit Bundle Jvm.Pilot.@@N@@.Jvm.D
section OwnKit
variable {p : Program} {l : Launch} {e : Env} {R : Room} {s : State} {m : MethodId} {args : Array Value} {below : List Frame} {meth : Method} {c : Code} {T : State} {locs : List Loc} {cells slots : Nat} {Z : State} {h : Heap} {a : Addr} {k : ClassId} {z : Int32} {vs : List Value} {dv : Value}
theorem oLen (X : Stand p l e R s m args below meth c T locs cells slots) (hx : p.tables.exec = Jvm.exec) (hZ : Z.Warmed39 s.vm) (eT : T.heap = h) {ty : FieldType} (F : Arv Z h a k ty z vs dv) {pc : Nat} {Ls : Array Slot} {rest : List Value} (hd : decode c.code pc = .ok (.arraylength, 1)) {target : State}
    (hr : Steps p.tables e below (T.setTop (mkF m (pc + 1) Ls (.int z :: rest))) target) : Steps p.tables e below (T.setTop (mkF m pc Ls (.ref a :: rest))) target := by
  obtain ⟨cl, A, -, S, M, -, -⟩ := F
  refine X.arraylength hx (by rw [eT]; exact A.1) (State.isArrayOf_alike hZ.alike A.2.1) (g := mkF m pc Ls (.ref a :: rest)) rfl rfl hd target ?_
  rw [len_of S M]
  exact hr
theorem oLdI (X : Stand p l e R s m args below meth c T locs cells slots) (hx : p.tables.exec = Jvm.exec) (hZ : Z.Warmed39 s.vm) (eT : T.heap = h) (F : Arv Z h a k .int z vs dv) {j : Int32} {v : Value} (hj : ¬ j < 0 ∧ j < z) (hv : vs.getD j.toNatClampNeg dv = v) {pc : Nat} {Ls : Array Slot} {rest : List Value} (hd : decode c.code pc = .ok (.iaload, 1)) {target : State}
    (hr : Steps p.tables e below (T.setTop (mkF m (pc + 1) Ls (v :: rest))) target) : Steps p.tables e below (T.setTop (mkF m pc Ls (.int j :: .ref a :: rest))) target := by
  obtain ⟨cl, A, -, S, -, H, -⟩ := F
  have hin := inb_of S hj
  exact X.iaload hx (by rw [eT]; exact A.1) (State.isArrayOf_alike hZ.alike A.2.1) A.2.2 hin (Has.at H hin hv) (g := mkF m pc Ls (.int j :: .ref a :: rest)) rfl rfl hd target hr
theorem oLdB (X : Stand p l e R s m args below meth c T locs cells slots) (hx : p.tables.exec = Jvm.exec) (hZ : Z.Warmed39 s.vm) (eT : T.heap = h) (F : Arv Z h a k .byte z vs dv) {j : Int32} {v : Value} (hj : ¬ j < 0 ∧ j < z) (hv : vs.getD j.toNatClampNeg dv = v) {pc : Nat} {Ls : Array Slot} {rest : List Value} (hd : decode c.code pc = .ok (.baload, 1)) {target : State}
    (hr : Steps p.tables e below (T.setTop (mkF m (pc + 1) Ls (v :: rest))) target) : Steps p.tables e below (T.setTop (mkF m pc Ls (.int j :: .ref a :: rest))) target := by
  obtain ⟨cl, A, -, S, -, H, -⟩ := F
  have hin := inb_of S hj
  exact X.baloadBytes hx (by rw [eT]; exact A.1) (State.isArrayOf_alike hZ.alike A.2.1) A.2.2 hin (Has.at H hin hv) (g := mkF m pc Ls (.int j :: .ref a :: rest)) rfl rfl hd target hr
theorem oLdJ (X : Stand p l e R s m args below meth c T locs cells slots) (hx : p.tables.exec = Jvm.exec) (hZ : Z.Warmed39 s.vm) (eT : T.heap = h) (F : Arv Z h a k .long z vs dv) {j : Int32} {v : Value} (hj : ¬ j < 0 ∧ j < z) (hv : vs.getD j.toNatClampNeg dv = v) {pc : Nat} {Ls : Array Slot} {rest : List Value} (hd : decode c.code pc = .ok (.laload, 1)) {target : State}
    (hr : Steps p.tables e below (T.setTop (mkF m (pc + 1) Ls (v :: rest))) target) : Steps p.tables e below (T.setTop (mkF m pc Ls (.int j :: .ref a :: rest))) target := by
  obtain ⟨cl, A, -, S, -, H, -⟩ := F
  have hin := inb_of S hj
  exact X.laload hx (by rw [eT]; exact A.1) (State.isArrayOf_alike hZ.alike A.2.1) A.2.2 hin (Has.at H hin hv) (g := mkF m pc Ls (.int j :: .ref a :: rest)) rfl rfl hd target hr
theorem oLdD (X : Stand p l e R s m args below meth c T locs cells slots) (hx : p.tables.exec = Jvm.exec) (hZ : Z.Warmed39 s.vm) (eT : T.heap = h) (F : Arv Z h a k .double z vs dv) {j : Int32} {v : Value} (hj : ¬ j < 0 ∧ j < z) (hv : vs.getD j.toNatClampNeg dv = v) {pc : Nat} {Ls : Array Slot} {rest : List Value} (hd : decode c.code pc = .ok (.daload, 1)) {target : State}
    (hr : Steps p.tables e below (T.setTop (mkF m (pc + 1) Ls (v :: rest))) target) : Steps p.tables e below (T.setTop (mkF m pc Ls (.int j :: .ref a :: rest))) target := by
  obtain ⟨cl, A, -, S, -, H, -⟩ := F
  have hin := inb_of S hj
  exact X.daload hx (by rw [eT]; exact A.1) (State.isArrayOf_alike hZ.alike A.2.1) A.2.2 hin (Has.at H hin hv) (g := mkF m pc Ls (.int j :: .ref a :: rest)) rfl rfl hd target hr
theorem oStI (X : Stand p l e R s m args below meth c T locs cells slots) (hx : p.tables.exec = Jvm.exec) (hZ : Z.Warmed39 s.vm) (eT : T.heap = h) (F : Arv Z h a k .int z vs dv) {j : Int32} {x : Int32} (hj : ¬ j < 0 ∧ j < z) (i : Nat) (hi : j.toNatClampNeg = i) (hl : i < vs.length) {g : JFrame} (hg : g.method = m) {rest : List Value} (hs : g.stack = .int x :: .int j :: .ref a :: rest) (hd : decode c.code g.pc = .ok (.iastore, 1)) :
    ∃ T' h', Stand p l e R s m args below meth c T' (locs ++ [⟨a, j.toNatClampNeg⟩]) cells slots ∧ T'.heap = h' ∧ Wr h h' a j.toNatClampNeg (.int x) ∧ Arv Z h' a k .int z (vs.set i (.int x)) dv ∧ ∀ target, Steps p.tables e below (T'.setTop { g with pc := g.pc + 1, stack := rest }) target → Steps p.tables e below (T.setTop g) target := by
  obtain ⟨cl, A, q1, S, M, H, G⟩ := F
  obtain ⟨T', h', X', e', W, st⟩ := stI X hx hZ eT A (j := j) (inb_of S hj) hg hs hd
  exact ⟨T', h', X', e', W, Arv.set A q1 S M H G rfl W i hi hl, st⟩
theorem oStB (X : Stand p l e R s m args below meth c T locs cells slots) (hx : p.tables.exec = Jvm.exec) (hZ : Z.Warmed39 s.vm) (eT : T.heap = h) (F : Arv Z h a k .byte z vs dv) {j : Int32} {x : Int32} (hj : ¬ j < 0 ∧ j < z) (i : Nat) (hi : j.toNatClampNeg = i) (hl : i < vs.length) {g : JFrame} (hg : g.method = m) {rest : List Value} (hs : g.stack = .int x :: .int j :: .ref a :: rest) (hd : decode c.code g.pc = .ok (.bastore, 1)) :
    ∃ T' h', Stand p l e R s m args below meth c T' (locs ++ [⟨a, j.toNatClampNeg⟩]) cells slots ∧ T'.heap = h' ∧ Wr h h' a j.toNatClampNeg (.int (nar .byte x)) ∧ Arv Z h' a k .byte z (vs.set i (.int (nar .byte x))) dv ∧ ∀ target, Steps p.tables e below (T'.setTop { g with pc := g.pc + 1, stack := rest }) target → Steps p.tables e below (T.setTop g) target := by
  obtain ⟨cl, A, q1, S, M, H, G⟩ := F
  obtain ⟨T', h', X', e', W, st⟩ := stB X hx hZ eT A (j := j) (inb_of S hj) hg hs hd
  exact ⟨T', h', X', e', W, Arv.set A q1 S M H G (fits_nar_byte x) W i hi hl, st⟩
theorem oStJ (X : Stand p l e R s m args below meth c T locs cells slots) (hx : p.tables.exec = Jvm.exec) (hZ : Z.Warmed39 s.vm) (eT : T.heap = h) (F : Arv Z h a k .long z vs dv) {j : Int32} {x : Int64} (hj : ¬ j < 0 ∧ j < z) (i : Nat) (hi : j.toNatClampNeg = i) (hl : i < vs.length) {g : JFrame} (hg : g.method = m) {rest : List Value} (hs : g.stack = .long x :: .int j :: .ref a :: rest) (hd : decode c.code g.pc = .ok (.lastore, 1)) :
    ∃ T' h', Stand p l e R s m args below meth c T' (locs ++ [⟨a, j.toNatClampNeg⟩]) cells slots ∧ T'.heap = h' ∧ Wr h h' a j.toNatClampNeg (.long x) ∧ Arv Z h' a k .long z (vs.set i (.long x)) dv ∧ ∀ target, Steps p.tables e below (T'.setTop { g with pc := g.pc + 1, stack := rest }) target → Steps p.tables e below (T.setTop g) target := by
  obtain ⟨cl, A, q1, S, M, H, G⟩ := F
  obtain ⟨T', h', X', e', W, st⟩ := stJ X hx hZ eT A (j := j) (inb_of S hj) hg hs hd
  exact ⟨T', h', X', e', W, Arv.set A q1 S M H G rfl W i hi hl, st⟩
theorem oStD (X : Stand p l e R s m args below meth c T locs cells slots) (hx : p.tables.exec = Jvm.exec) (hZ : Z.Warmed39 s.vm) (eT : T.heap = h) (F : Arv Z h a k .double z vs dv) {j : Int32} {x : UInt64} (hj : ¬ j < 0 ∧ j < z) (i : Nat) (hi : j.toNatClampNeg = i) (hl : i < vs.length) {g : JFrame} (hg : g.method = m) {rest : List Value} (hs : g.stack = .double x :: .int j :: .ref a :: rest) (hd : decode c.code g.pc = .ok (.dastore, 1)) :
    ∃ T' h', Stand p l e R s m args below meth c T' (locs ++ [⟨a, j.toNatClampNeg⟩]) cells slots ∧ T'.heap = h' ∧ Wr h h' a j.toNatClampNeg (.double x) ∧ Arv Z h' a k .double z (vs.set i (.double x)) dv ∧ ∀ target, Steps p.tables e below (T'.setTop { g with pc := g.pc + 1, stack := rest }) target → Steps p.tables e below (T.setTop g) target := by
  obtain ⟨cl, A, q1, S, M, H, G⟩ := F
  obtain ⟨T', h', X', e', W, st⟩ := stD X hx hZ eT A (j := j) (inb_of S hj) hg hs hd
  exact ⟨T', h', X', e', W, Arv.set A q1 S M H G rfl W i hi hl, st⟩
theorem oOpq {n0 : Nat} (X : Stand p l e R s m args below meth c T locs cells slots) (N : Fr n0 locs) : ∃ L, Stand p l e R s m args below meth c T L cells slots ∧ Fr n0 L := ⟨_, X, N⟩
end OwnKit
abbrev oi (x : Int32) : Slot := .val (.int x)
abbrev oj (x : Int64) : Slot := .val (.long x)
abbrev oa (x : Addr) : Slot := .val (.ref x)
abbrev od (x : UInt64) : Slot := .val (.double x)
abbrev oS (p : Program) (e : Env) (below : List Frame) (T : State) (m : MethodId) (pc : Nat) (L : Array Slot) (S : List Value) (t : State) : Prop := Steps p.tables e below (T.setTop (mkF m pc L S)) t
theorem own_ltp (x k : Int32) : (x < k) = (x.toInt < k.toInt) := propext Int32.lt_iff_toInt_lt
theorem own_eqp (x k : Int32) : (x = k) = (x.toInt = k.toInt) := propext Int32.toInt_inj.symm
theorem own_ltpL (x k : Int64) : (x < k) = (x.toInt < k.toInt) := propext Int64.lt_iff_toInt_lt
theorem own_eqpL (x k : Int64) : (x = k) = (x.toInt = k.toInt) := propext Int64.toInt_inj.symm
theorem own_of_range {P : Int32 → Prop} (n : Nat) (h : ∀ i : Fin n, P (Int32.ofNat i.1)) (x : Int32) (h0 : 0 ≤ x.toInt) (h1 : x.toInt < (n : Int)) : P x := by
  have e : Int32.ofNat x.toInt.toNat = x := by
    rw [← Int32.ofInt_eq_ofNat, Int.toNat_of_nonneg h0, Int32.ofInt_toInt]
  have q := h ⟨x.toInt.toNat, by omega⟩
  rwa [e] at q
theorem own_getD (ws : List Int32) (n : Nat) : (ws.map Value.int).getD n (.int (0 : Int32)) = .int (ws.getD n 0) := by
  simp only [List.getD_eq_getElem?_getD, List.getElem?_map]
  cases ws[n]? <;> rfl

theorem own_pn0 : plainName "com/example/muster/muster/model/Text" = true := by first | (simp [plainName, overriddenIn]; done) | decide +kernel
theorem own_d2_0 : decode prog_45_method_2_code 0 = .ok (.iload_n 0, 1) := by decide +kernel
theorem own_d2_1 : decode prog_45_method_2_code 1 = .ok (.bipush 9, 2) := by decide +kernel
theorem own_d2_3 : decode prog_45_method_2_code 3 = .ok (.if_icmp .eq 51, 3) := by decide +kernel
theorem own_d2_6 : decode prog_45_method_2_code 6 = .ok (.iload_n 0, 1) := by decide +kernel
theorem own_d2_7 : decode prog_45_method_2_code 7 = .ok (.bipush 10, 2) := by decide +kernel
theorem own_d2_9 : decode prog_45_method_2_code 9 = .ok (.if_icmp .eq 45, 3) := by decide +kernel
theorem own_d2_12 : decode prog_45_method_2_code 12 = .ok (.iload_n 0, 1) := by decide +kernel
theorem own_d2_13 : decode prog_45_method_2_code 13 = .ok (.bipush 13, 2) := by decide +kernel
theorem own_d2_15 : decode prog_45_method_2_code 15 = .ok (.if_icmp .eq 39, 3) := by decide +kernel
theorem own_d2_18 : decode prog_45_method_2_code 18 = .ok (.iload_n 0, 1) := by decide +kernel
theorem own_d2_19 : decode prog_45_method_2_code 19 = .ok (.bipush 32, 2) := by decide +kernel
theorem own_d2_21 : decode prog_45_method_2_code 21 = .ok (.if_icmp .lt 9, 3) := by decide +kernel
theorem own_d2_24 : decode prog_45_method_2_code 24 = .ok (.iload_n 0, 1) := by decide +kernel
theorem own_d2_25 : decode prog_45_method_2_code 25 = .ok (.ldc 7, 2) := by decide +kernel
theorem own_d2_27 : decode prog_45_method_2_code 27 = .ok (.if_icmp .le 27, 3) := by decide +kernel
theorem own_d2_30 : decode prog_45_method_2_code 30 = .ok (.iload_n 0, 1) := by decide +kernel
theorem own_d2_31 : decode prog_45_method_2_code 31 = .ok (.ldc 8, 2) := by decide +kernel
theorem own_d2_33 : decode prog_45_method_2_code 33 = .ok (.if_icmp .lt 9, 3) := by decide +kernel
theorem own_d2_36 : decode prog_45_method_2_code 36 = .ok (.iload_n 0, 1) := by decide +kernel
theorem own_d2_37 : decode prog_45_method_2_code 37 = .ok (.ldc 9, 2) := by decide +kernel
theorem own_d2_39 : decode prog_45_method_2_code 39 = .ok (.if_icmp .le 15, 3) := by decide +kernel
theorem own_d2_42 : decode prog_45_method_2_code 42 = .ok (.iload_n 0, 1) := by decide +kernel
theorem own_d2_43 : decode prog_45_method_2_code 43 = .ok (.ldc 10, 2) := by decide +kernel
theorem own_d2_45 : decode prog_45_method_2_code 45 = .ok (.if_icmp .lt 13, 3) := by decide +kernel
theorem own_d2_48 : decode prog_45_method_2_code 48 = .ok (.iload_n 0, 1) := by decide +kernel
theorem own_d2_49 : decode prog_45_method_2_code 49 = .ok (.ldc 11, 2) := by decide +kernel
theorem own_d2_51 : decode prog_45_method_2_code 51 = .ok (.if_icmp .gt 7, 3) := by decide +kernel
theorem own_d2_54 : decode prog_45_method_2_code 54 = .ok (.iconst 1, 1) := by decide +kernel
theorem own_d2_55 : decode prog_45_method_2_code 55 = .ok (.goto 4, 3) := by decide +kernel
theorem own_d2_58 : decode prog_45_method_2_code 58 = .ok (.iconst 0, 1) := by decide +kernel
theorem own_d2_59 : decode prog_45_method_2_code 59 = .ok (.ireturn, 1) := by decide +kernel
theorem own_ef2 (m : MethodId) (p0 : Int32) : entryFrame m #[(.int p0)] 1 = mkF m 0 #[oi p0] [] := by first | (simp [entryFrame, mkF, argsToLocals, Value.category]; done) | rfl
def own_f2 (p0 : Int32) : Int32 := (if p0 = (9 : Int32) then (1 : Int32) else (if p0 = (10 : Int32) then (1 : Int32) else (if p0 = (13 : Int32) then (1 : Int32) else (if p0 < (32 : Int32) then (if p0 < (57344 : Int32) then (if p0 < (65536 : Int32) then (0 : Int32) else (if (1114111 : Int32) < p0 then (0 : Int32) else (1 : Int32))) else (if (65533 : Int32) < p0 then (if p0 < (65536 : Int32) then (0 : Int32) else (if (1114111 : Int32) < p0 then (0 : Int32) else (1 : Int32))) else (1 : Int32))) else (if (55295 : Int32) < p0 then (if p0 < (57344 : Int32) then (if p0 < (65536 : Int32) then (0 : Int32) else (if (1114111 : Int32) < p0 then (0 : Int32) else (1 : Int32))) else (if (65533 : Int32) < p0 then (if p0 < (65536 : Int32) then (0 : Int32) else (if (1114111 : Int32) < p0 then (0 : Int32) else (1 : Int32))) else (1 : Int32))) else (1 : Int32))))))
def own_Q2 (Z : State) (p0 : Int32) (h0 : Heap) (n0 : Nat) (v : Option Value) (h : Heap) (L : List Loc) : Prop := v = some (Value.int (own_f2 p0)) ∧ Fr n0 L ∧ h = h0
set_option maxRecDepth 65536 in
set_option maxHeartbeats 40000000 in
theorem own_rm2 (l : Launch) (Z : State) (av : Array Value) (hw : ∀ d ∈ tables_1, d.before av Z = true) (ws : List Jvm.Cond) (p0 : Int32) (h0 : Heap) (n0 : Nat) (Z0 : n0 ≤ h0.size) :
    MetFree l (⟨"com/example/muster/muster/model/Text", "isXmlChar", "(I)Z"⟩ : MethodName) (head1 (Jvm.Cond.code (⟨"com/example/muster/muster/model/Text", "isXmlChar", "(I)Z"⟩ : MethodName) prog_45_method_2_code 1 (some .boolean) :: ws) ({ frames := 0, cells := 0, slots := 0, locals := 0 } : Room)) (fun a U => a = #[(.int p0)] ∧ Z.Warmed39 U.vm ∧ U.heap = h0) (fun _ _ _ _ _ => True) (fun _ U o U' => ∃ v L, o = .returned v ∧ own_Q2 Z p0 h0 n0 v U'.heap L ∧ FrameEnd U o U' L ({ frames := 0, cells := 0, slots := 0, locals := 0 } : Room).cells ({ frames := 0, cells := 0, slots := 0, locals := 0 } : Room).slots) := by
  refine MetFree.of_bodySF (plainFor_of_name own_pn0) hisR ?_
  intro p e s m args below meth c s₁ Bd hml0 hP hK
  obtain ⟨rfl, hZ, hh⟩ := hP
  have hx := Bd.exec
  have hby := Bd.bytes
  have hml : c.maxLocals = 1 := hml0
  have hown : s.vm.findClass "com/example/muster/muster/model/Text" = some m.cls := findClass_of_methodNamed Bd.named
  have hnm := (name_of_methodNamed Bd.named Bd.method).1
  have X0 : Stand p l e ({ frames := 0, cells := 0, slots := 0, locals := 0 } : Room) s m #[(.int p0)] below meth c s₁ [] 0 0 := Stand.of_body Bd
  have e0 : s₁.heap = h0 := by rw [← hh, Bd.state]; rfl
  have N0 := Fr.nil n0
  have pre0 : ∀ t, Steps p.tables e below (s₁.setTop (mkF m 0 #[oi p0] [])) t → Steps p.tables e below (s₁.setTop (entryFrame m #[(.int p0)] 1)) t := fun t k => castTop (own_ef2 m p0) k
  have pre1 : ∀ t, Steps p.tables e below (s₁.setTop (mkF m 3 #[oi p0] [(.int (9 : Int32)), (.int p0)])) t → Steps p.tables e below (s₁.setTop (entryFrame m #[(.int p0)] 1)) t := by
    intro t k
    refine pre0 t ?_
    show oS p e below s₁ m 0 #[oi p0] [] _
    refine XS.iloadN X0.here hx rfl (hb hby own_d2_0) rfl ?_
    show oS p e below s₁ m 1 #[oi p0] [(.int p0)] _
    refine XS.bipush X0.here hx rfl (hb hby own_d2_1) ?_
    exact k
  by_cases c2 : p0 = (9 : Int32)
  · skip
    obtain ⟨fs, hr, hrun, hended, hW, hsame⟩ := X0.leave (v := (some (.int (1 : Int32)))) (fun h => by rw [Bd.returns] at h; cases h)
    refine ⟨_, _, pre1 _ ?_, hrun, hended, _, _, rfl, ?_, ⟨_, rfl⟩, hW, hsame.mono (by decide) (by decide)⟩
    · show oS p e below s₁ m 3 #[oi p0] [(.int (9 : Int32)), (.int p0)] _
      refine XS.icmpYes X0.here hx rfl (pc0 := 3) (pc' := 54) rfl (hb hby own_d2_3) rfl (teq c2).1 (by decide) (by decide) ?_
      show oS p e below s₁ m 54 #[oi p0] [] _
      refine XS.iconst X0.here hx rfl (hb hby own_d2_54) ?_
      show oS p e below s₁ m 55 #[oi p0] [(.int (1 : Int32))] _
      refine XS.goto X0.here hx rfl (pc0 := 55) (pc' := 59) rfl (hb hby own_d2_55) (by decide) (by decide) ?_
      show oS p e below s₁ m 59 #[oi p0] [(.int (1 : Int32))] _
      exact retN X0 hx (t := .boolean) Bd.returns (by simp) (hb hby own_d2_59) hr
    · show own_Q2 Z p0 h0 n0 _ s₁.heap _
      rw [e0]
      exact ⟨congrArg (fun z => some (Value.int z)) (by rw [own_f2, if_pos c2]), N0, rfl⟩
  · skip
    have pre3 : ∀ t, Steps p.tables e below (s₁.setTop (mkF m 9 #[oi p0] [(.int (10 : Int32)), (.int p0)])) t → Steps p.tables e below (s₁.setTop (entryFrame m #[(.int p0)] 1)) t := by
      intro t k
      refine pre1 t ?_
      show oS p e below s₁ m 3 #[oi p0] [(.int (9 : Int32)), (.int p0)] _
      refine XS.icmpNo X0.here hx rfl (hb hby own_d2_3) rfl (feq c2).1 ?_
      show oS p e below s₁ m 6 #[oi p0] [] _
      refine XS.iloadN X0.here hx rfl (hb hby own_d2_6) rfl ?_
      show oS p e below s₁ m 7 #[oi p0] [(.int p0)] _
      refine XS.bipush X0.here hx rfl (hb hby own_d2_7) ?_
      exact k
    by_cases c4 : p0 = (10 : Int32)
    · skip
      obtain ⟨fs, hr, hrun, hended, hW, hsame⟩ := X0.leave (v := (some (.int (1 : Int32)))) (fun h => by rw [Bd.returns] at h; cases h)
      refine ⟨_, _, pre3 _ ?_, hrun, hended, _, _, rfl, ?_, ⟨_, rfl⟩, hW, hsame.mono (by decide) (by decide)⟩
      · show oS p e below s₁ m 9 #[oi p0] [(.int (10 : Int32)), (.int p0)] _
        refine XS.icmpYes X0.here hx rfl (pc0 := 9) (pc' := 54) rfl (hb hby own_d2_9) rfl (teq c4).1 (by decide) (by decide) ?_
        show oS p e below s₁ m 54 #[oi p0] [] _
        refine XS.iconst X0.here hx rfl (hb hby own_d2_54) ?_
        show oS p e below s₁ m 55 #[oi p0] [(.int (1 : Int32))] _
        refine XS.goto X0.here hx rfl (pc0 := 55) (pc' := 59) rfl (hb hby own_d2_55) (by decide) (by decide) ?_
        show oS p e below s₁ m 59 #[oi p0] [(.int (1 : Int32))] _
        exact retN X0 hx (t := .boolean) Bd.returns (by simp) (hb hby own_d2_59) hr
      · show own_Q2 Z p0 h0 n0 _ s₁.heap _
        rw [e0]
        exact ⟨congrArg (fun z => some (Value.int z)) (by rw [own_f2, if_neg c2, if_pos c4]), N0, rfl⟩
    · skip
      have pre5 : ∀ t, Steps p.tables e below (s₁.setTop (mkF m 15 #[oi p0] [(.int (13 : Int32)), (.int p0)])) t → Steps p.tables e below (s₁.setTop (entryFrame m #[(.int p0)] 1)) t := by
        intro t k
        refine pre3 t ?_
        show oS p e below s₁ m 9 #[oi p0] [(.int (10 : Int32)), (.int p0)] _
        refine XS.icmpNo X0.here hx rfl (hb hby own_d2_9) rfl (feq c4).1 ?_
        show oS p e below s₁ m 12 #[oi p0] [] _
        refine XS.iloadN X0.here hx rfl (hb hby own_d2_12) rfl ?_
        show oS p e below s₁ m 13 #[oi p0] [(.int p0)] _
        refine XS.bipush X0.here hx rfl (hb hby own_d2_13) ?_
        exact k
      by_cases c6 : p0 = (13 : Int32)
      · skip
        obtain ⟨fs, hr, hrun, hended, hW, hsame⟩ := X0.leave (v := (some (.int (1 : Int32)))) (fun h => by rw [Bd.returns] at h; cases h)
        refine ⟨_, _, pre5 _ ?_, hrun, hended, _, _, rfl, ?_, ⟨_, rfl⟩, hW, hsame.mono (by decide) (by decide)⟩
        · show oS p e below s₁ m 15 #[oi p0] [(.int (13 : Int32)), (.int p0)] _
          refine XS.icmpYes X0.here hx rfl (pc0 := 15) (pc' := 54) rfl (hb hby own_d2_15) rfl (teq c6).1 (by decide) (by decide) ?_
          show oS p e below s₁ m 54 #[oi p0] [] _
          refine XS.iconst X0.here hx rfl (hb hby own_d2_54) ?_
          show oS p e below s₁ m 55 #[oi p0] [(.int (1 : Int32))] _
          refine XS.goto X0.here hx rfl (pc0 := 55) (pc' := 59) rfl (hb hby own_d2_55) (by decide) (by decide) ?_
          show oS p e below s₁ m 59 #[oi p0] [(.int (1 : Int32))] _
          exact retN X0 hx (t := .boolean) Bd.returns (by simp) (hb hby own_d2_59) hr
        · show own_Q2 Z p0 h0 n0 _ s₁.heap _
          rw [e0]
          exact ⟨congrArg (fun z => some (Value.int z)) (by rw [own_f2, if_neg c2, if_neg c4, if_pos c6]), N0, rfl⟩
      · skip
        have pre7 : ∀ t, Steps p.tables e below (s₁.setTop (mkF m 21 #[oi p0] [(.int (32 : Int32)), (.int p0)])) t → Steps p.tables e below (s₁.setTop (entryFrame m #[(.int p0)] 1)) t := by
          intro t k
          refine pre5 t ?_
          show oS p e below s₁ m 15 #[oi p0] [(.int (13 : Int32)), (.int p0)] _
          refine XS.icmpNo X0.here hx rfl (hb hby own_d2_15) rfl (feq c6).1 ?_
          show oS p e below s₁ m 18 #[oi p0] [] _
          refine XS.iloadN X0.here hx rfl (hb hby own_d2_18) rfl ?_
          show oS p e below s₁ m 19 #[oi p0] [(.int p0)] _
          refine XS.bipush X0.here hx rfl (hb hby own_d2_19) ?_
          exact k
        by_cases c8 : p0 < (32 : Int32)
        · skip
          have pre9 : ∀ t, Steps p.tables e below (s₁.setTop (mkF m 33 #[oi p0] [(.int (57344 : Int32)), (.int p0)])) t → Steps p.tables e below (s₁.setTop (entryFrame m #[(.int p0)] 1)) t := by
            intro t k
            refine pre7 t ?_
            show oS p e below s₁ m 21 #[oi p0] [(.int (32 : Int32)), (.int p0)] _
            refine XS.icmpYes X0.here hx rfl (pc0 := 21) (pc' := 30) rfl (hb hby own_d2_21) rfl (tlt c8).1 (by decide) (by decide) ?_
            show oS p e below s₁ m 30 #[oi p0] [] _
            refine XS.iloadN X0.here hx rfl (hb hby own_d2_30) rfl ?_
            show oS p e below s₁ m 31 #[oi p0] [(.int p0)] _
            refine X0.ldcInt hx hown (mvT hZ (hw _ (List.mem_of_getElem? (i := 19) rfl))) (g := (mkF m 31 #[oi p0] [(.int p0)])) rfl (hb hby own_d2_31) _ ?_
            exact k
          by_cases c10 : p0 < (57344 : Int32)
          · skip
            have pre11 : ∀ t, Steps p.tables e below (s₁.setTop (mkF m 45 #[oi p0] [(.int (65536 : Int32)), (.int p0)])) t → Steps p.tables e below (s₁.setTop (entryFrame m #[(.int p0)] 1)) t := by
              intro t k
              refine pre9 t ?_
              show oS p e below s₁ m 33 #[oi p0] [(.int (57344 : Int32)), (.int p0)] _
              refine XS.icmpYes X0.here hx rfl (pc0 := 33) (pc' := 42) rfl (hb hby own_d2_33) rfl (tlt c10).1 (by decide) (by decide) ?_
              show oS p e below s₁ m 42 #[oi p0] [] _
              refine XS.iloadN X0.here hx rfl (hb hby own_d2_42) rfl ?_
              show oS p e below s₁ m 43 #[oi p0] [(.int p0)] _
              refine X0.ldcInt hx hown (mvT hZ (hw _ (List.mem_of_getElem? (i := 20) rfl))) (g := (mkF m 43 #[oi p0] [(.int p0)])) rfl (hb hby own_d2_43) _ ?_
              exact k
            by_cases c12 : p0 < (65536 : Int32)
            · skip
              obtain ⟨fs, hr, hrun, hended, hW, hsame⟩ := X0.leave (v := (some (.int (0 : Int32)))) (fun h => by rw [Bd.returns] at h; cases h)
              refine ⟨_, _, pre11 _ ?_, hrun, hended, _, _, rfl, ?_, ⟨_, rfl⟩, hW, hsame.mono (by decide) (by decide)⟩
              · show oS p e below s₁ m 45 #[oi p0] [(.int (65536 : Int32)), (.int p0)] _
                refine XS.icmpYes X0.here hx rfl (pc0 := 45) (pc' := 58) rfl (hb hby own_d2_45) rfl (tlt c12).1 (by decide) (by decide) ?_
                show oS p e below s₁ m 58 #[oi p0] [] _
                refine XS.iconst X0.here hx rfl (hb hby own_d2_58) ?_
                show oS p e below s₁ m 59 #[oi p0] [(.int (0 : Int32))] _
                exact retN X0 hx (t := .boolean) Bd.returns (by simp) (hb hby own_d2_59) hr
              · show own_Q2 Z p0 h0 n0 _ s₁.heap _
                rw [e0]
                exact ⟨congrArg (fun z => some (Value.int z)) (by rw [own_f2, if_neg c2, if_neg c4, if_neg c6, if_pos c8, if_pos c10, if_pos c12]), N0, rfl⟩
            · skip
              have pre13 : ∀ t, Steps p.tables e below (s₁.setTop (mkF m 51 #[oi p0] [(.int (1114111 : Int32)), (.int p0)])) t → Steps p.tables e below (s₁.setTop (entryFrame m #[(.int p0)] 1)) t := by
                intro t k
                refine pre11 t ?_
                show oS p e below s₁ m 45 #[oi p0] [(.int (65536 : Int32)), (.int p0)] _
                refine XS.icmpNo X0.here hx rfl (hb hby own_d2_45) rfl (flt c12).1 ?_
                show oS p e below s₁ m 48 #[oi p0] [] _
                refine XS.iloadN X0.here hx rfl (hb hby own_d2_48) rfl ?_
                show oS p e below s₁ m 49 #[oi p0] [(.int p0)] _
                refine X0.ldcInt hx hown (mvT hZ (hw _ (List.mem_of_getElem? (i := 27) rfl))) (g := (mkF m 49 #[oi p0] [(.int p0)])) rfl (hb hby own_d2_49) _ ?_
                exact k
              by_cases c14 : (1114111 : Int32) < p0
              · skip
                obtain ⟨fs, hr, hrun, hended, hW, hsame⟩ := X0.leave (v := (some (.int (0 : Int32)))) (fun h => by rw [Bd.returns] at h; cases h)
                refine ⟨_, _, pre13 _ ?_, hrun, hended, _, _, rfl, ?_, ⟨_, rfl⟩, hW, hsame.mono (by decide) (by decide)⟩
                · show oS p e below s₁ m 51 #[oi p0] [(.int (1114111 : Int32)), (.int p0)] _
                  refine XS.icmpYes X0.here hx rfl (pc0 := 51) (pc' := 58) rfl (hb hby own_d2_51) rfl (tlt c14).2.2.1 (by decide) (by decide) ?_
                  show oS p e below s₁ m 58 #[oi p0] [] _
                  refine XS.iconst X0.here hx rfl (hb hby own_d2_58) ?_
                  show oS p e below s₁ m 59 #[oi p0] [(.int (0 : Int32))] _
                  exact retN X0 hx (t := .boolean) Bd.returns (by simp) (hb hby own_d2_59) hr
                · show own_Q2 Z p0 h0 n0 _ s₁.heap _
                  rw [e0]
                  exact ⟨congrArg (fun z => some (Value.int z)) (by rw [own_f2, if_neg c2, if_neg c4, if_neg c6, if_pos c8, if_pos c10, if_neg c12, if_pos c14]), N0, rfl⟩
              · skip
                obtain ⟨fs, hr, hrun, hended, hW, hsame⟩ := X0.leave (v := (some (.int (1 : Int32)))) (fun h => by rw [Bd.returns] at h; cases h)
                refine ⟨_, _, pre13 _ ?_, hrun, hended, _, _, rfl, ?_, ⟨_, rfl⟩, hW, hsame.mono (by decide) (by decide)⟩
                · show oS p e below s₁ m 51 #[oi p0] [(.int (1114111 : Int32)), (.int p0)] _
                  refine XS.icmpNo X0.here hx rfl (hb hby own_d2_51) rfl (flt c14).2.2.1 ?_
                  show oS p e below s₁ m 54 #[oi p0] [] _
                  refine XS.iconst X0.here hx rfl (hb hby own_d2_54) ?_
                  show oS p e below s₁ m 55 #[oi p0] [(.int (1 : Int32))] _
                  refine XS.goto X0.here hx rfl (pc0 := 55) (pc' := 59) rfl (hb hby own_d2_55) (by decide) (by decide) ?_
                  show oS p e below s₁ m 59 #[oi p0] [(.int (1 : Int32))] _
                  exact retN X0 hx (t := .boolean) Bd.returns (by simp) (hb hby own_d2_59) hr
                · show own_Q2 Z p0 h0 n0 _ s₁.heap _
                  rw [e0]
                  exact ⟨congrArg (fun z => some (Value.int z)) (by rw [own_f2, if_neg c2, if_neg c4, if_neg c6, if_pos c8, if_pos c10, if_neg c12, if_neg c14]), N0, rfl⟩
          · skip
            have pre15 : ∀ t, Steps p.tables e below (s₁.setTop (mkF m 39 #[oi p0] [(.int (65533 : Int32)), (.int p0)])) t → Steps p.tables e below (s₁.setTop (entryFrame m #[(.int p0)] 1)) t := by
              intro t k
              refine pre9 t ?_
              show oS p e below s₁ m 33 #[oi p0] [(.int (57344 : Int32)), (.int p0)] _
              refine XS.icmpNo X0.here hx rfl (hb hby own_d2_33) rfl (flt c10).1 ?_
              show oS p e below s₁ m 36 #[oi p0] [] _
              refine XS.iloadN X0.here hx rfl (hb hby own_d2_36) rfl ?_
              show oS p e below s₁ m 37 #[oi p0] [(.int p0)] _
              refine X0.ldcInt hx hown (mvT hZ (hw _ (List.mem_of_getElem? (i := 26) rfl))) (g := (mkF m 37 #[oi p0] [(.int p0)])) rfl (hb hby own_d2_37) _ ?_
              exact k
            by_cases c16 : (65533 : Int32) < p0
            · skip
              have pre17 : ∀ t, Steps p.tables e below (s₁.setTop (mkF m 45 #[oi p0] [(.int (65536 : Int32)), (.int p0)])) t → Steps p.tables e below (s₁.setTop (entryFrame m #[(.int p0)] 1)) t := by
                intro t k
                refine pre15 t ?_
                show oS p e below s₁ m 39 #[oi p0] [(.int (65533 : Int32)), (.int p0)] _
                refine XS.icmpNo X0.here hx rfl (hb hby own_d2_39) rfl (tlt c16).2.2.2 ?_
                show oS p e below s₁ m 42 #[oi p0] [] _
                refine XS.iloadN X0.here hx rfl (hb hby own_d2_42) rfl ?_
                show oS p e below s₁ m 43 #[oi p0] [(.int p0)] _
                refine X0.ldcInt hx hown (mvT hZ (hw _ (List.mem_of_getElem? (i := 20) rfl))) (g := (mkF m 43 #[oi p0] [(.int p0)])) rfl (hb hby own_d2_43) _ ?_
                exact k
              by_cases c18 : p0 < (65536 : Int32)
              · skip
                obtain ⟨fs, hr, hrun, hended, hW, hsame⟩ := X0.leave (v := (some (.int (0 : Int32)))) (fun h => by rw [Bd.returns] at h; cases h)
                refine ⟨_, _, pre17 _ ?_, hrun, hended, _, _, rfl, ?_, ⟨_, rfl⟩, hW, hsame.mono (by decide) (by decide)⟩
                · show oS p e below s₁ m 45 #[oi p0] [(.int (65536 : Int32)), (.int p0)] _
                  refine XS.icmpYes X0.here hx rfl (pc0 := 45) (pc' := 58) rfl (hb hby own_d2_45) rfl (tlt c18).1 (by decide) (by decide) ?_
                  show oS p e below s₁ m 58 #[oi p0] [] _
                  refine XS.iconst X0.here hx rfl (hb hby own_d2_58) ?_
                  show oS p e below s₁ m 59 #[oi p0] [(.int (0 : Int32))] _
                  exact retN X0 hx (t := .boolean) Bd.returns (by simp) (hb hby own_d2_59) hr
                · show own_Q2 Z p0 h0 n0 _ s₁.heap _
                  rw [e0]
                  exact ⟨congrArg (fun z => some (Value.int z)) (by rw [own_f2, if_neg c2, if_neg c4, if_neg c6, if_pos c8, if_neg c10, if_pos c16, if_pos c18]), N0, rfl⟩
              · skip
                have pre19 : ∀ t, Steps p.tables e below (s₁.setTop (mkF m 51 #[oi p0] [(.int (1114111 : Int32)), (.int p0)])) t → Steps p.tables e below (s₁.setTop (entryFrame m #[(.int p0)] 1)) t := by
                  intro t k
                  refine pre17 t ?_
                  show oS p e below s₁ m 45 #[oi p0] [(.int (65536 : Int32)), (.int p0)] _
                  refine XS.icmpNo X0.here hx rfl (hb hby own_d2_45) rfl (flt c18).1 ?_
                  show oS p e below s₁ m 48 #[oi p0] [] _
                  refine XS.iloadN X0.here hx rfl (hb hby own_d2_48) rfl ?_
                  show oS p e below s₁ m 49 #[oi p0] [(.int p0)] _
                  refine X0.ldcInt hx hown (mvT hZ (hw _ (List.mem_of_getElem? (i := 27) rfl))) (g := (mkF m 49 #[oi p0] [(.int p0)])) rfl (hb hby own_d2_49) _ ?_
                  exact k
                by_cases c20 : (1114111 : Int32) < p0
                · skip
                  obtain ⟨fs, hr, hrun, hended, hW, hsame⟩ := X0.leave (v := (some (.int (0 : Int32)))) (fun h => by rw [Bd.returns] at h; cases h)
                  refine ⟨_, _, pre19 _ ?_, hrun, hended, _, _, rfl, ?_, ⟨_, rfl⟩, hW, hsame.mono (by decide) (by decide)⟩
                  · show oS p e below s₁ m 51 #[oi p0] [(.int (1114111 : Int32)), (.int p0)] _
                    refine XS.icmpYes X0.here hx rfl (pc0 := 51) (pc' := 58) rfl (hb hby own_d2_51) rfl (tlt c20).2.2.1 (by decide) (by decide) ?_
                    show oS p e below s₁ m 58 #[oi p0] [] _
                    refine XS.iconst X0.here hx rfl (hb hby own_d2_58) ?_
                    show oS p e below s₁ m 59 #[oi p0] [(.int (0 : Int32))] _
                    exact retN X0 hx (t := .boolean) Bd.returns (by simp) (hb hby own_d2_59) hr
                  · show own_Q2 Z p0 h0 n0 _ s₁.heap _
                    rw [e0]
                    exact ⟨congrArg (fun z => some (Value.int z)) (by rw [own_f2, if_neg c2, if_neg c4, if_neg c6, if_pos c8, if_neg c10, if_pos c16, if_neg c18, if_pos c20]), N0, rfl⟩
                · skip
                  obtain ⟨fs, hr, hrun, hended, hW, hsame⟩ := X0.leave (v := (some (.int (1 : Int32)))) (fun h => by rw [Bd.returns] at h; cases h)
                  refine ⟨_, _, pre19 _ ?_, hrun, hended, _, _, rfl, ?_, ⟨_, rfl⟩, hW, hsame.mono (by decide) (by decide)⟩
                  · show oS p e below s₁ m 51 #[oi p0] [(.int (1114111 : Int32)), (.int p0)] _
                    refine XS.icmpNo X0.here hx rfl (hb hby own_d2_51) rfl (flt c20).2.2.1 ?_
                    show oS p e below s₁ m 54 #[oi p0] [] _
                    refine XS.iconst X0.here hx rfl (hb hby own_d2_54) ?_
                    show oS p e below s₁ m 55 #[oi p0] [(.int (1 : Int32))] _
                    refine XS.goto X0.here hx rfl (pc0 := 55) (pc' := 59) rfl (hb hby own_d2_55) (by decide) (by decide) ?_
                    show oS p e below s₁ m 59 #[oi p0] [(.int (1 : Int32))] _
                    exact retN X0 hx (t := .boolean) Bd.returns (by simp) (hb hby own_d2_59) hr
                  · show own_Q2 Z p0 h0 n0 _ s₁.heap _
                    rw [e0]
                    exact ⟨congrArg (fun z => some (Value.int z)) (by rw [own_f2, if_neg c2, if_neg c4, if_neg c6, if_pos c8, if_neg c10, if_pos c16, if_neg c18, if_neg c20]), N0, rfl⟩
            · skip
              obtain ⟨fs, hr, hrun, hended, hW, hsame⟩ := X0.leave (v := (some (.int (1 : Int32)))) (fun h => by rw [Bd.returns] at h; cases h)
              refine ⟨_, _, pre15 _ ?_, hrun, hended, _, _, rfl, ?_, ⟨_, rfl⟩, hW, hsame.mono (by decide) (by decide)⟩
              · show oS p e below s₁ m 39 #[oi p0] [(.int (65533 : Int32)), (.int p0)] _
                refine XS.icmpYes X0.here hx rfl (pc0 := 39) (pc' := 54) rfl (hb hby own_d2_39) rfl (flt c16).2.2.2 (by decide) (by decide) ?_
                show oS p e below s₁ m 54 #[oi p0] [] _
                refine XS.iconst X0.here hx rfl (hb hby own_d2_54) ?_
                show oS p e below s₁ m 55 #[oi p0] [(.int (1 : Int32))] _
                refine XS.goto X0.here hx rfl (pc0 := 55) (pc' := 59) rfl (hb hby own_d2_55) (by decide) (by decide) ?_
                show oS p e below s₁ m 59 #[oi p0] [(.int (1 : Int32))] _
                exact retN X0 hx (t := .boolean) Bd.returns (by simp) (hb hby own_d2_59) hr
              · show own_Q2 Z p0 h0 n0 _ s₁.heap _
                rw [e0]
                exact ⟨congrArg (fun z => some (Value.int z)) (by rw [own_f2, if_neg c2, if_neg c4, if_neg c6, if_pos c8, if_neg c10, if_neg c16]), N0, rfl⟩
        · skip
          have pre21 : ∀ t, Steps p.tables e below (s₁.setTop (mkF m 27 #[oi p0] [(.int (55295 : Int32)), (.int p0)])) t → Steps p.tables e below (s₁.setTop (entryFrame m #[(.int p0)] 1)) t := by
            intro t k
            refine pre7 t ?_
            show oS p e below s₁ m 21 #[oi p0] [(.int (32 : Int32)), (.int p0)] _
            refine XS.icmpNo X0.here hx rfl (hb hby own_d2_21) rfl (flt c8).1 ?_
            show oS p e below s₁ m 24 #[oi p0] [] _
            refine XS.iloadN X0.here hx rfl (hb hby own_d2_24) rfl ?_
            show oS p e below s₁ m 25 #[oi p0] [(.int p0)] _
            refine X0.ldcInt hx hown (mvT hZ (hw _ (List.mem_of_getElem? (i := 25) rfl))) (g := (mkF m 25 #[oi p0] [(.int p0)])) rfl (hb hby own_d2_25) _ ?_
            exact k
          by_cases c22 : (55295 : Int32) < p0
          · skip
            have pre23 : ∀ t, Steps p.tables e below (s₁.setTop (mkF m 33 #[oi p0] [(.int (57344 : Int32)), (.int p0)])) t → Steps p.tables e below (s₁.setTop (entryFrame m #[(.int p0)] 1)) t := by
              intro t k
              refine pre21 t ?_
              show oS p e below s₁ m 27 #[oi p0] [(.int (55295 : Int32)), (.int p0)] _
              refine XS.icmpNo X0.here hx rfl (hb hby own_d2_27) rfl (tlt c22).2.2.2 ?_
              show oS p e below s₁ m 30 #[oi p0] [] _
              refine XS.iloadN X0.here hx rfl (hb hby own_d2_30) rfl ?_
              show oS p e below s₁ m 31 #[oi p0] [(.int p0)] _
              refine X0.ldcInt hx hown (mvT hZ (hw _ (List.mem_of_getElem? (i := 19) rfl))) (g := (mkF m 31 #[oi p0] [(.int p0)])) rfl (hb hby own_d2_31) _ ?_
              exact k
            by_cases c24 : p0 < (57344 : Int32)
            · skip
              have pre25 : ∀ t, Steps p.tables e below (s₁.setTop (mkF m 45 #[oi p0] [(.int (65536 : Int32)), (.int p0)])) t → Steps p.tables e below (s₁.setTop (entryFrame m #[(.int p0)] 1)) t := by
                intro t k
                refine pre23 t ?_
                show oS p e below s₁ m 33 #[oi p0] [(.int (57344 : Int32)), (.int p0)] _
                refine XS.icmpYes X0.here hx rfl (pc0 := 33) (pc' := 42) rfl (hb hby own_d2_33) rfl (tlt c24).1 (by decide) (by decide) ?_
                show oS p e below s₁ m 42 #[oi p0] [] _
                refine XS.iloadN X0.here hx rfl (hb hby own_d2_42) rfl ?_
                show oS p e below s₁ m 43 #[oi p0] [(.int p0)] _
                refine X0.ldcInt hx hown (mvT hZ (hw _ (List.mem_of_getElem? (i := 20) rfl))) (g := (mkF m 43 #[oi p0] [(.int p0)])) rfl (hb hby own_d2_43) _ ?_
                exact k
              by_cases c26 : p0 < (65536 : Int32)
              · skip
                obtain ⟨fs, hr, hrun, hended, hW, hsame⟩ := X0.leave (v := (some (.int (0 : Int32)))) (fun h => by rw [Bd.returns] at h; cases h)
                refine ⟨_, _, pre25 _ ?_, hrun, hended, _, _, rfl, ?_, ⟨_, rfl⟩, hW, hsame.mono (by decide) (by decide)⟩
                · show oS p e below s₁ m 45 #[oi p0] [(.int (65536 : Int32)), (.int p0)] _
                  refine XS.icmpYes X0.here hx rfl (pc0 := 45) (pc' := 58) rfl (hb hby own_d2_45) rfl (tlt c26).1 (by decide) (by decide) ?_
                  show oS p e below s₁ m 58 #[oi p0] [] _
                  refine XS.iconst X0.here hx rfl (hb hby own_d2_58) ?_
                  show oS p e below s₁ m 59 #[oi p0] [(.int (0 : Int32))] _
                  exact retN X0 hx (t := .boolean) Bd.returns (by simp) (hb hby own_d2_59) hr
                · show own_Q2 Z p0 h0 n0 _ s₁.heap _
                  rw [e0]
                  exact ⟨congrArg (fun z => some (Value.int z)) (by rw [own_f2, if_neg c2, if_neg c4, if_neg c6, if_neg c8, if_pos c22, if_pos c24, if_pos c26]), N0, rfl⟩
              · skip
                have pre27 : ∀ t, Steps p.tables e below (s₁.setTop (mkF m 51 #[oi p0] [(.int (1114111 : Int32)), (.int p0)])) t → Steps p.tables e below (s₁.setTop (entryFrame m #[(.int p0)] 1)) t := by
                  intro t k
                  refine pre25 t ?_
                  show oS p e below s₁ m 45 #[oi p0] [(.int (65536 : Int32)), (.int p0)] _
                  refine XS.icmpNo X0.here hx rfl (hb hby own_d2_45) rfl (flt c26).1 ?_
                  show oS p e below s₁ m 48 #[oi p0] [] _
                  refine XS.iloadN X0.here hx rfl (hb hby own_d2_48) rfl ?_
                  show oS p e below s₁ m 49 #[oi p0] [(.int p0)] _
                  refine X0.ldcInt hx hown (mvT hZ (hw _ (List.mem_of_getElem? (i := 27) rfl))) (g := (mkF m 49 #[oi p0] [(.int p0)])) rfl (hb hby own_d2_49) _ ?_
                  exact k
                by_cases c28 : (1114111 : Int32) < p0
                · skip
                  obtain ⟨fs, hr, hrun, hended, hW, hsame⟩ := X0.leave (v := (some (.int (0 : Int32)))) (fun h => by rw [Bd.returns] at h; cases h)
                  refine ⟨_, _, pre27 _ ?_, hrun, hended, _, _, rfl, ?_, ⟨_, rfl⟩, hW, hsame.mono (by decide) (by decide)⟩
                  · show oS p e below s₁ m 51 #[oi p0] [(.int (1114111 : Int32)), (.int p0)] _
                    refine XS.icmpYes X0.here hx rfl (pc0 := 51) (pc' := 58) rfl (hb hby own_d2_51) rfl (tlt c28).2.2.1 (by decide) (by decide) ?_
                    show oS p e below s₁ m 58 #[oi p0] [] _
                    refine XS.iconst X0.here hx rfl (hb hby own_d2_58) ?_
                    show oS p e below s₁ m 59 #[oi p0] [(.int (0 : Int32))] _
                    exact retN X0 hx (t := .boolean) Bd.returns (by simp) (hb hby own_d2_59) hr
                  · show own_Q2 Z p0 h0 n0 _ s₁.heap _
                    rw [e0]
                    exact ⟨congrArg (fun z => some (Value.int z)) (by rw [own_f2, if_neg c2, if_neg c4, if_neg c6, if_neg c8, if_pos c22, if_pos c24, if_neg c26, if_pos c28]), N0, rfl⟩
                · skip
                  obtain ⟨fs, hr, hrun, hended, hW, hsame⟩ := X0.leave (v := (some (.int (1 : Int32)))) (fun h => by rw [Bd.returns] at h; cases h)
                  refine ⟨_, _, pre27 _ ?_, hrun, hended, _, _, rfl, ?_, ⟨_, rfl⟩, hW, hsame.mono (by decide) (by decide)⟩
                  · show oS p e below s₁ m 51 #[oi p0] [(.int (1114111 : Int32)), (.int p0)] _
                    refine XS.icmpNo X0.here hx rfl (hb hby own_d2_51) rfl (flt c28).2.2.1 ?_
                    show oS p e below s₁ m 54 #[oi p0] [] _
                    refine XS.iconst X0.here hx rfl (hb hby own_d2_54) ?_
                    show oS p e below s₁ m 55 #[oi p0] [(.int (1 : Int32))] _
                    refine XS.goto X0.here hx rfl (pc0 := 55) (pc' := 59) rfl (hb hby own_d2_55) (by decide) (by decide) ?_
                    show oS p e below s₁ m 59 #[oi p0] [(.int (1 : Int32))] _
                    exact retN X0 hx (t := .boolean) Bd.returns (by simp) (hb hby own_d2_59) hr
                  · show own_Q2 Z p0 h0 n0 _ s₁.heap _
                    rw [e0]
                    exact ⟨congrArg (fun z => some (Value.int z)) (by rw [own_f2, if_neg c2, if_neg c4, if_neg c6, if_neg c8, if_pos c22, if_pos c24, if_neg c26, if_neg c28]), N0, rfl⟩
            · skip
              have pre29 : ∀ t, Steps p.tables e below (s₁.setTop (mkF m 39 #[oi p0] [(.int (65533 : Int32)), (.int p0)])) t → Steps p.tables e below (s₁.setTop (entryFrame m #[(.int p0)] 1)) t := by
                intro t k
                refine pre23 t ?_
                show oS p e below s₁ m 33 #[oi p0] [(.int (57344 : Int32)), (.int p0)] _
                refine XS.icmpNo X0.here hx rfl (hb hby own_d2_33) rfl (flt c24).1 ?_
                show oS p e below s₁ m 36 #[oi p0] [] _
                refine XS.iloadN X0.here hx rfl (hb hby own_d2_36) rfl ?_
                show oS p e below s₁ m 37 #[oi p0] [(.int p0)] _
                refine X0.ldcInt hx hown (mvT hZ (hw _ (List.mem_of_getElem? (i := 26) rfl))) (g := (mkF m 37 #[oi p0] [(.int p0)])) rfl (hb hby own_d2_37) _ ?_
                exact k
              by_cases c30 : (65533 : Int32) < p0
              · skip
                have pre31 : ∀ t, Steps p.tables e below (s₁.setTop (mkF m 45 #[oi p0] [(.int (65536 : Int32)), (.int p0)])) t → Steps p.tables e below (s₁.setTop (entryFrame m #[(.int p0)] 1)) t := by
                  intro t k
                  refine pre29 t ?_
                  show oS p e below s₁ m 39 #[oi p0] [(.int (65533 : Int32)), (.int p0)] _
                  refine XS.icmpNo X0.here hx rfl (hb hby own_d2_39) rfl (tlt c30).2.2.2 ?_
                  show oS p e below s₁ m 42 #[oi p0] [] _
                  refine XS.iloadN X0.here hx rfl (hb hby own_d2_42) rfl ?_
                  show oS p e below s₁ m 43 #[oi p0] [(.int p0)] _
                  refine X0.ldcInt hx hown (mvT hZ (hw _ (List.mem_of_getElem? (i := 20) rfl))) (g := (mkF m 43 #[oi p0] [(.int p0)])) rfl (hb hby own_d2_43) _ ?_
                  exact k
                by_cases c32 : p0 < (65536 : Int32)
                · skip
                  obtain ⟨fs, hr, hrun, hended, hW, hsame⟩ := X0.leave (v := (some (.int (0 : Int32)))) (fun h => by rw [Bd.returns] at h; cases h)
                  refine ⟨_, _, pre31 _ ?_, hrun, hended, _, _, rfl, ?_, ⟨_, rfl⟩, hW, hsame.mono (by decide) (by decide)⟩
                  · show oS p e below s₁ m 45 #[oi p0] [(.int (65536 : Int32)), (.int p0)] _
                    refine XS.icmpYes X0.here hx rfl (pc0 := 45) (pc' := 58) rfl (hb hby own_d2_45) rfl (tlt c32).1 (by decide) (by decide) ?_
                    show oS p e below s₁ m 58 #[oi p0] [] _
                    refine XS.iconst X0.here hx rfl (hb hby own_d2_58) ?_
                    show oS p e below s₁ m 59 #[oi p0] [(.int (0 : Int32))] _
                    exact retN X0 hx (t := .boolean) Bd.returns (by simp) (hb hby own_d2_59) hr
                  · show own_Q2 Z p0 h0 n0 _ s₁.heap _
                    rw [e0]
                    exact ⟨congrArg (fun z => some (Value.int z)) (by rw [own_f2, if_neg c2, if_neg c4, if_neg c6, if_neg c8, if_pos c22, if_neg c24, if_pos c30, if_pos c32]), N0, rfl⟩
                · skip
                  have pre33 : ∀ t, Steps p.tables e below (s₁.setTop (mkF m 51 #[oi p0] [(.int (1114111 : Int32)), (.int p0)])) t → Steps p.tables e below (s₁.setTop (entryFrame m #[(.int p0)] 1)) t := by
                    intro t k
                    refine pre31 t ?_
                    show oS p e below s₁ m 45 #[oi p0] [(.int (65536 : Int32)), (.int p0)] _
                    refine XS.icmpNo X0.here hx rfl (hb hby own_d2_45) rfl (flt c32).1 ?_
                    show oS p e below s₁ m 48 #[oi p0] [] _
                    refine XS.iloadN X0.here hx rfl (hb hby own_d2_48) rfl ?_
                    show oS p e below s₁ m 49 #[oi p0] [(.int p0)] _
                    refine X0.ldcInt hx hown (mvT hZ (hw _ (List.mem_of_getElem? (i := 27) rfl))) (g := (mkF m 49 #[oi p0] [(.int p0)])) rfl (hb hby own_d2_49) _ ?_
                    exact k
                  by_cases c34 : (1114111 : Int32) < p0
                  · skip
                    obtain ⟨fs, hr, hrun, hended, hW, hsame⟩ := X0.leave (v := (some (.int (0 : Int32)))) (fun h => by rw [Bd.returns] at h; cases h)
                    refine ⟨_, _, pre33 _ ?_, hrun, hended, _, _, rfl, ?_, ⟨_, rfl⟩, hW, hsame.mono (by decide) (by decide)⟩
                    · show oS p e below s₁ m 51 #[oi p0] [(.int (1114111 : Int32)), (.int p0)] _
                      refine XS.icmpYes X0.here hx rfl (pc0 := 51) (pc' := 58) rfl (hb hby own_d2_51) rfl (tlt c34).2.2.1 (by decide) (by decide) ?_
                      show oS p e below s₁ m 58 #[oi p0] [] _
                      refine XS.iconst X0.here hx rfl (hb hby own_d2_58) ?_
                      show oS p e below s₁ m 59 #[oi p0] [(.int (0 : Int32))] _
                      exact retN X0 hx (t := .boolean) Bd.returns (by simp) (hb hby own_d2_59) hr
                    · show own_Q2 Z p0 h0 n0 _ s₁.heap _
                      rw [e0]
                      exact ⟨congrArg (fun z => some (Value.int z)) (by rw [own_f2, if_neg c2, if_neg c4, if_neg c6, if_neg c8, if_pos c22, if_neg c24, if_pos c30, if_neg c32, if_pos c34]), N0, rfl⟩
                  · skip
                    obtain ⟨fs, hr, hrun, hended, hW, hsame⟩ := X0.leave (v := (some (.int (1 : Int32)))) (fun h => by rw [Bd.returns] at h; cases h)
                    refine ⟨_, _, pre33 _ ?_, hrun, hended, _, _, rfl, ?_, ⟨_, rfl⟩, hW, hsame.mono (by decide) (by decide)⟩
                    · show oS p e below s₁ m 51 #[oi p0] [(.int (1114111 : Int32)), (.int p0)] _
                      refine XS.icmpNo X0.here hx rfl (hb hby own_d2_51) rfl (flt c34).2.2.1 ?_
                      show oS p e below s₁ m 54 #[oi p0] [] _
                      refine XS.iconst X0.here hx rfl (hb hby own_d2_54) ?_
                      show oS p e below s₁ m 55 #[oi p0] [(.int (1 : Int32))] _
                      refine XS.goto X0.here hx rfl (pc0 := 55) (pc' := 59) rfl (hb hby own_d2_55) (by decide) (by decide) ?_
                      show oS p e below s₁ m 59 #[oi p0] [(.int (1 : Int32))] _
                      exact retN X0 hx (t := .boolean) Bd.returns (by simp) (hb hby own_d2_59) hr
                    · show own_Q2 Z p0 h0 n0 _ s₁.heap _
                      rw [e0]
                      exact ⟨congrArg (fun z => some (Value.int z)) (by rw [own_f2, if_neg c2, if_neg c4, if_neg c6, if_neg c8, if_pos c22, if_neg c24, if_pos c30, if_neg c32, if_neg c34]), N0, rfl⟩
              · skip
                obtain ⟨fs, hr, hrun, hended, hW, hsame⟩ := X0.leave (v := (some (.int (1 : Int32)))) (fun h => by rw [Bd.returns] at h; cases h)
                refine ⟨_, _, pre29 _ ?_, hrun, hended, _, _, rfl, ?_, ⟨_, rfl⟩, hW, hsame.mono (by decide) (by decide)⟩
                · show oS p e below s₁ m 39 #[oi p0] [(.int (65533 : Int32)), (.int p0)] _
                  refine XS.icmpYes X0.here hx rfl (pc0 := 39) (pc' := 54) rfl (hb hby own_d2_39) rfl (flt c30).2.2.2 (by decide) (by decide) ?_
                  show oS p e below s₁ m 54 #[oi p0] [] _
                  refine XS.iconst X0.here hx rfl (hb hby own_d2_54) ?_
                  show oS p e below s₁ m 55 #[oi p0] [(.int (1 : Int32))] _
                  refine XS.goto X0.here hx rfl (pc0 := 55) (pc' := 59) rfl (hb hby own_d2_55) (by decide) (by decide) ?_
                  show oS p e below s₁ m 59 #[oi p0] [(.int (1 : Int32))] _
                  exact retN X0 hx (t := .boolean) Bd.returns (by simp) (hb hby own_d2_59) hr
                · show own_Q2 Z p0 h0 n0 _ s₁.heap _
                  rw [e0]
                  exact ⟨congrArg (fun z => some (Value.int z)) (by rw [own_f2, if_neg c2, if_neg c4, if_neg c6, if_neg c8, if_pos c22, if_neg c24, if_neg c30]), N0, rfl⟩
          · skip
            obtain ⟨fs, hr, hrun, hended, hW, hsame⟩ := X0.leave (v := (some (.int (1 : Int32)))) (fun h => by rw [Bd.returns] at h; cases h)
            refine ⟨_, _, pre21 _ ?_, hrun, hended, _, _, rfl, ?_, ⟨_, rfl⟩, hW, hsame.mono (by decide) (by decide)⟩
            · show oS p e below s₁ m 27 #[oi p0] [(.int (55295 : Int32)), (.int p0)] _
              refine XS.icmpYes X0.here hx rfl (pc0 := 27) (pc' := 54) rfl (hb hby own_d2_27) rfl (flt c22).2.2.2 (by decide) (by decide) ?_
              show oS p e below s₁ m 54 #[oi p0] [] _
              refine XS.iconst X0.here hx rfl (hb hby own_d2_54) ?_
              show oS p e below s₁ m 55 #[oi p0] [(.int (1 : Int32))] _
              refine XS.goto X0.here hx rfl (pc0 := 55) (pc' := 59) rfl (hb hby own_d2_55) (by decide) (by decide) ?_
              show oS p e below s₁ m 59 #[oi p0] [(.int (1 : Int32))] _
              exact retN X0 hx (t := .boolean) Bd.returns (by simp) (hb hby own_d2_59) hr
            · show own_Q2 Z p0 h0 n0 _ s₁.heap _
              rw [e0]
              exact ⟨congrArg (fun z => some (Value.int z)) (by rw [own_f2, if_neg c2, if_neg c4, if_neg c6, if_neg c8, if_neg c22]), N0, rfl⟩
theorem own_pd0 : parseMethodDescriptor "(I)Z" = some ⟨[.int], some .boolean⟩ := by decide +kernel
theorem own_d1_0 : decode prog_45_method_3_code 0 = .ok (.iload_n 0, 1) := by decide +kernel
theorem own_d1_1 : decode prog_45_method_3_code 1 = .ok (.invokestatic 12, 3) := by decide +kernel
theorem own_d1_4 : decode prog_45_method_3_code 4 = .ok (.ifCond .eq 25, 3) := by decide +kernel
theorem own_d1_7 : decode prog_45_method_3_code 7 = .ok (.iload_n 0, 1) := by decide +kernel
theorem own_d1_8 : decode prog_45_method_3_code 8 = .ok (.bipush 9, 2) := by decide +kernel
theorem own_d1_10 : decode prog_45_method_3_code 10 = .ok (.if_icmp .eq 19, 3) := by decide +kernel
theorem own_d1_13 : decode prog_45_method_3_code 13 = .ok (.iload_n 0, 1) := by decide +kernel
theorem own_d1_14 : decode prog_45_method_3_code 14 = .ok (.bipush 10, 2) := by decide +kernel
theorem own_d1_16 : decode prog_45_method_3_code 16 = .ok (.if_icmp .eq 13, 3) := by decide +kernel
theorem own_d1_19 : decode prog_45_method_3_code 19 = .ok (.iload_n 0, 1) := by decide +kernel
theorem own_d1_20 : decode prog_45_method_3_code 20 = .ok (.bipush 13, 2) := by decide +kernel
theorem own_d1_22 : decode prog_45_method_3_code 22 = .ok (.if_icmp .eq 7, 3) := by decide +kernel
theorem own_d1_25 : decode prog_45_method_3_code 25 = .ok (.iconst 1, 1) := by decide +kernel
theorem own_d1_26 : decode prog_45_method_3_code 26 = .ok (.goto 4, 3) := by decide +kernel
theorem own_d1_29 : decode prog_45_method_3_code 29 = .ok (.iconst 0, 1) := by decide +kernel
theorem own_d1_30 : decode prog_45_method_3_code 30 = .ok (.ireturn, 1) := by decide +kernel
theorem own_ef1 (m : MethodId) (p0 : Int32) : entryFrame m #[(.int p0)] 1 = mkF m 0 #[oi p0] [] := by first | (simp [entryFrame, mkF, argsToLocals, Value.category]; done) | rfl
def own_f1 (p0 : Int32) : Int32 := (if (own_f2 p0) = (0 : Int32) then (0 : Int32) else (if p0 = (9 : Int32) then (0 : Int32) else (if p0 = (10 : Int32) then (0 : Int32) else (if p0 = (13 : Int32) then (0 : Int32) else (1 : Int32)))))
def own_Q1 (Z : State) (p0 : Int32) (h0 : Heap) (n0 : Nat) (v : Option Value) (h : Heap) (L : List Loc) : Prop := v = some (Value.int (own_f1 p0)) ∧ Fr n0 L ∧ h = h0
set_option maxRecDepth 65536 in
set_option maxHeartbeats 40000000 in
theorem own_rm1 (l : Launch) (Z : State) (av : Array Value) (hw : ∀ d ∈ tables_1, d.before av Z = true) (ws : List Jvm.Cond) (p0 : Int32) (h0 : Heap) (n0 : Nat) (Z0 : n0 ≤ h0.size) :
    MetFree l (⟨"com/example/muster/muster/model/Text", "mayKeep", "(I)Z"⟩ : MethodName) (head1 (Jvm.Cond.code (⟨"com/example/muster/muster/model/Text", "mayKeep", "(I)Z"⟩ : MethodName) prog_45_method_3_code 1 (some .boolean) :: ws) ({ frames := 1, cells := 0, slots := 0, locals := 12 } : Room)) (fun a U => a = #[(.int p0)] ∧ Z.Warmed39 U.vm ∧ U.heap = h0) (fun _ _ _ _ _ => True) (fun _ U o U' => ∃ v L, o = .returned v ∧ own_Q1 Z p0 h0 n0 v U'.heap L ∧ FrameEnd U o U' L ({ frames := 1, cells := 0, slots := 0, locals := 12 } : Room).cells ({ frames := 1, cells := 0, slots := 0, locals := 12 } : Room).slots) := by
  refine MetFree.of_bodySF (plainFor_of_name own_pn0) hisR ?_
  intro p e s m args below meth c s₁ Bd hml0 hP hK
  obtain ⟨rfl, hZ, hh⟩ := hP
  have hx := Bd.exec
  have hby := Bd.bytes
  have hml : c.maxLocals = 1 := hml0
  have hown : s.vm.findClass "com/example/muster/muster/model/Text" = some m.cls := findClass_of_methodNamed Bd.named
  have hnm := (name_of_methodNamed Bd.named Bd.method).1
  have X0 : Stand p l e ({ frames := 1, cells := 0, slots := 0, locals := 12 } : Room) s m #[(.int p0)] below meth c s₁ [] 0 0 := Stand.of_body Bd
  have e0 : s₁.heap = h0 := by rw [← hh, Bd.state]; rfl
  have N0 := Fr.nil n0
  have pre0 : ∀ t, Steps p.tables e below (s₁.setTop (mkF m 0 #[oi p0] [])) t → Steps p.tables e below (s₁.setTop (entryFrame m #[(.int p0)] 1)) t := fun t k => castTop (own_ef1 m p0) k
  obtain ⟨_, _, ⟨T1, L1, k1, n1⟩, -, X1, ⟨Lc1, hQ1, l1, y1, z1⟩, st1⟩ := Jvm.LawKit.callS X0 hx (y := (⟨"com/example/muster/muster/model/Text", "isXmlChar", "(I)Z"⟩ : MethodName)) hown (mvT hZ (hw _ (List.mem_of_getElem? (i := 16) rfl))) (mvT hZ (hw _ (List.mem_of_getElem? (i := 17) rfl))) (mvT hZ (hw _ (List.mem_of_getElem? (i := 14) rfl))) (mvT hZ (hw _ (List.mem_of_getElem? (i := 18) rfl))) (by decide) (backOf (W := 0) (own_rm2 l Z av hw [] p0 h0 n0 Z0 ) hZ (hw _ (List.mem_of_getElem? (i := 18) rfl)) (hw _ (List.mem_of_getElem? (i := 14) rfl)) (by decide) (by decide)) (g := (mkF m 1 #[oi p0] [(.int p0)])) rfl (by rw [hml]; rfl) (argsL := [(.int p0)]) (rest := []) (lenOf own_pd0 rfl) rfl (by show 2 * 0 + _ ≤ _; exact Nat.le_of_eq rfl) (hb hby own_d1_1) (fun _ _ => ⟨rfl, e0, (by decide : 0 + 0 ≤ _), (by decide : 0 + 0 ≤ _)⟩)
  dsimp only [Pt.U, Pt.locs, Pt.cells, Pt.slots] at X1 l1 y1 z1 st1 hQ1
  have yq1 : k1 = 0 := y1
  have zq1 : n1 = 0 := z1
  subst yq1 zq1
  obtain ⟨rfl, Nq1, eq1⟩ := hQ1
  have N1 : Fr n0 L1 := by rw [l1]; exact Fr.app N0 Nq1
  have pre2 : ∀ t, Steps p.tables e below (T1.setTop (mkF m 4 #[oi p0] [(.int (own_f2 p0))])) t → Steps p.tables e below (s₁.setTop (entryFrame m #[(.int p0)] 1)) t := by
    intro t k
    refine pre0 t ?_
    show oS p e below s₁ m 0 #[oi p0] [] _
    refine XS.iloadN X0.here hx rfl (hb hby own_d1_0) rfl ?_
    show oS p e below s₁ m 1 #[oi p0] [(.int p0)] _
    refine st1 _ ?_
    exact k
  by_cases c3 : (own_f2 p0) = (0 : Int32)
  · skip
    obtain ⟨fs, hr, hrun, hended, hW, hsame⟩ := X1.leave (v := (some (.int (0 : Int32)))) (fun h => by rw [Bd.returns] at h; cases h)
    refine ⟨_, _, pre2 _ ?_, hrun, hended, _, _, rfl, ?_, ⟨_, rfl⟩, hW, hsame.mono (by decide) (by decide)⟩
    · show oS p e below T1 m 4 #[oi p0] [(.int (own_f2 p0))] _
      refine XS.ifYes X1.here hx rfl (pc0 := 4) (pc' := 29) rfl (hb hby own_d1_4) rfl ((if0 _ _).trans (teq c3).1) (by decide) (by decide) ?_
      show oS p e below T1 m 29 #[oi p0] [] _
      refine XS.iconst X1.here hx rfl (hb hby own_d1_29) ?_
      show oS p e below T1 m 30 #[oi p0] [(.int (0 : Int32))] _
      exact retN X1 hx (t := .boolean) Bd.returns (by simp) (hb hby own_d1_30) hr
    · show own_Q1 Z p0 h0 n0 _ T1.heap _
      rw [eq1]
      exact ⟨congrArg (fun z => some (Value.int z)) (by rw [own_f1, if_pos c3]), N1, rfl⟩
  · skip
    have pre4 : ∀ t, Steps p.tables e below (T1.setTop (mkF m 10 #[oi p0] [(.int (9 : Int32)), (.int p0)])) t → Steps p.tables e below (s₁.setTop (entryFrame m #[(.int p0)] 1)) t := by
      intro t k
      refine pre2 t ?_
      show oS p e below T1 m 4 #[oi p0] [(.int (own_f2 p0))] _
      refine XS.ifNo X1.here hx rfl (hb hby own_d1_4) rfl ((if0 _ _).trans (feq c3).1) ?_
      show oS p e below T1 m 7 #[oi p0] [] _
      refine XS.iloadN X1.here hx rfl (hb hby own_d1_7) rfl ?_
      show oS p e below T1 m 8 #[oi p0] [(.int p0)] _
      refine XS.bipush X1.here hx rfl (hb hby own_d1_8) ?_
      exact k
    by_cases c5 : p0 = (9 : Int32)
    · skip
      obtain ⟨fs, hr, hrun, hended, hW, hsame⟩ := X1.leave (v := (some (.int (0 : Int32)))) (fun h => by rw [Bd.returns] at h; cases h)
      refine ⟨_, _, pre4 _ ?_, hrun, hended, _, _, rfl, ?_, ⟨_, rfl⟩, hW, hsame.mono (by decide) (by decide)⟩
      · show oS p e below T1 m 10 #[oi p0] [(.int (9 : Int32)), (.int p0)] _
        refine XS.icmpYes X1.here hx rfl (pc0 := 10) (pc' := 29) rfl (hb hby own_d1_10) rfl (teq c5).1 (by decide) (by decide) ?_
        show oS p e below T1 m 29 #[oi p0] [] _
        refine XS.iconst X1.here hx rfl (hb hby own_d1_29) ?_
        show oS p e below T1 m 30 #[oi p0] [(.int (0 : Int32))] _
        exact retN X1 hx (t := .boolean) Bd.returns (by simp) (hb hby own_d1_30) hr
      · show own_Q1 Z p0 h0 n0 _ T1.heap _
        rw [eq1]
        exact ⟨congrArg (fun z => some (Value.int z)) (by rw [own_f1, if_neg c3, if_pos c5]), N1, rfl⟩
    · skip
      have pre6 : ∀ t, Steps p.tables e below (T1.setTop (mkF m 16 #[oi p0] [(.int (10 : Int32)), (.int p0)])) t → Steps p.tables e below (s₁.setTop (entryFrame m #[(.int p0)] 1)) t := by
        intro t k
        refine pre4 t ?_
        show oS p e below T1 m 10 #[oi p0] [(.int (9 : Int32)), (.int p0)] _
        refine XS.icmpNo X1.here hx rfl (hb hby own_d1_10) rfl (feq c5).1 ?_
        show oS p e below T1 m 13 #[oi p0] [] _
        refine XS.iloadN X1.here hx rfl (hb hby own_d1_13) rfl ?_
        show oS p e below T1 m 14 #[oi p0] [(.int p0)] _
        refine XS.bipush X1.here hx rfl (hb hby own_d1_14) ?_
        exact k
      by_cases c7 : p0 = (10 : Int32)
      · skip
        obtain ⟨fs, hr, hrun, hended, hW, hsame⟩ := X1.leave (v := (some (.int (0 : Int32)))) (fun h => by rw [Bd.returns] at h; cases h)
        refine ⟨_, _, pre6 _ ?_, hrun, hended, _, _, rfl, ?_, ⟨_, rfl⟩, hW, hsame.mono (by decide) (by decide)⟩
        · show oS p e below T1 m 16 #[oi p0] [(.int (10 : Int32)), (.int p0)] _
          refine XS.icmpYes X1.here hx rfl (pc0 := 16) (pc' := 29) rfl (hb hby own_d1_16) rfl (teq c7).1 (by decide) (by decide) ?_
          show oS p e below T1 m 29 #[oi p0] [] _
          refine XS.iconst X1.here hx rfl (hb hby own_d1_29) ?_
          show oS p e below T1 m 30 #[oi p0] [(.int (0 : Int32))] _
          exact retN X1 hx (t := .boolean) Bd.returns (by simp) (hb hby own_d1_30) hr
        · show own_Q1 Z p0 h0 n0 _ T1.heap _
          rw [eq1]
          exact ⟨congrArg (fun z => some (Value.int z)) (by rw [own_f1, if_neg c3, if_neg c5, if_pos c7]), N1, rfl⟩
      · skip
        have pre8 : ∀ t, Steps p.tables e below (T1.setTop (mkF m 22 #[oi p0] [(.int (13 : Int32)), (.int p0)])) t → Steps p.tables e below (s₁.setTop (entryFrame m #[(.int p0)] 1)) t := by
          intro t k
          refine pre6 t ?_
          show oS p e below T1 m 16 #[oi p0] [(.int (10 : Int32)), (.int p0)] _
          refine XS.icmpNo X1.here hx rfl (hb hby own_d1_16) rfl (feq c7).1 ?_
          show oS p e below T1 m 19 #[oi p0] [] _
          refine XS.iloadN X1.here hx rfl (hb hby own_d1_19) rfl ?_
          show oS p e below T1 m 20 #[oi p0] [(.int p0)] _
          refine XS.bipush X1.here hx rfl (hb hby own_d1_20) ?_
          exact k
        by_cases c9 : p0 = (13 : Int32)
        · skip
          obtain ⟨fs, hr, hrun, hended, hW, hsame⟩ := X1.leave (v := (some (.int (0 : Int32)))) (fun h => by rw [Bd.returns] at h; cases h)
          refine ⟨_, _, pre8 _ ?_, hrun, hended, _, _, rfl, ?_, ⟨_, rfl⟩, hW, hsame.mono (by decide) (by decide)⟩
          · show oS p e below T1 m 22 #[oi p0] [(.int (13 : Int32)), (.int p0)] _
            refine XS.icmpYes X1.here hx rfl (pc0 := 22) (pc' := 29) rfl (hb hby own_d1_22) rfl (teq c9).1 (by decide) (by decide) ?_
            show oS p e below T1 m 29 #[oi p0] [] _
            refine XS.iconst X1.here hx rfl (hb hby own_d1_29) ?_
            show oS p e below T1 m 30 #[oi p0] [(.int (0 : Int32))] _
            exact retN X1 hx (t := .boolean) Bd.returns (by simp) (hb hby own_d1_30) hr
          · show own_Q1 Z p0 h0 n0 _ T1.heap _
            rw [eq1]
            exact ⟨congrArg (fun z => some (Value.int z)) (by rw [own_f1, if_neg c3, if_neg c5, if_neg c7, if_pos c9]), N1, rfl⟩
        · skip
          obtain ⟨fs, hr, hrun, hended, hW, hsame⟩ := X1.leave (v := (some (.int (1 : Int32)))) (fun h => by rw [Bd.returns] at h; cases h)
          refine ⟨_, _, pre8 _ ?_, hrun, hended, _, _, rfl, ?_, ⟨_, rfl⟩, hW, hsame.mono (by decide) (by decide)⟩
          · show oS p e below T1 m 22 #[oi p0] [(.int (13 : Int32)), (.int p0)] _
            refine XS.icmpNo X1.here hx rfl (hb hby own_d1_22) rfl (feq c9).1 ?_
            show oS p e below T1 m 25 #[oi p0] [] _
            refine XS.iconst X1.here hx rfl (hb hby own_d1_25) ?_
            show oS p e below T1 m 26 #[oi p0] [(.int (1 : Int32))] _
            refine XS.goto X1.here hx rfl (pc0 := 26) (pc' := 30) rfl (hb hby own_d1_26) (by decide) (by decide) ?_
            show oS p e below T1 m 30 #[oi p0] [(.int (1 : Int32))] _
            exact retN X1 hx (t := .boolean) Bd.returns (by simp) (hb hby own_d1_30) hr
          · show own_Q1 Z p0 h0 n0 _ T1.heap _
            rw [eq1]
            exact ⟨congrArg (fun z => some (Value.int z)) (by rw [own_f1, if_neg c3, if_neg c5, if_neg c7, if_neg c9]), N1, rfl⟩
theorem own_pn1 : plainName "com/example/muster/muster/model/TextMayKeepPinLaw" = true := by first | (simp [plainName, overriddenIn]; done) | decide +kernel
theorem own_d3_0 : decode method_2_code 0 = .ok (.iload_n 0, 1) := by decide +kernel
theorem own_d3_1 : decode method_2_code 1 = .ok (.bipush 32, 2) := by decide +kernel
theorem own_d3_3 : decode method_2_code 3 = .ok (.if_icmp .lt 11, 3) := by decide +kernel
theorem own_d3_6 : decode method_2_code 6 = .ok (.iload_n 0, 1) := by decide +kernel
theorem own_d3_7 : decode method_2_code 7 = .ok (.ldc 7, 2) := by decide +kernel
theorem own_d3_9 : decode method_2_code 9 = .ok (.if_icmp .gt 5, 3) := by decide +kernel
theorem own_d3_12 : decode method_2_code 12 = .ok (.iconst 1, 1) := by decide +kernel
theorem own_d3_13 : decode method_2_code 13 = .ok (.ireturn, 1) := by decide +kernel
theorem own_d3_14 : decode method_2_code 14 = .ok (.iload_n 0, 1) := by decide +kernel
theorem own_d3_15 : decode method_2_code 15 = .ok (.ldc 8, 2) := by decide +kernel
theorem own_d3_17 : decode method_2_code 17 = .ok (.if_icmp .lt 11, 3) := by decide +kernel
theorem own_d3_20 : decode method_2_code 20 = .ok (.iload_n 0, 1) := by decide +kernel
theorem own_d3_21 : decode method_2_code 21 = .ok (.ldc 9, 2) := by decide +kernel
theorem own_d3_23 : decode method_2_code 23 = .ok (.if_icmp .gt 5, 3) := by decide +kernel
theorem own_d3_26 : decode method_2_code 26 = .ok (.iconst 1, 1) := by decide +kernel
theorem own_d3_27 : decode method_2_code 27 = .ok (.ireturn, 1) := by decide +kernel
theorem own_d3_28 : decode method_2_code 28 = .ok (.iload_n 0, 1) := by decide +kernel
theorem own_d3_29 : decode method_2_code 29 = .ok (.ldc 10, 2) := by decide +kernel
theorem own_d3_31 : decode method_2_code 31 = .ok (.if_icmp .lt 11, 3) := by decide +kernel
theorem own_d3_34 : decode method_2_code 34 = .ok (.iload_n 0, 1) := by decide +kernel
theorem own_d3_35 : decode method_2_code 35 = .ok (.ldc 11, 2) := by decide +kernel
theorem own_d3_37 : decode method_2_code 37 = .ok (.if_icmp .gt 5, 3) := by decide +kernel
theorem own_d3_40 : decode method_2_code 40 = .ok (.iconst 1, 1) := by decide +kernel
theorem own_d3_41 : decode method_2_code 41 = .ok (.ireturn, 1) := by decide +kernel
theorem own_d3_42 : decode method_2_code 42 = .ok (.iconst 0, 1) := by decide +kernel
theorem own_d3_43 : decode method_2_code 43 = .ok (.ireturn, 1) := by decide +kernel
theorem own_ef3 (m : MethodId) (p0 : Int32) : entryFrame m #[(.int p0)] 1 = mkF m 0 #[oi p0] [] := by first | (simp [entryFrame, mkF, argsToLocals, Value.category]; done) | rfl
def own_f3 (p0 : Int32) : Int32 := (if p0 < (32 : Int32) then (if p0 < (57344 : Int32) then (if p0 < (65536 : Int32) then (0 : Int32) else (if (1114111 : Int32) < p0 then (0 : Int32) else (1 : Int32))) else (if (65533 : Int32) < p0 then (if p0 < (65536 : Int32) then (0 : Int32) else (if (1114111 : Int32) < p0 then (0 : Int32) else (1 : Int32))) else (1 : Int32))) else (if (55295 : Int32) < p0 then (if p0 < (57344 : Int32) then (if p0 < (65536 : Int32) then (0 : Int32) else (if (1114111 : Int32) < p0 then (0 : Int32) else (1 : Int32))) else (if (65533 : Int32) < p0 then (if p0 < (65536 : Int32) then (0 : Int32) else (if (1114111 : Int32) < p0 then (0 : Int32) else (1 : Int32))) else (1 : Int32))) else (1 : Int32)))
def own_Q3 (Z : State) (p0 : Int32) (h0 : Heap) (n0 : Nat) (v : Option Value) (h : Heap) (L : List Loc) : Prop := v = some (Value.int (own_f3 p0)) ∧ Fr n0 L ∧ h = h0
set_option maxRecDepth 65536 in
set_option maxHeartbeats 40000000 in
theorem own_rm3 (l : Launch) (Z : State) (av : Array Value) (hw : ∀ d ∈ tables_1, d.before av Z = true) (ws : List Jvm.Cond) (p0 : Int32) (h0 : Heap) (n0 : Nat) (Z0 : n0 ≤ h0.size) :
    MetFree l (⟨"com/example/muster/muster/model/TextMayKeepPinLaw", "ref", "(I)Z"⟩ : MethodName) (head1 (Jvm.Cond.code (⟨"com/example/muster/muster/model/TextMayKeepPinLaw", "ref", "(I)Z"⟩ : MethodName) method_2_code 1 (some .boolean) :: ws) ({ frames := 0, cells := 0, slots := 0, locals := 0 } : Room)) (fun a U => a = #[(.int p0)] ∧ Z.Warmed39 U.vm ∧ U.heap = h0) (fun _ _ _ _ _ => True) (fun _ U o U' => ∃ v L, o = .returned v ∧ own_Q3 Z p0 h0 n0 v U'.heap L ∧ FrameEnd U o U' L ({ frames := 0, cells := 0, slots := 0, locals := 0 } : Room).cells ({ frames := 0, cells := 0, slots := 0, locals := 0 } : Room).slots) := by
  refine MetFree.of_bodySF (plainFor_of_name own_pn1) hisR ?_
  intro p e s m args below meth c s₁ Bd hml0 hP hK
  obtain ⟨rfl, hZ, hh⟩ := hP
  have hx := Bd.exec
  have hby := Bd.bytes
  have hml : c.maxLocals = 1 := hml0
  have hown : s.vm.findClass "com/example/muster/muster/model/TextMayKeepPinLaw" = some m.cls := findClass_of_methodNamed Bd.named
  have hnm := (name_of_methodNamed Bd.named Bd.method).1
  have X0 : Stand p l e ({ frames := 0, cells := 0, slots := 0, locals := 0 } : Room) s m #[(.int p0)] below meth c s₁ [] 0 0 := Stand.of_body Bd
  have e0 : s₁.heap = h0 := by rw [← hh, Bd.state]; rfl
  have N0 := Fr.nil n0
  have pre0 : ∀ t, Steps p.tables e below (s₁.setTop (mkF m 0 #[oi p0] [])) t → Steps p.tables e below (s₁.setTop (entryFrame m #[(.int p0)] 1)) t := fun t k => castTop (own_ef3 m p0) k
  have pre1 : ∀ t, Steps p.tables e below (s₁.setTop (mkF m 3 #[oi p0] [(.int (32 : Int32)), (.int p0)])) t → Steps p.tables e below (s₁.setTop (entryFrame m #[(.int p0)] 1)) t := by
    intro t k
    refine pre0 t ?_
    show oS p e below s₁ m 0 #[oi p0] [] _
    refine XS.iloadN X0.here hx rfl (hb hby own_d3_0) rfl ?_
    show oS p e below s₁ m 1 #[oi p0] [(.int p0)] _
    refine XS.bipush X0.here hx rfl (hb hby own_d3_1) ?_
    exact k
  by_cases c2 : p0 < (32 : Int32)
  · skip
    have pre3 : ∀ t, Steps p.tables e below (s₁.setTop (mkF m 17 #[oi p0] [(.int (57344 : Int32)), (.int p0)])) t → Steps p.tables e below (s₁.setTop (entryFrame m #[(.int p0)] 1)) t := by
      intro t k
      refine pre1 t ?_
      show oS p e below s₁ m 3 #[oi p0] [(.int (32 : Int32)), (.int p0)] _
      refine XS.icmpYes X0.here hx rfl (pc0 := 3) (pc' := 14) rfl (hb hby own_d3_3) rfl (tlt c2).1 (by decide) (by decide) ?_
      show oS p e below s₁ m 14 #[oi p0] [] _
      refine XS.iloadN X0.here hx rfl (hb hby own_d3_14) rfl ?_
      show oS p e below s₁ m 15 #[oi p0] [(.int p0)] _
      refine X0.ldcInt hx hown (mvT hZ (hw _ (List.mem_of_getElem? (i := 2) rfl))) (g := (mkF m 15 #[oi p0] [(.int p0)])) rfl (hb hby own_d3_15) _ ?_
      exact k
    by_cases c4 : p0 < (57344 : Int32)
    · skip
      have pre5 : ∀ t, Steps p.tables e below (s₁.setTop (mkF m 31 #[oi p0] [(.int (65536 : Int32)), (.int p0)])) t → Steps p.tables e below (s₁.setTop (entryFrame m #[(.int p0)] 1)) t := by
        intro t k
        refine pre3 t ?_
        show oS p e below s₁ m 17 #[oi p0] [(.int (57344 : Int32)), (.int p0)] _
        refine XS.icmpYes X0.here hx rfl (pc0 := 17) (pc' := 28) rfl (hb hby own_d3_17) rfl (tlt c4).1 (by decide) (by decide) ?_
        show oS p e below s₁ m 28 #[oi p0] [] _
        refine XS.iloadN X0.here hx rfl (hb hby own_d3_28) rfl ?_
        show oS p e below s₁ m 29 #[oi p0] [(.int p0)] _
        refine X0.ldcInt hx hown (mvT hZ (hw _ (List.mem_of_getElem? (i := 4) rfl))) (g := (mkF m 29 #[oi p0] [(.int p0)])) rfl (hb hby own_d3_29) _ ?_
        exact k
      by_cases c6 : p0 < (65536 : Int32)
      · skip
        obtain ⟨fs, hr, hrun, hended, hW, hsame⟩ := X0.leave (v := (some (.int (0 : Int32)))) (fun h => by rw [Bd.returns] at h; cases h)
        refine ⟨_, _, pre5 _ ?_, hrun, hended, _, _, rfl, ?_, ⟨_, rfl⟩, hW, hsame.mono (by decide) (by decide)⟩
        · show oS p e below s₁ m 31 #[oi p0] [(.int (65536 : Int32)), (.int p0)] _
          refine XS.icmpYes X0.here hx rfl (pc0 := 31) (pc' := 42) rfl (hb hby own_d3_31) rfl (tlt c6).1 (by decide) (by decide) ?_
          show oS p e below s₁ m 42 #[oi p0] [] _
          refine XS.iconst X0.here hx rfl (hb hby own_d3_42) ?_
          show oS p e below s₁ m 43 #[oi p0] [(.int (0 : Int32))] _
          exact retN X0 hx (t := .boolean) Bd.returns (by simp) (hb hby own_d3_43) hr
        · show own_Q3 Z p0 h0 n0 _ s₁.heap _
          rw [e0]
          exact ⟨congrArg (fun z => some (Value.int z)) (by rw [own_f3, if_pos c2, if_pos c4, if_pos c6]), N0, rfl⟩
      · skip
        have pre7 : ∀ t, Steps p.tables e below (s₁.setTop (mkF m 37 #[oi p0] [(.int (1114111 : Int32)), (.int p0)])) t → Steps p.tables e below (s₁.setTop (entryFrame m #[(.int p0)] 1)) t := by
          intro t k
          refine pre5 t ?_
          show oS p e below s₁ m 31 #[oi p0] [(.int (65536 : Int32)), (.int p0)] _
          refine XS.icmpNo X0.here hx rfl (hb hby own_d3_31) rfl (flt c6).1 ?_
          show oS p e below s₁ m 34 #[oi p0] [] _
          refine XS.iloadN X0.here hx rfl (hb hby own_d3_34) rfl ?_
          show oS p e below s₁ m 35 #[oi p0] [(.int p0)] _
          refine X0.ldcInt hx hown (mvT hZ (hw _ (List.mem_of_getElem? (i := 5) rfl))) (g := (mkF m 35 #[oi p0] [(.int p0)])) rfl (hb hby own_d3_35) _ ?_
          exact k
        by_cases c8 : (1114111 : Int32) < p0
        · skip
          obtain ⟨fs, hr, hrun, hended, hW, hsame⟩ := X0.leave (v := (some (.int (0 : Int32)))) (fun h => by rw [Bd.returns] at h; cases h)
          refine ⟨_, _, pre7 _ ?_, hrun, hended, _, _, rfl, ?_, ⟨_, rfl⟩, hW, hsame.mono (by decide) (by decide)⟩
          · show oS p e below s₁ m 37 #[oi p0] [(.int (1114111 : Int32)), (.int p0)] _
            refine XS.icmpYes X0.here hx rfl (pc0 := 37) (pc' := 42) rfl (hb hby own_d3_37) rfl (tlt c8).2.2.1 (by decide) (by decide) ?_
            show oS p e below s₁ m 42 #[oi p0] [] _
            refine XS.iconst X0.here hx rfl (hb hby own_d3_42) ?_
            show oS p e below s₁ m 43 #[oi p0] [(.int (0 : Int32))] _
            exact retN X0 hx (t := .boolean) Bd.returns (by simp) (hb hby own_d3_43) hr
          · show own_Q3 Z p0 h0 n0 _ s₁.heap _
            rw [e0]
            exact ⟨congrArg (fun z => some (Value.int z)) (by rw [own_f3, if_pos c2, if_pos c4, if_neg c6, if_pos c8]), N0, rfl⟩
        · skip
          obtain ⟨fs, hr, hrun, hended, hW, hsame⟩ := X0.leave (v := (some (.int (1 : Int32)))) (fun h => by rw [Bd.returns] at h; cases h)
          refine ⟨_, _, pre7 _ ?_, hrun, hended, _, _, rfl, ?_, ⟨_, rfl⟩, hW, hsame.mono (by decide) (by decide)⟩
          · show oS p e below s₁ m 37 #[oi p0] [(.int (1114111 : Int32)), (.int p0)] _
            refine XS.icmpNo X0.here hx rfl (hb hby own_d3_37) rfl (flt c8).2.2.1 ?_
            show oS p e below s₁ m 40 #[oi p0] [] _
            refine XS.iconst X0.here hx rfl (hb hby own_d3_40) ?_
            show oS p e below s₁ m 41 #[oi p0] [(.int (1 : Int32))] _
            exact retN X0 hx (t := .boolean) Bd.returns (by simp) (hb hby own_d3_41) hr
          · show own_Q3 Z p0 h0 n0 _ s₁.heap _
            rw [e0]
            exact ⟨congrArg (fun z => some (Value.int z)) (by rw [own_f3, if_pos c2, if_pos c4, if_neg c6, if_neg c8]), N0, rfl⟩
    · skip
      have pre9 : ∀ t, Steps p.tables e below (s₁.setTop (mkF m 23 #[oi p0] [(.int (65533 : Int32)), (.int p0)])) t → Steps p.tables e below (s₁.setTop (entryFrame m #[(.int p0)] 1)) t := by
        intro t k
        refine pre3 t ?_
        show oS p e below s₁ m 17 #[oi p0] [(.int (57344 : Int32)), (.int p0)] _
        refine XS.icmpNo X0.here hx rfl (hb hby own_d3_17) rfl (flt c4).1 ?_
        show oS p e below s₁ m 20 #[oi p0] [] _
        refine XS.iloadN X0.here hx rfl (hb hby own_d3_20) rfl ?_
        show oS p e below s₁ m 21 #[oi p0] [(.int p0)] _
        refine X0.ldcInt hx hown (mvT hZ (hw _ (List.mem_of_getElem? (i := 3) rfl))) (g := (mkF m 21 #[oi p0] [(.int p0)])) rfl (hb hby own_d3_21) _ ?_
        exact k
      by_cases c10 : (65533 : Int32) < p0
      · skip
        have pre11 : ∀ t, Steps p.tables e below (s₁.setTop (mkF m 31 #[oi p0] [(.int (65536 : Int32)), (.int p0)])) t → Steps p.tables e below (s₁.setTop (entryFrame m #[(.int p0)] 1)) t := by
          intro t k
          refine pre9 t ?_
          show oS p e below s₁ m 23 #[oi p0] [(.int (65533 : Int32)), (.int p0)] _
          refine XS.icmpYes X0.here hx rfl (pc0 := 23) (pc' := 28) rfl (hb hby own_d3_23) rfl (tlt c10).2.2.1 (by decide) (by decide) ?_
          show oS p e below s₁ m 28 #[oi p0] [] _
          refine XS.iloadN X0.here hx rfl (hb hby own_d3_28) rfl ?_
          show oS p e below s₁ m 29 #[oi p0] [(.int p0)] _
          refine X0.ldcInt hx hown (mvT hZ (hw _ (List.mem_of_getElem? (i := 4) rfl))) (g := (mkF m 29 #[oi p0] [(.int p0)])) rfl (hb hby own_d3_29) _ ?_
          exact k
        by_cases c12 : p0 < (65536 : Int32)
        · skip
          obtain ⟨fs, hr, hrun, hended, hW, hsame⟩ := X0.leave (v := (some (.int (0 : Int32)))) (fun h => by rw [Bd.returns] at h; cases h)
          refine ⟨_, _, pre11 _ ?_, hrun, hended, _, _, rfl, ?_, ⟨_, rfl⟩, hW, hsame.mono (by decide) (by decide)⟩
          · show oS p e below s₁ m 31 #[oi p0] [(.int (65536 : Int32)), (.int p0)] _
            refine XS.icmpYes X0.here hx rfl (pc0 := 31) (pc' := 42) rfl (hb hby own_d3_31) rfl (tlt c12).1 (by decide) (by decide) ?_
            show oS p e below s₁ m 42 #[oi p0] [] _
            refine XS.iconst X0.here hx rfl (hb hby own_d3_42) ?_
            show oS p e below s₁ m 43 #[oi p0] [(.int (0 : Int32))] _
            exact retN X0 hx (t := .boolean) Bd.returns (by simp) (hb hby own_d3_43) hr
          · show own_Q3 Z p0 h0 n0 _ s₁.heap _
            rw [e0]
            exact ⟨congrArg (fun z => some (Value.int z)) (by rw [own_f3, if_pos c2, if_neg c4, if_pos c10, if_pos c12]), N0, rfl⟩
        · skip
          have pre13 : ∀ t, Steps p.tables e below (s₁.setTop (mkF m 37 #[oi p0] [(.int (1114111 : Int32)), (.int p0)])) t → Steps p.tables e below (s₁.setTop (entryFrame m #[(.int p0)] 1)) t := by
            intro t k
            refine pre11 t ?_
            show oS p e below s₁ m 31 #[oi p0] [(.int (65536 : Int32)), (.int p0)] _
            refine XS.icmpNo X0.here hx rfl (hb hby own_d3_31) rfl (flt c12).1 ?_
            show oS p e below s₁ m 34 #[oi p0] [] _
            refine XS.iloadN X0.here hx rfl (hb hby own_d3_34) rfl ?_
            show oS p e below s₁ m 35 #[oi p0] [(.int p0)] _
            refine X0.ldcInt hx hown (mvT hZ (hw _ (List.mem_of_getElem? (i := 5) rfl))) (g := (mkF m 35 #[oi p0] [(.int p0)])) rfl (hb hby own_d3_35) _ ?_
            exact k
          by_cases c14 : (1114111 : Int32) < p0
          · skip
            obtain ⟨fs, hr, hrun, hended, hW, hsame⟩ := X0.leave (v := (some (.int (0 : Int32)))) (fun h => by rw [Bd.returns] at h; cases h)
            refine ⟨_, _, pre13 _ ?_, hrun, hended, _, _, rfl, ?_, ⟨_, rfl⟩, hW, hsame.mono (by decide) (by decide)⟩
            · show oS p e below s₁ m 37 #[oi p0] [(.int (1114111 : Int32)), (.int p0)] _
              refine XS.icmpYes X0.here hx rfl (pc0 := 37) (pc' := 42) rfl (hb hby own_d3_37) rfl (tlt c14).2.2.1 (by decide) (by decide) ?_
              show oS p e below s₁ m 42 #[oi p0] [] _
              refine XS.iconst X0.here hx rfl (hb hby own_d3_42) ?_
              show oS p e below s₁ m 43 #[oi p0] [(.int (0 : Int32))] _
              exact retN X0 hx (t := .boolean) Bd.returns (by simp) (hb hby own_d3_43) hr
            · show own_Q3 Z p0 h0 n0 _ s₁.heap _
              rw [e0]
              exact ⟨congrArg (fun z => some (Value.int z)) (by rw [own_f3, if_pos c2, if_neg c4, if_pos c10, if_neg c12, if_pos c14]), N0, rfl⟩
          · skip
            obtain ⟨fs, hr, hrun, hended, hW, hsame⟩ := X0.leave (v := (some (.int (1 : Int32)))) (fun h => by rw [Bd.returns] at h; cases h)
            refine ⟨_, _, pre13 _ ?_, hrun, hended, _, _, rfl, ?_, ⟨_, rfl⟩, hW, hsame.mono (by decide) (by decide)⟩
            · show oS p e below s₁ m 37 #[oi p0] [(.int (1114111 : Int32)), (.int p0)] _
              refine XS.icmpNo X0.here hx rfl (hb hby own_d3_37) rfl (flt c14).2.2.1 ?_
              show oS p e below s₁ m 40 #[oi p0] [] _
              refine XS.iconst X0.here hx rfl (hb hby own_d3_40) ?_
              show oS p e below s₁ m 41 #[oi p0] [(.int (1 : Int32))] _
              exact retN X0 hx (t := .boolean) Bd.returns (by simp) (hb hby own_d3_41) hr
            · show own_Q3 Z p0 h0 n0 _ s₁.heap _
              rw [e0]
              exact ⟨congrArg (fun z => some (Value.int z)) (by rw [own_f3, if_pos c2, if_neg c4, if_pos c10, if_neg c12, if_neg c14]), N0, rfl⟩
      · skip
        obtain ⟨fs, hr, hrun, hended, hW, hsame⟩ := X0.leave (v := (some (.int (1 : Int32)))) (fun h => by rw [Bd.returns] at h; cases h)
        refine ⟨_, _, pre9 _ ?_, hrun, hended, _, _, rfl, ?_, ⟨_, rfl⟩, hW, hsame.mono (by decide) (by decide)⟩
        · show oS p e below s₁ m 23 #[oi p0] [(.int (65533 : Int32)), (.int p0)] _
          refine XS.icmpNo X0.here hx rfl (hb hby own_d3_23) rfl (flt c10).2.2.1 ?_
          show oS p e below s₁ m 26 #[oi p0] [] _
          refine XS.iconst X0.here hx rfl (hb hby own_d3_26) ?_
          show oS p e below s₁ m 27 #[oi p0] [(.int (1 : Int32))] _
          exact retN X0 hx (t := .boolean) Bd.returns (by simp) (hb hby own_d3_27) hr
        · show own_Q3 Z p0 h0 n0 _ s₁.heap _
          rw [e0]
          exact ⟨congrArg (fun z => some (Value.int z)) (by rw [own_f3, if_pos c2, if_neg c4, if_neg c10]), N0, rfl⟩
  · skip
    have pre15 : ∀ t, Steps p.tables e below (s₁.setTop (mkF m 9 #[oi p0] [(.int (55295 : Int32)), (.int p0)])) t → Steps p.tables e below (s₁.setTop (entryFrame m #[(.int p0)] 1)) t := by
      intro t k
      refine pre1 t ?_
      show oS p e below s₁ m 3 #[oi p0] [(.int (32 : Int32)), (.int p0)] _
      refine XS.icmpNo X0.here hx rfl (hb hby own_d3_3) rfl (flt c2).1 ?_
      show oS p e below s₁ m 6 #[oi p0] [] _
      refine XS.iloadN X0.here hx rfl (hb hby own_d3_6) rfl ?_
      show oS p e below s₁ m 7 #[oi p0] [(.int p0)] _
      refine X0.ldcInt hx hown (mvT hZ (hw _ (List.mem_of_getElem? (i := 1) rfl))) (g := (mkF m 7 #[oi p0] [(.int p0)])) rfl (hb hby own_d3_7) _ ?_
      exact k
    by_cases c16 : (55295 : Int32) < p0
    · skip
      have pre17 : ∀ t, Steps p.tables e below (s₁.setTop (mkF m 17 #[oi p0] [(.int (57344 : Int32)), (.int p0)])) t → Steps p.tables e below (s₁.setTop (entryFrame m #[(.int p0)] 1)) t := by
        intro t k
        refine pre15 t ?_
        show oS p e below s₁ m 9 #[oi p0] [(.int (55295 : Int32)), (.int p0)] _
        refine XS.icmpYes X0.here hx rfl (pc0 := 9) (pc' := 14) rfl (hb hby own_d3_9) rfl (tlt c16).2.2.1 (by decide) (by decide) ?_
        show oS p e below s₁ m 14 #[oi p0] [] _
        refine XS.iloadN X0.here hx rfl (hb hby own_d3_14) rfl ?_
        show oS p e below s₁ m 15 #[oi p0] [(.int p0)] _
        refine X0.ldcInt hx hown (mvT hZ (hw _ (List.mem_of_getElem? (i := 2) rfl))) (g := (mkF m 15 #[oi p0] [(.int p0)])) rfl (hb hby own_d3_15) _ ?_
        exact k
      by_cases c18 : p0 < (57344 : Int32)
      · skip
        have pre19 : ∀ t, Steps p.tables e below (s₁.setTop (mkF m 31 #[oi p0] [(.int (65536 : Int32)), (.int p0)])) t → Steps p.tables e below (s₁.setTop (entryFrame m #[(.int p0)] 1)) t := by
          intro t k
          refine pre17 t ?_
          show oS p e below s₁ m 17 #[oi p0] [(.int (57344 : Int32)), (.int p0)] _
          refine XS.icmpYes X0.here hx rfl (pc0 := 17) (pc' := 28) rfl (hb hby own_d3_17) rfl (tlt c18).1 (by decide) (by decide) ?_
          show oS p e below s₁ m 28 #[oi p0] [] _
          refine XS.iloadN X0.here hx rfl (hb hby own_d3_28) rfl ?_
          show oS p e below s₁ m 29 #[oi p0] [(.int p0)] _
          refine X0.ldcInt hx hown (mvT hZ (hw _ (List.mem_of_getElem? (i := 4) rfl))) (g := (mkF m 29 #[oi p0] [(.int p0)])) rfl (hb hby own_d3_29) _ ?_
          exact k
        by_cases c20 : p0 < (65536 : Int32)
        · skip
          obtain ⟨fs, hr, hrun, hended, hW, hsame⟩ := X0.leave (v := (some (.int (0 : Int32)))) (fun h => by rw [Bd.returns] at h; cases h)
          refine ⟨_, _, pre19 _ ?_, hrun, hended, _, _, rfl, ?_, ⟨_, rfl⟩, hW, hsame.mono (by decide) (by decide)⟩
          · show oS p e below s₁ m 31 #[oi p0] [(.int (65536 : Int32)), (.int p0)] _
            refine XS.icmpYes X0.here hx rfl (pc0 := 31) (pc' := 42) rfl (hb hby own_d3_31) rfl (tlt c20).1 (by decide) (by decide) ?_
            show oS p e below s₁ m 42 #[oi p0] [] _
            refine XS.iconst X0.here hx rfl (hb hby own_d3_42) ?_
            show oS p e below s₁ m 43 #[oi p0] [(.int (0 : Int32))] _
            exact retN X0 hx (t := .boolean) Bd.returns (by simp) (hb hby own_d3_43) hr
          · show own_Q3 Z p0 h0 n0 _ s₁.heap _
            rw [e0]
            exact ⟨congrArg (fun z => some (Value.int z)) (by rw [own_f3, if_neg c2, if_pos c16, if_pos c18, if_pos c20]), N0, rfl⟩
        · skip
          have pre21 : ∀ t, Steps p.tables e below (s₁.setTop (mkF m 37 #[oi p0] [(.int (1114111 : Int32)), (.int p0)])) t → Steps p.tables e below (s₁.setTop (entryFrame m #[(.int p0)] 1)) t := by
            intro t k
            refine pre19 t ?_
            show oS p e below s₁ m 31 #[oi p0] [(.int (65536 : Int32)), (.int p0)] _
            refine XS.icmpNo X0.here hx rfl (hb hby own_d3_31) rfl (flt c20).1 ?_
            show oS p e below s₁ m 34 #[oi p0] [] _
            refine XS.iloadN X0.here hx rfl (hb hby own_d3_34) rfl ?_
            show oS p e below s₁ m 35 #[oi p0] [(.int p0)] _
            refine X0.ldcInt hx hown (mvT hZ (hw _ (List.mem_of_getElem? (i := 5) rfl))) (g := (mkF m 35 #[oi p0] [(.int p0)])) rfl (hb hby own_d3_35) _ ?_
            exact k
          by_cases c22 : (1114111 : Int32) < p0
          · skip
            obtain ⟨fs, hr, hrun, hended, hW, hsame⟩ := X0.leave (v := (some (.int (0 : Int32)))) (fun h => by rw [Bd.returns] at h; cases h)
            refine ⟨_, _, pre21 _ ?_, hrun, hended, _, _, rfl, ?_, ⟨_, rfl⟩, hW, hsame.mono (by decide) (by decide)⟩
            · show oS p e below s₁ m 37 #[oi p0] [(.int (1114111 : Int32)), (.int p0)] _
              refine XS.icmpYes X0.here hx rfl (pc0 := 37) (pc' := 42) rfl (hb hby own_d3_37) rfl (tlt c22).2.2.1 (by decide) (by decide) ?_
              show oS p e below s₁ m 42 #[oi p0] [] _
              refine XS.iconst X0.here hx rfl (hb hby own_d3_42) ?_
              show oS p e below s₁ m 43 #[oi p0] [(.int (0 : Int32))] _
              exact retN X0 hx (t := .boolean) Bd.returns (by simp) (hb hby own_d3_43) hr
            · show own_Q3 Z p0 h0 n0 _ s₁.heap _
              rw [e0]
              exact ⟨congrArg (fun z => some (Value.int z)) (by rw [own_f3, if_neg c2, if_pos c16, if_pos c18, if_neg c20, if_pos c22]), N0, rfl⟩
          · skip
            obtain ⟨fs, hr, hrun, hended, hW, hsame⟩ := X0.leave (v := (some (.int (1 : Int32)))) (fun h => by rw [Bd.returns] at h; cases h)
            refine ⟨_, _, pre21 _ ?_, hrun, hended, _, _, rfl, ?_, ⟨_, rfl⟩, hW, hsame.mono (by decide) (by decide)⟩
            · show oS p e below s₁ m 37 #[oi p0] [(.int (1114111 : Int32)), (.int p0)] _
              refine XS.icmpNo X0.here hx rfl (hb hby own_d3_37) rfl (flt c22).2.2.1 ?_
              show oS p e below s₁ m 40 #[oi p0] [] _
              refine XS.iconst X0.here hx rfl (hb hby own_d3_40) ?_
              show oS p e below s₁ m 41 #[oi p0] [(.int (1 : Int32))] _
              exact retN X0 hx (t := .boolean) Bd.returns (by simp) (hb hby own_d3_41) hr
            · show own_Q3 Z p0 h0 n0 _ s₁.heap _
              rw [e0]
              exact ⟨congrArg (fun z => some (Value.int z)) (by rw [own_f3, if_neg c2, if_pos c16, if_pos c18, if_neg c20, if_neg c22]), N0, rfl⟩
      · skip
        have pre23 : ∀ t, Steps p.tables e below (s₁.setTop (mkF m 23 #[oi p0] [(.int (65533 : Int32)), (.int p0)])) t → Steps p.tables e below (s₁.setTop (entryFrame m #[(.int p0)] 1)) t := by
          intro t k
          refine pre17 t ?_
          show oS p e below s₁ m 17 #[oi p0] [(.int (57344 : Int32)), (.int p0)] _
          refine XS.icmpNo X0.here hx rfl (hb hby own_d3_17) rfl (flt c18).1 ?_
          show oS p e below s₁ m 20 #[oi p0] [] _
          refine XS.iloadN X0.here hx rfl (hb hby own_d3_20) rfl ?_
          show oS p e below s₁ m 21 #[oi p0] [(.int p0)] _
          refine X0.ldcInt hx hown (mvT hZ (hw _ (List.mem_of_getElem? (i := 3) rfl))) (g := (mkF m 21 #[oi p0] [(.int p0)])) rfl (hb hby own_d3_21) _ ?_
          exact k
        by_cases c24 : (65533 : Int32) < p0
        · skip
          have pre25 : ∀ t, Steps p.tables e below (s₁.setTop (mkF m 31 #[oi p0] [(.int (65536 : Int32)), (.int p0)])) t → Steps p.tables e below (s₁.setTop (entryFrame m #[(.int p0)] 1)) t := by
            intro t k
            refine pre23 t ?_
            show oS p e below s₁ m 23 #[oi p0] [(.int (65533 : Int32)), (.int p0)] _
            refine XS.icmpYes X0.here hx rfl (pc0 := 23) (pc' := 28) rfl (hb hby own_d3_23) rfl (tlt c24).2.2.1 (by decide) (by decide) ?_
            show oS p e below s₁ m 28 #[oi p0] [] _
            refine XS.iloadN X0.here hx rfl (hb hby own_d3_28) rfl ?_
            show oS p e below s₁ m 29 #[oi p0] [(.int p0)] _
            refine X0.ldcInt hx hown (mvT hZ (hw _ (List.mem_of_getElem? (i := 4) rfl))) (g := (mkF m 29 #[oi p0] [(.int p0)])) rfl (hb hby own_d3_29) _ ?_
            exact k
          by_cases c26 : p0 < (65536 : Int32)
          · skip
            obtain ⟨fs, hr, hrun, hended, hW, hsame⟩ := X0.leave (v := (some (.int (0 : Int32)))) (fun h => by rw [Bd.returns] at h; cases h)
            refine ⟨_, _, pre25 _ ?_, hrun, hended, _, _, rfl, ?_, ⟨_, rfl⟩, hW, hsame.mono (by decide) (by decide)⟩
            · show oS p e below s₁ m 31 #[oi p0] [(.int (65536 : Int32)), (.int p0)] _
              refine XS.icmpYes X0.here hx rfl (pc0 := 31) (pc' := 42) rfl (hb hby own_d3_31) rfl (tlt c26).1 (by decide) (by decide) ?_
              show oS p e below s₁ m 42 #[oi p0] [] _
              refine XS.iconst X0.here hx rfl (hb hby own_d3_42) ?_
              show oS p e below s₁ m 43 #[oi p0] [(.int (0 : Int32))] _
              exact retN X0 hx (t := .boolean) Bd.returns (by simp) (hb hby own_d3_43) hr
            · show own_Q3 Z p0 h0 n0 _ s₁.heap _
              rw [e0]
              exact ⟨congrArg (fun z => some (Value.int z)) (by rw [own_f3, if_neg c2, if_pos c16, if_neg c18, if_pos c24, if_pos c26]), N0, rfl⟩
          · skip
            have pre27 : ∀ t, Steps p.tables e below (s₁.setTop (mkF m 37 #[oi p0] [(.int (1114111 : Int32)), (.int p0)])) t → Steps p.tables e below (s₁.setTop (entryFrame m #[(.int p0)] 1)) t := by
              intro t k
              refine pre25 t ?_
              show oS p e below s₁ m 31 #[oi p0] [(.int (65536 : Int32)), (.int p0)] _
              refine XS.icmpNo X0.here hx rfl (hb hby own_d3_31) rfl (flt c26).1 ?_
              show oS p e below s₁ m 34 #[oi p0] [] _
              refine XS.iloadN X0.here hx rfl (hb hby own_d3_34) rfl ?_
              show oS p e below s₁ m 35 #[oi p0] [(.int p0)] _
              refine X0.ldcInt hx hown (mvT hZ (hw _ (List.mem_of_getElem? (i := 5) rfl))) (g := (mkF m 35 #[oi p0] [(.int p0)])) rfl (hb hby own_d3_35) _ ?_
              exact k
            by_cases c28 : (1114111 : Int32) < p0
            · skip
              obtain ⟨fs, hr, hrun, hended, hW, hsame⟩ := X0.leave (v := (some (.int (0 : Int32)))) (fun h => by rw [Bd.returns] at h; cases h)
              refine ⟨_, _, pre27 _ ?_, hrun, hended, _, _, rfl, ?_, ⟨_, rfl⟩, hW, hsame.mono (by decide) (by decide)⟩
              · show oS p e below s₁ m 37 #[oi p0] [(.int (1114111 : Int32)), (.int p0)] _
                refine XS.icmpYes X0.here hx rfl (pc0 := 37) (pc' := 42) rfl (hb hby own_d3_37) rfl (tlt c28).2.2.1 (by decide) (by decide) ?_
                show oS p e below s₁ m 42 #[oi p0] [] _
                refine XS.iconst X0.here hx rfl (hb hby own_d3_42) ?_
                show oS p e below s₁ m 43 #[oi p0] [(.int (0 : Int32))] _
                exact retN X0 hx (t := .boolean) Bd.returns (by simp) (hb hby own_d3_43) hr
              · show own_Q3 Z p0 h0 n0 _ s₁.heap _
                rw [e0]
                exact ⟨congrArg (fun z => some (Value.int z)) (by rw [own_f3, if_neg c2, if_pos c16, if_neg c18, if_pos c24, if_neg c26, if_pos c28]), N0, rfl⟩
            · skip
              obtain ⟨fs, hr, hrun, hended, hW, hsame⟩ := X0.leave (v := (some (.int (1 : Int32)))) (fun h => by rw [Bd.returns] at h; cases h)
              refine ⟨_, _, pre27 _ ?_, hrun, hended, _, _, rfl, ?_, ⟨_, rfl⟩, hW, hsame.mono (by decide) (by decide)⟩
              · show oS p e below s₁ m 37 #[oi p0] [(.int (1114111 : Int32)), (.int p0)] _
                refine XS.icmpNo X0.here hx rfl (hb hby own_d3_37) rfl (flt c28).2.2.1 ?_
                show oS p e below s₁ m 40 #[oi p0] [] _
                refine XS.iconst X0.here hx rfl (hb hby own_d3_40) ?_
                show oS p e below s₁ m 41 #[oi p0] [(.int (1 : Int32))] _
                exact retN X0 hx (t := .boolean) Bd.returns (by simp) (hb hby own_d3_41) hr
              · show own_Q3 Z p0 h0 n0 _ s₁.heap _
                rw [e0]
                exact ⟨congrArg (fun z => some (Value.int z)) (by rw [own_f3, if_neg c2, if_pos c16, if_neg c18, if_pos c24, if_neg c26, if_neg c28]), N0, rfl⟩
        · skip
          obtain ⟨fs, hr, hrun, hended, hW, hsame⟩ := X0.leave (v := (some (.int (1 : Int32)))) (fun h => by rw [Bd.returns] at h; cases h)
          refine ⟨_, _, pre23 _ ?_, hrun, hended, _, _, rfl, ?_, ⟨_, rfl⟩, hW, hsame.mono (by decide) (by decide)⟩
          · show oS p e below s₁ m 23 #[oi p0] [(.int (65533 : Int32)), (.int p0)] _
            refine XS.icmpNo X0.here hx rfl (hb hby own_d3_23) rfl (flt c24).2.2.1 ?_
            show oS p e below s₁ m 26 #[oi p0] [] _
            refine XS.iconst X0.here hx rfl (hb hby own_d3_26) ?_
            show oS p e below s₁ m 27 #[oi p0] [(.int (1 : Int32))] _
            exact retN X0 hx (t := .boolean) Bd.returns (by simp) (hb hby own_d3_27) hr
          · show own_Q3 Z p0 h0 n0 _ s₁.heap _
            rw [e0]
            exact ⟨congrArg (fun z => some (Value.int z)) (by rw [own_f3, if_neg c2, if_pos c16, if_neg c18, if_neg c24]), N0, rfl⟩
    · skip
      obtain ⟨fs, hr, hrun, hended, hW, hsame⟩ := X0.leave (v := (some (.int (1 : Int32)))) (fun h => by rw [Bd.returns] at h; cases h)
      refine ⟨_, _, pre15 _ ?_, hrun, hended, _, _, rfl, ?_, ⟨_, rfl⟩, hW, hsame.mono (by decide) (by decide)⟩
      · show oS p e below s₁ m 9 #[oi p0] [(.int (55295 : Int32)), (.int p0)] _
        refine XS.icmpNo X0.here hx rfl (hb hby own_d3_9) rfl (flt c16).2.2.1 ?_
        show oS p e below s₁ m 12 #[oi p0] [] _
        refine XS.iconst X0.here hx rfl (hb hby own_d3_12) ?_
        show oS p e below s₁ m 13 #[oi p0] [(.int (1 : Int32))] _
        exact retN X0 hx (t := .boolean) Bd.returns (by simp) (hb hby own_d3_13) hr
      · show own_Q3 Z p0 h0 n0 _ s₁.heap _
        rw [e0]
        exact ⟨congrArg (fun z => some (Value.int z)) (by rw [own_f3, if_neg c2, if_neg c16]), N0, rfl⟩
theorem own_eq (x : Int32) : own_f1 x = own_f3 x := by
  unfold own_f1
  by_cases h : own_f2 x = (0 : Int32)
  · rw [if_pos h]
    unfold own_f2 at h
    unfold own_f3
    simp only [own_ltp, own_eqp x, Int32.reduceToInt] at h ⊢
    generalize x.toInt = t at h ⊢
    repeat' split at h
    all_goals first
      | exact absurd h (by decide)
      | (repeat' split
         all_goals first | rfl | (exfalso; omega))
  · rw [if_neg h]
    unfold own_f2 at h
    unfold own_f3
    simp only [own_ltp, own_eqp x, Int32.reduceToInt] at h ⊢
    generalize x.toInt = t at h ⊢
    repeat' split at h
    all_goals first
      | exact absurd rfl h
      | (repeat' split
         all_goals first | rfl | (exfalso; omega))
theorem own_m15 (x : Int32) : ¬ (x &&& (15 : Int32)) < 0 ∧ (x &&& (15 : Int32)) < (16 : Int32) := by
  have h : (x &&& (15 : Int32)).toInt = x.toInt % 16 := c_mask x 15 4 (by decide) (by decide)
  simp only [own_ltp, Int32.reduceToInt, h]
  omega
theorem own_ef0 (m : MethodId) (p0 : Int32) (p1 : Int32) : entryFrame m #[(.int p0), (.int p1)] maxLocals = mkF m 0 #[oi p0, oi p1, .unset, .unset, .unset, .unset, .unset, .unset] [] := by first | (simp [entryFrame, mkF, argsToLocals, Value.category, maxLocals]; done) | rfl
def own_Q0 (Z : State) (p0 : Int32) (p1 : Int32) (h0 : Heap) (n0 : Nat) (v : Option Value) (h : Heap) (L : List Loc) : Prop := v = some (Value.int (1 : Int32)) ∧ Fr n0 L
set_option maxRecDepth 65536 in
set_option maxHeartbeats 40000000 in
theorem own_rm0 (l : Launch) (Z : State) (av : Array Value) (hw : ∀ d ∈ tables_1, d.before av Z = true) (ws : List Jvm.Cond) (p0 : Int32) (p1 : Int32) (h0 : Heap) (n0 : Nat) (Z0 : n0 ≤ h0.size) :
    MetFree l x (head1 (Jvm.Cond.code x code maxLocals ret :: ws) room_1) (fun a U => a = #[(.int p0), (.int p1)] ∧ Z.Warmed39 U.vm ∧ U.heap = h0) (fun _ _ _ _ _ => True) (fun _ U o U' => ∃ v L, o = .returned v ∧ own_Q0 Z p0 p1 h0 n0 v U'.heap L ∧ FrameEnd U o U' L room_1.cells room_1.slots) := by
  refine MetFree.of_bodySF (plainFor_of_name own_pn1) hisR ?_
  intro p e s m args below meth c s₁ Bd hml0 hP hK
  obtain ⟨rfl, hZ, hh⟩ := hP
  have hx := Bd.exec
  have hby := Bd.bytes
  have hml : c.maxLocals = 8 := hml0
  have hown : s.vm.findClass "com/example/muster/muster/model/TextMayKeepPinLaw" = some m.cls := findClass_of_methodNamed Bd.named
  have hnm := (name_of_methodNamed Bd.named Bd.method).1
  have X0 : Stand p l e room_1 s m #[(.int p0), (.int p1)] below meth c s₁ [] 0 0 := Stand.of_body Bd
  have e0 : s₁.heap = h0 := by rw [← hh, Bd.state]; rfl
  have N0 := Fr.nil n0
  have pre0 : ∀ t, Steps p.tables e below (s₁.setTop (mkF m 0 #[oi p0, oi p1, .unset, .unset, .unset, .unset, .unset, .unset] [])) t → Steps p.tables e below (s₁.setTop (entryFrame m #[(.int p0), (.int p1)] maxLocals)) t := fun t k => castTop (own_ef0 m p0 p1) k
  obtain ⟨T1, h1, k1, X1, e1, E1, A1, st1⟩ := newP X0 hx hZ (hw _ (List.mem_of_getElem? (i := 0) rfl)) e0 (g := (mkF m 2 #[oi p0, oi p1, .unset, .unset, .unset, .unset, .unset, .unset] [(.int (16 : Int32))])) rfl (hb hby at_2) rfl (by decide) (cap := 16) (by decide) (by decide) (by decide) (by decide)
  obtain ⟨b1, g1⟩ : ∃ z, z = h0.size := ⟨_, rfl⟩
  rw [← g1] at A1 st1
  have g_b1 : n0 ≤ b1 := Nat.le_trans Z0 (Nat.le_of_eq g1.symm)
  have Z1 : n0 ≤ h1.size := Nat.le_trans Z0 E1.1
  have V_2 : Arv Z h1 b1 k1 .int (16 : Int32) [(.int (0 : Int32)), (.int (0 : Int32)), (.int (0 : Int32)), (.int (0 : Int32)), (.int (0 : Int32)), (.int (0 : Int32)), (.int (0 : Int32)), (.int (0 : Int32)), (.int (0 : Int32)), (.int (0 : Int32)), (.int (0 : Int32)), (.int (0 : Int32)), (.int (0 : Int32)), (.int (0 : Int32)), (.int (0 : Int32)), (.int (0 : Int32))] (.int (0 : Int32)) := (Arv.new A1 (by decide)).pad (pad_rep [] (.int (0 : Int32)) 16)
  obtain ⟨T3, h3, X3, e3, W3, V3, st3⟩ := oStI X1 hx hZ e1 V_2 (j := (0 : Int32)) ⟨by decide, by decide⟩ 0 rfl (Nat.le_of_ble_eq_true rfl) (g := (mkF m 8 #[oi p0, oi p1, .unset, .unset, .unset, .unset, .unset, .unset] [(.int (9 : Int32)), (.int (0 : Int32)), (.ref b1), (.ref b1)])) rfl rfl (hb hby at_8)
  obtain ⟨Lo3, X3, N3⟩ := oOpq X3 (Fr.snoc X3 N0 g_b1)
  have Z3 := Nat.le_trans Z1 (Keep.of_wr W3).1
  have V_4 : Arv Z h3 b1 k1 .int (16 : Int32) [(.int (9 : Int32)), (.int (0 : Int32)), (.int (0 : Int32)), (.int (0 : Int32)), (.int (0 : Int32)), (.int (0 : Int32)), (.int (0 : Int32)), (.int (0 : Int32)), (.int (0 : Int32)), (.int (0 : Int32)), (.int (0 : Int32)), (.int (0 : Int32)), (.int (0 : Int32)), (.int (0 : Int32)), (.int (0 : Int32)), (.int (0 : Int32))] (.int (0 : Int32)) := V3
  obtain ⟨T5, h5, X5, e5, W5, V5, st5⟩ := oStI X3 hx hZ e3 V_4 (j := (1 : Int32)) ⟨by decide, by decide⟩ 1 rfl (Nat.le_of_ble_eq_true rfl) (g := (mkF m 13 #[oi p0, oi p1, .unset, .unset, .unset, .unset, .unset, .unset] [(.int (10 : Int32)), (.int (1 : Int32)), (.ref b1), (.ref b1)])) rfl rfl (hb hby at_13)
  obtain ⟨Lo5, X5, N5⟩ := oOpq X5 (Fr.snoc X5 N3 g_b1)
  have Z5 := Nat.le_trans Z3 (Keep.of_wr W5).1
  have V_6 : Arv Z h5 b1 k1 .int (16 : Int32) [(.int (9 : Int32)), (.int (10 : Int32)), (.int (0 : Int32)), (.int (0 : Int32)), (.int (0 : Int32)), (.int (0 : Int32)), (.int (0 : Int32)), (.int (0 : Int32)), (.int (0 : Int32)), (.int (0 : Int32)), (.int (0 : Int32)), (.int (0 : Int32)), (.int (0 : Int32)), (.int (0 : Int32)), (.int (0 : Int32)), (.int (0 : Int32))] (.int (0 : Int32)) := V5
  obtain ⟨T7, h7, X7, e7, W7, V7, st7⟩ := oStI X5 hx hZ e5 V_6 (j := (2 : Int32)) ⟨by decide, by decide⟩ 2 rfl (Nat.le_of_ble_eq_true rfl) (g := (mkF m 18 #[oi p0, oi p1, .unset, .unset, .unset, .unset, .unset, .unset] [(.int (13 : Int32)), (.int (2 : Int32)), (.ref b1), (.ref b1)])) rfl rfl (hb hby at_18)
  obtain ⟨Lo7, X7, N7⟩ := oOpq X7 (Fr.snoc X7 N5 g_b1)
  have Z7 := Nat.le_trans Z5 (Keep.of_wr W7).1
  have V_8 : Arv Z h7 b1 k1 .int (16 : Int32) [(.int (9 : Int32)), (.int (10 : Int32)), (.int (13 : Int32)), (.int (0 : Int32)), (.int (0 : Int32)), (.int (0 : Int32)), (.int (0 : Int32)), (.int (0 : Int32)), (.int (0 : Int32)), (.int (0 : Int32)), (.int (0 : Int32)), (.int (0 : Int32)), (.int (0 : Int32)), (.int (0 : Int32)), (.int (0 : Int32)), (.int (0 : Int32))] (.int (0 : Int32)) := V7
  obtain ⟨T9, h9, X9, e9, W9, V9, st9⟩ := oStI X7 hx hZ e7 V_8 (j := (3 : Int32)) ⟨by decide, by decide⟩ 3 rfl (Nat.le_of_ble_eq_true rfl) (g := (mkF m 23 #[oi p0, oi p1, .unset, .unset, .unset, .unset, .unset, .unset] [(.int (32 : Int32)), (.int (3 : Int32)), (.ref b1), (.ref b1)])) rfl rfl (hb hby at_23)
  obtain ⟨Lo9, X9, N9⟩ := oOpq X9 (Fr.snoc X9 N7 g_b1)
  have Z9 := Nat.le_trans Z7 (Keep.of_wr W9).1
  have V_10 : Arv Z h9 b1 k1 .int (16 : Int32) [(.int (9 : Int32)), (.int (10 : Int32)), (.int (13 : Int32)), (.int (32 : Int32)), (.int (0 : Int32)), (.int (0 : Int32)), (.int (0 : Int32)), (.int (0 : Int32)), (.int (0 : Int32)), (.int (0 : Int32)), (.int (0 : Int32)), (.int (0 : Int32)), (.int (0 : Int32)), (.int (0 : Int32)), (.int (0 : Int32)), (.int (0 : Int32))] (.int (0 : Int32)) := V9
  obtain ⟨T11, h11, X11, e11, W11, V11, st11⟩ := oStI X9 hx hZ e9 V_10 (j := (4 : Int32)) ⟨by decide, by decide⟩ 4 rfl (Nat.le_of_ble_eq_true rfl) (g := (mkF m 28 #[oi p0, oi p1, .unset, .unset, .unset, .unset, .unset, .unset] [(.int (55295 : Int32)), (.int (4 : Int32)), (.ref b1), (.ref b1)])) rfl rfl (hb hby at_28)
  obtain ⟨Lo11, X11, N11⟩ := oOpq X11 (Fr.snoc X11 N9 g_b1)
  have Z11 := Nat.le_trans Z9 (Keep.of_wr W11).1
  have V_12 : Arv Z h11 b1 k1 .int (16 : Int32) [(.int (9 : Int32)), (.int (10 : Int32)), (.int (13 : Int32)), (.int (32 : Int32)), (.int (55295 : Int32)), (.int (0 : Int32)), (.int (0 : Int32)), (.int (0 : Int32)), (.int (0 : Int32)), (.int (0 : Int32)), (.int (0 : Int32)), (.int (0 : Int32)), (.int (0 : Int32)), (.int (0 : Int32)), (.int (0 : Int32)), (.int (0 : Int32))] (.int (0 : Int32)) := V11
  obtain ⟨T13, h13, X13, e13, W13, V13, st13⟩ := oStI X11 hx hZ e11 V_12 (j := (5 : Int32)) ⟨by decide, by decide⟩ 5 rfl (Nat.le_of_ble_eq_true rfl) (g := (mkF m 33 #[oi p0, oi p1, .unset, .unset, .unset, .unset, .unset, .unset] [(.int (57344 : Int32)), (.int (5 : Int32)), (.ref b1), (.ref b1)])) rfl rfl (hb hby at_33)
  obtain ⟨Lo13, X13, N13⟩ := oOpq X13 (Fr.snoc X13 N11 g_b1)
  have Z13 := Nat.le_trans Z11 (Keep.of_wr W13).1
  have V_14 : Arv Z h13 b1 k1 .int (16 : Int32) [(.int (9 : Int32)), (.int (10 : Int32)), (.int (13 : Int32)), (.int (32 : Int32)), (.int (55295 : Int32)), (.int (57344 : Int32)), (.int (0 : Int32)), (.int (0 : Int32)), (.int (0 : Int32)), (.int (0 : Int32)), (.int (0 : Int32)), (.int (0 : Int32)), (.int (0 : Int32)), (.int (0 : Int32)), (.int (0 : Int32)), (.int (0 : Int32))] (.int (0 : Int32)) := V13
  obtain ⟨T15, h15, X15, e15, W15, V15, st15⟩ := oStI X13 hx hZ e13 V_14 (j := (6 : Int32)) ⟨by decide, by decide⟩ 6 rfl (Nat.le_of_ble_eq_true rfl) (g := (mkF m 39 #[oi p0, oi p1, .unset, .unset, .unset, .unset, .unset, .unset] [(.int (65533 : Int32)), (.int (6 : Int32)), (.ref b1), (.ref b1)])) rfl rfl (hb hby at_39)
  obtain ⟨Lo15, X15, N15⟩ := oOpq X15 (Fr.snoc X15 N13 g_b1)
  have Z15 := Nat.le_trans Z13 (Keep.of_wr W15).1
  have V_16 : Arv Z h15 b1 k1 .int (16 : Int32) [(.int (9 : Int32)), (.int (10 : Int32)), (.int (13 : Int32)), (.int (32 : Int32)), (.int (55295 : Int32)), (.int (57344 : Int32)), (.int (65533 : Int32)), (.int (0 : Int32)), (.int (0 : Int32)), (.int (0 : Int32)), (.int (0 : Int32)), (.int (0 : Int32)), (.int (0 : Int32)), (.int (0 : Int32)), (.int (0 : Int32)), (.int (0 : Int32))] (.int (0 : Int32)) := V15
  obtain ⟨T17, h17, X17, e17, W17, V17, st17⟩ := oStI X15 hx hZ e15 V_16 (j := (7 : Int32)) ⟨by decide, by decide⟩ 7 rfl (Nat.le_of_ble_eq_true rfl) (g := (mkF m 45 #[oi p0, oi p1, .unset, .unset, .unset, .unset, .unset, .unset] [(.int (65536 : Int32)), (.int (7 : Int32)), (.ref b1), (.ref b1)])) rfl rfl (hb hby at_45)
  obtain ⟨Lo17, X17, N17⟩ := oOpq X17 (Fr.snoc X17 N15 g_b1)
  have Z17 := Nat.le_trans Z15 (Keep.of_wr W17).1
  have V_18 : Arv Z h17 b1 k1 .int (16 : Int32) [(.int (9 : Int32)), (.int (10 : Int32)), (.int (13 : Int32)), (.int (32 : Int32)), (.int (55295 : Int32)), (.int (57344 : Int32)), (.int (65533 : Int32)), (.int (65536 : Int32)), (.int (0 : Int32)), (.int (0 : Int32)), (.int (0 : Int32)), (.int (0 : Int32)), (.int (0 : Int32)), (.int (0 : Int32)), (.int (0 : Int32)), (.int (0 : Int32))] (.int (0 : Int32)) := V17
  obtain ⟨T19, h19, X19, e19, W19, V19, st19⟩ := oStI X17 hx hZ e17 V_18 (j := (8 : Int32)) ⟨by decide, by decide⟩ 8 rfl (Nat.le_of_ble_eq_true rfl) (g := (mkF m 51 #[oi p0, oi p1, .unset, .unset, .unset, .unset, .unset, .unset] [(.int (1114111 : Int32)), (.int (8 : Int32)), (.ref b1), (.ref b1)])) rfl rfl (hb hby at_51)
  obtain ⟨Lo19, X19, N19⟩ := oOpq X19 (Fr.snoc X19 N17 g_b1)
  have Z19 := Nat.le_trans Z17 (Keep.of_wr W19).1
  have V_20 : Arv Z h19 b1 k1 .int (16 : Int32) [(.int (9 : Int32)), (.int (10 : Int32)), (.int (13 : Int32)), (.int (32 : Int32)), (.int (55295 : Int32)), (.int (57344 : Int32)), (.int (65533 : Int32)), (.int (65536 : Int32)), (.int (1114111 : Int32)), (.int (0 : Int32)), (.int (0 : Int32)), (.int (0 : Int32)), (.int (0 : Int32)), (.int (0 : Int32)), (.int (0 : Int32)), (.int (0 : Int32))] (.int (0 : Int32)) := V19
  obtain ⟨T21, h21, X21, e21, W21, V21, st21⟩ := oStI X19 hx hZ e19 V_20 (j := (9 : Int32)) ⟨by decide, by decide⟩ 9 rfl (Nat.le_of_ble_eq_true rfl) (g := (mkF m 57 #[oi p0, oi p1, .unset, .unset, .unset, .unset, .unset, .unset] [(.int (1114112 : Int32)), (.int (9 : Int32)), (.ref b1), (.ref b1)])) rfl rfl (hb hby at_57)
  obtain ⟨Lo21, X21, N21⟩ := oOpq X21 (Fr.snoc X21 N19 g_b1)
  have Z21 := Nat.le_trans Z19 (Keep.of_wr W21).1
  have V_22 : Arv Z h21 b1 k1 .int (16 : Int32) [(.int (9 : Int32)), (.int (10 : Int32)), (.int (13 : Int32)), (.int (32 : Int32)), (.int (55295 : Int32)), (.int (57344 : Int32)), (.int (65533 : Int32)), (.int (65536 : Int32)), (.int (1114111 : Int32)), (.int (1114112 : Int32)), (.int (0 : Int32)), (.int (0 : Int32)), (.int (0 : Int32)), (.int (0 : Int32)), (.int (0 : Int32)), (.int (0 : Int32))] (.int (0 : Int32)) := V21
  obtain ⟨T23, h23, X23, e23, W23, V23, st23⟩ := oStI X21 hx hZ e21 V_22 (j := (10 : Int32)) ⟨by decide, by decide⟩ 10 rfl (Nat.le_of_ble_eq_true rfl) (g := (mkF m 63 #[oi p0, oi p1, .unset, .unset, .unset, .unset, .unset, .unset] [(.int (55296 : Int32)), (.int (10 : Int32)), (.ref b1), (.ref b1)])) rfl rfl (hb hby at_63)
  obtain ⟨Lo23, X23, N23⟩ := oOpq X23 (Fr.snoc X23 N21 g_b1)
  have Z23 := Nat.le_trans Z21 (Keep.of_wr W23).1
  have V_24 : Arv Z h23 b1 k1 .int (16 : Int32) [(.int (9 : Int32)), (.int (10 : Int32)), (.int (13 : Int32)), (.int (32 : Int32)), (.int (55295 : Int32)), (.int (57344 : Int32)), (.int (65533 : Int32)), (.int (65536 : Int32)), (.int (1114111 : Int32)), (.int (1114112 : Int32)), (.int (55296 : Int32)), (.int (0 : Int32)), (.int (0 : Int32)), (.int (0 : Int32)), (.int (0 : Int32)), (.int (0 : Int32))] (.int (0 : Int32)) := V23
  obtain ⟨T25, h25, X25, e25, W25, V25, st25⟩ := oStI X23 hx hZ e23 V_24 (j := (11 : Int32)) ⟨by decide, by decide⟩ 11 rfl (Nat.le_of_ble_eq_true rfl) (g := (mkF m 69 #[oi p0, oi p1, .unset, .unset, .unset, .unset, .unset, .unset] [(.int (57343 : Int32)), (.int (11 : Int32)), (.ref b1), (.ref b1)])) rfl rfl (hb hby at_69)
  obtain ⟨Lo25, X25, N25⟩ := oOpq X25 (Fr.snoc X25 N23 g_b1)
  have Z25 := Nat.le_trans Z23 (Keep.of_wr W25).1
  have V_26 : Arv Z h25 b1 k1 .int (16 : Int32) [(.int (9 : Int32)), (.int (10 : Int32)), (.int (13 : Int32)), (.int (32 : Int32)), (.int (55295 : Int32)), (.int (57344 : Int32)), (.int (65533 : Int32)), (.int (65536 : Int32)), (.int (1114111 : Int32)), (.int (1114112 : Int32)), (.int (55296 : Int32)), (.int (57343 : Int32)), (.int (0 : Int32)), (.int (0 : Int32)), (.int (0 : Int32)), (.int (0 : Int32))] (.int (0 : Int32)) := V25
  obtain ⟨T27, h27, X27, e27, W27, V27, st27⟩ := oStI X25 hx hZ e25 V_26 (j := (12 : Int32)) ⟨by decide, by decide⟩ 12 rfl (Nat.le_of_ble_eq_true rfl) (g := (mkF m 75 #[oi p0, oi p1, .unset, .unset, .unset, .unset, .unset, .unset] [(.int (65534 : Int32)), (.int (12 : Int32)), (.ref b1), (.ref b1)])) rfl rfl (hb hby at_75)
  obtain ⟨Lo27, X27, N27⟩ := oOpq X27 (Fr.snoc X27 N25 g_b1)
  have Z27 := Nat.le_trans Z25 (Keep.of_wr W27).1
  have V_28 : Arv Z h27 b1 k1 .int (16 : Int32) [(.int (9 : Int32)), (.int (10 : Int32)), (.int (13 : Int32)), (.int (32 : Int32)), (.int (55295 : Int32)), (.int (57344 : Int32)), (.int (65533 : Int32)), (.int (65536 : Int32)), (.int (1114111 : Int32)), (.int (1114112 : Int32)), (.int (55296 : Int32)), (.int (57343 : Int32)), (.int (65534 : Int32)), (.int (0 : Int32)), (.int (0 : Int32)), (.int (0 : Int32))] (.int (0 : Int32)) := V27
  obtain ⟨T29, h29, X29, e29, W29, V29, st29⟩ := oStI X27 hx hZ e27 V_28 (j := (13 : Int32)) ⟨by decide, by decide⟩ 13 rfl (Nat.le_of_ble_eq_true rfl) (g := (mkF m 80 #[oi p0, oi p1, .unset, .unset, .unset, .unset, .unset, .unset] [(.int (0 : Int32)), (.int (13 : Int32)), (.ref b1), (.ref b1)])) rfl rfl (hb hby at_80)
  obtain ⟨Lo29, X29, N29⟩ := oOpq X29 (Fr.snoc X29 N27 g_b1)
  have Z29 := Nat.le_trans Z27 (Keep.of_wr W29).1
  have V_30 : Arv Z h29 b1 k1 .int (16 : Int32) [(.int (9 : Int32)), (.int (10 : Int32)), (.int (13 : Int32)), (.int (32 : Int32)), (.int (55295 : Int32)), (.int (57344 : Int32)), (.int (65533 : Int32)), (.int (65536 : Int32)), (.int (1114111 : Int32)), (.int (1114112 : Int32)), (.int (55296 : Int32)), (.int (57343 : Int32)), (.int (65534 : Int32)), (.int (0 : Int32)), (.int (0 : Int32)), (.int (0 : Int32))] (.int (0 : Int32)) := V29
  obtain ⟨T31, h31, X31, e31, W31, V31, st31⟩ := oStI X29 hx hZ e29 V_30 (j := (14 : Int32)) ⟨by decide, by decide⟩ 14 rfl (Nat.le_of_ble_eq_true rfl) (g := (mkF m 86 #[oi p0, oi p1, .unset, .unset, .unset, .unset, .unset, .unset] [(.int (-2147483648 : Int32)), (.int (14 : Int32)), (.ref b1), (.ref b1)])) rfl rfl (hb hby at_86)
  obtain ⟨Lo31, X31, N31⟩ := oOpq X31 (Fr.snoc X31 N29 g_b1)
  have Z31 := Nat.le_trans Z29 (Keep.of_wr W31).1
  have V_32 : Arv Z h31 b1 k1 .int (16 : Int32) [(.int (9 : Int32)), (.int (10 : Int32)), (.int (13 : Int32)), (.int (32 : Int32)), (.int (55295 : Int32)), (.int (57344 : Int32)), (.int (65533 : Int32)), (.int (65536 : Int32)), (.int (1114111 : Int32)), (.int (1114112 : Int32)), (.int (55296 : Int32)), (.int (57343 : Int32)), (.int (65534 : Int32)), (.int (0 : Int32)), (.int (-2147483648 : Int32)), (.int (0 : Int32))] (.int (0 : Int32)) := V31
  obtain ⟨T33, h33, X33, e33, W33, V33, st33⟩ := oStI X31 hx hZ e31 V_32 (j := (15 : Int32)) ⟨by decide, by decide⟩ 15 rfl (Nat.le_of_ble_eq_true rfl) (g := (mkF m 92 #[oi p0, oi p1, .unset, .unset, .unset, .unset, .unset, .unset] [(.int (2147483647 : Int32)), (.int (15 : Int32)), (.ref b1), (.ref b1)])) rfl rfl (hb hby at_92)
  obtain ⟨Lo33, X33, N33⟩ := oOpq X33 (Fr.snoc X33 N31 g_b1)
  have Z33 := Nat.le_trans Z31 (Keep.of_wr W33).1
  have V_34 : Arv Z h33 b1 k1 .int (16 : Int32) [(.int (9 : Int32)), (.int (10 : Int32)), (.int (13 : Int32)), (.int (32 : Int32)), (.int (55295 : Int32)), (.int (57344 : Int32)), (.int (65533 : Int32)), (.int (65536 : Int32)), (.int (1114111 : Int32)), (.int (1114112 : Int32)), (.int (55296 : Int32)), (.int (57343 : Int32)), (.int (65534 : Int32)), (.int (0 : Int32)), (.int (-2147483648 : Int32)), (.int (2147483647 : Int32))] (.int (0 : Int32)) := V33
  have hin35 : ¬ (p1 &&& (15 : Int32)) < 0 ∧ (p1 &&& (15 : Int32)) < (16 : Int32) := (own_m15 _)
  have hat36 : ([(.int (9 : Int32)), (.int (10 : Int32)), (.int (13 : Int32)), (.int (32 : Int32)), (.int (55295 : Int32)), (.int (57344 : Int32)), (.int (65533 : Int32)), (.int (65536 : Int32)), (.int (1114111 : Int32)), (.int (1114112 : Int32)), (.int (55296 : Int32)), (.int (57343 : Int32)), (.int (65534 : Int32)), (.int (0 : Int32)), (.int (-2147483648 : Int32)), (.int (2147483647 : Int32))] : List Value).getD ((p1 &&& (15 : Int32))).toNatClampNeg (.int (0 : Int32)) = (.int (([(9 : Int32), (10 : Int32), (13 : Int32), (32 : Int32), (55295 : Int32), (57344 : Int32), (65533 : Int32), (65536 : Int32), (1114111 : Int32), (1114112 : Int32), (55296 : Int32), (57343 : Int32), (65534 : Int32), (0 : Int32), (-2147483648 : Int32), (2147483647 : Int32)] : List Int32).getD ((p1 &&& (15 : Int32))).toNatClampNeg 0)) := (own_getD [(9 : Int32), (10 : Int32), (13 : Int32), (32 : Int32), (55295 : Int32), (57344 : Int32), (65533 : Int32), (65536 : Int32), (1114111 : Int32), (1114112 : Int32), (55296 : Int32), (57343 : Int32), (65534 : Int32), (0 : Int32), (-2147483648 : Int32), (2147483647 : Int32)] _)
  have pre37 : ∀ t, Steps p.tables e below (T33.setTop (mkF m 100 #[oi p0, oi p1, oa b1, .unset, .unset, .unset, .unset, .unset] [(.int (([(9 : Int32), (10 : Int32), (13 : Int32), (32 : Int32), (55295 : Int32), (57344 : Int32), (65533 : Int32), (65536 : Int32), (1114111 : Int32), (1114112 : Int32), (55296 : Int32), (57343 : Int32), (65534 : Int32), (0 : Int32), (-2147483648 : Int32), (2147483647 : Int32)] : List Int32).getD ((p1 &&& (15 : Int32))).toNatClampNeg 0))])) t → Steps p.tables e below (s₁.setTop (entryFrame m #[(.int p0), (.int p1)] maxLocals)) t := by
    intro t k
    refine pre0 t ?_
    show oS p e below s₁ m 0 #[oi p0, oi p1, .unset, .unset, .unset, .unset, .unset, .unset] [] _
    refine XS.bipush X0.here hx rfl (hb hby at_0) ?_
    show oS p e below s₁ m 2 #[oi p0, oi p1, .unset, .unset, .unset, .unset, .unset, .unset] [(.int (16 : Int32))] _
    refine st1 _ ?_
    show oS p e below T1 m 4 #[oi p0, oi p1, .unset, .unset, .unset, .unset, .unset, .unset] [(.ref b1)] _
    refine XS.dup X1.here hx rfl (hb hby at_4) rfl rfl ?_
    show oS p e below T1 m 5 #[oi p0, oi p1, .unset, .unset, .unset, .unset, .unset, .unset] [(.ref b1), (.ref b1)] _
    refine XS.iconst X1.here hx rfl (hb hby at_5) ?_
    show oS p e below T1 m 6 #[oi p0, oi p1, .unset, .unset, .unset, .unset, .unset, .unset] [(.int (0 : Int32)), (.ref b1), (.ref b1)] _
    refine XS.bipush X1.here hx rfl (hb hby at_6) ?_
    show oS p e below T1 m 8 #[oi p0, oi p1, .unset, .unset, .unset, .unset, .unset, .unset] [(.int (9 : Int32)), (.int (0 : Int32)), (.ref b1), (.ref b1)] _
    refine st3 _ ?_
    show oS p e below T3 m 9 #[oi p0, oi p1, .unset, .unset, .unset, .unset, .unset, .unset] [(.ref b1)] _
    refine XS.dup X3.here hx rfl (hb hby at_9) rfl rfl ?_
    show oS p e below T3 m 10 #[oi p0, oi p1, .unset, .unset, .unset, .unset, .unset, .unset] [(.ref b1), (.ref b1)] _
    refine XS.iconst X3.here hx rfl (hb hby at_10) ?_
    show oS p e below T3 m 11 #[oi p0, oi p1, .unset, .unset, .unset, .unset, .unset, .unset] [(.int (1 : Int32)), (.ref b1), (.ref b1)] _
    refine XS.bipush X3.here hx rfl (hb hby at_11) ?_
    show oS p e below T3 m 13 #[oi p0, oi p1, .unset, .unset, .unset, .unset, .unset, .unset] [(.int (10 : Int32)), (.int (1 : Int32)), (.ref b1), (.ref b1)] _
    refine st5 _ ?_
    show oS p e below T5 m 14 #[oi p0, oi p1, .unset, .unset, .unset, .unset, .unset, .unset] [(.ref b1)] _
    refine XS.dup X5.here hx rfl (hb hby at_14) rfl rfl ?_
    show oS p e below T5 m 15 #[oi p0, oi p1, .unset, .unset, .unset, .unset, .unset, .unset] [(.ref b1), (.ref b1)] _
    refine XS.iconst X5.here hx rfl (hb hby at_15) ?_
    show oS p e below T5 m 16 #[oi p0, oi p1, .unset, .unset, .unset, .unset, .unset, .unset] [(.int (2 : Int32)), (.ref b1), (.ref b1)] _
    refine XS.bipush X5.here hx rfl (hb hby at_16) ?_
    show oS p e below T5 m 18 #[oi p0, oi p1, .unset, .unset, .unset, .unset, .unset, .unset] [(.int (13 : Int32)), (.int (2 : Int32)), (.ref b1), (.ref b1)] _
    refine st7 _ ?_
    show oS p e below T7 m 19 #[oi p0, oi p1, .unset, .unset, .unset, .unset, .unset, .unset] [(.ref b1)] _
    refine XS.dup X7.here hx rfl (hb hby at_19) rfl rfl ?_
    show oS p e below T7 m 20 #[oi p0, oi p1, .unset, .unset, .unset, .unset, .unset, .unset] [(.ref b1), (.ref b1)] _
    refine XS.iconst X7.here hx rfl (hb hby at_20) ?_
    show oS p e below T7 m 21 #[oi p0, oi p1, .unset, .unset, .unset, .unset, .unset, .unset] [(.int (3 : Int32)), (.ref b1), (.ref b1)] _
    refine XS.bipush X7.here hx rfl (hb hby at_21) ?_
    show oS p e below T7 m 23 #[oi p0, oi p1, .unset, .unset, .unset, .unset, .unset, .unset] [(.int (32 : Int32)), (.int (3 : Int32)), (.ref b1), (.ref b1)] _
    refine st9 _ ?_
    show oS p e below T9 m 24 #[oi p0, oi p1, .unset, .unset, .unset, .unset, .unset, .unset] [(.ref b1)] _
    refine XS.dup X9.here hx rfl (hb hby at_24) rfl rfl ?_
    show oS p e below T9 m 25 #[oi p0, oi p1, .unset, .unset, .unset, .unset, .unset, .unset] [(.ref b1), (.ref b1)] _
    refine XS.iconst X9.here hx rfl (hb hby at_25) ?_
    show oS p e below T9 m 26 #[oi p0, oi p1, .unset, .unset, .unset, .unset, .unset, .unset] [(.int (4 : Int32)), (.ref b1), (.ref b1)] _
    refine X9.ldcInt hx hown (mvT hZ (hw _ (List.mem_of_getElem? (i := 1) rfl))) (g := (mkF m 26 #[oi p0, oi p1, .unset, .unset, .unset, .unset, .unset, .unset] [(.int (4 : Int32)), (.ref b1), (.ref b1)])) rfl (hb hby at_26) _ ?_
    show oS p e below T9 m 28 #[oi p0, oi p1, .unset, .unset, .unset, .unset, .unset, .unset] [(.int (55295 : Int32)), (.int (4 : Int32)), (.ref b1), (.ref b1)] _
    refine st11 _ ?_
    show oS p e below T11 m 29 #[oi p0, oi p1, .unset, .unset, .unset, .unset, .unset, .unset] [(.ref b1)] _
    refine XS.dup X11.here hx rfl (hb hby at_29) rfl rfl ?_
    show oS p e below T11 m 30 #[oi p0, oi p1, .unset, .unset, .unset, .unset, .unset, .unset] [(.ref b1), (.ref b1)] _
    refine XS.iconst X11.here hx rfl (hb hby at_30) ?_
    show oS p e below T11 m 31 #[oi p0, oi p1, .unset, .unset, .unset, .unset, .unset, .unset] [(.int (5 : Int32)), (.ref b1), (.ref b1)] _
    refine X11.ldcInt hx hown (mvT hZ (hw _ (List.mem_of_getElem? (i := 2) rfl))) (g := (mkF m 31 #[oi p0, oi p1, .unset, .unset, .unset, .unset, .unset, .unset] [(.int (5 : Int32)), (.ref b1), (.ref b1)])) rfl (hb hby at_31) _ ?_
    show oS p e below T11 m 33 #[oi p0, oi p1, .unset, .unset, .unset, .unset, .unset, .unset] [(.int (57344 : Int32)), (.int (5 : Int32)), (.ref b1), (.ref b1)] _
    refine st13 _ ?_
    show oS p e below T13 m 34 #[oi p0, oi p1, .unset, .unset, .unset, .unset, .unset, .unset] [(.ref b1)] _
    refine XS.dup X13.here hx rfl (hb hby at_34) rfl rfl ?_
    show oS p e below T13 m 35 #[oi p0, oi p1, .unset, .unset, .unset, .unset, .unset, .unset] [(.ref b1), (.ref b1)] _
    refine XS.bipush X13.here hx rfl (hb hby at_35) ?_
    show oS p e below T13 m 37 #[oi p0, oi p1, .unset, .unset, .unset, .unset, .unset, .unset] [(.int (6 : Int32)), (.ref b1), (.ref b1)] _
    refine X13.ldcInt hx hown (mvT hZ (hw _ (List.mem_of_getElem? (i := 3) rfl))) (g := (mkF m 37 #[oi p0, oi p1, .unset, .unset, .unset, .unset, .unset, .unset] [(.int (6 : Int32)), (.ref b1), (.ref b1)])) rfl (hb hby at_37) _ ?_
    show oS p e below T13 m 39 #[oi p0, oi p1, .unset, .unset, .unset, .unset, .unset, .unset] [(.int (65533 : Int32)), (.int (6 : Int32)), (.ref b1), (.ref b1)] _
    refine st15 _ ?_
    show oS p e below T15 m 40 #[oi p0, oi p1, .unset, .unset, .unset, .unset, .unset, .unset] [(.ref b1)] _
    refine XS.dup X15.here hx rfl (hb hby at_40) rfl rfl ?_
    show oS p e below T15 m 41 #[oi p0, oi p1, .unset, .unset, .unset, .unset, .unset, .unset] [(.ref b1), (.ref b1)] _
    refine XS.bipush X15.here hx rfl (hb hby at_41) ?_
    show oS p e below T15 m 43 #[oi p0, oi p1, .unset, .unset, .unset, .unset, .unset, .unset] [(.int (7 : Int32)), (.ref b1), (.ref b1)] _
    refine X15.ldcInt hx hown (mvT hZ (hw _ (List.mem_of_getElem? (i := 4) rfl))) (g := (mkF m 43 #[oi p0, oi p1, .unset, .unset, .unset, .unset, .unset, .unset] [(.int (7 : Int32)), (.ref b1), (.ref b1)])) rfl (hb hby at_43) _ ?_
    show oS p e below T15 m 45 #[oi p0, oi p1, .unset, .unset, .unset, .unset, .unset, .unset] [(.int (65536 : Int32)), (.int (7 : Int32)), (.ref b1), (.ref b1)] _
    refine st17 _ ?_
    show oS p e below T17 m 46 #[oi p0, oi p1, .unset, .unset, .unset, .unset, .unset, .unset] [(.ref b1)] _
    refine XS.dup X17.here hx rfl (hb hby at_46) rfl rfl ?_
    show oS p e below T17 m 47 #[oi p0, oi p1, .unset, .unset, .unset, .unset, .unset, .unset] [(.ref b1), (.ref b1)] _
    refine XS.bipush X17.here hx rfl (hb hby at_47) ?_
    show oS p e below T17 m 49 #[oi p0, oi p1, .unset, .unset, .unset, .unset, .unset, .unset] [(.int (8 : Int32)), (.ref b1), (.ref b1)] _
    refine X17.ldcInt hx hown (mvT hZ (hw _ (List.mem_of_getElem? (i := 5) rfl))) (g := (mkF m 49 #[oi p0, oi p1, .unset, .unset, .unset, .unset, .unset, .unset] [(.int (8 : Int32)), (.ref b1), (.ref b1)])) rfl (hb hby at_49) _ ?_
    show oS p e below T17 m 51 #[oi p0, oi p1, .unset, .unset, .unset, .unset, .unset, .unset] [(.int (1114111 : Int32)), (.int (8 : Int32)), (.ref b1), (.ref b1)] _
    refine st19 _ ?_
    show oS p e below T19 m 52 #[oi p0, oi p1, .unset, .unset, .unset, .unset, .unset, .unset] [(.ref b1)] _
    refine XS.dup X19.here hx rfl (hb hby at_52) rfl rfl ?_
    show oS p e below T19 m 53 #[oi p0, oi p1, .unset, .unset, .unset, .unset, .unset, .unset] [(.ref b1), (.ref b1)] _
    refine XS.bipush X19.here hx rfl (hb hby at_53) ?_
    show oS p e below T19 m 55 #[oi p0, oi p1, .unset, .unset, .unset, .unset, .unset, .unset] [(.int (9 : Int32)), (.ref b1), (.ref b1)] _
    refine X19.ldcInt hx hown (mvT hZ (hw _ (List.mem_of_getElem? (i := 6) rfl))) (g := (mkF m 55 #[oi p0, oi p1, .unset, .unset, .unset, .unset, .unset, .unset] [(.int (9 : Int32)), (.ref b1), (.ref b1)])) rfl (hb hby at_55) _ ?_
    show oS p e below T19 m 57 #[oi p0, oi p1, .unset, .unset, .unset, .unset, .unset, .unset] [(.int (1114112 : Int32)), (.int (9 : Int32)), (.ref b1), (.ref b1)] _
    refine st21 _ ?_
    show oS p e below T21 m 58 #[oi p0, oi p1, .unset, .unset, .unset, .unset, .unset, .unset] [(.ref b1)] _
    refine XS.dup X21.here hx rfl (hb hby at_58) rfl rfl ?_
    show oS p e below T21 m 59 #[oi p0, oi p1, .unset, .unset, .unset, .unset, .unset, .unset] [(.ref b1), (.ref b1)] _
    refine XS.bipush X21.here hx rfl (hb hby at_59) ?_
    show oS p e below T21 m 61 #[oi p0, oi p1, .unset, .unset, .unset, .unset, .unset, .unset] [(.int (10 : Int32)), (.ref b1), (.ref b1)] _
    refine X21.ldcInt hx hown (mvT hZ (hw _ (List.mem_of_getElem? (i := 7) rfl))) (g := (mkF m 61 #[oi p0, oi p1, .unset, .unset, .unset, .unset, .unset, .unset] [(.int (10 : Int32)), (.ref b1), (.ref b1)])) rfl (hb hby at_61) _ ?_
    show oS p e below T21 m 63 #[oi p0, oi p1, .unset, .unset, .unset, .unset, .unset, .unset] [(.int (55296 : Int32)), (.int (10 : Int32)), (.ref b1), (.ref b1)] _
    refine st23 _ ?_
    show oS p e below T23 m 64 #[oi p0, oi p1, .unset, .unset, .unset, .unset, .unset, .unset] [(.ref b1)] _
    refine XS.dup X23.here hx rfl (hb hby at_64) rfl rfl ?_
    show oS p e below T23 m 65 #[oi p0, oi p1, .unset, .unset, .unset, .unset, .unset, .unset] [(.ref b1), (.ref b1)] _
    refine XS.bipush X23.here hx rfl (hb hby at_65) ?_
    show oS p e below T23 m 67 #[oi p0, oi p1, .unset, .unset, .unset, .unset, .unset, .unset] [(.int (11 : Int32)), (.ref b1), (.ref b1)] _
    refine X23.ldcInt hx hown (mvT hZ (hw _ (List.mem_of_getElem? (i := 8) rfl))) (g := (mkF m 67 #[oi p0, oi p1, .unset, .unset, .unset, .unset, .unset, .unset] [(.int (11 : Int32)), (.ref b1), (.ref b1)])) rfl (hb hby at_67) _ ?_
    show oS p e below T23 m 69 #[oi p0, oi p1, .unset, .unset, .unset, .unset, .unset, .unset] [(.int (57343 : Int32)), (.int (11 : Int32)), (.ref b1), (.ref b1)] _
    refine st25 _ ?_
    show oS p e below T25 m 70 #[oi p0, oi p1, .unset, .unset, .unset, .unset, .unset, .unset] [(.ref b1)] _
    refine XS.dup X25.here hx rfl (hb hby at_70) rfl rfl ?_
    show oS p e below T25 m 71 #[oi p0, oi p1, .unset, .unset, .unset, .unset, .unset, .unset] [(.ref b1), (.ref b1)] _
    refine XS.bipush X25.here hx rfl (hb hby at_71) ?_
    show oS p e below T25 m 73 #[oi p0, oi p1, .unset, .unset, .unset, .unset, .unset, .unset] [(.int (12 : Int32)), (.ref b1), (.ref b1)] _
    refine X25.ldcInt hx hown (mvT hZ (hw _ (List.mem_of_getElem? (i := 9) rfl))) (g := (mkF m 73 #[oi p0, oi p1, .unset, .unset, .unset, .unset, .unset, .unset] [(.int (12 : Int32)), (.ref b1), (.ref b1)])) rfl (hb hby at_73) _ ?_
    show oS p e below T25 m 75 #[oi p0, oi p1, .unset, .unset, .unset, .unset, .unset, .unset] [(.int (65534 : Int32)), (.int (12 : Int32)), (.ref b1), (.ref b1)] _
    refine st27 _ ?_
    show oS p e below T27 m 76 #[oi p0, oi p1, .unset, .unset, .unset, .unset, .unset, .unset] [(.ref b1)] _
    refine XS.dup X27.here hx rfl (hb hby at_76) rfl rfl ?_
    show oS p e below T27 m 77 #[oi p0, oi p1, .unset, .unset, .unset, .unset, .unset, .unset] [(.ref b1), (.ref b1)] _
    refine XS.bipush X27.here hx rfl (hb hby at_77) ?_
    show oS p e below T27 m 79 #[oi p0, oi p1, .unset, .unset, .unset, .unset, .unset, .unset] [(.int (13 : Int32)), (.ref b1), (.ref b1)] _
    refine XS.iconst X27.here hx rfl (hb hby at_79) ?_
    show oS p e below T27 m 80 #[oi p0, oi p1, .unset, .unset, .unset, .unset, .unset, .unset] [(.int (0 : Int32)), (.int (13 : Int32)), (.ref b1), (.ref b1)] _
    refine st29 _ ?_
    show oS p e below T29 m 81 #[oi p0, oi p1, .unset, .unset, .unset, .unset, .unset, .unset] [(.ref b1)] _
    refine XS.dup X29.here hx rfl (hb hby at_81) rfl rfl ?_
    show oS p e below T29 m 82 #[oi p0, oi p1, .unset, .unset, .unset, .unset, .unset, .unset] [(.ref b1), (.ref b1)] _
    refine XS.bipush X29.here hx rfl (hb hby at_82) ?_
    show oS p e below T29 m 84 #[oi p0, oi p1, .unset, .unset, .unset, .unset, .unset, .unset] [(.int (14 : Int32)), (.ref b1), (.ref b1)] _
    refine X29.ldcInt hx hown (mvT hZ (hw _ (List.mem_of_getElem? (i := 10) rfl))) (g := (mkF m 84 #[oi p0, oi p1, .unset, .unset, .unset, .unset, .unset, .unset] [(.int (14 : Int32)), (.ref b1), (.ref b1)])) rfl (hb hby at_84) _ ?_
    show oS p e below T29 m 86 #[oi p0, oi p1, .unset, .unset, .unset, .unset, .unset, .unset] [(.int (-2147483648 : Int32)), (.int (14 : Int32)), (.ref b1), (.ref b1)] _
    refine st31 _ ?_
    show oS p e below T31 m 87 #[oi p0, oi p1, .unset, .unset, .unset, .unset, .unset, .unset] [(.ref b1)] _
    refine XS.dup X31.here hx rfl (hb hby at_87) rfl rfl ?_
    show oS p e below T31 m 88 #[oi p0, oi p1, .unset, .unset, .unset, .unset, .unset, .unset] [(.ref b1), (.ref b1)] _
    refine XS.bipush X31.here hx rfl (hb hby at_88) ?_
    show oS p e below T31 m 90 #[oi p0, oi p1, .unset, .unset, .unset, .unset, .unset, .unset] [(.int (15 : Int32)), (.ref b1), (.ref b1)] _
    refine X31.ldcInt hx hown (mvT hZ (hw _ (List.mem_of_getElem? (i := 11) rfl))) (g := (mkF m 90 #[oi p0, oi p1, .unset, .unset, .unset, .unset, .unset, .unset] [(.int (15 : Int32)), (.ref b1), (.ref b1)])) rfl (hb hby at_90) _ ?_
    show oS p e below T31 m 92 #[oi p0, oi p1, .unset, .unset, .unset, .unset, .unset, .unset] [(.int (2147483647 : Int32)), (.int (15 : Int32)), (.ref b1), (.ref b1)] _
    refine st33 _ ?_
    show oS p e below T33 m 93 #[oi p0, oi p1, .unset, .unset, .unset, .unset, .unset, .unset] [(.ref b1)] _
    refine XS.astoreN X33.here hx rfl (hb hby at_93) rfl rfl (l' := #[oi p0, oi p1, oa b1, .unset, .unset, .unset, .unset, .unset]) rfl ?_
    show oS p e below T33 m 94 #[oi p0, oi p1, oa b1, .unset, .unset, .unset, .unset, .unset] [] _
    refine XS.aloadN X33.here hx rfl (hb hby at_94) rfl rfl ?_
    show oS p e below T33 m 95 #[oi p0, oi p1, oa b1, .unset, .unset, .unset, .unset, .unset] [(.ref b1)] _
    refine XS.iloadN X33.here hx rfl (hb hby at_95) rfl ?_
    show oS p e below T33 m 96 #[oi p0, oi p1, oa b1, .unset, .unset, .unset, .unset, .unset] [(.int p1), (.ref b1)] _
    refine XS.bipush X33.here hx rfl (hb hby at_96) ?_
    show oS p e below T33 m 98 #[oi p0, oi p1, oa b1, .unset, .unset, .unset, .unset, .unset] [(.int (15 : Int32)), (.int p1), (.ref b1)] _
    refine XS.iand X33.here hx rfl (hb hby at_98) rfl ?_
    show oS p e below T33 m 99 #[oi p0, oi p1, oa b1, .unset, .unset, .unset, .unset, .unset] [(.int (p1 &&& (15 : Int32))), (.ref b1)] _
    refine oLdI X33 hx hZ e33 V_34 (v := (.int (([(9 : Int32), (10 : Int32), (13 : Int32), (32 : Int32), (55295 : Int32), (57344 : Int32), (65533 : Int32), (65536 : Int32), (1114111 : Int32), (1114112 : Int32), (55296 : Int32), (57343 : Int32), (65534 : Int32), (0 : Int32), (-2147483648 : Int32), (2147483647 : Int32)] : List Int32).getD ((p1 &&& (15 : Int32))).toNatClampNeg 0))) hin35 hat36 (hb hby at_99) ?_
    exact k
  obtain ⟨v38, hv38⟩ : ∃ z : Int32, z = (([(9 : Int32), (10 : Int32), (13 : Int32), (32 : Int32), (55295 : Int32), (57344 : Int32), (65533 : Int32), (65536 : Int32), (1114111 : Int32), (1114112 : Int32), (55296 : Int32), (57343 : Int32), (65534 : Int32), (0 : Int32), (-2147483648 : Int32), (2147483647 : Int32)] : List Int32).getD ((p1 &&& (15 : Int32))).toNatClampNeg 0) := ⟨_, rfl⟩
  rw [← hv38] at pre37
  obtain ⟨_, _, ⟨T39, L39, k39, n39⟩, -, X39, ⟨Lc39, hQ39, l39, y39, z39⟩, st39⟩ := Jvm.LawKit.callS X33 hx (y := (⟨"com/example/muster/muster/model/Text", "mayKeep", "(I)Z"⟩ : MethodName)) hown (mvT hZ (hw _ (List.mem_of_getElem? (i := 12) rfl))) (mvT hZ (hw _ (List.mem_of_getElem? (i := 13) rfl))) (mvT hZ (hw _ (List.mem_of_getElem? (i := 14) rfl))) (mvT hZ (hw _ (List.mem_of_getElem? (i := 15) rfl))) (by decide) (backOf (W := 0) (own_rm1 l Z av hw [] p0 h33 n0 Z33 ) hZ (hw _ (List.mem_of_getElem? (i := 15) rfl)) (hw _ (List.mem_of_getElem? (i := 14) rfl)) (by decide) (by decide)) (g := (mkF m 117 #[oi p0, oi p1, oa b1, oi v38, oi ((((p1.toUInt32 >>> ((4 : Int32) &&& 31).toUInt32).toInt32) &&& (3 : Int32)) - (2 : Int32)), oi (v38 + ((((p1.toUInt32 >>> ((4 : Int32) &&& 31).toUInt32).toInt32) &&& (3 : Int32)) - (2 : Int32))), .unset, .unset] [(.int p0)])) rfl (by rw [hml]; rfl) (argsL := [(.int p0)]) (rest := []) (lenOf own_pd0 rfl) rfl (by show 2 * 0 + _ ≤ _; exact Nat.le_of_eq rfl) (hb hby at_117) (fun _ _ => ⟨rfl, e33, (by decide : 1 + 0 ≤ _), (by decide : 16 + 0 ≤ _)⟩)
  dsimp only [Pt.U, Pt.locs, Pt.cells, Pt.slots] at X39 l39 y39 z39 st39 hQ39
  have yq39 : k39 = 1 := y39
  have zq39 : n39 = 16 := z39
  subst yq39 zq39
  obtain ⟨rfl, Nq39, eq39⟩ := hQ39
  have N39 : Fr n0 L39 := by rw [l39]; exact Fr.app N33 Nq39
  obtain ⟨_, _, ⟨T40, L40, k40, n40⟩, -, X40, ⟨Lc40, hQ40, l40, y40, z40⟩, st40⟩ := Jvm.LawKit.callS X39 hx (y := (⟨"com/example/muster/muster/model/TextMayKeepPinLaw", "ref", "(I)Z"⟩ : MethodName)) hown (mvT hZ (hw _ (List.mem_of_getElem? (i := 21) rfl))) (mvT hZ (hw _ (List.mem_of_getElem? (i := 22) rfl))) (mvT hZ (hw _ (List.mem_of_getElem? (i := 23) rfl))) (mvT hZ (hw _ (List.mem_of_getElem? (i := 24) rfl))) (by decide) (backOf (W := 1) (own_rm3 l Z av hw [] p0 h33 n0 Z33 ) hZ (hw _ (List.mem_of_getElem? (i := 24) rfl)) (hw _ (List.mem_of_getElem? (i := 23) rfl)) (by decide) (by decide)) (g := (mkF m 121 #[oi p0, oi p1, oa b1, oi v38, oi ((((p1.toUInt32 >>> ((4 : Int32) &&& 31).toUInt32).toInt32) &&& (3 : Int32)) - (2 : Int32)), oi (v38 + ((((p1.toUInt32 >>> ((4 : Int32) &&& 31).toUInt32).toInt32) &&& (3 : Int32)) - (2 : Int32))), .unset, .unset] [(.int p0), (.int (own_f1 p0))])) rfl (by rw [hml]; rfl) (argsL := [(.int p0)]) (rest := [(.int (own_f1 p0))]) (lenOf own_pd0 rfl) rfl (by show 2 * 0 + _ ≤ _; exact Nat.le_of_eq rfl) (hb hby at_121) (fun _ _ => ⟨rfl, eq39, (by decide : 1 + 0 ≤ _), (by decide : 16 + 0 ≤ _)⟩)
  dsimp only [Pt.U, Pt.locs, Pt.cells, Pt.slots] at X40 l40 y40 z40 st40 hQ40
  have yq40 : k40 = 1 := y40
  have zq40 : n40 = 16 := z40
  subst yq40 zq40
  obtain ⟨rfl, Nq40, eq40⟩ := hQ40
  have N40 : Fr n0 L40 := by rw [l40]; exact Fr.app N39 Nq40
  have b41 : (own_f1 p0) = (own_f3 p0) := own_eq _
  obtain ⟨_, _, ⟨T42, L42, k42, n42⟩, -, X42, ⟨Lc42, hQ42, l42, y42, z42⟩, st42⟩ := Jvm.LawKit.callS X40 hx (y := (⟨"com/example/muster/muster/model/Text", "mayKeep", "(I)Z"⟩ : MethodName)) hown (mvT hZ (hw _ (List.mem_of_getElem? (i := 12) rfl))) (mvT hZ (hw _ (List.mem_of_getElem? (i := 13) rfl))) (mvT hZ (hw _ (List.mem_of_getElem? (i := 14) rfl))) (mvT hZ (hw _ (List.mem_of_getElem? (i := 15) rfl))) (by decide) (backOf (W := 0) (own_rm1 l Z av hw [] (v38 + ((((p1.toUInt32 >>> ((4 : Int32) &&& 31).toUInt32).toInt32) &&& (3 : Int32)) - (2 : Int32))) h33 n0 Z33 ) hZ (hw _ (List.mem_of_getElem? (i := 15) rfl)) (hw _ (List.mem_of_getElem? (i := 14) rfl)) (by decide) (by decide)) (g := (mkF m 136 #[oi p0, oi p1, oa b1, oi v38, oi ((((p1.toUInt32 >>> ((4 : Int32) &&& 31).toUInt32).toInt32) &&& (3 : Int32)) - (2 : Int32)), oi (v38 + ((((p1.toUInt32 >>> ((4 : Int32) &&& 31).toUInt32).toInt32) &&& (3 : Int32)) - (2 : Int32))), oi (1 : Int32), .unset] [(.int (v38 + ((((p1.toUInt32 >>> ((4 : Int32) &&& 31).toUInt32).toInt32) &&& (3 : Int32)) - (2 : Int32))))])) rfl (by rw [hml]; rfl) (argsL := [(.int (v38 + ((((p1.toUInt32 >>> ((4 : Int32) &&& 31).toUInt32).toInt32) &&& (3 : Int32)) - (2 : Int32))))]) (rest := []) (lenOf own_pd0 rfl) rfl (by show 2 * 0 + _ ≤ _; exact Nat.le_of_eq rfl) (hb hby at_136) (fun _ _ => ⟨rfl, eq40, (by decide : 1 + 0 ≤ _), (by decide : 16 + 0 ≤ _)⟩)
  dsimp only [Pt.U, Pt.locs, Pt.cells, Pt.slots] at X42 l42 y42 z42 st42 hQ42
  have yq42 : k42 = 1 := y42
  have zq42 : n42 = 16 := z42
  subst yq42 zq42
  obtain ⟨rfl, Nq42, eq42⟩ := hQ42
  have N42 : Fr n0 L42 := by rw [l42]; exact Fr.app N40 Nq42
  obtain ⟨_, _, ⟨T43, L43, k43, n43⟩, -, X43, ⟨Lc43, hQ43, l43, y43, z43⟩, st43⟩ := Jvm.LawKit.callS X42 hx (y := (⟨"com/example/muster/muster/model/TextMayKeepPinLaw", "ref", "(I)Z"⟩ : MethodName)) hown (mvT hZ (hw _ (List.mem_of_getElem? (i := 21) rfl))) (mvT hZ (hw _ (List.mem_of_getElem? (i := 22) rfl))) (mvT hZ (hw _ (List.mem_of_getElem? (i := 23) rfl))) (mvT hZ (hw _ (List.mem_of_getElem? (i := 24) rfl))) (by decide) (backOf (W := 1) (own_rm3 l Z av hw [] (v38 + ((((p1.toUInt32 >>> ((4 : Int32) &&& 31).toUInt32).toInt32) &&& (3 : Int32)) - (2 : Int32))) h33 n0 Z33 ) hZ (hw _ (List.mem_of_getElem? (i := 24) rfl)) (hw _ (List.mem_of_getElem? (i := 23) rfl)) (by decide) (by decide)) (g := (mkF m 141 #[oi p0, oi p1, oa b1, oi v38, oi ((((p1.toUInt32 >>> ((4 : Int32) &&& 31).toUInt32).toInt32) &&& (3 : Int32)) - (2 : Int32)), oi (v38 + ((((p1.toUInt32 >>> ((4 : Int32) &&& 31).toUInt32).toInt32) &&& (3 : Int32)) - (2 : Int32))), oi (1 : Int32), .unset] [(.int (v38 + ((((p1.toUInt32 >>> ((4 : Int32) &&& 31).toUInt32).toInt32) &&& (3 : Int32)) - (2 : Int32)))), (.int (own_f1 (v38 + ((((p1.toUInt32 >>> ((4 : Int32) &&& 31).toUInt32).toInt32) &&& (3 : Int32)) - (2 : Int32)))))])) rfl (by rw [hml]; rfl) (argsL := [(.int (v38 + ((((p1.toUInt32 >>> ((4 : Int32) &&& 31).toUInt32).toInt32) &&& (3 : Int32)) - (2 : Int32))))]) (rest := [(.int (own_f1 (v38 + ((((p1.toUInt32 >>> ((4 : Int32) &&& 31).toUInt32).toInt32) &&& (3 : Int32)) - (2 : Int32)))))]) (lenOf own_pd0 rfl) rfl (by show 2 * 0 + _ ≤ _; exact Nat.le_of_eq rfl) (hb hby at_141) (fun _ _ => ⟨rfl, eq42, (by decide : 1 + 0 ≤ _), (by decide : 16 + 0 ≤ _)⟩)
  dsimp only [Pt.U, Pt.locs, Pt.cells, Pt.slots] at X43 l43 y43 z43 st43 hQ43
  have yq43 : k43 = 1 := y43
  have zq43 : n43 = 16 := z43
  subst yq43 zq43
  obtain ⟨rfl, Nq43, eq43⟩ := hQ43
  have N43 : Fr n0 L43 := by rw [l43]; exact Fr.app N42 Nq43
  have b44 : (own_f1 (v38 + ((((p1.toUInt32 >>> ((4 : Int32) &&& 31).toUInt32).toInt32) &&& (3 : Int32)) - (2 : Int32)))) = (own_f3 (v38 + ((((p1.toUInt32 >>> ((4 : Int32) &&& 31).toUInt32).toInt32) &&& (3 : Int32)) - (2 : Int32)))) := own_eq _
  have b45 : ¬ ((1 : Int32) = (0 : Int32)) := (by decide)
  have b46 : ¬ ((1 : Int32) = (0 : Int32)) := (by decide)
  obtain ⟨fs, hr, hrun, hended, hW, hsame⟩ := X43.leave (v := (some (.int (1 : Int32)))) (fun h => by rw [Bd.returns] at h; cases h)
  refine ⟨_, _, pre37 _ ?_, hrun, hended, _, _, rfl, ?_, ⟨_, rfl⟩, hW, hsame.mono (by decide) (by decide)⟩
  · show oS p e below T33 m 100 #[oi p0, oi p1, oa b1, .unset, .unset, .unset, .unset, .unset] [(.int v38)] _
    refine XS.istoreN X33.here hx rfl (hb hby at_100) rfl (l' := #[oi p0, oi p1, oa b1, oi v38, .unset, .unset, .unset, .unset]) rfl ?_
    show oS p e below T33 m 101 #[oi p0, oi p1, oa b1, oi v38, .unset, .unset, .unset, .unset] [] _
    refine XS.iloadN X33.here hx rfl (hb hby at_101) rfl ?_
    show oS p e below T33 m 102 #[oi p0, oi p1, oa b1, oi v38, .unset, .unset, .unset, .unset] [(.int p1)] _
    refine XS.iconst X33.here hx rfl (hb hby at_102) ?_
    show oS p e below T33 m 103 #[oi p0, oi p1, oa b1, oi v38, .unset, .unset, .unset, .unset] [(.int (4 : Int32)), (.int p1)] _
    refine XS.iushr X33.here hx rfl (hb hby at_103) rfl ?_
    show oS p e below T33 m 104 #[oi p0, oi p1, oa b1, oi v38, .unset, .unset, .unset, .unset] [(.int ((p1.toUInt32 >>> ((4 : Int32) &&& 31).toUInt32).toInt32))] _
    refine XS.iconst X33.here hx rfl (hb hby at_104) ?_
    show oS p e below T33 m 105 #[oi p0, oi p1, oa b1, oi v38, .unset, .unset, .unset, .unset] [(.int (3 : Int32)), (.int ((p1.toUInt32 >>> ((4 : Int32) &&& 31).toUInt32).toInt32))] _
    refine XS.iand X33.here hx rfl (hb hby at_105) rfl ?_
    show oS p e below T33 m 106 #[oi p0, oi p1, oa b1, oi v38, .unset, .unset, .unset, .unset] [(.int (((p1.toUInt32 >>> ((4 : Int32) &&& 31).toUInt32).toInt32) &&& (3 : Int32)))] _
    refine XS.iconst X33.here hx rfl (hb hby at_106) ?_
    show oS p e below T33 m 107 #[oi p0, oi p1, oa b1, oi v38, .unset, .unset, .unset, .unset] [(.int (2 : Int32)), (.int (((p1.toUInt32 >>> ((4 : Int32) &&& 31).toUInt32).toInt32) &&& (3 : Int32)))] _
    refine XS.isub X33.here hx rfl (hb hby at_107) rfl ?_
    show oS p e below T33 m 108 #[oi p0, oi p1, oa b1, oi v38, .unset, .unset, .unset, .unset] [(.int ((((p1.toUInt32 >>> ((4 : Int32) &&& 31).toUInt32).toInt32) &&& (3 : Int32)) - (2 : Int32)))] _
    refine XS.istore X33.here hx rfl (hb hby at_108) rfl (l' := #[oi p0, oi p1, oa b1, oi v38, oi ((((p1.toUInt32 >>> ((4 : Int32) &&& 31).toUInt32).toInt32) &&& (3 : Int32)) - (2 : Int32)), .unset, .unset, .unset]) rfl ?_
    show oS p e below T33 m 110 #[oi p0, oi p1, oa b1, oi v38, oi ((((p1.toUInt32 >>> ((4 : Int32) &&& 31).toUInt32).toInt32) &&& (3 : Int32)) - (2 : Int32)), .unset, .unset, .unset] [] _
    refine XS.iloadN X33.here hx rfl (hb hby at_110) rfl ?_
    show oS p e below T33 m 111 #[oi p0, oi p1, oa b1, oi v38, oi ((((p1.toUInt32 >>> ((4 : Int32) &&& 31).toUInt32).toInt32) &&& (3 : Int32)) - (2 : Int32)), .unset, .unset, .unset] [(.int v38)] _
    refine XS.iload X33.here hx rfl (hb hby at_111) rfl ?_
    show oS p e below T33 m 113 #[oi p0, oi p1, oa b1, oi v38, oi ((((p1.toUInt32 >>> ((4 : Int32) &&& 31).toUInt32).toInt32) &&& (3 : Int32)) - (2 : Int32)), .unset, .unset, .unset] [(.int ((((p1.toUInt32 >>> ((4 : Int32) &&& 31).toUInt32).toInt32) &&& (3 : Int32)) - (2 : Int32))), (.int v38)] _
    refine XS.iadd X33.here hx rfl (hb hby at_113) rfl ?_
    show oS p e below T33 m 114 #[oi p0, oi p1, oa b1, oi v38, oi ((((p1.toUInt32 >>> ((4 : Int32) &&& 31).toUInt32).toInt32) &&& (3 : Int32)) - (2 : Int32)), .unset, .unset, .unset] [(.int (v38 + ((((p1.toUInt32 >>> ((4 : Int32) &&& 31).toUInt32).toInt32) &&& (3 : Int32)) - (2 : Int32))))] _
    refine XS.istore X33.here hx rfl (hb hby at_114) rfl (l' := #[oi p0, oi p1, oa b1, oi v38, oi ((((p1.toUInt32 >>> ((4 : Int32) &&& 31).toUInt32).toInt32) &&& (3 : Int32)) - (2 : Int32)), oi (v38 + ((((p1.toUInt32 >>> ((4 : Int32) &&& 31).toUInt32).toInt32) &&& (3 : Int32)) - (2 : Int32))), .unset, .unset]) rfl ?_
    show oS p e below T33 m 116 #[oi p0, oi p1, oa b1, oi v38, oi ((((p1.toUInt32 >>> ((4 : Int32) &&& 31).toUInt32).toInt32) &&& (3 : Int32)) - (2 : Int32)), oi (v38 + ((((p1.toUInt32 >>> ((4 : Int32) &&& 31).toUInt32).toInt32) &&& (3 : Int32)) - (2 : Int32))), .unset, .unset] [] _
    refine XS.iloadN X33.here hx rfl (hb hby at_116) rfl ?_
    show oS p e below T33 m 117 #[oi p0, oi p1, oa b1, oi v38, oi ((((p1.toUInt32 >>> ((4 : Int32) &&& 31).toUInt32).toInt32) &&& (3 : Int32)) - (2 : Int32)), oi (v38 + ((((p1.toUInt32 >>> ((4 : Int32) &&& 31).toUInt32).toInt32) &&& (3 : Int32)) - (2 : Int32))), .unset, .unset] [(.int p0)] _
    refine st39 _ ?_
    show oS p e below T39 m 120 #[oi p0, oi p1, oa b1, oi v38, oi ((((p1.toUInt32 >>> ((4 : Int32) &&& 31).toUInt32).toInt32) &&& (3 : Int32)) - (2 : Int32)), oi (v38 + ((((p1.toUInt32 >>> ((4 : Int32) &&& 31).toUInt32).toInt32) &&& (3 : Int32)) - (2 : Int32))), .unset, .unset] [(.int (own_f1 p0))] _
    refine XS.iloadN X39.here hx rfl (hb hby at_120) rfl ?_
    show oS p e below T39 m 121 #[oi p0, oi p1, oa b1, oi v38, oi ((((p1.toUInt32 >>> ((4 : Int32) &&& 31).toUInt32).toInt32) &&& (3 : Int32)) - (2 : Int32)), oi (v38 + ((((p1.toUInt32 >>> ((4 : Int32) &&& 31).toUInt32).toInt32) &&& (3 : Int32)) - (2 : Int32))), .unset, .unset] [(.int p0), (.int (own_f1 p0))] _
    refine st40 _ ?_
    show oS p e below T40 m 124 #[oi p0, oi p1, oa b1, oi v38, oi ((((p1.toUInt32 >>> ((4 : Int32) &&& 31).toUInt32).toInt32) &&& (3 : Int32)) - (2 : Int32)), oi (v38 + ((((p1.toUInt32 >>> ((4 : Int32) &&& 31).toUInt32).toInt32) &&& (3 : Int32)) - (2 : Int32))), .unset, .unset] [(.int (own_f3 p0)), (.int (own_f1 p0))] _
    refine XS.icmpNo X40.here hx rfl (hb hby at_124) rfl (teq b41).2 ?_
    show oS p e below T40 m 127 #[oi p0, oi p1, oa b1, oi v38, oi ((((p1.toUInt32 >>> ((4 : Int32) &&& 31).toUInt32).toInt32) &&& (3 : Int32)) - (2 : Int32)), oi (v38 + ((((p1.toUInt32 >>> ((4 : Int32) &&& 31).toUInt32).toInt32) &&& (3 : Int32)) - (2 : Int32))), .unset, .unset] [] _
    refine XS.iconst X40.here hx rfl (hb hby at_127) ?_
    show oS p e below T40 m 128 #[oi p0, oi p1, oa b1, oi v38, oi ((((p1.toUInt32 >>> ((4 : Int32) &&& 31).toUInt32).toInt32) &&& (3 : Int32)) - (2 : Int32)), oi (v38 + ((((p1.toUInt32 >>> ((4 : Int32) &&& 31).toUInt32).toInt32) &&& (3 : Int32)) - (2 : Int32))), .unset, .unset] [(.int (1 : Int32))] _
    refine XS.goto X40.here hx rfl (pc0 := 128) (pc' := 132) rfl (hb hby at_128) (by decide) (by decide) ?_
    show oS p e below T40 m 132 #[oi p0, oi p1, oa b1, oi v38, oi ((((p1.toUInt32 >>> ((4 : Int32) &&& 31).toUInt32).toInt32) &&& (3 : Int32)) - (2 : Int32)), oi (v38 + ((((p1.toUInt32 >>> ((4 : Int32) &&& 31).toUInt32).toInt32) &&& (3 : Int32)) - (2 : Int32))), .unset, .unset] [(.int (1 : Int32))] _
    refine XS.istore X40.here hx rfl (hb hby at_132) rfl (l' := #[oi p0, oi p1, oa b1, oi v38, oi ((((p1.toUInt32 >>> ((4 : Int32) &&& 31).toUInt32).toInt32) &&& (3 : Int32)) - (2 : Int32)), oi (v38 + ((((p1.toUInt32 >>> ((4 : Int32) &&& 31).toUInt32).toInt32) &&& (3 : Int32)) - (2 : Int32))), oi (1 : Int32), .unset]) rfl ?_
    show oS p e below T40 m 134 #[oi p0, oi p1, oa b1, oi v38, oi ((((p1.toUInt32 >>> ((4 : Int32) &&& 31).toUInt32).toInt32) &&& (3 : Int32)) - (2 : Int32)), oi (v38 + ((((p1.toUInt32 >>> ((4 : Int32) &&& 31).toUInt32).toInt32) &&& (3 : Int32)) - (2 : Int32))), oi (1 : Int32), .unset] [] _
    refine XS.iload X40.here hx rfl (hb hby at_134) rfl ?_
    show oS p e below T40 m 136 #[oi p0, oi p1, oa b1, oi v38, oi ((((p1.toUInt32 >>> ((4 : Int32) &&& 31).toUInt32).toInt32) &&& (3 : Int32)) - (2 : Int32)), oi (v38 + ((((p1.toUInt32 >>> ((4 : Int32) &&& 31).toUInt32).toInt32) &&& (3 : Int32)) - (2 : Int32))), oi (1 : Int32), .unset] [(.int (v38 + ((((p1.toUInt32 >>> ((4 : Int32) &&& 31).toUInt32).toInt32) &&& (3 : Int32)) - (2 : Int32))))] _
    refine st42 _ ?_
    show oS p e below T42 m 139 #[oi p0, oi p1, oa b1, oi v38, oi ((((p1.toUInt32 >>> ((4 : Int32) &&& 31).toUInt32).toInt32) &&& (3 : Int32)) - (2 : Int32)), oi (v38 + ((((p1.toUInt32 >>> ((4 : Int32) &&& 31).toUInt32).toInt32) &&& (3 : Int32)) - (2 : Int32))), oi (1 : Int32), .unset] [(.int (own_f1 (v38 + ((((p1.toUInt32 >>> ((4 : Int32) &&& 31).toUInt32).toInt32) &&& (3 : Int32)) - (2 : Int32)))))] _
    refine XS.iload X42.here hx rfl (hb hby at_139) rfl ?_
    show oS p e below T42 m 141 #[oi p0, oi p1, oa b1, oi v38, oi ((((p1.toUInt32 >>> ((4 : Int32) &&& 31).toUInt32).toInt32) &&& (3 : Int32)) - (2 : Int32)), oi (v38 + ((((p1.toUInt32 >>> ((4 : Int32) &&& 31).toUInt32).toInt32) &&& (3 : Int32)) - (2 : Int32))), oi (1 : Int32), .unset] [(.int (v38 + ((((p1.toUInt32 >>> ((4 : Int32) &&& 31).toUInt32).toInt32) &&& (3 : Int32)) - (2 : Int32)))), (.int (own_f1 (v38 + ((((p1.toUInt32 >>> ((4 : Int32) &&& 31).toUInt32).toInt32) &&& (3 : Int32)) - (2 : Int32)))))] _
    refine st43 _ ?_
    show oS p e below T43 m 144 #[oi p0, oi p1, oa b1, oi v38, oi ((((p1.toUInt32 >>> ((4 : Int32) &&& 31).toUInt32).toInt32) &&& (3 : Int32)) - (2 : Int32)), oi (v38 + ((((p1.toUInt32 >>> ((4 : Int32) &&& 31).toUInt32).toInt32) &&& (3 : Int32)) - (2 : Int32))), oi (1 : Int32), .unset] [(.int (own_f3 (v38 + ((((p1.toUInt32 >>> ((4 : Int32) &&& 31).toUInt32).toInt32) &&& (3 : Int32)) - (2 : Int32))))), (.int (own_f1 (v38 + ((((p1.toUInt32 >>> ((4 : Int32) &&& 31).toUInt32).toInt32) &&& (3 : Int32)) - (2 : Int32)))))] _
    refine XS.icmpNo X43.here hx rfl (hb hby at_144) rfl (teq b44).2 ?_
    show oS p e below T43 m 147 #[oi p0, oi p1, oa b1, oi v38, oi ((((p1.toUInt32 >>> ((4 : Int32) &&& 31).toUInt32).toInt32) &&& (3 : Int32)) - (2 : Int32)), oi (v38 + ((((p1.toUInt32 >>> ((4 : Int32) &&& 31).toUInt32).toInt32) &&& (3 : Int32)) - (2 : Int32))), oi (1 : Int32), .unset] [] _
    refine XS.iconst X43.here hx rfl (hb hby at_147) ?_
    show oS p e below T43 m 148 #[oi p0, oi p1, oa b1, oi v38, oi ((((p1.toUInt32 >>> ((4 : Int32) &&& 31).toUInt32).toInt32) &&& (3 : Int32)) - (2 : Int32)), oi (v38 + ((((p1.toUInt32 >>> ((4 : Int32) &&& 31).toUInt32).toInt32) &&& (3 : Int32)) - (2 : Int32))), oi (1 : Int32), .unset] [(.int (1 : Int32))] _
    refine XS.goto X43.here hx rfl (pc0 := 148) (pc' := 152) rfl (hb hby at_148) (by decide) (by decide) ?_
    show oS p e below T43 m 152 #[oi p0, oi p1, oa b1, oi v38, oi ((((p1.toUInt32 >>> ((4 : Int32) &&& 31).toUInt32).toInt32) &&& (3 : Int32)) - (2 : Int32)), oi (v38 + ((((p1.toUInt32 >>> ((4 : Int32) &&& 31).toUInt32).toInt32) &&& (3 : Int32)) - (2 : Int32))), oi (1 : Int32), .unset] [(.int (1 : Int32))] _
    refine XS.istore X43.here hx rfl (hb hby at_152) rfl (l' := #[oi p0, oi p1, oa b1, oi v38, oi ((((p1.toUInt32 >>> ((4 : Int32) &&& 31).toUInt32).toInt32) &&& (3 : Int32)) - (2 : Int32)), oi (v38 + ((((p1.toUInt32 >>> ((4 : Int32) &&& 31).toUInt32).toInt32) &&& (3 : Int32)) - (2 : Int32))), oi (1 : Int32), oi (1 : Int32)]) rfl ?_
    show oS p e below T43 m 154 #[oi p0, oi p1, oa b1, oi v38, oi ((((p1.toUInt32 >>> ((4 : Int32) &&& 31).toUInt32).toInt32) &&& (3 : Int32)) - (2 : Int32)), oi (v38 + ((((p1.toUInt32 >>> ((4 : Int32) &&& 31).toUInt32).toInt32) &&& (3 : Int32)) - (2 : Int32))), oi (1 : Int32), oi (1 : Int32)] [] _
    refine XS.iload X43.here hx rfl (hb hby at_154) rfl ?_
    show oS p e below T43 m 156 #[oi p0, oi p1, oa b1, oi v38, oi ((((p1.toUInt32 >>> ((4 : Int32) &&& 31).toUInt32).toInt32) &&& (3 : Int32)) - (2 : Int32)), oi (v38 + ((((p1.toUInt32 >>> ((4 : Int32) &&& 31).toUInt32).toInt32) &&& (3 : Int32)) - (2 : Int32))), oi (1 : Int32), oi (1 : Int32)] [(.int (1 : Int32))] _
    refine XS.ifNo X43.here hx rfl (hb hby at_156) rfl ((if0 _ _).trans (feq b45).1) ?_
    show oS p e below T43 m 159 #[oi p0, oi p1, oa b1, oi v38, oi ((((p1.toUInt32 >>> ((4 : Int32) &&& 31).toUInt32).toInt32) &&& (3 : Int32)) - (2 : Int32)), oi (v38 + ((((p1.toUInt32 >>> ((4 : Int32) &&& 31).toUInt32).toInt32) &&& (3 : Int32)) - (2 : Int32))), oi (1 : Int32), oi (1 : Int32)] [] _
    refine XS.iload X43.here hx rfl (hb hby at_159) rfl ?_
    show oS p e below T43 m 161 #[oi p0, oi p1, oa b1, oi v38, oi ((((p1.toUInt32 >>> ((4 : Int32) &&& 31).toUInt32).toInt32) &&& (3 : Int32)) - (2 : Int32)), oi (v38 + ((((p1.toUInt32 >>> ((4 : Int32) &&& 31).toUInt32).toInt32) &&& (3 : Int32)) - (2 : Int32))), oi (1 : Int32), oi (1 : Int32)] [(.int (1 : Int32))] _
    refine XS.ifNo X43.here hx rfl (hb hby at_161) rfl ((if0 _ _).trans (feq b46).1) ?_
    show oS p e below T43 m 164 #[oi p0, oi p1, oa b1, oi v38, oi ((((p1.toUInt32 >>> ((4 : Int32) &&& 31).toUInt32).toInt32) &&& (3 : Int32)) - (2 : Int32)), oi (v38 + ((((p1.toUInt32 >>> ((4 : Int32) &&& 31).toUInt32).toInt32) &&& (3 : Int32)) - (2 : Int32))), oi (1 : Int32), oi (1 : Int32)] [] _
    refine XS.iconst X43.here hx rfl (hb hby at_164) ?_
    show oS p e below T43 m 165 #[oi p0, oi p1, oa b1, oi v38, oi ((((p1.toUInt32 >>> ((4 : Int32) &&& 31).toUInt32).toInt32) &&& (3 : Int32)) - (2 : Int32)), oi (v38 + ((((p1.toUInt32 >>> ((4 : Int32) &&& 31).toUInt32).toInt32) &&& (3 : Int32)) - (2 : Int32))), oi (1 : Int32), oi (1 : Int32)] [(.int (1 : Int32))] _
    refine XS.goto X43.here hx rfl (pc0 := 165) (pc' := 169) rfl (hb hby at_165) (by decide) (by decide) ?_
    show oS p e below T43 m 169 #[oi p0, oi p1, oa b1, oi v38, oi ((((p1.toUInt32 >>> ((4 : Int32) &&& 31).toUInt32).toInt32) &&& (3 : Int32)) - (2 : Int32)), oi (v38 + ((((p1.toUInt32 >>> ((4 : Int32) &&& 31).toUInt32).toInt32) &&& (3 : Int32)) - (2 : Int32))), oi (1 : Int32), oi (1 : Int32)] [(.int (1 : Int32))] _
    exact retN X43 hx (t := .boolean) Bd.returns (by simp) (hb hby at_169) hr
  · show own_Q0 Z p0 p1 h0 n0 _ T43.heap _
    rw [eq43]
    exact ⟨rfl, N43⟩
set_option maxRecDepth 65536 in
set_option maxHeartbeats 40000000 in
theorem own_comes {Post : Tables → Env → Array Value → State → Outcome → State → Prop} (hpost : ∀ tb e args s v u, (limb_1_1.after args s (.returned v) u = true ∧ limb_1_2.after args s (.returned v) u = true ∧ True) → FrameEnd s (.returned v) u (Jvm.fieldLocs frame_1_writes args s ++ Jvm.arrayLocs frame_1_arrays args s ++ Jvm.staticLocs frame_1_statics s) 16 128 → Post tb e args s (.returned v) u) :
    ArmFor flags0 classFile x code maxLocals ret World_1 tables_1 room_1 Calls_1 rest_1 Pre_1 Post := by
  intro l hfl _ _ p e ha hc hk s m args below hf hA hF happ hP
  obtain ⟨hcalls, hrest, hpre⟩ := hP
  obtain ⟨-, -, -, hnamed, -, -, -, hat⟩ := (Spec.applies_iff hf).mp happ
  obtain ⟨hg, hn⟩ := and_e (Cond.before_iff.mp (show (Jvm.Cond.and given_1 narrow_1).before args s = true from hpre))
  obtain ⟨gv1, gv2⟩ := and_e hg
  obtain ⟨gv3, gv4⟩ := and_e gv2
  obtain ⟨w0, w1, rfl⟩ : ∃ w0 w1 : Value, args = #[w0, w1] := by
    have hs : args.size = 2 := by simpa [Cond.value, given_1] using gv1
    obtain ⟨L⟩ := args
    match L, hs with
    | [w0, w1], _ => exact ⟨w0, w1, rfl⟩
  have hw := fun d (hd : d ∈ tables_1) => atoms_spec (ws := Jvm.Cond.code x code maxLocals ret :: tables_1) hat d (List.mem_cons_of_mem _ hd)
  have hfit : Fit s := fun {y c} hc i hi => by
    obtain ⟨ha, rfl⟩ := Array.getElem?_eq_some_iff.mp hc
    have q := List.all_eq_true.mp ((Array.all_eq_true_iff_forall_mem.mp hF) _ (Array.getElem_mem ha)) i (List.mem_range.mpr hi)
    simpa [Array.getElem?_eq_getElem hi] using q
  obtain ⟨i0, ei0⟩ := is_v gv3
  obtain rfl : w0 = (.int i0) := Option.some.inj ei0
  obtain ⟨i1, ei1⟩ := is_v gv4
  obtain rfl : w1 = (.int i1) := Option.some.inj ei1
  obtain ⟨n, o, h1, h2, h3, _, L, rfl, ⟨rfl, N⟩, hq⟩ := own_rm0 l s _ hw tables_1 i0 i1  s.heap s.heap.size (Nat.le_refl _)  p e ha hc hk s m _ below hf ((Spec.applies_iff_loose hf).mp happ).1 ⟨rfl, State.Warmed39.refl s, rfl⟩ trivial
  refine ⟨n, _, h1, h2, h3, hpost _ _ _ _ _ _ ⟨Cond.after_iff.mpr rfl, Cond.after_iff.mpr (eq_i res_at (Term.int_eval (1)) rfl), trivial⟩ ⟨hq.1, hq.2.1, (hq.2.2.sift fun y hy => Or.inr (N y hy)).mono (by decide) (by decide)⟩⟩
theorem main_1_1 : Claimed_1_1 := own_comes fun _ _ _ _ _ _ h hF => ⟨h.1, hF⟩
theorem main_1_2 : Claimed_1_2 := own_comes fun _ _ _ _ _ _ h hF => ⟨h.2.1, hF⟩
end Jvm.Pilot.@@N@@
namespace Jvm.Pilot.@@N@@
open Jvm Jvm.ClassFile Sem Op Lib Jvm.Free Jvm.Stand Jvm.Pilot.@@N@@.Jvm.D
/-! MADE BY PROGRAM (witnessworld.py) out of the Statement's table words and the real class files: 9 classes; the members and pool entries that the words name. The judged class is class 1, her method 2. -/
namespace start1
open Jvm.ClassFile
def u (s : String) : CpInfo := .utf8 (stringToUtf16 s)
/-- a pool by its gaps: so many unusable entries, then the entry; so many at the end -/
def gap : Nat → List CpInfo → List CpInfo
  | 0, r => r
  | n + 1, r => .unusable :: gap n r
def poolList (es : List (Nat × CpInfo)) (last : Nat) : List CpInfo := es.foldr (fun e r => gap e.1 (e.2 :: r)) (gap last [])
def pool (es : List (Nat × CpInfo)) (last : Nat) : Array CpInfo := ⟨poolList es last⟩
def fileOf (pool : Array CpInfo) (this : Nat) (attrs : Array Attribute := #[]) (ms : Array MethodInfo := #[]) (fl : Nat := 33) (sup : Nat := 0) (ifs : Array Nat := #[]) (fds : Array FieldInfo := #[]) : ClassFile where
  minorVersion := 0
  majorVersion := 65
  constantPool := pool
  accessFlags := fl
  thisClass := this
  superClass := sup
  interfaces := ifs
  fields := fds
  methods := ms
  attributes := attrs
def plain (name : String) (sup : Option ClassId) : Class where
  name := name
  kind := .ordinary
  loader := none
  accessFlags := 33
  super := sup
  interfaces := #[]
  cf := none
  fields := #[]
  methods := #[]
  instanceTypes := #[]
  staticTypes := #[]
  resolved := #[]
  callSites := []
  init := .initialized
  statics := none
  mirror := none

def pool0 : Array CpInfo := pool [(5, u "<init>"), (0, u "()V"), (1, .class_ 10), (1, u "java/lang/Object")] 113

def k0m0 : Method := { name := "<init>", desc := "()V", sig := { parameters := [], returnType := none }, accessFlags := 1, code := none }
/-- java/lang/Object -/
def k0 : Class := { plain "java/lang/Object" none with
  accessFlags := 33
  interfaces := #[]
  cf := some (fileOf pool0 8 #[] #[{ accessFlags := 1, nameIndex := 5, descriptorIndex := 6, attributes := #[] }] 33 0 #[] #[])
  fields := #[]
  methods := #[k0m0]
  instanceTypes := #[]
  staticTypes := #[]
  resolved := Array.replicate 124 none
  statics := none }

def pool1 : Array CpInfo := pool [(2, .class_ 4), (1, u "java/lang/Object"), (0, u "<init>"), (0, u "()V"), (0, .integer 55295), (0, .integer 57344), (0, .integer 65533), (0, .integer 65536), (0, .integer 1114111), (0, .integer 1114112), (0, .integer 55296), (0, .integer 57343), (0, .integer 65534), (2, .integer 2147483648), (0, .integer 2147483647), (0, .methodref 21 22), (0, .class_ 23), (0, .nameAndType 24 25), (0, u "com/example/muster/muster/model/Text"), (0, u "mayKeep"), (0, u "(I)Z"), (0, .methodref 27 28), (0, .class_ 29), (0, .nameAndType 30 25), (0, u "com/example/muster/muster/model/TextMayKeepPinLaw"), (0, u "ref"), (3, u "law"), (0, u "(II)Z")] 4

def k1m0 : Method := { name := "<init>", desc := "()V", sig := { parameters := [], returnType := none }, accessFlags := 2, code := none }
def k1c1 : Code := { maxStack := 2, maxLocals := 1, code := method_2_code, exceptionTable := #[], attributes := #[] }
def k1m1 : Method := { name := "ref", desc := "(I)Z", sig := { parameters := [.int], returnType := some .boolean }, accessFlags := 10, code := some k1c1 }
def k1c2 : Code := { maxStack := 4, maxLocals := 8, code := code, exceptionTable := #[], attributes := #[] }
def k1m2 : Method := { name := "law", desc := "(II)Z", sig := { parameters := [.int, .int], returnType := some .boolean }, accessFlags := 9, code := some k1c2 }
/-- com/example/muster/muster/model/TextMayKeepPinLaw -/
def k1 : Class := { plain "com/example/muster/muster/model/TextMayKeepPinLaw" (some 0) with
  accessFlags := 49
  interfaces := #[]
  cf := some (fileOf pool1 27 #[] #[{ accessFlags := 2, nameIndex := 5, descriptorIndex := 6, attributes := #[] }, { accessFlags := 10, nameIndex := 30, descriptorIndex := 25, attributes := #[] }, { accessFlags := 9, nameIndex := 34, descriptorIndex := 35, attributes := #[] }] 49 2 #[] #[])
  fields := #[]
  methods := #[k1m0, k1m1, k1m2]
  instanceTypes := #[]
  staticTypes := #[]
  resolved := Array.replicate 40 none
  statics := none }

def pool2 : Array CpInfo := pool [(2, .class_ 4), (1, u "java/lang/Object"), (0, u "<init>"), (0, u "()V"), (0, .integer 55295), (0, .integer 57344), (0, .integer 65533), (0, .integer 65536), (0, .integer 1114111), (0, .methodref 13 14), (0, .class_ 15), (0, .nameAndType 16 17), (0, u "com/example/muster/muster/model/Text"), (0, u "isXmlChar"), (0, u "(I)Z"), (22, u "mayKeep")] 26

def k2m0 : Method := { name := "<init>", desc := "()V", sig := { parameters := [], returnType := none }, accessFlags := 2, code := none }
def k2c1 : Code := { maxStack := 2, maxLocals := 1, code := prog_45_method_2_code, exceptionTable := #[], attributes := #[] }
def k2m1 : Method := { name := "isXmlChar", desc := "(I)Z", sig := { parameters := [.int], returnType := some .boolean }, accessFlags := 9, code := some k2c1 }
def k2c2 : Code := { maxStack := 2, maxLocals := 1, code := prog_45_method_3_code, exceptionTable := #[], attributes := #[] }
def k2m2 : Method := { name := "mayKeep", desc := "(I)Z", sig := { parameters := [.int], returnType := some .boolean }, accessFlags := 9, code := some k2c2 }
/-- com/example/muster/muster/model/Text -/
def k2 : Class := { plain "com/example/muster/muster/model/Text" (some 0) with
  accessFlags := 49
  interfaces := #[]
  cf := some (fileOf pool2 13 #[] #[{ accessFlags := 2, nameIndex := 5, descriptorIndex := 6, attributes := #[] }, { accessFlags := 9, nameIndex := 16, descriptorIndex := 17, attributes := #[] }, { accessFlags := 9, nameIndex := 40, descriptorIndex := 17, attributes := #[] }] 49 2 #[] #[])
  fields := #[]
  methods := #[k2m0, k2m1, k2m2]
  instanceTypes := #[]
  staticTypes := #[]
  resolved := Array.replicate 67 none
  statics := none }

def pool3 : Array CpInfo := pool [(1, u "java/lang/Cloneable"), (0, .class_ 1), (0, u "java/lang/Object"), (0, .class_ 3)] 3

/-- java/lang/Cloneable -/
def k3 : Class := { plain "java/lang/Cloneable" (some 0) with
  accessFlags := 1537
  interfaces := #[]
  cf := some (fileOf pool3 2 #[] #[] 1537 4 #[] #[])
  fields := #[]
  methods := #[]
  instanceTypes := #[]
  staticTypes := #[]
  resolved := Array.replicate 8 none
  statics := none }

def pool4 : Array CpInfo := pool [(1, u "java/io/Serializable"), (0, .class_ 1), (0, u "java/lang/Object"), (0, .class_ 3)] 3

/-- java/io/Serializable -/
def k4 : Class := { plain "java/io/Serializable" (some 0) with
  accessFlags := 1537
  interfaces := #[]
  cf := some (fileOf pool4 2 #[] #[] 1537 4 #[] #[])
  fields := #[]
  methods := #[]
  instanceTypes := #[]
  staticTypes := #[]
  resolved := Array.replicate 8 none
  statics := none }

/-- the primitive byte -/
def k5 : Class := { plain "byte" none with kind := .primitive 'B', accessFlags := 0x411 }
/-- [B -/
def k6 : Class := { plain "[B" (some 0) with kind := .array 5 .byte, interfaces := #[3, 4], accessFlags := 1041 }

/-- the primitive int -/
def k7 : Class := { plain "int" none with kind := .primitive 'I', accessFlags := 0x411 }
/-- [I -/
def k8 : Class := { plain "[I" (some 0) with kind := .array 7 .int, interfaces := #[3, 4], accessFlags := 1041 }

def heap : Heap := #[]
def classes : Array Class := #[k0, k1, k2, k3, k4, k5, k6, k7, k8]
def interned : List (Array UInt16 × Addr) := []
def slotsUsed : Nat := 0
def theMethod : MethodId := ⟨1, 2⟩
def args0 : Array Value := #[.int 65, .int 3]
def aboutOver (below : List Frame) : State where
  vm := { classes := classes, interned := interned.toArray }
  heap := heap
  slotsUsed := slotsUsed
  threads := #[{ frames := .invoking theMethod args0 :: below }]
def below0 : List Frame := [.native { method := ⟨0, 0⟩, args := #[] }]
def about1 : State := aboutOver below0
def p0 : Program := .bare "" "" ""
def e0 : Env := launch0.env 0 0 0
theorem w_frames : about1.frames = Frame.invoking theMethod args0 :: below0 := rfl
set_option maxRecDepth 65536 in
theorem w_args : argsFit about1.vm theMethod args0 = true := by decide +kernel
set_option maxRecDepth 65536 in
theorem w_heap : heapFits about1 = true := by decide +kernel
set_option maxRecDepth 65536 in
theorem w_runnable : about1.curStatus? = some .runnable := by decide +kernel
set_option maxRecDepth 65536 in
theorem w_alone : about1.alone = true := by decide +kernel
set_option maxRecDepth 65536 in
theorem w_named : about1.methodNamed? x = some theMethod := by decide +kernel
set_option maxRecDepth 65536 in
theorem w_hears : about1.hears theMethod below0 = true := by decide +kernel
set_option maxRecDepth 65536 in
theorem w_ripe : about1.ripe theMethod args0 below0 = true := by decide +kernel
theorem w_running : about1.status = .running := rfl
set_option maxRecDepth 65536 in
theorem w_room : about1.hasRoom e0.platform room_1 = true :=
  launch0.hasRoom_least _ room_1 (by decide +kernel) (by decide +kernel) (by decide +kernel) (by decide +kernel) (by decide +kernel) (by decide +kernel)
theorem allAtoms_all (ts : List Jvm.Cond) (a : Array Jvm.Value) (st : Jvm.State) : (allAtoms ts).before a st = ts.all (fun c => c.before a st) := by
  induction ts with
  | nil => rfl
  | cons c t ih =>
    show (Jvm.Cond.and c (allAtoms t)).before a st = _
    rw [Jvm.Cond.before_and, ih, List.all_cons]
def words1 : List Jvm.Cond := Jvm.Cond.code x code maxLocals ret :: tables_1
/-- a 'code' word, met by the world's own term for the bytes: nothing is compared byte by byte -/
theorem code_word {y : MethodName} {bytes : ByteArray} {mx : Nat} {rt : Option FieldType} {a : Array Value} {s : State} {m : MethodId} {meth : Method} {c : Code} (h1 : s.methodNamed? y = some m) (h2 : s.vm.method? m = some meth) (h3 : meth.code = some c) (h4 : c.code = bytes)
    (h5 : (c.maxLocals == mx && c.exceptionTable.isEmpty && decide (c.maxStack ≤ mostOperands) && decide (meth.sig.returnType = rt) && !meth.locks && decide (parseMethodDescriptor y.desc = some meth.sig)) = true) : (Jvm.Cond.code y bytes mx rt).before a s = true := by
  simp only [Bool.and_eq_true, beq_iff_eq, Bool.not_eq_true', decide_eq_true_eq] at h5
  obtain ⟨⟨⟨⟨⟨g1, g2⟩, g3⟩, g4⟩, g5⟩, g6⟩ := h5
  simp [Cond.before, Cond.holds, Cond.value, h1, h2, h3, h4, g1, g2, g3, g4, g5, g6]
def isCode : Jvm.Cond → Bool
  | .code _ _ _ _ => true
  | _ => false
theorem all_split {L : List Jvm.Cond} {P : Jvm.Cond → Bool} (h1 : L.all (fun c => isCode c || P c) = true) (h2 : ∀ c ∈ L.filter isCode, P c = true) : L.all P = true := by
  refine List.all_eq_true.mpr fun c hc => ?_
  have h := List.all_eq_true.mp h1 c hc
  rcases Bool.eq_false_or_eq_true (isCode c) with hi | hi
  · exact h2 c (List.mem_filter.mpr ⟨hc, hi⟩)
  · simpa [hi] using h
set_option maxRecDepth 65536 in
theorem w_c0 : (Jvm.Cond.code x code maxLocals ret).before args0 about1 = true := code_word (m := ⟨1, 2⟩) (meth := k1m2) (c := k1c2) (by decide +kernel) rfl rfl rfl (by decide +kernel)
set_option maxRecDepth 65536 in
theorem w_c1 : (Jvm.Cond.code ({ cls := "com/example/muster/muster/model/Text", name := "mayKeep", desc := "(I)Z" } : Jvm.MethodName) prog_45_method_3_code (1 : Nat) (Option.some Jvm.ClassFile.FieldType.boolean)).before args0 about1 = true := code_word (m := ⟨2, 2⟩) (meth := k2m2) (c := k2c2) (by decide +kernel) rfl rfl rfl (by decide +kernel)
set_option maxRecDepth 65536 in
theorem w_c2 : (Jvm.Cond.code ({ cls := "com/example/muster/muster/model/Text", name := "isXmlChar", desc := "(I)Z" } : Jvm.MethodName) prog_45_method_2_code (1 : Nat) (Option.some Jvm.ClassFile.FieldType.boolean)).before args0 about1 = true := code_word (m := ⟨2, 1⟩) (meth := k2m1) (c := k2c1) (by decide +kernel) rfl rfl rfl (by decide +kernel)
set_option maxRecDepth 65536 in
theorem w_c3 : (Jvm.Cond.code ({ cls := "com/example/muster/muster/model/TextMayKeepPinLaw", name := "ref", desc := "(I)Z" } : Jvm.MethodName) method_2_code (1 : Nat) (Option.some Jvm.ClassFile.FieldType.boolean)).before args0 about1 = true := code_word (m := ⟨1, 1⟩) (meth := k1m1) (c := k1c1) (by decide +kernel) rfl rfl rfl (by decide +kernel)
def codes1 : List Jvm.Cond := [Jvm.Cond.code x code maxLocals ret, Jvm.Cond.code ({ cls := "com/example/muster/muster/model/Text", name := "mayKeep", desc := "(I)Z" } : Jvm.MethodName) prog_45_method_3_code (1 : Nat) (Option.some Jvm.ClassFile.FieldType.boolean), Jvm.Cond.code ({ cls := "com/example/muster/muster/model/Text", name := "isXmlChar", desc := "(I)Z" } : Jvm.MethodName) prog_45_method_2_code (1 : Nat) (Option.some Jvm.ClassFile.FieldType.boolean), Jvm.Cond.code ({ cls := "com/example/muster/muster/model/TextMayKeepPinLaw", name := "ref", desc := "(I)Z" } : Jvm.MethodName) method_2_code (1 : Nat) (Option.some Jvm.ClassFile.FieldType.boolean)]
set_option maxRecDepth 65536 in
theorem codes_eq : words1.filter isCode = codes1 := rfl
theorem w_codes : ∀ c ∈ words1.filter isCode, c.before args0 about1 = true := by
  rw [codes_eq]
  intro c hc
  simp only [codes1, List.mem_cons, List.not_mem_nil, or_false] at hc
  rcases hc with rfl | rfl | rfl | rfl
  · exact w_c0
  · exact w_c1
  · exact w_c2
  · exact w_c3
set_option maxRecDepth 65536 in
theorem w_t1 : (words1.take 24).all (fun c => isCode c || c.before args0 about1) = true := by decide +kernel
set_option maxRecDepth 65536 in
theorem w_t2 : (words1.drop 24).all (fun c => isCode c || c.before args0 about1) = true := by decide +kernel
theorem w_tables : (allAtoms (Jvm.Cond.code x code maxLocals ret :: tables_1)).before args0 about1 = true := by
  rw [allAtoms_all]
  show words1.all (fun c => c.before args0 about1) = true
  refine all_split ?_ w_codes
  rw [← List.take_append_drop 24 words1, List.all_append, w_t1, w_t2]
  rfl
set_option maxRecDepth 65536 in
theorem w_case : (Jvm.Cond.and given_1 narrow_1).before args0 about1 = true := by decide +kernel
theorem w_applies : (headSpec (Jvm.Cond.code x code maxLocals ret :: tables_1) room_1).applies x e0.platform about1 = true :=
  (Spec.applies_iff w_frames).mpr ⟨w_running, w_runnable, w_alone, w_named, w_hears, w_ripe, w_room, w_tables⟩
theorem atStart : AtStart classFile x code maxLocals ret World_1 tables_1 room_1 Calls_1 rest_1 Pre_1 launch0 p0 e0 about1 theMethod args0 below0 :=
  ⟨lists_1, trivial, launch0.admits_env _ _ _, launch0.least_env, fairChoices_fair.cas, fairChoices_fair.clock, w_frames, w_args, w_heap, w_applies, trivial, trivial, w_case⟩
end start1
theorem witness_1 : WitnessClaimed_1 := ⟨start1.p0, start1.e0, start1.about1, start1.theMethod, start1.args0, start1.below0, start1.atStart⟩
end Jvm.Pilot.@@N@@
