import JvmDerived
import JvmDerived.Pilot.@@N@@Statement
import JvmDerived.Pilot.@@N@@Code
set_option linter.unusedVariables false
set_option linter.unusedSimpArgs false
namespace Jvm.Pilot.@@N@@
open Jvm Jvm.ClassFile Sem Op Lib Jvm.Free Jvm.Stand Jvm.LawKit Jvm.RoadKit Bundle Jvm.Pilot.@@N@@.Jvm.D
section OwnKit
variable {p : Program} {l : Launch} {e : Env} {R : Room} {s : State} {m : MethodId} {args : Array Value} {below : List Frame} {meth : Method} {c : Code} {T : State} {locs : List Loc} {cells slots : Nat} {Z : State} {h : Heap} {a : Addr} {k : ClassId} {z : Int32} {vs : List Value} {dv : Value}
theorem oLen (X : Stand p l e R s m args below meth c T locs cells slots) (hx : p.tables.exec = Jvm.exec) (hZ : Z.Warmed39 s.vm) (eT : T.heap = h) {ty : FieldType} (F : Arv Z h a k ty z vs dv) {pc : Nat} {Ls : Array Slot} {rest : List Value} (hd : decode c.code pc = .ok (.arraylength, 1)) {target : State}
    (hr : Steps p.tables e below (T.setTop (mkF m (pc + 1) Ls (.int z :: rest))) target) : Steps p.tables e below (T.setTop (mkF m pc Ls (.ref a :: rest))) target := by
  obtain ⟨cl, A, -, S, M, -, -⟩ := F
  refine X.arraylength hx (by rw [eT]; exact A.1) (State.isArrayOf_alike hZ.alike A.2.1) (g := mkF m pc Ls (.ref a :: rest)) rfl rfl hd target ?_
  rw [len_of S M]
  exact hr
theorem oLdI (X : Stand p l e R s m args below meth c T locs cells slots) (hx : p.tables.exec = Jvm.exec) (hZ : Z.Warmed39 s.vm) (eT : T.heap = h) (F : Arv Z h a k .int z vs dv) {j : Int32} {v : Value} (hj : ¬ j < 0 ∧ j < z) (hv : vs.getD j.toNatClampNeg dv = v) {pc : Nat} {Ls : Array Slot} {rest : List Value} (hd : decode c.code pc = .ok (.iaload, 1)) {target : State}
    (hr : Steps p.tables e below (T.setTop (mkF m (pc + 1) Ls (v :: rest))) target) : Steps p.tables e below (T.setTop (mkF m pc Ls (.int j :: .ref a :: rest))) target := by
  obtain ⟨cl, A, -, S, -, H, -⟩ := F
  have hin := inb_of S hj
  exact X.iaload hx (by rw [eT]; exact A.1) (State.isArrayOf_alike hZ.alike A.2.1) A.2.2 hin (Has.at H hin hv) (g := mkF m pc Ls (.int j :: .ref a :: rest)) rfl rfl hd target hr
theorem oLdB (X : Stand p l e R s m args below meth c T locs cells slots) (hx : p.tables.exec = Jvm.exec) (hZ : Z.Warmed39 s.vm) (eT : T.heap = h) (F : Arv Z h a k .byte z vs dv) {j : Int32} {v : Value} (hj : ¬ j < 0 ∧ j < z) (hv : vs.getD j.toNatClampNeg dv = v) {pc : Nat} {Ls : Array Slot} {rest : List Value} (hd : decode c.code pc = .ok (.baload, 1)) {target : State}
    (hr : Steps p.tables e below (T.setTop (mkF m (pc + 1) Ls (v :: rest))) target) : Steps p.tables e below (T.setTop (mkF m pc Ls (.int j :: .ref a :: rest))) target := by
  obtain ⟨cl, A, -, S, -, H, -⟩ := F
  have hin := inb_of S hj
  exact X.baloadBytes hx (by rw [eT]; exact A.1) (State.isArrayOf_alike hZ.alike A.2.1) A.2.2 hin (Has.at H hin hv) (g := mkF m pc Ls (.int j :: .ref a :: rest)) rfl rfl hd target hr
theorem oLdJ (X : Stand p l e R s m args below meth c T locs cells slots) (hx : p.tables.exec = Jvm.exec) (hZ : Z.Warmed39 s.vm) (eT : T.heap = h) (F : Arv Z h a k .long z vs dv) {j : Int32} {v : Value} (hj : ¬ j < 0 ∧ j < z) (hv : vs.getD j.toNatClampNeg dv = v) {pc : Nat} {Ls : Array Slot} {rest : List Value} (hd : decode c.code pc = .ok (.laload, 1)) {target : State}
    (hr : Steps p.tables e below (T.setTop (mkF m (pc + 1) Ls (v :: rest))) target) : Steps p.tables e below (T.setTop (mkF m pc Ls (.int j :: .ref a :: rest))) target := by
  obtain ⟨cl, A, -, S, -, H, -⟩ := F
  have hin := inb_of S hj
  exact X.laload hx (by rw [eT]; exact A.1) (State.isArrayOf_alike hZ.alike A.2.1) A.2.2 hin (Has.at H hin hv) (g := mkF m pc Ls (.int j :: .ref a :: rest)) rfl rfl hd target hr
theorem oLdD (X : Stand p l e R s m args below meth c T locs cells slots) (hx : p.tables.exec = Jvm.exec) (hZ : Z.Warmed39 s.vm) (eT : T.heap = h) (F : Arv Z h a k .double z vs dv) {j : Int32} {v : Value} (hj : ¬ j < 0 ∧ j < z) (hv : vs.getD j.toNatClampNeg dv = v) {pc : Nat} {Ls : Array Slot} {rest : List Value} (hd : decode c.code pc = .ok (.daload, 1)) {target : State}
    (hr : Steps p.tables e below (T.setTop (mkF m (pc + 1) Ls (v :: rest))) target) : Steps p.tables e below (T.setTop (mkF m pc Ls (.int j :: .ref a :: rest))) target := by
  obtain ⟨cl, A, -, S, -, H, -⟩ := F
  have hin := inb_of S hj
  exact X.daload hx (by rw [eT]; exact A.1) (State.isArrayOf_alike hZ.alike A.2.1) A.2.2 hin (Has.at H hin hv) (g := mkF m pc Ls (.int j :: .ref a :: rest)) rfl rfl hd target hr
theorem oStI (X : Stand p l e R s m args below meth c T locs cells slots) (hx : p.tables.exec = Jvm.exec) (hZ : Z.Warmed39 s.vm) (eT : T.heap = h) (F : Arv Z h a k .int z vs dv) {j : Int32} {x : Int32} (hj : ¬ j < 0 ∧ j < z) (i : Nat) (hi : j.toNatClampNeg = i) (hl : i < vs.length) {g : JFrame} (hg : g.method = m) {rest : List Value} (hs : g.stack = .int x :: .int j :: .ref a :: rest) (hd : decode c.code g.pc = .ok (.iastore, 1)) :
    ∃ T' h', Stand p l e R s m args below meth c T' (locs ++ [⟨a, j.toNatClampNeg⟩]) cells slots ∧ T'.heap = h' ∧ Wr h h' a j.toNatClampNeg (.int x) ∧ Arv Z h' a k .int z (vs.set i (.int x)) dv ∧ ∀ target, Steps p.tables e below (T'.setTop { g with pc := g.pc + 1, stack := rest }) target → Steps p.tables e below (T.setTop g) target := by
  obtain ⟨cl, A, q1, S, M, H, G⟩ := F
  obtain ⟨T', h', X', e', W, st⟩ := stI X hx hZ eT A (j := j) (inb_of S hj) hg hs hd
  exact ⟨T', h', X', e', W, Arv.set A q1 S M H G rfl W i hi hl, st⟩
theorem oStB (X : Stand p l e R s m args below meth c T locs cells slots) (hx : p.tables.exec = Jvm.exec) (hZ : Z.Warmed39 s.vm) (eT : T.heap = h) (F : Arv Z h a k .byte z vs dv) {j : Int32} {x : Int32} (hj : ¬ j < 0 ∧ j < z) (i : Nat) (hi : j.toNatClampNeg = i) (hl : i < vs.length) {g : JFrame} (hg : g.method = m) {rest : List Value} (hs : g.stack = .int x :: .int j :: .ref a :: rest) (hd : decode c.code g.pc = .ok (.bastore, 1)) :
    ∃ T' h', Stand p l e R s m args below meth c T' (locs ++ [⟨a, j.toNatClampNeg⟩]) cells slots ∧ T'.heap = h' ∧ Wr h h' a j.toNatClampNeg (.int (nar .byte x)) ∧ Arv Z h' a k .byte z (vs.set i (.int (nar .byte x))) dv ∧ ∀ target, Steps p.tables e below (T'.setTop { g with pc := g.pc + 1, stack := rest }) target → Steps p.tables e below (T.setTop g) target := by
  obtain ⟨cl, A, q1, S, M, H, G⟩ := F
  obtain ⟨T', h', X', e', W, st⟩ := stB X hx hZ eT A (j := j) (inb_of S hj) hg hs hd
  exact ⟨T', h', X', e', W, Arv.set A q1 S M H G (fits_nar_byte x) W i hi hl, st⟩
theorem oStJ (X : Stand p l e R s m args below meth c T locs cells slots) (hx : p.tables.exec = Jvm.exec) (hZ : Z.Warmed39 s.vm) (eT : T.heap = h) (F : Arv Z h a k .long z vs dv) {j : Int32} {x : Int64} (hj : ¬ j < 0 ∧ j < z) (i : Nat) (hi : j.toNatClampNeg = i) (hl : i < vs.length) {g : JFrame} (hg : g.method = m) {rest : List Value} (hs : g.stack = .long x :: .int j :: .ref a :: rest) (hd : decode c.code g.pc = .ok (.lastore, 1)) :
    ∃ T' h', Stand p l e R s m args below meth c T' (locs ++ [⟨a, j.toNatClampNeg⟩]) cells slots ∧ T'.heap = h' ∧ Wr h h' a j.toNatClampNeg (.long x) ∧ Arv Z h' a k .long z (vs.set i (.long x)) dv ∧ ∀ target, Steps p.tables e below (T'.setTop { g with pc := g.pc + 1, stack := rest }) target → Steps p.tables e below (T.setTop g) target := by
  obtain ⟨cl, A, q1, S, M, H, G⟩ := F
  obtain ⟨T', h', X', e', W, st⟩ := stJ X hx hZ eT A (j := j) (inb_of S hj) hg hs hd
  exact ⟨T', h', X', e', W, Arv.set A q1 S M H G rfl W i hi hl, st⟩
theorem oStD (X : Stand p l e R s m args below meth c T locs cells slots) (hx : p.tables.exec = Jvm.exec) (hZ : Z.Warmed39 s.vm) (eT : T.heap = h) (F : Arv Z h a k .double z vs dv) {j : Int32} {x : UInt64} (hj : ¬ j < 0 ∧ j < z) (i : Nat) (hi : j.toNatClampNeg = i) (hl : i < vs.length) {g : JFrame} (hg : g.method = m) {rest : List Value} (hs : g.stack = .double x :: .int j :: .ref a :: rest) (hd : decode c.code g.pc = .ok (.dastore, 1)) :
    ∃ T' h', Stand p l e R s m args below meth c T' (locs ++ [⟨a, j.toNatClampNeg⟩]) cells slots ∧ T'.heap = h' ∧ Wr h h' a j.toNatClampNeg (.double x) ∧ Arv Z h' a k .double z (vs.set i (.double x)) dv ∧ ∀ target, Steps p.tables e below (T'.setTop { g with pc := g.pc + 1, stack := rest }) target → Steps p.tables e below (T.setTop g) target := by
  obtain ⟨cl, A, q1, S, M, H, G⟩ := F
  obtain ⟨T', h', X', e', W, st⟩ := stD X hx hZ eT A (j := j) (inb_of S hj) hg hs hd
  exact ⟨T', h', X', e', W, Arv.set A q1 S M H G rfl W i hi hl, st⟩
end OwnKit
abbrev oi (x : Int32) : Slot := .val (.int x)
abbrev oj (x : Int64) : Slot := .val (.long x)
abbrev oa (x : Addr) : Slot := .val (.ref x)
abbrev od (x : UInt64) : Slot := .val (.double x)
abbrev oS (p : Program) (e : Env) (below : List Frame) (T : State) (m : MethodId) (pc : Nat) (L : Array Slot) (S : List Value) (t : State) : Prop := Steps p.tables e below (T.setTop (mkF m pc L S)) t
theorem own_ltp (x k : Int32) : (x < k) = (x.toInt < k.toInt) := propext Int32.lt_iff_toInt_lt
theorem own_eqp (x k : Int32) : (x = k) = (x.toInt = k.toInt) := propext Int32.toInt_inj.symm
theorem own_ltpL (x k : Int64) : (x < k) = (x.toInt < k.toInt) := propext Int64.lt_iff_toInt_lt
theorem own_eqpL (x k : Int64) : (x = k) = (x.toInt = k.toInt) := propext Int64.toInt_inj.symm
theorem own_of_range {P : Int32 → Prop} (n : Nat) (h : ∀ i : Fin n, P (Int32.ofNat i.1)) (x : Int32) (h0 : 0 ≤ x.toInt) (h1 : x.toInt < (n : Int)) : P x := by
  have e : Int32.ofNat x.toInt.toNat = x := by
    rw [← Int32.ofInt_eq_ofNat, Int.toNat_of_nonneg h0, Int32.ofInt_toInt]
  have q := h ⟨x.toInt.toNat, by omega⟩
  rwa [e] at q
theorem own_getD (ws : List Int32) (n : Nat) : (ws.map Value.int).getD n (.int (0 : Int32)) = .int (ws.getD n 0) := by
  simp only [List.getD_eq_getElem?_getD, List.getElem?_map]
  cases ws[n]? <;> rfl

theorem own_pn0 : plainName "com/example/godwit/godwit/link/Ascii" = true := by first | (simp [plainName, overriddenIn]; done) | decide +kernel
theorem own_d1_0 : decode prog_7_method_2_code 0 = .ok (.iload_n 0, 1) := by decide +kernel
theorem own_d1_1 : decode prog_7_method_2_code 1 = .ok (.bipush 97, 2) := by decide +kernel
theorem own_d1_3 : decode prog_7_method_2_code 3 = .ok (.if_icmp .lt 9, 3) := by decide +kernel
theorem own_d1_6 : decode prog_7_method_2_code 6 = .ok (.iload_n 0, 1) := by decide +kernel
theorem own_d1_7 : decode prog_7_method_2_code 7 = .ok (.bipush 122, 2) := by decide +kernel
theorem own_d1_9 : decode prog_7_method_2_code 9 = .ok (.if_icmp .le 27, 3) := by decide +kernel
theorem own_d1_12 : decode prog_7_method_2_code 12 = .ok (.iload_n 0, 1) := by decide +kernel
theorem own_d1_13 : decode prog_7_method_2_code 13 = .ok (.bipush 65, 2) := by decide +kernel
theorem own_d1_15 : decode prog_7_method_2_code 15 = .ok (.if_icmp .lt 9, 3) := by decide +kernel
theorem own_d1_18 : decode prog_7_method_2_code 18 = .ok (.iload_n 0, 1) := by decide +kernel
theorem own_d1_19 : decode prog_7_method_2_code 19 = .ok (.bipush 90, 2) := by decide +kernel
theorem own_d1_21 : decode prog_7_method_2_code 21 = .ok (.if_icmp .le 15, 3) := by decide +kernel
theorem own_d1_24 : decode prog_7_method_2_code 24 = .ok (.iload_n 0, 1) := by decide +kernel
theorem own_d1_25 : decode prog_7_method_2_code 25 = .ok (.bipush 48, 2) := by decide +kernel
theorem own_d1_27 : decode prog_7_method_2_code 27 = .ok (.if_icmp .lt 13, 3) := by decide +kernel
theorem own_d1_30 : decode prog_7_method_2_code 30 = .ok (.iload_n 0, 1) := by decide +kernel
theorem own_d1_31 : decode prog_7_method_2_code 31 = .ok (.bipush 57, 2) := by decide +kernel
theorem own_d1_33 : decode prog_7_method_2_code 33 = .ok (.if_icmp .gt 7, 3) := by decide +kernel
theorem own_d1_36 : decode prog_7_method_2_code 36 = .ok (.iconst 1, 1) := by decide +kernel
theorem own_d1_37 : decode prog_7_method_2_code 37 = .ok (.goto 4, 3) := by decide +kernel
theorem own_d1_40 : decode prog_7_method_2_code 40 = .ok (.iconst 0, 1) := by decide +kernel
theorem own_d1_41 : decode prog_7_method_2_code 41 = .ok (.ireturn, 1) := by decide +kernel
theorem own_ef1 (m : MethodId) (p0 : Int32) : entryFrame m #[(.int p0)] 1 = mkF m 0 #[oi p0] [] := by first | (simp [entryFrame, mkF, argsToLocals, Value.category]; done) | rfl
def own_f1 (p0 : Int32) : Int32 := (if p0 < (97 : Int32) then (if p0 < (65 : Int32) then (if p0 < (48 : Int32) then (0 : Int32) else (if (57 : Int32) < p0 then (0 : Int32) else (1 : Int32))) else (if (90 : Int32) < p0 then (if p0 < (48 : Int32) then (0 : Int32) else (if (57 : Int32) < p0 then (0 : Int32) else (1 : Int32))) else (1 : Int32))) else (if (122 : Int32) < p0 then (if p0 < (65 : Int32) then (if p0 < (48 : Int32) then (0 : Int32) else (if (57 : Int32) < p0 then (0 : Int32) else (1 : Int32))) else (if (90 : Int32) < p0 then (if p0 < (48 : Int32) then (0 : Int32) else (if (57 : Int32) < p0 then (0 : Int32) else (1 : Int32))) else (1 : Int32))) else (1 : Int32)))
def own_Q1 (Z : State) (p0 : Int32) (h0 : Heap) (n0 : Nat) (v : Option Value) (h : Heap) (L : List Loc) : Prop := v = some (Value.int (own_f1 p0)) ∧ Fr n0 L ∧ h = h0
set_option maxRecDepth 65536 in
set_option maxHeartbeats 40000000 in
theorem own_rm1 (l : Launch) (Z : State) (av : Array Value) (hw : ∀ d ∈ tables_1, d.before av Z = true) (ws : List Jvm.Cond) (p0 : Int32) (h0 : Heap) (n0 : Nat) (Z0 : n0 ≤ h0.size) :
    MetFree l (⟨"com/example/godwit/godwit/link/Ascii", "isLetterOrDigit", "(I)Z"⟩ : MethodName) (head1 (Jvm.Cond.code (⟨"com/example/godwit/godwit/link/Ascii", "isLetterOrDigit", "(I)Z"⟩ : MethodName) prog_7_method_2_code 1 (some .boolean) :: ws) ({ frames := 0, cells := 0, slots := 0, locals := 0 } : Room)) (fun a U => a = #[(.int p0)] ∧ Z.Warmed39 U.vm ∧ U.heap = h0) (fun _ _ _ _ _ => True) (fun _ U o U' => ∃ v L, o = .returned v ∧ own_Q1 Z p0 h0 n0 v U'.heap L ∧ FrameEnd U o U' L ({ frames := 0, cells := 0, slots := 0, locals := 0 } : Room).cells ({ frames := 0, cells := 0, slots := 0, locals := 0 } : Room).slots) := by
  refine MetFree.of_bodySF (plainFor_of_name own_pn0) hisR ?_
  intro p e s m args below meth c s₁ Bd hml0 hP hK
  obtain ⟨rfl, hZ, hh⟩ := hP
  have hx := Bd.exec
  have hby := Bd.bytes
  have hml : c.maxLocals = 1 := hml0
  have hown : s.vm.findClass "com/example/godwit/godwit/link/Ascii" = some m.cls := findClass_of_methodNamed Bd.named
  have hnm := (name_of_methodNamed Bd.named Bd.method).1
  have X0 : Stand p l e ({ frames := 0, cells := 0, slots := 0, locals := 0 } : Room) s m #[(.int p0)] below meth c s₁ [] 0 0 := Stand.of_body Bd
  have e0 : s₁.heap = h0 := by rw [← hh, Bd.state]; rfl
  have N0 := Fr.nil n0
  have pre0 : ∀ t, Steps p.tables e below (s₁.setTop (mkF m 0 #[oi p0] [])) t → Steps p.tables e below (s₁.setTop (entryFrame m #[(.int p0)] 1)) t := fun t k => castTop (own_ef1 m p0) k
  have pre1 : ∀ t, Steps p.tables e below (s₁.setTop (mkF m 3 #[oi p0] [(.int (97 : Int32)), (.int p0)])) t → Steps p.tables e below (s₁.setTop (entryFrame m #[(.int p0)] 1)) t := by
    intro t k
    refine pre0 t ?_
    show oS p e below s₁ m 0 #[oi p0] [] _
    refine XS.iloadN X0.here hx rfl (hb hby own_d1_0) rfl ?_
    show oS p e below s₁ m 1 #[oi p0] [(.int p0)] _
    refine XS.bipush X0.here hx rfl (hb hby own_d1_1) ?_
    exact k
  by_cases c2 : p0 < (97 : Int32)
  · skip
    have pre3 : ∀ t, Steps p.tables e below (s₁.setTop (mkF m 15 #[oi p0] [(.int (65 : Int32)), (.int p0)])) t → Steps p.tables e below (s₁.setTop (entryFrame m #[(.int p0)] 1)) t := by
      intro t k
      refine pre1 t ?_
      show oS p e below s₁ m 3 #[oi p0] [(.int (97 : Int32)), (.int p0)] _
      refine XS.icmpYes X0.here hx rfl (pc0 := 3) (pc' := 12) rfl (hb hby own_d1_3) rfl (tlt c2).1 (by decide) (by decide) ?_
      show oS p e below s₁ m 12 #[oi p0] [] _
      refine XS.iloadN X0.here hx rfl (hb hby own_d1_12) rfl ?_
      show oS p e below s₁ m 13 #[oi p0] [(.int p0)] _
      refine XS.bipush X0.here hx rfl (hb hby own_d1_13) ?_
      exact k
    by_cases c4 : p0 < (65 : Int32)
    · skip
      have pre5 : ∀ t, Steps p.tables e below (s₁.setTop (mkF m 27 #[oi p0] [(.int (48 : Int32)), (.int p0)])) t → Steps p.tables e below (s₁.setTop (entryFrame m #[(.int p0)] 1)) t := by
        intro t k
        refine pre3 t ?_
        show oS p e below s₁ m 15 #[oi p0] [(.int (65 : Int32)), (.int p0)] _
        refine XS.icmpYes X0.here hx rfl (pc0 := 15) (pc' := 24) rfl (hb hby own_d1_15) rfl (tlt c4).1 (by decide) (by decide) ?_
        show oS p e below s₁ m 24 #[oi p0] [] _
        refine XS.iloadN X0.here hx rfl (hb hby own_d1_24) rfl ?_
        show oS p e below s₁ m 25 #[oi p0] [(.int p0)] _
        refine XS.bipush X0.here hx rfl (hb hby own_d1_25) ?_
        exact k
      by_cases c6 : p0 < (48 : Int32)
      · skip
        obtain ⟨fs, hr, hrun, hended, hW, hsame⟩ := X0.leave (v := (some (.int (0 : Int32)))) (fun h => by rw [Bd.returns] at h; cases h)
        refine ⟨_, _, pre5 _ ?_, hrun, hended, _, _, rfl, ?_, ⟨_, rfl⟩, hW, hsame.mono (by decide) (by decide)⟩
        · show oS p e below s₁ m 27 #[oi p0] [(.int (48 : Int32)), (.int p0)] _
          refine XS.icmpYes X0.here hx rfl (pc0 := 27) (pc' := 40) rfl (hb hby own_d1_27) rfl (tlt c6).1 (by decide) (by decide) ?_
          show oS p e below s₁ m 40 #[oi p0] [] _
          refine XS.iconst X0.here hx rfl (hb hby own_d1_40) ?_
          show oS p e below s₁ m 41 #[oi p0] [(.int (0 : Int32))] _
          exact retN X0 hx (t := .boolean) Bd.returns (by simp) (hb hby own_d1_41) hr
        · show own_Q1 Z p0 h0 n0 _ s₁.heap _
          rw [e0]
          exact ⟨congrArg (fun z => some (Value.int z)) (by rw [own_f1, if_pos c2, if_pos c4, if_pos c6]), N0, rfl⟩
      · skip
        have pre7 : ∀ t, Steps p.tables e below (s₁.setTop (mkF m 33 #[oi p0] [(.int (57 : Int32)), (.int p0)])) t → Steps p.tables e below (s₁.setTop (entryFrame m #[(.int p0)] 1)) t := by
          intro t k
          refine pre5 t ?_
          show oS p e below s₁ m 27 #[oi p0] [(.int (48 : Int32)), (.int p0)] _
          refine XS.icmpNo X0.here hx rfl (hb hby own_d1_27) rfl (flt c6).1 ?_
          show oS p e below s₁ m 30 #[oi p0] [] _
          refine XS.iloadN X0.here hx rfl (hb hby own_d1_30) rfl ?_
          show oS p e below s₁ m 31 #[oi p0] [(.int p0)] _
          refine XS.bipush X0.here hx rfl (hb hby own_d1_31) ?_
          exact k
        by_cases c8 : (57 : Int32) < p0
        · skip
          obtain ⟨fs, hr, hrun, hended, hW, hsame⟩ := X0.leave (v := (some (.int (0 : Int32)))) (fun h => by rw [Bd.returns] at h; cases h)
          refine ⟨_, _, pre7 _ ?_, hrun, hended, _, _, rfl, ?_, ⟨_, rfl⟩, hW, hsame.mono (by decide) (by decide)⟩
          · show oS p e below s₁ m 33 #[oi p0] [(.int (57 : Int32)), (.int p0)] _
            refine XS.icmpYes X0.here hx rfl (pc0 := 33) (pc' := 40) rfl (hb hby own_d1_33) rfl (tlt c8).2.2.1 (by decide) (by decide) ?_
            show oS p e below s₁ m 40 #[oi p0] [] _
            refine XS.iconst X0.here hx rfl (hb hby own_d1_40) ?_
            show oS p e below s₁ m 41 #[oi p0] [(.int (0 : Int32))] _
            exact retN X0 hx (t := .boolean) Bd.returns (by simp) (hb hby own_d1_41) hr
          · show own_Q1 Z p0 h0 n0 _ s₁.heap _
            rw [e0]
            exact ⟨congrArg (fun z => some (Value.int z)) (by rw [own_f1, if_pos c2, if_pos c4, if_neg c6, if_pos c8]), N0, rfl⟩
        · skip
          obtain ⟨fs, hr, hrun, hended, hW, hsame⟩ := X0.leave (v := (some (.int (1 : Int32)))) (fun h => by rw [Bd.returns] at h; cases h)
          refine ⟨_, _, pre7 _ ?_, hrun, hended, _, _, rfl, ?_, ⟨_, rfl⟩, hW, hsame.mono (by decide) (by decide)⟩
          · show oS p e below s₁ m 33 #[oi p0] [(.int (57 : Int32)), (.int p0)] _
            refine XS.icmpNo X0.here hx rfl (hb hby own_d1_33) rfl (flt c8).2.2.1 ?_
            show oS p e below s₁ m 36 #[oi p0] [] _
            refine XS.iconst X0.here hx rfl (hb hby own_d1_36) ?_
            show oS p e below s₁ m 37 #[oi p0] [(.int (1 : Int32))] _
            refine XS.goto X0.here hx rfl (pc0 := 37) (pc' := 41) rfl (hb hby own_d1_37) (by decide) (by decide) ?_
            show oS p e below s₁ m 41 #[oi p0] [(.int (1 : Int32))] _
            exact retN X0 hx (t := .boolean) Bd.returns (by simp) (hb hby own_d1_41) hr
          · show own_Q1 Z p0 h0 n0 _ s₁.heap _
            rw [e0]
            exact ⟨congrArg (fun z => some (Value.int z)) (by rw [own_f1, if_pos c2, if_pos c4, if_neg c6, if_neg c8]), N0, rfl⟩
    · skip
      have pre9 : ∀ t, Steps p.tables e below (s₁.setTop (mkF m 21 #[oi p0] [(.int (90 : Int32)), (.int p0)])) t → Steps p.tables e below (s₁.setTop (entryFrame m #[(.int p0)] 1)) t := by
        intro t k
        refine pre3 t ?_
        show oS p e below s₁ m 15 #[oi p0] [(.int (65 : Int32)), (.int p0)] _
        refine XS.icmpNo X0.here hx rfl (hb hby own_d1_15) rfl (flt c4).1 ?_
        show oS p e below s₁ m 18 #[oi p0] [] _
        refine XS.iloadN X0.here hx rfl (hb hby own_d1_18) rfl ?_
        show oS p e below s₁ m 19 #[oi p0] [(.int p0)] _
        refine XS.bipush X0.here hx rfl (hb hby own_d1_19) ?_
        exact k
      by_cases c10 : (90 : Int32) < p0
      · skip
        have pre11 : ∀ t, Steps p.tables e below (s₁.setTop (mkF m 27 #[oi p0] [(.int (48 : Int32)), (.int p0)])) t → Steps p.tables e below (s₁.setTop (entryFrame m #[(.int p0)] 1)) t := by
          intro t k
          refine pre9 t ?_
          show oS p e below s₁ m 21 #[oi p0] [(.int (90 : Int32)), (.int p0)] _
          refine XS.icmpNo X0.here hx rfl (hb hby own_d1_21) rfl (tlt c10).2.2.2 ?_
          show oS p e below s₁ m 24 #[oi p0] [] _
          refine XS.iloadN X0.here hx rfl (hb hby own_d1_24) rfl ?_
          show oS p e below s₁ m 25 #[oi p0] [(.int p0)] _
          refine XS.bipush X0.here hx rfl (hb hby own_d1_25) ?_
          exact k
        by_cases c12 : p0 < (48 : Int32)
        · skip
          obtain ⟨fs, hr, hrun, hended, hW, hsame⟩ := X0.leave (v := (some (.int (0 : Int32)))) (fun h => by rw [Bd.returns] at h; cases h)
          refine ⟨_, _, pre11 _ ?_, hrun, hended, _, _, rfl, ?_, ⟨_, rfl⟩, hW, hsame.mono (by decide) (by decide)⟩
          · show oS p e below s₁ m 27 #[oi p0] [(.int (48 : Int32)), (.int p0)] _
            refine XS.icmpYes X0.here hx rfl (pc0 := 27) (pc' := 40) rfl (hb hby own_d1_27) rfl (tlt c12).1 (by decide) (by decide) ?_
            show oS p e below s₁ m 40 #[oi p0] [] _
            refine XS.iconst X0.here hx rfl (hb hby own_d1_40) ?_
            show oS p e below s₁ m 41 #[oi p0] [(.int (0 : Int32))] _
            exact retN X0 hx (t := .boolean) Bd.returns (by simp) (hb hby own_d1_41) hr
          · show own_Q1 Z p0 h0 n0 _ s₁.heap _
            rw [e0]
            exact ⟨congrArg (fun z => some (Value.int z)) (by rw [own_f1, if_pos c2, if_neg c4, if_pos c10, if_pos c12]), N0, rfl⟩
        · skip
          have pre13 : ∀ t, Steps p.tables e below (s₁.setTop (mkF m 33 #[oi p0] [(.int (57 : Int32)), (.int p0)])) t → Steps p.tables e below (s₁.setTop (entryFrame m #[(.int p0)] 1)) t := by
            intro t k
            refine pre11 t ?_
            show oS p e below s₁ m 27 #[oi p0] [(.int (48 : Int32)), (.int p0)] _
            refine XS.icmpNo X0.here hx rfl (hb hby own_d1_27) rfl (flt c12).1 ?_
            show oS p e below s₁ m 30 #[oi p0] [] _
            refine XS.iloadN X0.here hx rfl (hb hby own_d1_30) rfl ?_
            show oS p e below s₁ m 31 #[oi p0] [(.int p0)] _
            refine XS.bipush X0.here hx rfl (hb hby own_d1_31) ?_
            exact k
          by_cases c14 : (57 : Int32) < p0
          · skip
            obtain ⟨fs, hr, hrun, hended, hW, hsame⟩ := X0.leave (v := (some (.int (0 : Int32)))) (fun h => by rw [Bd.returns] at h; cases h)
            refine ⟨_, _, pre13 _ ?_, hrun, hended, _, _, rfl, ?_, ⟨_, rfl⟩, hW, hsame.mono (by decide) (by decide)⟩
            · show oS p e below s₁ m 33 #[oi p0] [(.int (57 : Int32)), (.int p0)] _
              refine XS.icmpYes X0.here hx rfl (pc0 := 33) (pc' := 40) rfl (hb hby own_d1_33) rfl (tlt c14).2.2.1 (by decide) (by decide) ?_
              show oS p e below s₁ m 40 #[oi p0] [] _
              refine XS.iconst X0.here hx rfl (hb hby own_d1_40) ?_
              show oS p e below s₁ m 41 #[oi p0] [(.int (0 : Int32))] _
              exact retN X0 hx (t := .boolean) Bd.returns (by simp) (hb hby own_d1_41) hr
            · show own_Q1 Z p0 h0 n0 _ s₁.heap _
              rw [e0]
              exact ⟨congrArg (fun z => some (Value.int z)) (by rw [own_f1, if_pos c2, if_neg c4, if_pos c10, if_neg c12, if_pos c14]), N0, rfl⟩
          · skip
            obtain ⟨fs, hr, hrun, hended, hW, hsame⟩ := X0.leave (v := (some (.int (1 : Int32)))) (fun h => by rw [Bd.returns] at h; cases h)
            refine ⟨_, _, pre13 _ ?_, hrun, hended, _, _, rfl, ?_, ⟨_, rfl⟩, hW, hsame.mono (by decide) (by decide)⟩
            · show oS p e below s₁ m 33 #[oi p0] [(.int (57 : Int32)), (.int p0)] _
              refine XS.icmpNo X0.here hx rfl (hb hby own_d1_33) rfl (flt c14).2.2.1 ?_
              show oS p e below s₁ m 36 #[oi p0] [] _
              refine XS.iconst X0.here hx rfl (hb hby own_d1_36) ?_
              show oS p e below s₁ m 37 #[oi p0] [(.int (1 : Int32))] _
              refine XS.goto X0.here hx rfl (pc0 := 37) (pc' := 41) rfl (hb hby own_d1_37) (by decide) (by decide) ?_
              show oS p e below s₁ m 41 #[oi p0] [(.int (1 : Int32))] _
              exact retN X0 hx (t := .boolean) Bd.returns (by simp) (hb hby own_d1_41) hr
            · show own_Q1 Z p0 h0 n0 _ s₁.heap _
              rw [e0]
              exact ⟨congrArg (fun z => some (Value.int z)) (by rw [own_f1, if_pos c2, if_neg c4, if_pos c10, if_neg c12, if_neg c14]), N0, rfl⟩
      · skip
        obtain ⟨fs, hr, hrun, hended, hW, hsame⟩ := X0.leave (v := (some (.int (1 : Int32)))) (fun h => by rw [Bd.returns] at h; cases h)
        refine ⟨_, _, pre9 _ ?_, hrun, hended, _, _, rfl, ?_, ⟨_, rfl⟩, hW, hsame.mono (by decide) (by decide)⟩
        · show oS p e below s₁ m 21 #[oi p0] [(.int (90 : Int32)), (.int p0)] _
          refine XS.icmpYes X0.here hx rfl (pc0 := 21) (pc' := 36) rfl (hb hby own_d1_21) rfl (flt c10).2.2.2 (by decide) (by decide) ?_
          show oS p e below s₁ m 36 #[oi p0] [] _
          refine XS.iconst X0.here hx rfl (hb hby own_d1_36) ?_
          show oS p e below s₁ m 37 #[oi p0] [(.int (1 : Int32))] _
          refine XS.goto X0.here hx rfl (pc0 := 37) (pc' := 41) rfl (hb hby own_d1_37) (by decide) (by decide) ?_
          show oS p e below s₁ m 41 #[oi p0] [(.int (1 : Int32))] _
          exact retN X0 hx (t := .boolean) Bd.returns (by simp) (hb hby own_d1_41) hr
        · show own_Q1 Z p0 h0 n0 _ s₁.heap _
          rw [e0]
          exact ⟨congrArg (fun z => some (Value.int z)) (by rw [own_f1, if_pos c2, if_neg c4, if_neg c10]), N0, rfl⟩
  · skip
    have pre15 : ∀ t, Steps p.tables e below (s₁.setTop (mkF m 9 #[oi p0] [(.int (122 : Int32)), (.int p0)])) t → Steps p.tables e below (s₁.setTop (entryFrame m #[(.int p0)] 1)) t := by
      intro t k
      refine pre1 t ?_
      show oS p e below s₁ m 3 #[oi p0] [(.int (97 : Int32)), (.int p0)] _
      refine XS.icmpNo X0.here hx rfl (hb hby own_d1_3) rfl (flt c2).1 ?_
      show oS p e below s₁ m 6 #[oi p0] [] _
      refine XS.iloadN X0.here hx rfl (hb hby own_d1_6) rfl ?_
      show oS p e below s₁ m 7 #[oi p0] [(.int p0)] _
      refine XS.bipush X0.here hx rfl (hb hby own_d1_7) ?_
      exact k
    by_cases c16 : (122 : Int32) < p0
    · skip
      have pre17 : ∀ t, Steps p.tables e below (s₁.setTop (mkF m 15 #[oi p0] [(.int (65 : Int32)), (.int p0)])) t → Steps p.tables e below (s₁.setTop (entryFrame m #[(.int p0)] 1)) t := by
        intro t k
        refine pre15 t ?_
        show oS p e below s₁ m 9 #[oi p0] [(.int (122 : Int32)), (.int p0)] _
        refine XS.icmpNo X0.here hx rfl (hb hby own_d1_9) rfl (tlt c16).2.2.2 ?_
        show oS p e below s₁ m 12 #[oi p0] [] _
        refine XS.iloadN X0.here hx rfl (hb hby own_d1_12) rfl ?_
        show oS p e below s₁ m 13 #[oi p0] [(.int p0)] _
        refine XS.bipush X0.here hx rfl (hb hby own_d1_13) ?_
        exact k
      by_cases c18 : p0 < (65 : Int32)
      · skip
        have pre19 : ∀ t, Steps p.tables e below (s₁.setTop (mkF m 27 #[oi p0] [(.int (48 : Int32)), (.int p0)])) t → Steps p.tables e below (s₁.setTop (entryFrame m #[(.int p0)] 1)) t := by
          intro t k
          refine pre17 t ?_
          show oS p e below s₁ m 15 #[oi p0] [(.int (65 : Int32)), (.int p0)] _
          refine XS.icmpYes X0.here hx rfl (pc0 := 15) (pc' := 24) rfl (hb hby own_d1_15) rfl (tlt c18).1 (by decide) (by decide) ?_
          show oS p e below s₁ m 24 #[oi p0] [] _
          refine XS.iloadN X0.here hx rfl (hb hby own_d1_24) rfl ?_
          show oS p e below s₁ m 25 #[oi p0] [(.int p0)] _
          refine XS.bipush X0.here hx rfl (hb hby own_d1_25) ?_
          exact k
        by_cases c20 : p0 < (48 : Int32)
        · skip
          obtain ⟨fs, hr, hrun, hended, hW, hsame⟩ := X0.leave (v := (some (.int (0 : Int32)))) (fun h => by rw [Bd.returns] at h; cases h)
          refine ⟨_, _, pre19 _ ?_, hrun, hended, _, _, rfl, ?_, ⟨_, rfl⟩, hW, hsame.mono (by decide) (by decide)⟩
          · show oS p e below s₁ m 27 #[oi p0] [(.int (48 : Int32)), (.int p0)] _
            refine XS.icmpYes X0.here hx rfl (pc0 := 27) (pc' := 40) rfl (hb hby own_d1_27) rfl (tlt c20).1 (by decide) (by decide) ?_
            show oS p e below s₁ m 40 #[oi p0] [] _
            refine XS.iconst X0.here hx rfl (hb hby own_d1_40) ?_
            show oS p e below s₁ m 41 #[oi p0] [(.int (0 : Int32))] _
            exact retN X0 hx (t := .boolean) Bd.returns (by simp) (hb hby own_d1_41) hr
          · show own_Q1 Z p0 h0 n0 _ s₁.heap _
            rw [e0]
            exact ⟨congrArg (fun z => some (Value.int z)) (by rw [own_f1, if_neg c2, if_pos c16, if_pos c18, if_pos c20]), N0, rfl⟩
        · skip
          have pre21 : ∀ t, Steps p.tables e below (s₁.setTop (mkF m 33 #[oi p0] [(.int (57 : Int32)), (.int p0)])) t → Steps p.tables e below (s₁.setTop (entryFrame m #[(.int p0)] 1)) t := by
            intro t k
            refine pre19 t ?_
            show oS p e below s₁ m 27 #[oi p0] [(.int (48 : Int32)), (.int p0)] _
            refine XS.icmpNo X0.here hx rfl (hb hby own_d1_27) rfl (flt c20).1 ?_
            show oS p e below s₁ m 30 #[oi p0] [] _
            refine XS.iloadN X0.here hx rfl (hb hby own_d1_30) rfl ?_
            show oS p e below s₁ m 31 #[oi p0] [(.int p0)] _
            refine XS.bipush X0.here hx rfl (hb hby own_d1_31) ?_
            exact k
          by_cases c22 : (57 : Int32) < p0
          · skip
            obtain ⟨fs, hr, hrun, hended, hW, hsame⟩ := X0.leave (v := (some (.int (0 : Int32)))) (fun h => by rw [Bd.returns] at h; cases h)
            refine ⟨_, _, pre21 _ ?_, hrun, hended, _, _, rfl, ?_, ⟨_, rfl⟩, hW, hsame.mono (by decide) (by decide)⟩
            · show oS p e below s₁ m 33 #[oi p0] [(.int (57 : Int32)), (.int p0)] _
              refine XS.icmpYes X0.here hx rfl (pc0 := 33) (pc' := 40) rfl (hb hby own_d1_33) rfl (tlt c22).2.2.1 (by decide) (by decide) ?_
              show oS p e below s₁ m 40 #[oi p0] [] _
              refine XS.iconst X0.here hx rfl (hb hby own_d1_40) ?_
              show oS p e below s₁ m 41 #[oi p0] [(.int (0 : Int32))] _
              exact retN X0 hx (t := .boolean) Bd.returns (by simp) (hb hby own_d1_41) hr
            · show own_Q1 Z p0 h0 n0 _ s₁.heap _
              rw [e0]
              exact ⟨congrArg (fun z => some (Value.int z)) (by rw [own_f1, if_neg c2, if_pos c16, if_pos c18, if_neg c20, if_pos c22]), N0, rfl⟩
          · skip
            obtain ⟨fs, hr, hrun, hended, hW, hsame⟩ := X0.leave (v := (some (.int (1 : Int32)))) (fun h => by rw [Bd.returns] at h; cases h)
            refine ⟨_, _, pre21 _ ?_, hrun, hended, _, _, rfl, ?_, ⟨_, rfl⟩, hW, hsame.mono (by decide) (by decide)⟩
            · show oS p e below s₁ m 33 #[oi p0] [(.int (57 : Int32)), (.int p0)] _
              refine XS.icmpNo X0.here hx rfl (hb hby own_d1_33) rfl (flt c22).2.2.1 ?_
              show oS p e below s₁ m 36 #[oi p0] [] _
              refine XS.iconst X0.here hx rfl (hb hby own_d1_36) ?_
              show oS p e below s₁ m 37 #[oi p0] [(.int (1 : Int32))] _
              refine XS.goto X0.here hx rfl (pc0 := 37) (pc' := 41) rfl (hb hby own_d1_37) (by decide) (by decide) ?_
              show oS p e below s₁ m 41 #[oi p0] [(.int (1 : Int32))] _
              exact retN X0 hx (t := .boolean) Bd.returns (by simp) (hb hby own_d1_41) hr
            · show own_Q1 Z p0 h0 n0 _ s₁.heap _
              rw [e0]
              exact ⟨congrArg (fun z => some (Value.int z)) (by rw [own_f1, if_neg c2, if_pos c16, if_pos c18, if_neg c20, if_neg c22]), N0, rfl⟩
      · skip
        have pre23 : ∀ t, Steps p.tables e below (s₁.setTop (mkF m 21 #[oi p0] [(.int (90 : Int32)), (.int p0)])) t → Steps p.tables e below (s₁.setTop (entryFrame m #[(.int p0)] 1)) t := by
          intro t k
          refine pre17 t ?_
          show oS p e below s₁ m 15 #[oi p0] [(.int (65 : Int32)), (.int p0)] _
          refine XS.icmpNo X0.here hx rfl (hb hby own_d1_15) rfl (flt c18).1 ?_
          show oS p e below s₁ m 18 #[oi p0] [] _
          refine XS.iloadN X0.here hx rfl (hb hby own_d1_18) rfl ?_
          show oS p e below s₁ m 19 #[oi p0] [(.int p0)] _
          refine XS.bipush X0.here hx rfl (hb hby own_d1_19) ?_
          exact k
        by_cases c24 : (90 : Int32) < p0
        · skip
          have pre25 : ∀ t, Steps p.tables e below (s₁.setTop (mkF m 27 #[oi p0] [(.int (48 : Int32)), (.int p0)])) t → Steps p.tables e below (s₁.setTop (entryFrame m #[(.int p0)] 1)) t := by
            intro t k
            refine pre23 t ?_
            show oS p e below s₁ m 21 #[oi p0] [(.int (90 : Int32)), (.int p0)] _
            refine XS.icmpNo X0.here hx rfl (hb hby own_d1_21) rfl (tlt c24).2.2.2 ?_
            show oS p e below s₁ m 24 #[oi p0] [] _
            refine XS.iloadN X0.here hx rfl (hb hby own_d1_24) rfl ?_
            show oS p e below s₁ m 25 #[oi p0] [(.int p0)] _
            refine XS.bipush X0.here hx rfl (hb hby own_d1_25) ?_
            exact k
          by_cases c26 : p0 < (48 : Int32)
          · skip
            obtain ⟨fs, hr, hrun, hended, hW, hsame⟩ := X0.leave (v := (some (.int (0 : Int32)))) (fun h => by rw [Bd.returns] at h; cases h)
            refine ⟨_, _, pre25 _ ?_, hrun, hended, _, _, rfl, ?_, ⟨_, rfl⟩, hW, hsame.mono (by decide) (by decide)⟩
            · show oS p e below s₁ m 27 #[oi p0] [(.int (48 : Int32)), (.int p0)] _
              refine XS.icmpYes X0.here hx rfl (pc0 := 27) (pc' := 40) rfl (hb hby own_d1_27) rfl (tlt c26).1 (by decide) (by decide) ?_
              show oS p e below s₁ m 40 #[oi p0] [] _
              refine XS.iconst X0.here hx rfl (hb hby own_d1_40) ?_
              show oS p e below s₁ m 41 #[oi p0] [(.int (0 : Int32))] _
              exact retN X0 hx (t := .boolean) Bd.returns (by simp) (hb hby own_d1_41) hr
            · show own_Q1 Z p0 h0 n0 _ s₁.heap _
              rw [e0]
              exact ⟨congrArg (fun z => some (Value.int z)) (by rw [own_f1, if_neg c2, if_pos c16, if_neg c18, if_pos c24, if_pos c26]), N0, rfl⟩
          · skip
            have pre27 : ∀ t, Steps p.tables e below (s₁.setTop (mkF m 33 #[oi p0] [(.int (57 : Int32)), (.int p0)])) t → Steps p.tables e below (s₁.setTop (entryFrame m #[(.int p0)] 1)) t := by
              intro t k
              refine pre25 t ?_
              show oS p e below s₁ m 27 #[oi p0] [(.int (48 : Int32)), (.int p0)] _
              refine XS.icmpNo X0.here hx rfl (hb hby own_d1_27) rfl (flt c26).1 ?_
              show oS p e below s₁ m 30 #[oi p0] [] _
              refine XS.iloadN X0.here hx rfl (hb hby own_d1_30) rfl ?_
              show oS p e below s₁ m 31 #[oi p0] [(.int p0)] _
              refine XS.bipush X0.here hx rfl (hb hby own_d1_31) ?_
              exact k
            by_cases c28 : (57 : Int32) < p0
            · skip
              obtain ⟨fs, hr, hrun, hended, hW, hsame⟩ := X0.leave (v := (some (.int (0 : Int32)))) (fun h => by rw [Bd.returns] at h; cases h)
              refine ⟨_, _, pre27 _ ?_, hrun, hended, _, _, rfl, ?_, ⟨_, rfl⟩, hW, hsame.mono (by decide) (by decide)⟩
              · show oS p e below s₁ m 33 #[oi p0] [(.int (57 : Int32)), (.int p0)] _
                refine XS.icmpYes X0.here hx rfl (pc0 := 33) (pc' := 40) rfl (hb hby own_d1_33) rfl (tlt c28).2.2.1 (by decide) (by decide) ?_
                show oS p e below s₁ m 40 #[oi p0] [] _
                refine XS.iconst X0.here hx rfl (hb hby own_d1_40) ?_
                show oS p e below s₁ m 41 #[oi p0] [(.int (0 : Int32))] _
                exact retN X0 hx (t := .boolean) Bd.returns (by simp) (hb hby own_d1_41) hr
              · show own_Q1 Z p0 h0 n0 _ s₁.heap _
                rw [e0]
                exact ⟨congrArg (fun z => some (Value.int z)) (by rw [own_f1, if_neg c2, if_pos c16, if_neg c18, if_pos c24, if_neg c26, if_pos c28]), N0, rfl⟩
            · skip
              obtain ⟨fs, hr, hrun, hended, hW, hsame⟩ := X0.leave (v := (some (.int (1 : Int32)))) (fun h => by rw [Bd.returns] at h; cases h)
              refine ⟨_, _, pre27 _ ?_, hrun, hended, _, _, rfl, ?_, ⟨_, rfl⟩, hW, hsame.mono (by decide) (by decide)⟩
              · show oS p e below s₁ m 33 #[oi p0] [(.int (57 : Int32)), (.int p0)] _
                refine XS.icmpNo X0.here hx rfl (hb hby own_d1_33) rfl (flt c28).2.2.1 ?_
                show oS p e below s₁ m 36 #[oi p0] [] _
                refine XS.iconst X0.here hx rfl (hb hby own_d1_36) ?_
                show oS p e below s₁ m 37 #[oi p0] [(.int (1 : Int32))] _
                refine XS.goto X0.here hx rfl (pc0 := 37) (pc' := 41) rfl (hb hby own_d1_37) (by decide) (by decide) ?_
                show oS p e below s₁ m 41 #[oi p0] [(.int (1 : Int32))] _
                exact retN X0 hx (t := .boolean) Bd.returns (by simp) (hb hby own_d1_41) hr
              · show own_Q1 Z p0 h0 n0 _ s₁.heap _
                rw [e0]
                exact ⟨congrArg (fun z => some (Value.int z)) (by rw [own_f1, if_neg c2, if_pos c16, if_neg c18, if_pos c24, if_neg c26, if_neg c28]), N0, rfl⟩
        · skip
          obtain ⟨fs, hr, hrun, hended, hW, hsame⟩ := X0.leave (v := (some (.int (1 : Int32)))) (fun h => by rw [Bd.returns] at h; cases h)
          refine ⟨_, _, pre23 _ ?_, hrun, hended, _, _, rfl, ?_, ⟨_, rfl⟩, hW, hsame.mono (by decide) (by decide)⟩
          · show oS p e below s₁ m 21 #[oi p0] [(.int (90 : Int32)), (.int p0)] _
            refine XS.icmpYes X0.here hx rfl (pc0 := 21) (pc' := 36) rfl (hb hby own_d1_21) rfl (flt c24).2.2.2 (by decide) (by decide) ?_
            show oS p e below s₁ m 36 #[oi p0] [] _
            refine XS.iconst X0.here hx rfl (hb hby own_d1_36) ?_
            show oS p e below s₁ m 37 #[oi p0] [(.int (1 : Int32))] _
            refine XS.goto X0.here hx rfl (pc0 := 37) (pc' := 41) rfl (hb hby own_d1_37) (by decide) (by decide) ?_
            show oS p e below s₁ m 41 #[oi p0] [(.int (1 : Int32))] _
            exact retN X0 hx (t := .boolean) Bd.returns (by simp) (hb hby own_d1_41) hr
          · show own_Q1 Z p0 h0 n0 _ s₁.heap _
            rw [e0]
            exact ⟨congrArg (fun z => some (Value.int z)) (by rw [own_f1, if_neg c2, if_pos c16, if_neg c18, if_neg c24]), N0, rfl⟩
    · skip
      obtain ⟨fs, hr, hrun, hended, hW, hsame⟩ := X0.leave (v := (some (.int (1 : Int32)))) (fun h => by rw [Bd.returns] at h; cases h)
      refine ⟨_, _, pre15 _ ?_, hrun, hended, _, _, rfl, ?_, ⟨_, rfl⟩, hW, hsame.mono (by decide) (by decide)⟩
      · show oS p e below s₁ m 9 #[oi p0] [(.int (122 : Int32)), (.int p0)] _
        refine XS.icmpYes X0.here hx rfl (pc0 := 9) (pc' := 36) rfl (hb hby own_d1_9) rfl (flt c16).2.2.2 (by decide) (by decide) ?_
        show oS p e below s₁ m 36 #[oi p0] [] _
        refine XS.iconst X0.here hx rfl (hb hby own_d1_36) ?_
        show oS p e below s₁ m 37 #[oi p0] [(.int (1 : Int32))] _
        refine XS.goto X0.here hx rfl (pc0 := 37) (pc' := 41) rfl (hb hby own_d1_37) (by decide) (by decide) ?_
        show oS p e below s₁ m 41 #[oi p0] [(.int (1 : Int32))] _
        exact retN X0 hx (t := .boolean) Bd.returns (by simp) (hb hby own_d1_41) hr
      · show own_Q1 Z p0 h0 n0 _ s₁.heap _
        rw [e0]
        exact ⟨congrArg (fun z => some (Value.int z)) (by rw [own_f1, if_neg c2, if_neg c16]), N0, rfl⟩
def own_l (c : Int32) : Int32 := (if (c ||| (32 : Int32)) < (97 : Int32) then (0 : Int32) else (if (122 : Int32) < (c ||| (32 : Int32)) then (0 : Int32) else (1 : Int32)))
def own_d (c : Int32) : Int32 := (if (c.toInt64 - (48 : Int64)) < (0 : Int64) then (0 : Int32) else (if (9 : Int64) < (c.toInt64 - (48 : Int64)) then (0 : Int32) else (1 : Int32)))
def own_g (c : Int32) : Int32 := (if own_l c = (0 : Int32) then (if own_d c = (0 : Int32) then (0 : Int32) else (1 : Int32)) else (1 : Int32))
theorem own_small : ∀ i : Fin 128, own_f1 (Int32.ofNat i.1) = own_g (Int32.ofNat i.1) := by decide +kernel
theorem own_eq (c : Int32) : own_f1 c = own_g c := by
  have k1 := c_lsub c.toInt64 48
  have k2 := c_i2l c
  have k3 := rng64 (c.toInt64 - 48)
  have k4 := rng32 c
  simp only [Int64.reduceToInt, k2] at k1
  by_cases h0 : 0 ≤ c.toInt
  · by_cases h1 : c.toInt < 128
    · exact own_of_range (P := fun c => own_f1 c = own_g c) 128 own_small c h0 h1
    · have h2 := c_or0 c 32 h0 (by decide)
      have e1 : own_l c = 0 := by
        unfold own_l
        simp only [own_ltp, Int32.reduceToInt]
        repeat' split
        all_goals first | rfl | (exfalso; omega)
      have e2 : own_d c = 0 := by
        unfold own_d
        simp only [own_ltpL, Int64.reduceToInt]
        repeat' split
        all_goals first | rfl | (exfalso; omega)
      unfold own_f1 own_g
      rw [e1, e2]
      simp only [own_ltp, Int32.reduceToInt, if_true]
      repeat' split
      all_goals first | rfl | (exfalso; omega)
  · have h2 := (c_orS c 32).2.1 (by omega)
    have e1 : own_l c = 0 := by
      unfold own_l
      simp only [own_ltp, Int32.reduceToInt]
      repeat' split
      all_goals first | rfl | (exfalso; omega)
    have e2 : own_d c = 0 := by
      unfold own_d
      simp only [own_ltpL, Int64.reduceToInt]
      repeat' split
      all_goals first | rfl | (exfalso; omega)
    unfold own_f1 own_g
    rw [e1, e2]
    simp only [own_ltp, Int32.reduceToInt, if_true]
    repeat' split
    all_goals first | rfl | (exfalso; omega)
theorem own_m6 (x : Int32) : ¬ (((x.toUInt32 >>> ((1 : Int32) &&& 31).toUInt32).toInt32) % (6 : Int32)) < 0 ∧ (((x.toUInt32 >>> ((1 : Int32) &&& 31).toUInt32).toInt32) % (6 : Int32)) < (6 : Int32) := by
  have h : ((x.toUInt32 >>> ((1 : Int32) &&& 31).toUInt32).toInt32).toInt = (x.toInt % 4294967296) / 2 := c_iushr x 1 1 (by decide) (by decide)
  have h2 := (c_irem ((x.toUInt32 >>> ((1 : Int32) &&& 31).toUInt32).toInt32) 6 6 (by decide)).1 (by omega)
  simp only [own_ltp, Int32.reduceToInt, h2]
  omega
theorem own_pd0 : parseMethodDescriptor "(I)Z" = some ⟨[.int], some .boolean⟩ := by decide +kernel
theorem own_pn1 : plainName "com/example/godwit/godwit/link/AsciiIsLetterOrDigitPinLaw" = true := by first | (simp [plainName, overriddenIn]; done) | decide +kernel
theorem own_ef0 (m : MethodId) (p0 : Int32) (p1 : Int32) : entryFrame m #[(.int p0), (.int p1)] maxLocals = mkF m 0 #[oi p0, oi p1, .unset, .unset, .unset, .unset, .unset, .unset] [] := by first | (simp [entryFrame, mkF, argsToLocals, Value.category, maxLocals]; done) | rfl
def own_Q0 (Z : State) (p0 : Int32) (p1 : Int32) (h0 : Heap) (n0 : Nat) (v : Option Value) (h : Heap) (L : List Loc) : Prop := v = some (Value.int (1 : Int32)) ∧ Fr n0 L
set_option maxRecDepth 65536 in
set_option maxHeartbeats 40000000 in
theorem own_rm0 (l : Launch) (Z : State) (av : Array Value) (hw : ∀ d ∈ tables_1, d.before av Z = true) (ws : List Jvm.Cond) (p0 : Int32) (p1 : Int32) (h0 : Heap) (n0 : Nat) (Z0 : n0 ≤ h0.size) :
    MetFree l x (head1 (Jvm.Cond.code x code maxLocals ret :: ws) room_1) (fun a U => a = #[(.int p0), (.int p1)] ∧ Z.Warmed39 U.vm ∧ U.heap = h0) (fun _ _ _ _ _ => True) (fun _ U o U' => ∃ v L, o = .returned v ∧ own_Q0 Z p0 p1 h0 n0 v U'.heap L ∧ FrameEnd U o U' L room_1.cells room_1.slots) := by
  refine MetFree.of_bodySF (plainFor_of_name own_pn1) hisR ?_
  intro p e s m args below meth c s₁ Bd hml0 hP hK
  obtain ⟨rfl, hZ, hh⟩ := hP
  have hx := Bd.exec
  have hby := Bd.bytes
  have hml : c.maxLocals = 8 := hml0
  have hown : s.vm.findClass "com/example/godwit/godwit/link/AsciiIsLetterOrDigitPinLaw" = some m.cls := findClass_of_methodNamed Bd.named
  have hnm := (name_of_methodNamed Bd.named Bd.method).1
  have X0 : Stand p l e room_1 s m #[(.int p0), (.int p1)] below meth c s₁ [] 0 0 := Stand.of_body Bd
  have e0 : s₁.heap = h0 := by rw [← hh, Bd.state]; rfl
  have N0 := Fr.nil n0
  have pre0 : ∀ t, Steps p.tables e below (s₁.setTop (mkF m 0 #[oi p0, oi p1, .unset, .unset, .unset, .unset, .unset, .unset] [])) t → Steps p.tables e below (s₁.setTop (entryFrame m #[(.int p0), (.int p1)] maxLocals)) t := fun t k => castTop (own_ef0 m p0 p1) k
  have pre1 : ∀ t, Steps p.tables e below (s₁.setTop (mkF m 3 #[oi p0, oi p1, .unset, .unset, .unset, .unset, .unset, .unset] [(.int (p1 &&& (1 : Int32)))])) t → Steps p.tables e below (s₁.setTop (entryFrame m #[(.int p0), (.int p1)] maxLocals)) t := by
    intro t k
    refine pre0 t ?_
    show oS p e below s₁ m 0 #[oi p0, oi p1, .unset, .unset, .unset, .unset, .unset, .unset] [] _
    refine XS.iloadN X0.here hx rfl (hb hby at_0) rfl ?_
    show oS p e below s₁ m 1 #[oi p0, oi p1, .unset, .unset, .unset, .unset, .unset, .unset] [(.int p1)] _
    refine XS.iconst X0.here hx rfl (hb hby at_1) ?_
    show oS p e below s₁ m 2 #[oi p0, oi p1, .unset, .unset, .unset, .unset, .unset, .unset] [(.int (1 : Int32)), (.int p1)] _
    refine XS.iand X0.here hx rfl (hb hby at_2) rfl ?_
    exact k
  by_cases c2 : (p1 &&& (1 : Int32)) = (0 : Int32)
  · skip
    obtain ⟨T3, h3, k3, X3, e3, E3, A3, st3⟩ := newP X0 hx hZ (hw _ (List.mem_of_getElem? (i := 6) rfl)) e0 (g := (mkF m 13 #[oi p0, oi p1, .unset, .unset, .unset, .unset, .unset, .unset] [(.int (6 : Int32))])) rfl (hb hby at_13) rfl (by decide) (cap := 6) (by decide) (by decide) (by decide) (by decide)
    obtain ⟨b3, g3⟩ : ∃ z, z = h0.size := ⟨_, rfl⟩
    rw [← g3] at A3 st3
    have g_b3 : n0 ≤ b3 := Nat.le_trans Z0 (Nat.le_of_eq g3.symm)
    have Z3 : n0 ≤ h3.size := Nat.le_trans Z0 E3.1
    have V_4 : Arv Z h3 b3 k3 .int (6 : Int32) [(.int (0 : Int32)), (.int (0 : Int32)), (.int (0 : Int32)), (.int (0 : Int32)), (.int (0 : Int32)), (.int (0 : Int32))] (.int (0 : Int32)) := (Arv.new A3 (by decide)).pad (pad_rep [] (.int (0 : Int32)) 6)
    obtain ⟨T5, h5, X5, e5, W5, V5, st5⟩ := oStI X3 hx hZ e3 V_4 (j := (0 : Int32)) ⟨by decide, by decide⟩ 0 rfl (Nat.le_of_ble_eq_true rfl) (g := (mkF m 19 #[oi p0, oi p1, .unset, .unset, .unset, .unset, .unset, .unset] [(.int (48 : Int32)), (.int (0 : Int32)), (.ref b3), (.ref b3)])) rfl rfl (hb hby at_19)
    have N5 := Fr.snoc X5 N0 g_b3
    have Z5 := Nat.le_trans Z3 (Keep.of_wr W5).1
    have V_6 : Arv Z h5 b3 k3 .int (6 : Int32) [(.int (48 : Int32)), (.int (0 : Int32)), (.int (0 : Int32)), (.int (0 : Int32)), (.int (0 : Int32)), (.int (0 : Int32))] (.int (0 : Int32)) := V5
    obtain ⟨T7, h7, X7, e7, W7, V7, st7⟩ := oStI X5 hx hZ e5 V_6 (j := (1 : Int32)) ⟨by decide, by decide⟩ 1 rfl (Nat.le_of_ble_eq_true rfl) (g := (mkF m 24 #[oi p0, oi p1, .unset, .unset, .unset, .unset, .unset, .unset] [(.int (57 : Int32)), (.int (1 : Int32)), (.ref b3), (.ref b3)])) rfl rfl (hb hby at_24)
    have N7 := Fr.snoc X7 N5 g_b3
    have Z7 := Nat.le_trans Z5 (Keep.of_wr W7).1
    have V_8 : Arv Z h7 b3 k3 .int (6 : Int32) [(.int (48 : Int32)), (.int (57 : Int32)), (.int (0 : Int32)), (.int (0 : Int32)), (.int (0 : Int32)), (.int (0 : Int32))] (.int (0 : Int32)) := V7
    obtain ⟨T9, h9, X9, e9, W9, V9, st9⟩ := oStI X7 hx hZ e7 V_8 (j := (2 : Int32)) ⟨by decide, by decide⟩ 2 rfl (Nat.le_of_ble_eq_true rfl) (g := (mkF m 29 #[oi p0, oi p1, .unset, .unset, .unset, .unset, .unset, .unset] [(.int (65 : Int32)), (.int (2 : Int32)), (.ref b3), (.ref b3)])) rfl rfl (hb hby at_29)
    have N9 := Fr.snoc X9 N7 g_b3
    have Z9 := Nat.le_trans Z7 (Keep.of_wr W9).1
    have V_10 : Arv Z h9 b3 k3 .int (6 : Int32) [(.int (48 : Int32)), (.int (57 : Int32)), (.int (65 : Int32)), (.int (0 : Int32)), (.int (0 : Int32)), (.int (0 : Int32))] (.int (0 : Int32)) := V9
    obtain ⟨T11, h11, X11, e11, W11, V11, st11⟩ := oStI X9 hx hZ e9 V_10 (j := (3 : Int32)) ⟨by decide, by decide⟩ 3 rfl (Nat.le_of_ble_eq_true rfl) (g := (mkF m 34 #[oi p0, oi p1, .unset, .unset, .unset, .unset, .unset, .unset] [(.int (90 : Int32)), (.int (3 : Int32)), (.ref b3), (.ref b3)])) rfl rfl (hb hby at_34)
    have N11 := Fr.snoc X11 N9 g_b3
    have Z11 := Nat.le_trans Z9 (Keep.of_wr W11).1
    have V_12 : Arv Z h11 b3 k3 .int (6 : Int32) [(.int (48 : Int32)), (.int (57 : Int32)), (.int (65 : Int32)), (.int (90 : Int32)), (.int (0 : Int32)), (.int (0 : Int32))] (.int (0 : Int32)) := V11
    obtain ⟨T13, h13, X13, e13, W13, V13, st13⟩ := oStI X11 hx hZ e11 V_12 (j := (4 : Int32)) ⟨by decide, by decide⟩ 4 rfl (Nat.le_of_ble_eq_true rfl) (g := (mkF m 39 #[oi p0, oi p1, .unset, .unset, .unset, .unset, .unset, .unset] [(.int (97 : Int32)), (.int (4 : Int32)), (.ref b3), (.ref b3)])) rfl rfl (hb hby at_39)
    have N13 := Fr.snoc X13 N11 g_b3
    have Z13 := Nat.le_trans Z11 (Keep.of_wr W13).1
    have V_14 : Arv Z h13 b3 k3 .int (6 : Int32) [(.int (48 : Int32)), (.int (57 : Int32)), (.int (65 : Int32)), (.int (90 : Int32)), (.int (97 : Int32)), (.int (0 : Int32))] (.int (0 : Int32)) := V13
    obtain ⟨T15, h15, X15, e15, W15, V15, st15⟩ := oStI X13 hx hZ e13 V_14 (j := (5 : Int32)) ⟨by decide, by decide⟩ 5 rfl (Nat.le_of_ble_eq_true rfl) (g := (mkF m 44 #[oi p0, oi p1, .unset, .unset, .unset, .unset, .unset, .unset] [(.int (122 : Int32)), (.int (5 : Int32)), (.ref b3), (.ref b3)])) rfl rfl (hb hby at_44)
    have N15 := Fr.snoc X15 N13 g_b3
    have Z15 := Nat.le_trans Z13 (Keep.of_wr W15).1
    have V_16 : Arv Z h15 b3 k3 .int (6 : Int32) [(.int (48 : Int32)), (.int (57 : Int32)), (.int (65 : Int32)), (.int (90 : Int32)), (.int (97 : Int32)), (.int (122 : Int32))] (.int (0 : Int32)) := V15
    have hin17 : ¬ (((p1.toUInt32 >>> ((1 : Int32) &&& 31).toUInt32).toInt32) % (6 : Int32)) < 0 ∧ (((p1.toUInt32 >>> ((1 : Int32) &&& 31).toUInt32).toInt32) % (6 : Int32)) < (6 : Int32) := (own_m6 _)
    have hat18 : ([(.int (48 : Int32)), (.int (57 : Int32)), (.int (65 : Int32)), (.int (90 : Int32)), (.int (97 : Int32)), (.int (122 : Int32))] : List Value).getD ((((p1.toUInt32 >>> ((1 : Int32) &&& 31).toUInt32).toInt32) % (6 : Int32))).toNatClampNeg (.int (0 : Int32)) = (.int (([(48 : Int32), (57 : Int32), (65 : Int32), (90 : Int32), (97 : Int32), (122 : Int32)] : List Int32).getD ((((p1.toUInt32 >>> ((1 : Int32) &&& 31).toUInt32).toInt32) % (6 : Int32))).toNatClampNeg 0)) := (own_getD [(48 : Int32), (57 : Int32), (65 : Int32), (90 : Int32), (97 : Int32), (122 : Int32)] _)
    have pre19 : ∀ t, Steps p.tables e below (T15.setTop (mkF m 54 #[oi p0, oi p1, .unset, oa b3, .unset, .unset, .unset, .unset] [(.int (([(48 : Int32), (57 : Int32), (65 : Int32), (90 : Int32), (97 : Int32), (122 : Int32)] : List Int32).getD ((((p1.toUInt32 >>> ((1 : Int32) &&& 31).toUInt32).toInt32) % (6 : Int32))).toNatClampNeg 0))])) t → Steps p.tables e below (s₁.setTop (entryFrame m #[(.int p0), (.int p1)] maxLocals)) t := by
      intro t k
      refine pre1 t ?_
      show oS p e below s₁ m 3 #[oi p0, oi p1, .unset, .unset, .unset, .unset, .unset, .unset] [(.int (p1 &&& (1 : Int32)))] _
      refine XS.ifYes X0.here hx rfl (pc0 := 3) (pc' := 11) rfl (hb hby at_3) rfl ((if0 _ _).trans (teq c2).1) (by decide) (by decide) ?_
      show oS p e below s₁ m 11 #[oi p0, oi p1, .unset, .unset, .unset, .unset, .unset, .unset] [] _
      refine XS.bipush X0.here hx rfl (hb hby at_11) ?_
      show oS p e below s₁ m 13 #[oi p0, oi p1, .unset, .unset, .unset, .unset, .unset, .unset] [(.int (6 : Int32))] _
      refine st3 _ ?_
      show oS p e below T3 m 15 #[oi p0, oi p1, .unset, .unset, .unset, .unset, .unset, .unset] [(.ref b3)] _
      refine XS.dup X3.here hx rfl (hb hby at_15) rfl rfl ?_
      show oS p e below T3 m 16 #[oi p0, oi p1, .unset, .unset, .unset, .unset, .unset, .unset] [(.ref b3), (.ref b3)] _
      refine XS.iconst X3.here hx rfl (hb hby at_16) ?_
      show oS p e below T3 m 17 #[oi p0, oi p1, .unset, .unset, .unset, .unset, .unset, .unset] [(.int (0 : Int32)), (.ref b3), (.ref b3)] _
      refine XS.bipush X3.here hx rfl (hb hby at_17) ?_
      show oS p e below T3 m 19 #[oi p0, oi p1, .unset, .unset, .unset, .unset, .unset, .unset] [(.int (48 : Int32)), (.int (0 : Int32)), (.ref b3), (.ref b3)] _
      refine st5 _ ?_
      show oS p e below T5 m 20 #[oi p0, oi p1, .unset, .unset, .unset, .unset, .unset, .unset] [(.ref b3)] _
      refine XS.dup X5.here hx rfl (hb hby at_20) rfl rfl ?_
      show oS p e below T5 m 21 #[oi p0, oi p1, .unset, .unset, .unset, .unset, .unset, .unset] [(.ref b3), (.ref b3)] _
      refine XS.iconst X5.here hx rfl (hb hby at_21) ?_
      show oS p e below T5 m 22 #[oi p0, oi p1, .unset, .unset, .unset, .unset, .unset, .unset] [(.int (1 : Int32)), (.ref b3), (.ref b3)] _
      refine XS.bipush X5.here hx rfl (hb hby at_22) ?_
      show oS p e below T5 m 24 #[oi p0, oi p1, .unset, .unset, .unset, .unset, .unset, .unset] [(.int (57 : Int32)), (.int (1 : Int32)), (.ref b3), (.ref b3)] _
      refine st7 _ ?_
      show oS p e below T7 m 25 #[oi p0, oi p1, .unset, .unset, .unset, .unset, .unset, .unset] [(.ref b3)] _
      refine XS.dup X7.here hx rfl (hb hby at_25) rfl rfl ?_
      show oS p e below T7 m 26 #[oi p0, oi p1, .unset, .unset, .unset, .unset, .unset, .unset] [(.ref b3), (.ref b3)] _
      refine XS.iconst X7.here hx rfl (hb hby at_26) ?_
      show oS p e below T7 m 27 #[oi p0, oi p1, .unset, .unset, .unset, .unset, .unset, .unset] [(.int (2 : Int32)), (.ref b3), (.ref b3)] _
      refine XS.bipush X7.here hx rfl (hb hby at_27) ?_
      show oS p e below T7 m 29 #[oi p0, oi p1, .unset, .unset, .unset, .unset, .unset, .unset] [(.int (65 : Int32)), (.int (2 : Int32)), (.ref b3), (.ref b3)] _
      refine st9 _ ?_
      show oS p e below T9 m 30 #[oi p0, oi p1, .unset, .unset, .unset, .unset, .unset, .unset] [(.ref b3)] _
      refine XS.dup X9.here hx rfl (hb hby at_30) rfl rfl ?_
      show oS p e below T9 m 31 #[oi p0, oi p1, .unset, .unset, .unset, .unset, .unset, .unset] [(.ref b3), (.ref b3)] _
      refine XS.iconst X9.here hx rfl (hb hby at_31) ?_
      show oS p e below T9 m 32 #[oi p0, oi p1, .unset, .unset, .unset, .unset, .unset, .unset] [(.int (3 : Int32)), (.ref b3), (.ref b3)] _
      refine XS.bipush X9.here hx rfl (hb hby at_32) ?_
      show oS p e below T9 m 34 #[oi p0, oi p1, .unset, .unset, .unset, .unset, .unset, .unset] [(.int (90 : Int32)), (.int (3 : Int32)), (.ref b3), (.ref b3)] _
      refine st11 _ ?_
      show oS p e below T11 m 35 #[oi p0, oi p1, .unset, .unset, .unset, .unset, .unset, .unset] [(.ref b3)] _
      refine XS.dup X11.here hx rfl (hb hby at_35) rfl rfl ?_
      show oS p e below T11 m 36 #[oi p0, oi p1, .unset, .unset, .unset, .unset, .unset, .unset] [(.ref b3), (.ref b3)] _
      refine XS.iconst X11.here hx rfl (hb hby at_36) ?_
      show oS p e below T11 m 37 #[oi p0, oi p1, .unset, .unset, .unset, .unset, .unset, .unset] [(.int (4 : Int32)), (.ref b3), (.ref b3)] _
      refine XS.bipush X11.here hx rfl (hb hby at_37) ?_
      show oS p e below T11 m 39 #[oi p0, oi p1, .unset, .unset, .unset, .unset, .unset, .unset] [(.int (97 : Int32)), (.int (4 : Int32)), (.ref b3), (.ref b3)] _
      refine st13 _ ?_
      show oS p e below T13 m 40 #[oi p0, oi p1, .unset, .unset, .unset, .unset, .unset, .unset] [(.ref b3)] _
      refine XS.dup X13.here hx rfl (hb hby at_40) rfl rfl ?_
      show oS p e below T13 m 41 #[oi p0, oi p1, .unset, .unset, .unset, .unset, .unset, .unset] [(.ref b3), (.ref b3)] _
      refine XS.iconst X13.here hx rfl (hb hby at_41) ?_
      show oS p e below T13 m 42 #[oi p0, oi p1, .unset, .unset, .unset, .unset, .unset, .unset] [(.int (5 : Int32)), (.ref b3), (.ref b3)] _
      refine XS.bipush X13.here hx rfl (hb hby at_42) ?_
      show oS p e below T13 m 44 #[oi p0, oi p1, .unset, .unset, .unset, .unset, .unset, .unset] [(.int (122 : Int32)), (.int (5 : Int32)), (.ref b3), (.ref b3)] _
      refine st15 _ ?_
      show oS p e below T15 m 45 #[oi p0, oi p1, .unset, .unset, .unset, .unset, .unset, .unset] [(.ref b3)] _
      refine XS.astoreN X15.here hx rfl (hb hby at_45) rfl rfl (l' := #[oi p0, oi p1, .unset, oa b3, .unset, .unset, .unset, .unset]) rfl ?_
      show oS p e below T15 m 46 #[oi p0, oi p1, .unset, oa b3, .unset, .unset, .unset, .unset] [] _
      refine XS.aloadN X15.here hx rfl (hb hby at_46) rfl rfl ?_
      show oS p e below T15 m 47 #[oi p0, oi p1, .unset, oa b3, .unset, .unset, .unset, .unset] [(.ref b3)] _
      refine XS.iloadN X15.here hx rfl (hb hby at_47) rfl ?_
      show oS p e below T15 m 48 #[oi p0, oi p1, .unset, oa b3, .unset, .unset, .unset, .unset] [(.int p1), (.ref b3)] _
      refine XS.iconst X15.here hx rfl (hb hby at_48) ?_
      show oS p e below T15 m 49 #[oi p0, oi p1, .unset, oa b3, .unset, .unset, .unset, .unset] [(.int (1 : Int32)), (.int p1), (.ref b3)] _
      refine XS.iushr X15.here hx rfl (hb hby at_49) rfl ?_
      show oS p e below T15 m 50 #[oi p0, oi p1, .unset, oa b3, .unset, .unset, .unset, .unset] [(.int ((p1.toUInt32 >>> ((1 : Int32) &&& 31).toUInt32).toInt32)), (.ref b3)] _
      refine XS.bipush X15.here hx rfl (hb hby at_50) ?_
      show oS p e below T15 m 52 #[oi p0, oi p1, .unset, oa b3, .unset, .unset, .unset, .unset] [(.int (6 : Int32)), (.int ((p1.toUInt32 >>> ((1 : Int32) &&& 31).toUInt32).toInt32)), (.ref b3)] _
      refine Jvm.RoadKit.iremM X15 hx rfl (hb hby at_52) rfl (by decide) ?_
      show oS p e below T15 m 53 #[oi p0, oi p1, .unset, oa b3, .unset, .unset, .unset, .unset] [(.int (((p1.toUInt32 >>> ((1 : Int32) &&& 31).toUInt32).toInt32) % (6 : Int32))), (.ref b3)] _
      refine oLdI X15 hx hZ e15 V_16 (v := (.int (([(48 : Int32), (57 : Int32), (65 : Int32), (90 : Int32), (97 : Int32), (122 : Int32)] : List Int32).getD ((((p1.toUInt32 >>> ((1 : Int32) &&& 31).toUInt32).toInt32) % (6 : Int32))).toNatClampNeg 0))) hin17 hat18 (hb hby at_53) ?_
      exact k
    obtain ⟨v20, hv20⟩ : ∃ z : Int32, z = (([(48 : Int32), (57 : Int32), (65 : Int32), (90 : Int32), (97 : Int32), (122 : Int32)] : List Int32).getD ((((p1.toUInt32 >>> ((1 : Int32) &&& 31).toUInt32).toInt32) % (6 : Int32))).toNatClampNeg 0) := ⟨_, rfl⟩
    rw [← hv20] at pre19
    have pre21 : ∀ t, Steps p.tables e below (T15.setTop (mkF m 68 #[oi p0, oi p1, oi (v20 + ((((p1.toUInt32 >>> ((8 : Int32) &&& 31).toUInt32).toInt32) &&& (3 : Int32)) - (1 : Int32))), oa b3, oi v20, .unset, .unset, .unset] [])) t → Steps p.tables e below (s₁.setTop (entryFrame m #[(.int p0), (.int p1)] maxLocals)) t := by
      intro t k
      refine pre19 t ?_
      show oS p e below T15 m 54 #[oi p0, oi p1, .unset, oa b3, .unset, .unset, .unset, .unset] [(.int v20)] _
      refine XS.istore X15.here hx rfl (hb hby at_54) rfl (l' := #[oi p0, oi p1, .unset, oa b3, oi v20, .unset, .unset, .unset]) rfl ?_
      show oS p e below T15 m 56 #[oi p0, oi p1, .unset, oa b3, oi v20, .unset, .unset, .unset] [] _
      refine XS.iload X15.here hx rfl (hb hby at_56) rfl ?_
      show oS p e below T15 m 58 #[oi p0, oi p1, .unset, oa b3, oi v20, .unset, .unset, .unset] [(.int v20)] _
      refine XS.iloadN X15.here hx rfl (hb hby at_58) rfl ?_
      show oS p e below T15 m 59 #[oi p0, oi p1, .unset, oa b3, oi v20, .unset, .unset, .unset] [(.int p1), (.int v20)] _
      refine XS.bipush X15.here hx rfl (hb hby at_59) ?_
      show oS p e below T15 m 61 #[oi p0, oi p1, .unset, oa b3, oi v20, .unset, .unset, .unset] [(.int (8 : Int32)), (.int p1), (.int v20)] _
      refine XS.iushr X15.here hx rfl (hb hby at_61) rfl ?_
      show oS p e below T15 m 62 #[oi p0, oi p1, .unset, oa b3, oi v20, .unset, .unset, .unset] [(.int ((p1.toUInt32 >>> ((8 : Int32) &&& 31).toUInt32).toInt32)), (.int v20)] _
      refine XS.iconst X15.here hx rfl (hb hby at_62) ?_
      show oS p e below T15 m 63 #[oi p0, oi p1, .unset, oa b3, oi v20, .unset, .unset, .unset] [(.int (3 : Int32)), (.int ((p1.toUInt32 >>> ((8 : Int32) &&& 31).toUInt32).toInt32)), (.int v20)] _
      refine XS.iand X15.here hx rfl (hb hby at_63) rfl ?_
      show oS p e below T15 m 64 #[oi p0, oi p1, .unset, oa b3, oi v20, .unset, .unset, .unset] [(.int (((p1.toUInt32 >>> ((8 : Int32) &&& 31).toUInt32).toInt32) &&& (3 : Int32))), (.int v20)] _
      refine XS.iconst X15.here hx rfl (hb hby at_64) ?_
      show oS p e below T15 m 65 #[oi p0, oi p1, .unset, oa b3, oi v20, .unset, .unset, .unset] [(.int (1 : Int32)), (.int (((p1.toUInt32 >>> ((8 : Int32) &&& 31).toUInt32).toInt32) &&& (3 : Int32))), (.int v20)] _
      refine XS.isub X15.here hx rfl (hb hby at_65) rfl ?_
      show oS p e below T15 m 66 #[oi p0, oi p1, .unset, oa b3, oi v20, .unset, .unset, .unset] [(.int ((((p1.toUInt32 >>> ((8 : Int32) &&& 31).toUInt32).toInt32) &&& (3 : Int32)) - (1 : Int32))), (.int v20)] _
      refine XS.iadd X15.here hx rfl (hb hby at_66) rfl ?_
      show oS p e below T15 m 67 #[oi p0, oi p1, .unset, oa b3, oi v20, .unset, .unset, .unset] [(.int (v20 + ((((p1.toUInt32 >>> ((8 : Int32) &&& 31).toUInt32).toInt32) &&& (3 : Int32)) - (1 : Int32))))] _
      refine XS.istoreN X15.here hx rfl (hb hby at_67) rfl (l' := #[oi p0, oi p1, oi (v20 + ((((p1.toUInt32 >>> ((8 : Int32) &&& 31).toUInt32).toInt32) &&& (3 : Int32)) - (1 : Int32))), oa b3, oi v20, .unset, .unset, .unset]) rfl ?_
      exact k
    obtain ⟨v22, hv22⟩ : ∃ z : Int32, z = (v20 + ((((p1.toUInt32 >>> ((8 : Int32) &&& 31).toUInt32).toInt32) &&& (3 : Int32)) - (1 : Int32))) := ⟨_, rfl⟩
    rw [← hv22] at pre21
    have pre23 : ∀ t, Steps p.tables e below (T15.setTop (mkF m 76 #[oi p0, oi p1, oi v22, oi (v22 ||| (32 : Int32)), oi v20, .unset, .unset, .unset] [(.int (97 : Int32)), (.int (v22 ||| (32 : Int32)))])) t → Steps p.tables e below (s₁.setTop (entryFrame m #[(.int p0), (.int p1)] maxLocals)) t := by
      intro t k
      refine pre21 t ?_
      show oS p e below T15 m 68 #[oi p0, oi p1, oi v22, oa b3, oi v20, .unset, .unset, .unset] [] _
      refine XS.iloadN X15.here hx rfl (hb hby at_68) rfl ?_
      show oS p e below T15 m 69 #[oi p0, oi p1, oi v22, oa b3, oi v20, .unset, .unset, .unset] [(.int v22)] _
      refine XS.bipush X15.here hx rfl (hb hby at_69) ?_
      show oS p e below T15 m 71 #[oi p0, oi p1, oi v22, oa b3, oi v20, .unset, .unset, .unset] [(.int (32 : Int32)), (.int v22)] _
      refine XS.ior X15.here hx rfl (hb hby at_71) rfl ?_
      show oS p e below T15 m 72 #[oi p0, oi p1, oi v22, oa b3, oi v20, .unset, .unset, .unset] [(.int (v22 ||| (32 : Int32)))] _
      refine XS.istoreN X15.here hx rfl (hb hby at_72) rfl (l' := #[oi p0, oi p1, oi v22, oi (v22 ||| (32 : Int32)), oi v20, .unset, .unset, .unset]) rfl ?_
      show oS p e below T15 m 73 #[oi p0, oi p1, oi v22, oi (v22 ||| (32 : Int32)), oi v20, .unset, .unset, .unset] [] _
      refine XS.iloadN X15.here hx rfl (hb hby at_73) rfl ?_
      show oS p e below T15 m 74 #[oi p0, oi p1, oi v22, oi (v22 ||| (32 : Int32)), oi v20, .unset, .unset, .unset] [(.int (v22 ||| (32 : Int32)))] _
      refine XS.bipush X15.here hx rfl (hb hby at_74) ?_
      exact k
    obtain ⟨v26, hv26⟩ : ∃ z : Int32, z = (if (v22 ||| (32 : Int32)) < (97 : Int32) then (0 : Int32) else (if (122 : Int32) < (v22 ||| (32 : Int32)) then (0 : Int32) else (1 : Int32))) := ⟨_, rfl⟩
    have pre27 : ∀ t, Steps p.tables e below (T15.setTop (mkF m 90 #[oi p0, oi p1, oi v22, oi (v22 ||| (32 : Int32)), oi v20, .unset, .unset, .unset] [(.int v26)])) t → Steps p.tables e below (s₁.setTop (entryFrame m #[(.int p0), (.int p1)] maxLocals)) t := by
      intro t k
      by_cases c24 : (v22 ||| (32 : Int32)) < (97 : Int32)
      · skip
        rw [show v26 = (0 : Int32) from hv26.trans (by rw [if_pos c24])] at k
        refine pre23 t ?_
        show oS p e below T15 m 76 #[oi p0, oi p1, oi v22, oi (v22 ||| (32 : Int32)), oi v20, .unset, .unset, .unset] [(.int (97 : Int32)), (.int (v22 ||| (32 : Int32)))] _
        refine XS.icmpYes X15.here hx rfl (pc0 := 76) (pc' := 89) rfl (hb hby at_76) rfl (tlt c24).1 (by decide) (by decide) ?_
        show oS p e below T15 m 89 #[oi p0, oi p1, oi v22, oi (v22 ||| (32 : Int32)), oi v20, .unset, .unset, .unset] [] _
        refine XS.iconst X15.here hx rfl (hb hby at_89) ?_
        exact k
      · skip
        by_cases c25 : (122 : Int32) < (v22 ||| (32 : Int32))
        · skip
          rw [show v26 = (0 : Int32) from hv26.trans (by rw [if_neg c24, if_pos c25])] at k
          refine pre23 t ?_
          show oS p e below T15 m 76 #[oi p0, oi p1, oi v22, oi (v22 ||| (32 : Int32)), oi v20, .unset, .unset, .unset] [(.int (97 : Int32)), (.int (v22 ||| (32 : Int32)))] _
          refine XS.icmpNo X15.here hx rfl (hb hby at_76) rfl (flt c24).1 ?_
          show oS p e below T15 m 79 #[oi p0, oi p1, oi v22, oi (v22 ||| (32 : Int32)), oi v20, .unset, .unset, .unset] [] _
          refine XS.iloadN X15.here hx rfl (hb hby at_79) rfl ?_
          show oS p e below T15 m 80 #[oi p0, oi p1, oi v22, oi (v22 ||| (32 : Int32)), oi v20, .unset, .unset, .unset] [(.int (v22 ||| (32 : Int32)))] _
          refine XS.bipush X15.here hx rfl (hb hby at_80) ?_
          show oS p e below T15 m 82 #[oi p0, oi p1, oi v22, oi (v22 ||| (32 : Int32)), oi v20, .unset, .unset, .unset] [(.int (122 : Int32)), (.int (v22 ||| (32 : Int32)))] _
          refine XS.icmpYes X15.here hx rfl (pc0 := 82) (pc' := 89) rfl (hb hby at_82) rfl (tlt c25).2.2.1 (by decide) (by decide) ?_
          show oS p e below T15 m 89 #[oi p0, oi p1, oi v22, oi (v22 ||| (32 : Int32)), oi v20, .unset, .unset, .unset] [] _
          refine XS.iconst X15.here hx rfl (hb hby at_89) ?_
          exact k
        · skip
          rw [show v26 = (1 : Int32) from hv26.trans (by rw [if_neg c24, if_neg c25])] at k
          refine pre23 t ?_
          show oS p e below T15 m 76 #[oi p0, oi p1, oi v22, oi (v22 ||| (32 : Int32)), oi v20, .unset, .unset, .unset] [(.int (97 : Int32)), (.int (v22 ||| (32 : Int32)))] _
          refine XS.icmpNo X15.here hx rfl (hb hby at_76) rfl (flt c24).1 ?_
          show oS p e below T15 m 79 #[oi p0, oi p1, oi v22, oi (v22 ||| (32 : Int32)), oi v20, .unset, .unset, .unset] [] _
          refine XS.iloadN X15.here hx rfl (hb hby at_79) rfl ?_
          show oS p e below T15 m 80 #[oi p0, oi p1, oi v22, oi (v22 ||| (32 : Int32)), oi v20, .unset, .unset, .unset] [(.int (v22 ||| (32 : Int32)))] _
          refine XS.bipush X15.here hx rfl (hb hby at_80) ?_
          show oS p e below T15 m 82 #[oi p0, oi p1, oi v22, oi (v22 ||| (32 : Int32)), oi v20, .unset, .unset, .unset] [(.int (122 : Int32)), (.int (v22 ||| (32 : Int32)))] _
          refine XS.icmpNo X15.here hx rfl (hb hby at_82) rfl (flt c25).2.2.1 ?_
          show oS p e below T15 m 85 #[oi p0, oi p1, oi v22, oi (v22 ||| (32 : Int32)), oi v20, .unset, .unset, .unset] [] _
          refine XS.iconst X15.here hx rfl (hb hby at_85) ?_
          show oS p e below T15 m 86 #[oi p0, oi p1, oi v22, oi (v22 ||| (32 : Int32)), oi v20, .unset, .unset, .unset] [(.int (1 : Int32))] _
          refine XS.goto X15.here hx rfl (pc0 := 86) (pc' := 90) rfl (hb hby at_86) (by decide) (by decide) ?_
          exact k
    have pre28 : ∀ t, Steps p.tables e below (T15.setTop (mkF m 104 #[oi p0, oi p1, oi v22, oi (v22 ||| (32 : Int32)), oi v26, oj ((v22.toInt64) - (48 : Int64)), .second, .unset] [(.int (lcmpW ((v22.toInt64) - (48 : Int64)) (0 : Int64)))])) t → Steps p.tables e below (s₁.setTop (entryFrame m #[(.int p0), (.int p1)] maxLocals)) t := by
      intro t k
      refine pre27 t ?_
      show oS p e below T15 m 90 #[oi p0, oi p1, oi v22, oi (v22 ||| (32 : Int32)), oi v20, .unset, .unset, .unset] [(.int v26)] _
      refine XS.istore X15.here hx rfl (hb hby at_90) rfl (l' := #[oi p0, oi p1, oi v22, oi (v22 ||| (32 : Int32)), oi v26, .unset, .unset, .unset]) rfl ?_
      show oS p e below T15 m 92 #[oi p0, oi p1, oi v22, oi (v22 ||| (32 : Int32)), oi v26, .unset, .unset, .unset] [] _
      refine XS.iloadN X15.here hx rfl (hb hby at_92) rfl ?_
      show oS p e below T15 m 93 #[oi p0, oi p1, oi v22, oi (v22 ||| (32 : Int32)), oi v26, .unset, .unset, .unset] [(.int v22)] _
      refine XS.i2l X15.here hx rfl (hb hby at_93) rfl ?_
      show oS p e below T15 m 94 #[oi p0, oi p1, oi v22, oi (v22 ||| (32 : Int32)), oi v26, .unset, .unset, .unset] [(.long (v22.toInt64))] _
      refine X15.ldc2Long hx hown (mvT hZ (hw _ (List.mem_of_getElem? (i := 0) rfl))) (g := (mkF m 94 #[oi p0, oi p1, oi v22, oi (v22 ||| (32 : Int32)), oi v26, .unset, .unset, .unset] [(.long (v22.toInt64))])) rfl (hb hby at_94) _ ?_
      show oS p e below T15 m 97 #[oi p0, oi p1, oi v22, oi (v22 ||| (32 : Int32)), oi v26, .unset, .unset, .unset] [(.long (48 : Int64)), (.long (v22.toInt64))] _
      refine XS.lsub X15.here hx rfl (hb hby at_97) rfl ?_
      show oS p e below T15 m 98 #[oi p0, oi p1, oi v22, oi (v22 ||| (32 : Int32)), oi v26, .unset, .unset, .unset] [(.long ((v22.toInt64) - (48 : Int64)))] _
      refine XS.lstore X15.here hx rfl (hb hby at_98) rfl (l' := #[oi p0, oi p1, oi v22, oi (v22 ||| (32 : Int32)), oi v26, oj ((v22.toInt64) - (48 : Int64)), .second, .unset]) rfl ?_
      show oS p e below T15 m 100 #[oi p0, oi p1, oi v22, oi (v22 ||| (32 : Int32)), oi v26, oj ((v22.toInt64) - (48 : Int64)), .second, .unset] [] _
      refine XS.lload X15.here hx rfl (hb hby at_100) rfl ?_
      show oS p e below T15 m 102 #[oi p0, oi p1, oi v22, oi (v22 ||| (32 : Int32)), oi v26, oj ((v22.toInt64) - (48 : Int64)), .second, .unset] [(.long ((v22.toInt64) - (48 : Int64)))] _
      refine XS.lconst X15.here hx rfl (hb hby at_102) ?_
      show oS p e below T15 m 103 #[oi p0, oi p1, oi v22, oi (v22 ||| (32 : Int32)), oi v26, oj ((v22.toInt64) - (48 : Int64)), .second, .unset] [(.long (0 : Int64)), (.long ((v22.toInt64) - (48 : Int64)))] _
      refine XS.lcmp X15.here hx rfl (hb hby at_103) rfl ?_
      exact k
    obtain ⟨v31, hv31⟩ : ∃ z : Int32, z = (if ((v22.toInt64) - (48 : Int64)) < (0 : Int64) then (0 : Int32) else (if (9 : Int64) < ((v22.toInt64) - (48 : Int64)) then (0 : Int32) else (1 : Int32))) := ⟨_, rfl⟩
    have pre32 : ∀ t, Steps p.tables e below (T15.setTop (mkF m 121 #[oi p0, oi p1, oi v22, oi (v22 ||| (32 : Int32)), oi v26, oj ((v22.toInt64) - (48 : Int64)), .second, .unset] [(.int v31)])) t → Steps p.tables e below (s₁.setTop (entryFrame m #[(.int p0), (.int p1)] maxLocals)) t := by
      intro t k
      by_cases c29 : ((v22.toInt64) - (48 : Int64)) < (0 : Int64)
      · skip
        rw [show v31 = (0 : Int32) from hv31.trans (by rw [if_pos c29])] at k
        refine pre28 t ?_
        show oS p e below T15 m 104 #[oi p0, oi p1, oi v22, oi (v22 ||| (32 : Int32)), oi v26, oj ((v22.toInt64) - (48 : Int64)), .second, .unset] [(.int (lcmpW ((v22.toInt64) - (48 : Int64)) (0 : Int64)))] _
        refine XS.ifYes X15.here hx rfl (pc0 := 104) (pc' := 120) rfl (hb hby at_104) rfl ((if0 _ _).trans (tlt ((lw_lt ((v22.toInt64) - (48 : Int64)) (0 : Int64)).mpr c29)).1) (by decide) (by decide) ?_
        show oS p e below T15 m 120 #[oi p0, oi p1, oi v22, oi (v22 ||| (32 : Int32)), oi v26, oj ((v22.toInt64) - (48 : Int64)), .second, .unset] [] _
        refine XS.iconst X15.here hx rfl (hb hby at_120) ?_
        exact k
      · skip
        by_cases c30 : (9 : Int64) < ((v22.toInt64) - (48 : Int64))
        · skip
          rw [show v31 = (0 : Int32) from hv31.trans (by rw [if_neg c29, if_pos c30])] at k
          refine pre28 t ?_
          show oS p e below T15 m 104 #[oi p0, oi p1, oi v22, oi (v22 ||| (32 : Int32)), oi v26, oj ((v22.toInt64) - (48 : Int64)), .second, .unset] [(.int (lcmpW ((v22.toInt64) - (48 : Int64)) (0 : Int64)))] _
          refine XS.ifNo X15.here hx rfl (hb hby at_104) rfl ((if0 _ _).trans (flt (fun q => c29 ((lw_lt ((v22.toInt64) - (48 : Int64)) (0 : Int64)).mp q))).1) ?_
          show oS p e below T15 m 107 #[oi p0, oi p1, oi v22, oi (v22 ||| (32 : Int32)), oi v26, oj ((v22.toInt64) - (48 : Int64)), .second, .unset] [] _
          refine XS.lload X15.here hx rfl (hb hby at_107) rfl ?_
          show oS p e below T15 m 109 #[oi p0, oi p1, oi v22, oi (v22 ||| (32 : Int32)), oi v26, oj ((v22.toInt64) - (48 : Int64)), .second, .unset] [(.long ((v22.toInt64) - (48 : Int64)))] _
          refine X15.ldc2Long hx hown (mvT hZ (hw _ (List.mem_of_getElem? (i := 5) rfl))) (g := (mkF m 109 #[oi p0, oi p1, oi v22, oi (v22 ||| (32 : Int32)), oi v26, oj ((v22.toInt64) - (48 : Int64)), .second, .unset] [(.long ((v22.toInt64) - (48 : Int64)))])) rfl (hb hby at_109) _ ?_
          show oS p e below T15 m 112 #[oi p0, oi p1, oi v22, oi (v22 ||| (32 : Int32)), oi v26, oj ((v22.toInt64) - (48 : Int64)), .second, .unset] [(.long (9 : Int64)), (.long ((v22.toInt64) - (48 : Int64)))] _
          refine XS.lcmp X15.here hx rfl (hb hby at_112) rfl ?_
          show oS p e below T15 m 113 #[oi p0, oi p1, oi v22, oi (v22 ||| (32 : Int32)), oi v26, oj ((v22.toInt64) - (48 : Int64)), .second, .unset] [(.int (lcmpW ((v22.toInt64) - (48 : Int64)) (9 : Int64)))] _
          refine XS.ifYes X15.here hx rfl (pc0 := 113) (pc' := 120) rfl (hb hby at_113) rfl ((if0 _ _).trans (tlt ((lw_gt ((v22.toInt64) - (48 : Int64)) (9 : Int64)).mpr c30)).2.2.1) (by decide) (by decide) ?_
          show oS p e below T15 m 120 #[oi p0, oi p1, oi v22, oi (v22 ||| (32 : Int32)), oi v26, oj ((v22.toInt64) - (48 : Int64)), .second, .unset] [] _
          refine XS.iconst X15.here hx rfl (hb hby at_120) ?_
          exact k
        · skip
          rw [show v31 = (1 : Int32) from hv31.trans (by rw [if_neg c29, if_neg c30])] at k
          refine pre28 t ?_
          show oS p e below T15 m 104 #[oi p0, oi p1, oi v22, oi (v22 ||| (32 : Int32)), oi v26, oj ((v22.toInt64) - (48 : Int64)), .second, .unset] [(.int (lcmpW ((v22.toInt64) - (48 : Int64)) (0 : Int64)))] _
          refine XS.ifNo X15.here hx rfl (hb hby at_104) rfl ((if0 _ _).trans (flt (fun q => c29 ((lw_lt ((v22.toInt64) - (48 : Int64)) (0 : Int64)).mp q))).1) ?_
          show oS p e below T15 m 107 #[oi p0, oi p1, oi v22, oi (v22 ||| (32 : Int32)), oi v26, oj ((v22.toInt64) - (48 : Int64)), .second, .unset] [] _
          refine XS.lload X15.here hx rfl (hb hby at_107) rfl ?_
          show oS p e below T15 m 109 #[oi p0, oi p1, oi v22, oi (v22 ||| (32 : Int32)), oi v26, oj ((v22.toInt64) - (48 : Int64)), .second, .unset] [(.long ((v22.toInt64) - (48 : Int64)))] _
          refine X15.ldc2Long hx hown (mvT hZ (hw _ (List.mem_of_getElem? (i := 5) rfl))) (g := (mkF m 109 #[oi p0, oi p1, oi v22, oi (v22 ||| (32 : Int32)), oi v26, oj ((v22.toInt64) - (48 : Int64)), .second, .unset] [(.long ((v22.toInt64) - (48 : Int64)))])) rfl (hb hby at_109) _ ?_
          show oS p e below T15 m 112 #[oi p0, oi p1, oi v22, oi (v22 ||| (32 : Int32)), oi v26, oj ((v22.toInt64) - (48 : Int64)), .second, .unset] [(.long (9 : Int64)), (.long ((v22.toInt64) - (48 : Int64)))] _
          refine XS.lcmp X15.here hx rfl (hb hby at_112) rfl ?_
          show oS p e below T15 m 113 #[oi p0, oi p1, oi v22, oi (v22 ||| (32 : Int32)), oi v26, oj ((v22.toInt64) - (48 : Int64)), .second, .unset] [(.int (lcmpW ((v22.toInt64) - (48 : Int64)) (9 : Int64)))] _
          refine XS.ifNo X15.here hx rfl (hb hby at_113) rfl ((if0 _ _).trans (flt (fun q => c30 ((lw_gt ((v22.toInt64) - (48 : Int64)) (9 : Int64)).mp q))).2.2.1) ?_
          show oS p e below T15 m 116 #[oi p0, oi p1, oi v22, oi (v22 ||| (32 : Int32)), oi v26, oj ((v22.toInt64) - (48 : Int64)), .second, .unset] [] _
          refine XS.iconst X15.here hx rfl (hb hby at_116) ?_
          show oS p e below T15 m 117 #[oi p0, oi p1, oi v22, oi (v22 ||| (32 : Int32)), oi v26, oj ((v22.toInt64) - (48 : Int64)), .second, .unset] [(.int (1 : Int32))] _
          refine XS.goto X15.here hx rfl (pc0 := 117) (pc' := 121) rfl (hb hby at_117) (by decide) (by decide) ?_
          exact k
    obtain ⟨_, _, ⟨T33, L33, k33, n33⟩, -, X33, ⟨Lc33, hQ33, l33, y33, z33⟩, st33⟩ := Jvm.LawKit.callS X15 hx (y := (⟨"com/example/godwit/godwit/link/Ascii", "isLetterOrDigit", "(I)Z"⟩ : MethodName)) hown (mvT hZ (hw _ (List.mem_of_getElem? (i := 1) rfl))) (mvT hZ (hw _ (List.mem_of_getElem? (i := 2) rfl))) (mvT hZ (hw _ (List.mem_of_getElem? (i := 3) rfl))) (mvT hZ (hw _ (List.mem_of_getElem? (i := 4) rfl))) (by decide) (backOf (W := 0) (own_rm1 l Z av hw [] v22 h15 n0 Z15 ) hZ (hw _ (List.mem_of_getElem? (i := 4) rfl)) (hw _ (List.mem_of_getElem? (i := 3) rfl)) (by decide) (by decide)) (g := (mkF m 124 #[oi p0, oi p1, oi v22, oi (v22 ||| (32 : Int32)), oi v26, oj ((v22.toInt64) - (48 : Int64)), .second, oi v31] [(.int v22)])) rfl (by rw [hml]; rfl) (argsL := [(.int v22)]) (rest := []) (lenOf own_pd0 rfl) rfl (by show 2 * 0 + _ ≤ _; exact Nat.le_of_eq rfl) (hb hby at_124) (fun _ _ => ⟨rfl, e15, (by decide : 1 + 0 ≤ _), (by decide : 6 + 0 ≤ _)⟩)
    dsimp only [Pt.U, Pt.locs, Pt.cells, Pt.slots] at X33 l33 y33 z33 st33 hQ33
    subst l33 y33 z33
    obtain ⟨rfl, Nq33, eq33⟩ := hQ33
    have N33 := Fr.app N15 Nq33
    have pre34 : ∀ t, Steps p.tables e below (T33.setTop (mkF m 129 #[oi p0, oi p1, oi v22, oi (v22 ||| (32 : Int32)), oi v26, oj ((v22.toInt64) - (48 : Int64)), .second, oi v31] [(.int v26), (.int (own_f1 v22))])) t → Steps p.tables e below (s₁.setTop (entryFrame m #[(.int p0), (.int p1)] maxLocals)) t := by
      intro t k
      refine pre32 t ?_
      show oS p e below T15 m 121 #[oi p0, oi p1, oi v22, oi (v22 ||| (32 : Int32)), oi v26, oj ((v22.toInt64) - (48 : Int64)), .second, .unset] [(.int v31)] _
      refine XS.istore X15.here hx rfl (hb hby at_121) rfl (l' := #[oi p0, oi p1, oi v22, oi (v22 ||| (32 : Int32)), oi v26, oj ((v22.toInt64) - (48 : Int64)), .second, oi v31]) rfl ?_
      show oS p e below T15 m 123 #[oi p0, oi p1, oi v22, oi (v22 ||| (32 : Int32)), oi v26, oj ((v22.toInt64) - (48 : Int64)), .second, oi v31] [] _
      refine XS.iloadN X15.here hx rfl (hb hby at_123) rfl ?_
      show oS p e below T15 m 124 #[oi p0, oi p1, oi v22, oi (v22 ||| (32 : Int32)), oi v26, oj ((v22.toInt64) - (48 : Int64)), .second, oi v31] [(.int v22)] _
      refine st33 _ ?_
      show oS p e below T33 m 127 #[oi p0, oi p1, oi v22, oi (v22 ||| (32 : Int32)), oi v26, oj ((v22.toInt64) - (48 : Int64)), .second, oi v31] [(.int (own_f1 v22))] _
      refine XS.iload X33.here hx rfl (hb hby at_127) rfl ?_
      exact k
    obtain ⟨v37, hv37⟩ : ∃ z : Int32, z = (if v26 = (0 : Int32) then (if v31 = (0 : Int32) then (0 : Int32) else (1 : Int32)) else (1 : Int32)) := ⟨_, rfl⟩
    have pre38 : ∀ t, Steps p.tables e below (T33.setTop (mkF m 142 #[oi p0, oi p1, oi v22, oi (v22 ||| (32 : Int32)), oi v26, oj ((v22.toInt64) - (48 : Int64)), .second, oi v31] [(.int v37), (.int (own_f1 v22))])) t → Steps p.tables e below (s₁.setTop (entryFrame m #[(.int p0), (.int p1)] maxLocals)) t := by
      intro t k
      by_cases c35 : v26 = (0 : Int32)
      · skip
        by_cases c36 : v31 = (0 : Int32)
        · skip
          rw [show v37 = (0 : Int32) from hv37.trans (by rw [if_pos c35, if_pos c36])] at k
          refine pre34 t ?_
          show oS p e below T33 m 129 #[oi p0, oi p1, oi v22, oi (v22 ||| (32 : Int32)), oi v26, oj ((v22.toInt64) - (48 : Int64)), .second, oi v31] [(.int v26), (.int (own_f1 v22))] _
          refine XS.ifNo X33.here hx rfl (hb hby at_129) rfl ((if0 _ _).trans (teq c35).2) ?_
          show oS p e below T33 m 132 #[oi p0, oi p1, oi v22, oi (v22 ||| (32 : Int32)), oi v26, oj ((v22.toInt64) - (48 : Int64)), .second, oi v31] [(.int (own_f1 v22))] _
          refine XS.iload X33.here hx rfl (hb hby at_132) rfl ?_
          show oS p e below T33 m 134 #[oi p0, oi p1, oi v22, oi (v22 ||| (32 : Int32)), oi v26, oj ((v22.toInt64) - (48 : Int64)), .second, oi v31] [(.int v31), (.int (own_f1 v22))] _
          refine XS.ifYes X33.here hx rfl (pc0 := 134) (pc' := 141) rfl (hb hby at_134) rfl ((if0 _ _).trans (teq c36).1) (by decide) (by decide) ?_
          show oS p e below T33 m 141 #[oi p0, oi p1, oi v22, oi (v22 ||| (32 : Int32)), oi v26, oj ((v22.toInt64) - (48 : Int64)), .second, oi v31] [(.int (own_f1 v22))] _
          refine XS.iconst X33.here hx rfl (hb hby at_141) ?_
          exact k
        · skip
          rw [show v37 = (1 : Int32) from hv37.trans (by rw [if_pos c35, if_neg c36])] at k
          refine pre34 t ?_
          show oS p e below T33 m 129 #[oi p0, oi p1, oi v22, oi (v22 ||| (32 : Int32)), oi v26, oj ((v22.toInt64) - (48 : Int64)), .second, oi v31] [(.int v26), (.int (own_f1 v22))] _
          refine XS.ifNo X33.here hx rfl (hb hby at_129) rfl ((if0 _ _).trans (teq c35).2) ?_
          show oS p e below T33 m 132 #[oi p0, oi p1, oi v22, oi (v22 ||| (32 : Int32)), oi v26, oj ((v22.toInt64) - (48 : Int64)), .second, oi v31] [(.int (own_f1 v22))] _
          refine XS.iload X33.here hx rfl (hb hby at_132) rfl ?_
          show oS p e below T33 m 134 #[oi p0, oi p1, oi v22, oi (v22 ||| (32 : Int32)), oi v26, oj ((v22.toInt64) - (48 : Int64)), .second, oi v31] [(.int v31), (.int (own_f1 v22))] _
          refine XS.ifNo X33.here hx rfl (hb hby at_134) rfl ((if0 _ _).trans (feq c36).1) ?_
          show oS p e below T33 m 137 #[oi p0, oi p1, oi v22, oi (v22 ||| (32 : Int32)), oi v26, oj ((v22.toInt64) - (48 : Int64)), .second, oi v31] [(.int (own_f1 v22))] _
          refine XS.iconst X33.here hx rfl (hb hby at_137) ?_
          show oS p e below T33 m 138 #[oi p0, oi p1, oi v22, oi (v22 ||| (32 : Int32)), oi v26, oj ((v22.toInt64) - (48 : Int64)), .second, oi v31] [(.int (1 : Int32)), (.int (own_f1 v22))] _
          refine XS.goto X33.here hx rfl (pc0 := 138) (pc' := 142) rfl (hb hby at_138) (by decide) (by decide) ?_
          exact k
      · skip
        rw [show v37 = (1 : Int32) from hv37.trans (by rw [if_neg c35])] at k
        refine pre34 t ?_
        show oS p e below T33 m 129 #[oi p0, oi p1, oi v22, oi (v22 ||| (32 : Int32)), oi v26, oj ((v22.toInt64) - (48 : Int64)), .second, oi v31] [(.int v26), (.int (own_f1 v22))] _
        refine XS.ifYes X33.here hx rfl (pc0 := 129) (pc' := 137) rfl (hb hby at_129) rfl ((if0 _ _).trans (feq c35).2) (by decide) (by decide) ?_
        show oS p e below T33 m 137 #[oi p0, oi p1, oi v22, oi (v22 ||| (32 : Int32)), oi v26, oj ((v22.toInt64) - (48 : Int64)), .second, oi v31] [(.int (own_f1 v22))] _
        refine XS.iconst X33.here hx rfl (hb hby at_137) ?_
        show oS p e below T33 m 138 #[oi p0, oi p1, oi v22, oi (v22 ||| (32 : Int32)), oi v26, oj ((v22.toInt64) - (48 : Int64)), .second, oi v31] [(.int (1 : Int32)), (.int (own_f1 v22))] _
        refine XS.goto X33.here hx rfl (pc0 := 138) (pc' := 142) rfl (hb hby at_138) (by decide) (by decide) ?_
        exact k
    have b39 : (own_f1 v22) = v37 := by rw [hv37, hv26, hv31]; exact own_eq _
    obtain ⟨fs, hr, hrun, hended, hW, hsame⟩ := X33.leave (v := (some (.int (1 : Int32)))) (fun h => by rw [Bd.returns] at h; cases h)
    refine ⟨_, _, pre38 _ ?_, hrun, hended, _, _, rfl, ?_, ⟨_, rfl⟩, hW, hsame.mono (by decide) (by decide)⟩
    · show oS p e below T33 m 142 #[oi p0, oi p1, oi v22, oi (v22 ||| (32 : Int32)), oi v26, oj ((v22.toInt64) - (48 : Int64)), .second, oi v31] [(.int v37), (.int (own_f1 v22))] _
      refine XS.icmpNo X33.here hx rfl (hb hby at_142) rfl (teq b39).2 ?_
      show oS p e below T33 m 145 #[oi p0, oi p1, oi v22, oi (v22 ||| (32 : Int32)), oi v26, oj ((v22.toInt64) - (48 : Int64)), .second, oi v31] [] _
      refine XS.iconst X33.here hx rfl (hb hby at_145) ?_
      show oS p e below T33 m 146 #[oi p0, oi p1, oi v22, oi (v22 ||| (32 : Int32)), oi v26, oj ((v22.toInt64) - (48 : Int64)), .second, oi v31] [(.int (1 : Int32))] _
      refine XS.goto X33.here hx rfl (pc0 := 146) (pc' := 150) rfl (hb hby at_146) (by decide) (by decide) ?_
      show oS p e below T33 m 150 #[oi p0, oi p1, oi v22, oi (v22 ||| (32 : Int32)), oi v26, oj ((v22.toInt64) - (48 : Int64)), .second, oi v31] [(.int (1 : Int32))] _
      exact retN X33 hx (t := .boolean) Bd.returns (by simp) (hb hby at_150) hr
    · show own_Q0 Z p0 p1 h0 n0 _ T33.heap _
      rw [eq33]
      exact ⟨rfl, N33⟩
  · skip
    have pre40 : ∀ t, Steps p.tables e below (s₁.setTop (mkF m 76 #[oi p0, oi p1, oi p0, oi (p0 ||| (32 : Int32)), .unset, .unset, .unset, .unset] [(.int (97 : Int32)), (.int (p0 ||| (32 : Int32)))])) t → Steps p.tables e below (s₁.setTop (entryFrame m #[(.int p0), (.int p1)] maxLocals)) t := by
      intro t k
      refine pre1 t ?_
      show oS p e below s₁ m 3 #[oi p0, oi p1, .unset, .unset, .unset, .unset, .unset, .unset] [(.int (p1 &&& (1 : Int32)))] _
      refine XS.ifNo X0.here hx rfl (hb hby at_3) rfl ((if0 _ _).trans (feq c2).1) ?_
      show oS p e below s₁ m 6 #[oi p0, oi p1, .unset, .unset, .unset, .unset, .unset, .unset] [] _
      refine XS.iloadN X0.here hx rfl (hb hby at_6) rfl ?_
      show oS p e below s₁ m 7 #[oi p0, oi p1, .unset, .unset, .unset, .unset, .unset, .unset] [(.int p0)] _
      refine XS.istoreN X0.here hx rfl (hb hby at_7) rfl (l' := #[oi p0, oi p1, oi p0, .unset, .unset, .unset, .unset, .unset]) rfl ?_
      show oS p e below s₁ m 8 #[oi p0, oi p1, oi p0, .unset, .unset, .unset, .unset, .unset] [] _
      refine XS.goto X0.here hx rfl (pc0 := 8) (pc' := 68) rfl (hb hby at_8) (by decide) (by decide) ?_
      show oS p e below s₁ m 68 #[oi p0, oi p1, oi p0, .unset, .unset, .unset, .unset, .unset] [] _
      refine XS.iloadN X0.here hx rfl (hb hby at_68) rfl ?_
      show oS p e below s₁ m 69 #[oi p0, oi p1, oi p0, .unset, .unset, .unset, .unset, .unset] [(.int p0)] _
      refine XS.bipush X0.here hx rfl (hb hby at_69) ?_
      show oS p e below s₁ m 71 #[oi p0, oi p1, oi p0, .unset, .unset, .unset, .unset, .unset] [(.int (32 : Int32)), (.int p0)] _
      refine XS.ior X0.here hx rfl (hb hby at_71) rfl ?_
      show oS p e below s₁ m 72 #[oi p0, oi p1, oi p0, .unset, .unset, .unset, .unset, .unset] [(.int (p0 ||| (32 : Int32)))] _
      refine XS.istoreN X0.here hx rfl (hb hby at_72) rfl (l' := #[oi p0, oi p1, oi p0, oi (p0 ||| (32 : Int32)), .unset, .unset, .unset, .unset]) rfl ?_
      show oS p e below s₁ m 73 #[oi p0, oi p1, oi p0, oi (p0 ||| (32 : Int32)), .unset, .unset, .unset, .unset] [] _
      refine XS.iloadN X0.here hx rfl (hb hby at_73) rfl ?_
      show oS p e below s₁ m 74 #[oi p0, oi p1, oi p0, oi (p0 ||| (32 : Int32)), .unset, .unset, .unset, .unset] [(.int (p0 ||| (32 : Int32)))] _
      refine XS.bipush X0.here hx rfl (hb hby at_74) ?_
      exact k
    obtain ⟨v43, hv43⟩ : ∃ z : Int32, z = (if (p0 ||| (32 : Int32)) < (97 : Int32) then (0 : Int32) else (if (122 : Int32) < (p0 ||| (32 : Int32)) then (0 : Int32) else (1 : Int32))) := ⟨_, rfl⟩
    have pre44 : ∀ t, Steps p.tables e below (s₁.setTop (mkF m 90 #[oi p0, oi p1, oi p0, oi (p0 ||| (32 : Int32)), .unset, .unset, .unset, .unset] [(.int v43)])) t → Steps p.tables e below (s₁.setTop (entryFrame m #[(.int p0), (.int p1)] maxLocals)) t := by
      intro t k
      by_cases c41 : (p0 ||| (32 : Int32)) < (97 : Int32)
      · skip
        rw [show v43 = (0 : Int32) from hv43.trans (by rw [if_pos c41])] at k
        refine pre40 t ?_
        show oS p e below s₁ m 76 #[oi p0, oi p1, oi p0, oi (p0 ||| (32 : Int32)), .unset, .unset, .unset, .unset] [(.int (97 : Int32)), (.int (p0 ||| (32 : Int32)))] _
        refine XS.icmpYes X0.here hx rfl (pc0 := 76) (pc' := 89) rfl (hb hby at_76) rfl (tlt c41).1 (by decide) (by decide) ?_
        show oS p e below s₁ m 89 #[oi p0, oi p1, oi p0, oi (p0 ||| (32 : Int32)), .unset, .unset, .unset, .unset] [] _
        refine XS.iconst X0.here hx rfl (hb hby at_89) ?_
        exact k
      · skip
        by_cases c42 : (122 : Int32) < (p0 ||| (32 : Int32))
        · skip
          rw [show v43 = (0 : Int32) from hv43.trans (by rw [if_neg c41, if_pos c42])] at k
          refine pre40 t ?_
          show oS p e below s₁ m 76 #[oi p0, oi p1, oi p0, oi (p0 ||| (32 : Int32)), .unset, .unset, .unset, .unset] [(.int (97 : Int32)), (.int (p0 ||| (32 : Int32)))] _
          refine XS.icmpNo X0.here hx rfl (hb hby at_76) rfl (flt c41).1 ?_
          show oS p e below s₁ m 79 #[oi p0, oi p1, oi p0, oi (p0 ||| (32 : Int32)), .unset, .unset, .unset, .unset] [] _
          refine XS.iloadN X0.here hx rfl (hb hby at_79) rfl ?_
          show oS p e below s₁ m 80 #[oi p0, oi p1, oi p0, oi (p0 ||| (32 : Int32)), .unset, .unset, .unset, .unset] [(.int (p0 ||| (32 : Int32)))] _
          refine XS.bipush X0.here hx rfl (hb hby at_80) ?_
          show oS p e below s₁ m 82 #[oi p0, oi p1, oi p0, oi (p0 ||| (32 : Int32)), .unset, .unset, .unset, .unset] [(.int (122 : Int32)), (.int (p0 ||| (32 : Int32)))] _
          refine XS.icmpYes X0.here hx rfl (pc0 := 82) (pc' := 89) rfl (hb hby at_82) rfl (tlt c42).2.2.1 (by decide) (by decide) ?_
          show oS p e below s₁ m 89 #[oi p0, oi p1, oi p0, oi (p0 ||| (32 : Int32)), .unset, .unset, .unset, .unset] [] _
          refine XS.iconst X0.here hx rfl (hb hby at_89) ?_
          exact k
        · skip
          rw [show v43 = (1 : Int32) from hv43.trans (by rw [if_neg c41, if_neg c42])] at k
          refine pre40 t ?_
          show oS p e below s₁ m 76 #[oi p0, oi p1, oi p0, oi (p0 ||| (32 : Int32)), .unset, .unset, .unset, .unset] [(.int (97 : Int32)), (.int (p0 ||| (32 : Int32)))] _
          refine XS.icmpNo X0.here hx rfl (hb hby at_76) rfl (flt c41).1 ?_
          show oS p e below s₁ m 79 #[oi p0, oi p1, oi p0, oi (p0 ||| (32 : Int32)), .unset, .unset, .unset, .unset] [] _
          refine XS.iloadN X0.here hx rfl (hb hby at_79) rfl ?_
          show oS p e below s₁ m 80 #[oi p0, oi p1, oi p0, oi (p0 ||| (32 : Int32)), .unset, .unset, .unset, .unset] [(.int (p0 ||| (32 : Int32)))] _
          refine XS.bipush X0.here hx rfl (hb hby at_80) ?_
          show oS p e below s₁ m 82 #[oi p0, oi p1, oi p0, oi (p0 ||| (32 : Int32)), .unset, .unset, .unset, .unset] [(.int (122 : Int32)), (.int (p0 ||| (32 : Int32)))] _
          refine XS.icmpNo X0.here hx rfl (hb hby at_82) rfl (flt c42).2.2.1 ?_
          show oS p e below s₁ m 85 #[oi p0, oi p1, oi p0, oi (p0 ||| (32 : Int32)), .unset, .unset, .unset, .unset] [] _
          refine XS.iconst X0.here hx rfl (hb hby at_85) ?_
          show oS p e below s₁ m 86 #[oi p0, oi p1, oi p0, oi (p0 ||| (32 : Int32)), .unset, .unset, .unset, .unset] [(.int (1 : Int32))] _
          refine XS.goto X0.here hx rfl (pc0 := 86) (pc' := 90) rfl (hb hby at_86) (by decide) (by decide) ?_
          exact k
    have pre45 : ∀ t, Steps p.tables e below (s₁.setTop (mkF m 104 #[oi p0, oi p1, oi p0, oi (p0 ||| (32 : Int32)), oi v43, oj ((p0.toInt64) - (48 : Int64)), .second, .unset] [(.int (lcmpW ((p0.toInt64) - (48 : Int64)) (0 : Int64)))])) t → Steps p.tables e below (s₁.setTop (entryFrame m #[(.int p0), (.int p1)] maxLocals)) t := by
      intro t k
      refine pre44 t ?_
      show oS p e below s₁ m 90 #[oi p0, oi p1, oi p0, oi (p0 ||| (32 : Int32)), .unset, .unset, .unset, .unset] [(.int v43)] _
      refine XS.istore X0.here hx rfl (hb hby at_90) rfl (l' := #[oi p0, oi p1, oi p0, oi (p0 ||| (32 : Int32)), oi v43, .unset, .unset, .unset]) rfl ?_
      show oS p e below s₁ m 92 #[oi p0, oi p1, oi p0, oi (p0 ||| (32 : Int32)), oi v43, .unset, .unset, .unset] [] _
      refine XS.iloadN X0.here hx rfl (hb hby at_92) rfl ?_
      show oS p e below s₁ m 93 #[oi p0, oi p1, oi p0, oi (p0 ||| (32 : Int32)), oi v43, .unset, .unset, .unset] [(.int p0)] _
      refine XS.i2l X0.here hx rfl (hb hby at_93) rfl ?_
      show oS p e below s₁ m 94 #[oi p0, oi p1, oi p0, oi (p0 ||| (32 : Int32)), oi v43, .unset, .unset, .unset] [(.long (p0.toInt64))] _
      refine X0.ldc2Long hx hown (mvT hZ (hw _ (List.mem_of_getElem? (i := 0) rfl))) (g := (mkF m 94 #[oi p0, oi p1, oi p0, oi (p0 ||| (32 : Int32)), oi v43, .unset, .unset, .unset] [(.long (p0.toInt64))])) rfl (hb hby at_94) _ ?_
      show oS p e below s₁ m 97 #[oi p0, oi p1, oi p0, oi (p0 ||| (32 : Int32)), oi v43, .unset, .unset, .unset] [(.long (48 : Int64)), (.long (p0.toInt64))] _
      refine XS.lsub X0.here hx rfl (hb hby at_97) rfl ?_
      show oS p e below s₁ m 98 #[oi p0, oi p1, oi p0, oi (p0 ||| (32 : Int32)), oi v43, .unset, .unset, .unset] [(.long ((p0.toInt64) - (48 : Int64)))] _
      refine XS.lstore X0.here hx rfl (hb hby at_98) rfl (l' := #[oi p0, oi p1, oi p0, oi (p0 ||| (32 : Int32)), oi v43, oj ((p0.toInt64) - (48 : Int64)), .second, .unset]) rfl ?_
      show oS p e below s₁ m 100 #[oi p0, oi p1, oi p0, oi (p0 ||| (32 : Int32)), oi v43, oj ((p0.toInt64) - (48 : Int64)), .second, .unset] [] _
      refine XS.lload X0.here hx rfl (hb hby at_100) rfl ?_
      show oS p e below s₁ m 102 #[oi p0, oi p1, oi p0, oi (p0 ||| (32 : Int32)), oi v43, oj ((p0.toInt64) - (48 : Int64)), .second, .unset] [(.long ((p0.toInt64) - (48 : Int64)))] _
      refine XS.lconst X0.here hx rfl (hb hby at_102) ?_
      show oS p e below s₁ m 103 #[oi p0, oi p1, oi p0, oi (p0 ||| (32 : Int32)), oi v43, oj ((p0.toInt64) - (48 : Int64)), .second, .unset] [(.long (0 : Int64)), (.long ((p0.toInt64) - (48 : Int64)))] _
      refine XS.lcmp X0.here hx rfl (hb hby at_103) rfl ?_
      exact k
    obtain ⟨v48, hv48⟩ : ∃ z : Int32, z = (if ((p0.toInt64) - (48 : Int64)) < (0 : Int64) then (0 : Int32) else (if (9 : Int64) < ((p0.toInt64) - (48 : Int64)) then (0 : Int32) else (1 : Int32))) := ⟨_, rfl⟩
    have pre49 : ∀ t, Steps p.tables e below (s₁.setTop (mkF m 121 #[oi p0, oi p1, oi p0, oi (p0 ||| (32 : Int32)), oi v43, oj ((p0.toInt64) - (48 : Int64)), .second, .unset] [(.int v48)])) t → Steps p.tables e below (s₁.setTop (entryFrame m #[(.int p0), (.int p1)] maxLocals)) t := by
      intro t k
      by_cases c46 : ((p0.toInt64) - (48 : Int64)) < (0 : Int64)
      · skip
        rw [show v48 = (0 : Int32) from hv48.trans (by rw [if_pos c46])] at k
        refine pre45 t ?_
        show oS p e below s₁ m 104 #[oi p0, oi p1, oi p0, oi (p0 ||| (32 : Int32)), oi v43, oj ((p0.toInt64) - (48 : Int64)), .second, .unset] [(.int (lcmpW ((p0.toInt64) - (48 : Int64)) (0 : Int64)))] _
        refine XS.ifYes X0.here hx rfl (pc0 := 104) (pc' := 120) rfl (hb hby at_104) rfl ((if0 _ _).trans (tlt ((lw_lt ((p0.toInt64) - (48 : Int64)) (0 : Int64)).mpr c46)).1) (by decide) (by decide) ?_
        show oS p e below s₁ m 120 #[oi p0, oi p1, oi p0, oi (p0 ||| (32 : Int32)), oi v43, oj ((p0.toInt64) - (48 : Int64)), .second, .unset] [] _
        refine XS.iconst X0.here hx rfl (hb hby at_120) ?_
        exact k
      · skip
        by_cases c47 : (9 : Int64) < ((p0.toInt64) - (48 : Int64))
        · skip
          rw [show v48 = (0 : Int32) from hv48.trans (by rw [if_neg c46, if_pos c47])] at k
          refine pre45 t ?_
          show oS p e below s₁ m 104 #[oi p0, oi p1, oi p0, oi (p0 ||| (32 : Int32)), oi v43, oj ((p0.toInt64) - (48 : Int64)), .second, .unset] [(.int (lcmpW ((p0.toInt64) - (48 : Int64)) (0 : Int64)))] _
          refine XS.ifNo X0.here hx rfl (hb hby at_104) rfl ((if0 _ _).trans (flt (fun q => c46 ((lw_lt ((p0.toInt64) - (48 : Int64)) (0 : Int64)).mp q))).1) ?_
          show oS p e below s₁ m 107 #[oi p0, oi p1, oi p0, oi (p0 ||| (32 : Int32)), oi v43, oj ((p0.toInt64) - (48 : Int64)), .second, .unset] [] _
          refine XS.lload X0.here hx rfl (hb hby at_107) rfl ?_
          show oS p e below s₁ m 109 #[oi p0, oi p1, oi p0, oi (p0 ||| (32 : Int32)), oi v43, oj ((p0.toInt64) - (48 : Int64)), .second, .unset] [(.long ((p0.toInt64) - (48 : Int64)))] _
          refine X0.ldc2Long hx hown (mvT hZ (hw _ (List.mem_of_getElem? (i := 5) rfl))) (g := (mkF m 109 #[oi p0, oi p1, oi p0, oi (p0 ||| (32 : Int32)), oi v43, oj ((p0.toInt64) - (48 : Int64)), .second, .unset] [(.long ((p0.toInt64) - (48 : Int64)))])) rfl (hb hby at_109) _ ?_
          show oS p e below s₁ m 112 #[oi p0, oi p1, oi p0, oi (p0 ||| (32 : Int32)), oi v43, oj ((p0.toInt64) - (48 : Int64)), .second, .unset] [(.long (9 : Int64)), (.long ((p0.toInt64) - (48 : Int64)))] _
          refine XS.lcmp X0.here hx rfl (hb hby at_112) rfl ?_
          show oS p e below s₁ m 113 #[oi p0, oi p1, oi p0, oi (p0 ||| (32 : Int32)), oi v43, oj ((p0.toInt64) - (48 : Int64)), .second, .unset] [(.int (lcmpW ((p0.toInt64) - (48 : Int64)) (9 : Int64)))] _
          refine XS.ifYes X0.here hx rfl (pc0 := 113) (pc' := 120) rfl (hb hby at_113) rfl ((if0 _ _).trans (tlt ((lw_gt ((p0.toInt64) - (48 : Int64)) (9 : Int64)).mpr c47)).2.2.1) (by decide) (by decide) ?_
          show oS p e below s₁ m 120 #[oi p0, oi p1, oi p0, oi (p0 ||| (32 : Int32)), oi v43, oj ((p0.toInt64) - (48 : Int64)), .second, .unset] [] _
          refine XS.iconst X0.here hx rfl (hb hby at_120) ?_
          exact k
        · skip
          rw [show v48 = (1 : Int32) from hv48.trans (by rw [if_neg c46, if_neg c47])] at k
          refine pre45 t ?_
          show oS p e below s₁ m 104 #[oi p0, oi p1, oi p0, oi (p0 ||| (32 : Int32)), oi v43, oj ((p0.toInt64) - (48 : Int64)), .second, .unset] [(.int (lcmpW ((p0.toInt64) - (48 : Int64)) (0 : Int64)))] _
          refine XS.ifNo X0.here hx rfl (hb hby at_104) rfl ((if0 _ _).trans (flt (fun q => c46 ((lw_lt ((p0.toInt64) - (48 : Int64)) (0 : Int64)).mp q))).1) ?_
          show oS p e below s₁ m 107 #[oi p0, oi p1, oi p0, oi (p0 ||| (32 : Int32)), oi v43, oj ((p0.toInt64) - (48 : Int64)), .second, .unset] [] _
          refine XS.lload X0.here hx rfl (hb hby at_107) rfl ?_
          show oS p e below s₁ m 109 #[oi p0, oi p1, oi p0, oi (p0 ||| (32 : Int32)), oi v43, oj ((p0.toInt64) - (48 : Int64)), .second, .unset] [(.long ((p0.toInt64) - (48 : Int64)))] _
          refine X0.ldc2Long hx hown (mvT hZ (hw _ (List.mem_of_getElem? (i := 5) rfl))) (g := (mkF m 109 #[oi p0, oi p1, oi p0, oi (p0 ||| (32 : Int32)), oi v43, oj ((p0.toInt64) - (48 : Int64)), .second, .unset] [(.long ((p0.toInt64) - (48 : Int64)))])) rfl (hb hby at_109) _ ?_
          show oS p e below s₁ m 112 #[oi p0, oi p1, oi p0, oi (p0 ||| (32 : Int32)), oi v43, oj ((p0.toInt64) - (48 : Int64)), .second, .unset] [(.long (9 : Int64)), (.long ((p0.toInt64) - (48 : Int64)))] _
          refine XS.lcmp X0.here hx rfl (hb hby at_112) rfl ?_
          show oS p e below s₁ m 113 #[oi p0, oi p1, oi p0, oi (p0 ||| (32 : Int32)), oi v43, oj ((p0.toInt64) - (48 : Int64)), .second, .unset] [(.int (lcmpW ((p0.toInt64) - (48 : Int64)) (9 : Int64)))] _
          refine XS.ifNo X0.here hx rfl (hb hby at_113) rfl ((if0 _ _).trans (flt (fun q => c47 ((lw_gt ((p0.toInt64) - (48 : Int64)) (9 : Int64)).mp q))).2.2.1) ?_
          show oS p e below s₁ m 116 #[oi p0, oi p1, oi p0, oi (p0 ||| (32 : Int32)), oi v43, oj ((p0.toInt64) - (48 : Int64)), .second, .unset] [] _
          refine XS.iconst X0.here hx rfl (hb hby at_116) ?_
          show oS p e below s₁ m 117 #[oi p0, oi p1, oi p0, oi (p0 ||| (32 : Int32)), oi v43, oj ((p0.toInt64) - (48 : Int64)), .second, .unset] [(.int (1 : Int32))] _
          refine XS.goto X0.here hx rfl (pc0 := 117) (pc' := 121) rfl (hb hby at_117) (by decide) (by decide) ?_
          exact k
    obtain ⟨_, _, ⟨T50, L50, k50, n50⟩, -, X50, ⟨Lc50, hQ50, l50, y50, z50⟩, st50⟩ := Jvm.LawKit.callS X0 hx (y := (⟨"com/example/godwit/godwit/link/Ascii", "isLetterOrDigit", "(I)Z"⟩ : MethodName)) hown (mvT hZ (hw _ (List.mem_of_getElem? (i := 1) rfl))) (mvT hZ (hw _ (List.mem_of_getElem? (i := 2) rfl))) (mvT hZ (hw _ (List.mem_of_getElem? (i := 3) rfl))) (mvT hZ (hw _ (List.mem_of_getElem? (i := 4) rfl))) (by decide) (backOf (W := 0) (own_rm1 l Z av hw [] p0 h0 n0 Z0 ) hZ (hw _ (List.mem_of_getElem? (i := 4) rfl)) (hw _ (List.mem_of_getElem? (i := 3) rfl)) (by decide) (by decide)) (g := (mkF m 124 #[oi p0, oi p1, oi p0, oi (p0 ||| (32 : Int32)), oi v43, oj ((p0.toInt64) - (48 : Int64)), .second, oi v48] [(.int p0)])) rfl (by rw [hml]; rfl) (argsL := [(.int p0)]) (rest := []) (lenOf own_pd0 rfl) rfl (by show 2 * 0 + _ ≤ _; exact Nat.le_of_eq rfl) (hb hby at_124) (fun _ _ => ⟨rfl, e0, (by decide : 0 + 0 ≤ _), (by decide : 0 + 0 ≤ _)⟩)
    dsimp only [Pt.U, Pt.locs, Pt.cells, Pt.slots] at X50 l50 y50 z50 st50 hQ50
    subst l50 y50 z50
    obtain ⟨rfl, Nq50, eq50⟩ := hQ50
    have N50 := Fr.app N0 Nq50
    have pre51 : ∀ t, Steps p.tables e below (T50.setTop (mkF m 129 #[oi p0, oi p1, oi p0, oi (p0 ||| (32 : Int32)), oi v43, oj ((p0.toInt64) - (48 : Int64)), .second, oi v48] [(.int v43), (.int (own_f1 p0))])) t → Steps p.tables e below (s₁.setTop (entryFrame m #[(.int p0), (.int p1)] maxLocals)) t := by
      intro t k
      refine pre49 t ?_
      show oS p e below s₁ m 121 #[oi p0, oi p1, oi p0, oi (p0 ||| (32 : Int32)), oi v43, oj ((p0.toInt64) - (48 : Int64)), .second, .unset] [(.int v48)] _
      refine XS.istore X0.here hx rfl (hb hby at_121) rfl (l' := #[oi p0, oi p1, oi p0, oi (p0 ||| (32 : Int32)), oi v43, oj ((p0.toInt64) - (48 : Int64)), .second, oi v48]) rfl ?_
      show oS p e below s₁ m 123 #[oi p0, oi p1, oi p0, oi (p0 ||| (32 : Int32)), oi v43, oj ((p0.toInt64) - (48 : Int64)), .second, oi v48] [] _
      refine XS.iloadN X0.here hx rfl (hb hby at_123) rfl ?_
      show oS p e below s₁ m 124 #[oi p0, oi p1, oi p0, oi (p0 ||| (32 : Int32)), oi v43, oj ((p0.toInt64) - (48 : Int64)), .second, oi v48] [(.int p0)] _
      refine st50 _ ?_
      show oS p e below T50 m 127 #[oi p0, oi p1, oi p0, oi (p0 ||| (32 : Int32)), oi v43, oj ((p0.toInt64) - (48 : Int64)), .second, oi v48] [(.int (own_f1 p0))] _
      refine XS.iload X50.here hx rfl (hb hby at_127) rfl ?_
      exact k
    obtain ⟨v54, hv54⟩ : ∃ z : Int32, z = (if v43 = (0 : Int32) then (if v48 = (0 : Int32) then (0 : Int32) else (1 : Int32)) else (1 : Int32)) := ⟨_, rfl⟩
    have pre55 : ∀ t, Steps p.tables e below (T50.setTop (mkF m 142 #[oi p0, oi p1, oi p0, oi (p0 ||| (32 : Int32)), oi v43, oj ((p0.toInt64) - (48 : Int64)), .second, oi v48] [(.int v54), (.int (own_f1 p0))])) t → Steps p.tables e below (s₁.setTop (entryFrame m #[(.int p0), (.int p1)] maxLocals)) t := by
      intro t k
      by_cases c52 : v43 = (0 : Int32)
      · skip
        by_cases c53 : v48 = (0 : Int32)
        · skip
          rw [show v54 = (0 : Int32) from hv54.trans (by rw [if_pos c52, if_pos c53])] at k
          refine pre51 t ?_
          show oS p e below T50 m 129 #[oi p0, oi p1, oi p0, oi (p0 ||| (32 : Int32)), oi v43, oj ((p0.toInt64) - (48 : Int64)), .second, oi v48] [(.int v43), (.int (own_f1 p0))] _
          refine XS.ifNo X50.here hx rfl (hb hby at_129) rfl ((if0 _ _).trans (teq c52).2) ?_
          show oS p e below T50 m 132 #[oi p0, oi p1, oi p0, oi (p0 ||| (32 : Int32)), oi v43, oj ((p0.toInt64) - (48 : Int64)), .second, oi v48] [(.int (own_f1 p0))] _
          refine XS.iload X50.here hx rfl (hb hby at_132) rfl ?_
          show oS p e below T50 m 134 #[oi p0, oi p1, oi p0, oi (p0 ||| (32 : Int32)), oi v43, oj ((p0.toInt64) - (48 : Int64)), .second, oi v48] [(.int v48), (.int (own_f1 p0))] _
          refine XS.ifYes X50.here hx rfl (pc0 := 134) (pc' := 141) rfl (hb hby at_134) rfl ((if0 _ _).trans (teq c53).1) (by decide) (by decide) ?_
          show oS p e below T50 m 141 #[oi p0, oi p1, oi p0, oi (p0 ||| (32 : Int32)), oi v43, oj ((p0.toInt64) - (48 : Int64)), .second, oi v48] [(.int (own_f1 p0))] _
          refine XS.iconst X50.here hx rfl (hb hby at_141) ?_
          exact k
        · skip
          rw [show v54 = (1 : Int32) from hv54.trans (by rw [if_pos c52, if_neg c53])] at k
          refine pre51 t ?_
          show oS p e below T50 m 129 #[oi p0, oi p1, oi p0, oi (p0 ||| (32 : Int32)), oi v43, oj ((p0.toInt64) - (48 : Int64)), .second, oi v48] [(.int v43), (.int (own_f1 p0))] _
          refine XS.ifNo X50.here hx rfl (hb hby at_129) rfl ((if0 _ _).trans (teq c52).2) ?_
          show oS p e below T50 m 132 #[oi p0, oi p1, oi p0, oi (p0 ||| (32 : Int32)), oi v43, oj ((p0.toInt64) - (48 : Int64)), .second, oi v48] [(.int (own_f1 p0))] _
          refine XS.iload X50.here hx rfl (hb hby at_132) rfl ?_
          show oS p e below T50 m 134 #[oi p0, oi p1, oi p0, oi (p0 ||| (32 : Int32)), oi v43, oj ((p0.toInt64) - (48 : Int64)), .second, oi v48] [(.int v48), (.int (own_f1 p0))] _
          refine XS.ifNo X50.here hx rfl (hb hby at_134) rfl ((if0 _ _).trans (feq c53).1) ?_
          show oS p e below T50 m 137 #[oi p0, oi p1, oi p0, oi (p0 ||| (32 : Int32)), oi v43, oj ((p0.toInt64) - (48 : Int64)), .second, oi v48] [(.int (own_f1 p0))] _
          refine XS.iconst X50.here hx rfl (hb hby at_137) ?_
          show oS p e below T50 m 138 #[oi p0, oi p1, oi p0, oi (p0 ||| (32 : Int32)), oi v43, oj ((p0.toInt64) - (48 : Int64)), .second, oi v48] [(.int (1 : Int32)), (.int (own_f1 p0))] _
          refine XS.goto X50.here hx rfl (pc0 := 138) (pc' := 142) rfl (hb hby at_138) (by decide) (by decide) ?_
          exact k
      · skip
        rw [show v54 = (1 : Int32) from hv54.trans (by rw [if_neg c52])] at k
        refine pre51 t ?_
        show oS p e below T50 m 129 #[oi p0, oi p1, oi p0, oi (p0 ||| (32 : Int32)), oi v43, oj ((p0.toInt64) - (48 : Int64)), .second, oi v48] [(.int v43), (.int (own_f1 p0))] _
        refine XS.ifYes X50.here hx rfl (pc0 := 129) (pc' := 137) rfl (hb hby at_129) rfl ((if0 _ _).trans (feq c52).2) (by decide) (by decide) ?_
        show oS p e below T50 m 137 #[oi p0, oi p1, oi p0, oi (p0 ||| (32 : Int32)), oi v43, oj ((p0.toInt64) - (48 : Int64)), .second, oi v48] [(.int (own_f1 p0))] _
        refine XS.iconst X50.here hx rfl (hb hby at_137) ?_
        show oS p e below T50 m 138 #[oi p0, oi p1, oi p0, oi (p0 ||| (32 : Int32)), oi v43, oj ((p0.toInt64) - (48 : Int64)), .second, oi v48] [(.int (1 : Int32)), (.int (own_f1 p0))] _
        refine XS.goto X50.here hx rfl (pc0 := 138) (pc' := 142) rfl (hb hby at_138) (by decide) (by decide) ?_
        exact k
    have b56 : (own_f1 p0) = v54 := by rw [hv54, hv43, hv48]; exact own_eq _
    obtain ⟨fs, hr, hrun, hended, hW, hsame⟩ := X50.leave (v := (some (.int (1 : Int32)))) (fun h => by rw [Bd.returns] at h; cases h)
    refine ⟨_, _, pre55 _ ?_, hrun, hended, _, _, rfl, ?_, ⟨_, rfl⟩, hW, hsame.mono (by decide) (by decide)⟩
    · show oS p e below T50 m 142 #[oi p0, oi p1, oi p0, oi (p0 ||| (32 : Int32)), oi v43, oj ((p0.toInt64) - (48 : Int64)), .second, oi v48] [(.int v54), (.int (own_f1 p0))] _
      refine XS.icmpNo X50.here hx rfl (hb hby at_142) rfl (teq b56).2 ?_
      show oS p e below T50 m 145 #[oi p0, oi p1, oi p0, oi (p0 ||| (32 : Int32)), oi v43, oj ((p0.toInt64) - (48 : Int64)), .second, oi v48] [] _
      refine XS.iconst X50.here hx rfl (hb hby at_145) ?_
      show oS p e below T50 m 146 #[oi p0, oi p1, oi p0, oi (p0 ||| (32 : Int32)), oi v43, oj ((p0.toInt64) - (48 : Int64)), .second, oi v48] [(.int (1 : Int32))] _
      refine XS.goto X50.here hx rfl (pc0 := 146) (pc' := 150) rfl (hb hby at_146) (by decide) (by decide) ?_
      show oS p e below T50 m 150 #[oi p0, oi p1, oi p0, oi (p0 ||| (32 : Int32)), oi v43, oj ((p0.toInt64) - (48 : Int64)), .second, oi v48] [(.int (1 : Int32))] _
      exact retN X50 hx (t := .boolean) Bd.returns (by simp) (hb hby at_150) hr
    · show own_Q0 Z p0 p1 h0 n0 _ T50.heap _
      rw [eq50]
      exact ⟨rfl, N50⟩
set_option maxRecDepth 65536 in
set_option maxHeartbeats 40000000 in
theorem own_comes {Post : Tables → Env → Array Value → State → Outcome → State → Prop} (hpost : ∀ tb e args s v u, (limb_1_1.after args s (.returned v) u = true ∧ limb_1_2.after args s (.returned v) u = true ∧ True) → FrameEnd s (.returned v) u (Jvm.fieldLocs frame_1_writes args s ++ Jvm.arrayLocs frame_1_arrays args s ++ Jvm.staticLocs frame_1_statics s) 16 128 → Post tb e args s (.returned v) u) :
    ArmFor flags0 classFile x code maxLocals ret World_1 tables_1 room_1 Calls_1 rest_1 Pre_1 Post := by
  intro l hfl _ _ p e ha hc hk s m args below hf hA hF happ hP
  obtain ⟨hcalls, hrest, hpre⟩ := hP
  obtain ⟨-, -, -, hnamed, -, -, -, hat⟩ := (Spec.applies_iff hf).mp happ
  obtain ⟨hg, hn⟩ := and_e (Cond.before_iff.mp (show (Jvm.Cond.and given_1 narrow_1).before args s = true from hpre))
  obtain ⟨gv1, gv2⟩ := and_e hg
  obtain ⟨gv3, gv4⟩ := and_e gv2
  obtain ⟨w0, w1, rfl⟩ : ∃ w0 w1 : Value, args = #[w0, w1] := by
    have hs : args.size = 2 := by simpa [Cond.value, given_1] using gv1
    obtain ⟨L⟩ := args
    match L, hs with
    | [w0, w1], _ => exact ⟨w0, w1, rfl⟩
  have hw := fun d (hd : d ∈ tables_1) => atoms_spec (ws := Jvm.Cond.code x code maxLocals ret :: tables_1) hat d (List.mem_cons_of_mem _ hd)
  have hfit : Fit s := fun {y c} hc i hi => by
    obtain ⟨ha, rfl⟩ := Array.getElem?_eq_some_iff.mp hc
    have q := List.all_eq_true.mp ((Array.all_eq_true_iff_forall_mem.mp hF) _ (Array.getElem_mem ha)) i (List.mem_range.mpr hi)
    simpa [Array.getElem?_eq_getElem hi] using q
  obtain ⟨i0, ei0⟩ := is_v gv3
  obtain rfl : w0 = (.int i0) := Option.some.inj ei0
  obtain ⟨i1, ei1⟩ := is_v gv4
  obtain rfl : w1 = (.int i1) := Option.some.inj ei1
  obtain ⟨n, o, h1, h2, h3, _, L, rfl, ⟨rfl, N⟩, hq⟩ := own_rm0 l s _ hw tables_1 i0 i1  s.heap s.heap.size (Nat.le_refl _)  p e ha hc hk s m _ below hf ((Spec.applies_iff_loose hf).mp happ).1 ⟨rfl, State.Warmed39.refl s, rfl⟩ trivial
  refine ⟨n, _, h1, h2, h3, hpost _ _ _ _ _ _ ⟨Cond.after_iff.mpr rfl, Cond.after_iff.mpr (eq_i res_at (Term.int_eval (1)) rfl), trivial⟩ ⟨hq.1, hq.2.1, (hq.2.2.sift fun y hy => Or.inr (N y hy)).mono (by decide) (by decide)⟩⟩
theorem main_1_1 : Claimed_1_1 := own_comes fun _ _ _ _ _ _ h hF => ⟨h.1, hF⟩
theorem main_1_2 : Claimed_1_2 := own_comes fun _ _ _ _ _ _ h hF => ⟨h.2.1, hF⟩
end Jvm.Pilot.@@N@@
namespace Jvm.Pilot.@@N@@
open Jvm Jvm.ClassFile Sem Op Lib Jvm.Free Jvm.Stand Jvm.Pilot.@@N@@.Jvm.D
/-! MADE BY PROGRAM (witnessworld.py) out of the Statement's table words and the real class files: 9 classes; the members and pool entries that the words name. The judged class is class 1, her method 1. -/
namespace start1
open Jvm.ClassFile
def u (s : String) : CpInfo := .utf8 (stringToUtf16 s)
/-- a pool by its gaps: so many unusable entries, then the entry; so many at the end -/
def gap : Nat → List CpInfo → List CpInfo
  | 0, r => r
  | n + 1, r => .unusable :: gap n r
def poolList (es : List (Nat × CpInfo)) (last : Nat) : List CpInfo := es.foldr (fun e r => gap e.1 (e.2 :: r)) (gap last [])
def pool (es : List (Nat × CpInfo)) (last : Nat) : Array CpInfo := ⟨poolList es last⟩
def fileOf (pool : Array CpInfo) (this : Nat) (attrs : Array Attribute := #[]) (ms : Array MethodInfo := #[]) (fl : Nat := 33) (sup : Nat := 0) (ifs : Array Nat := #[]) (fds : Array FieldInfo := #[]) : ClassFile where
  minorVersion := 0
  majorVersion := 65
  constantPool := pool
  accessFlags := fl
  thisClass := this
  superClass := sup
  interfaces := ifs
  fields := fds
  methods := ms
  attributes := attrs
def plain (name : String) (sup : Option ClassId) : Class where
  name := name
  kind := .ordinary
  loader := none
  accessFlags := 33
  super := sup
  interfaces := #[]
  cf := none
  fields := #[]
  methods := #[]
  instanceTypes := #[]
  staticTypes := #[]
  resolved := #[]
  callSites := []
  init := .initialized
  statics := none
  mirror := none

def pool0 : Array CpInfo := pool [(5, u "<init>"), (0, u "()V"), (1, .class_ 10), (1, u "java/lang/Object")] 113

def k0m0 : Method := { name := "<init>", desc := "()V", sig := { parameters := [], returnType := none }, accessFlags := 1, code := none }
/-- java/lang/Object -/
def k0 : Class := { plain "java/lang/Object" none with
  accessFlags := 33
  interfaces := #[]
  cf := some (fileOf pool0 8 #[] #[{ accessFlags := 1, nameIndex := 5, descriptorIndex := 6, attributes := #[] }] 33 0 #[] #[])
  fields := #[]
  methods := #[k0m0]
  instanceTypes := #[]
  staticTypes := #[]
  resolved := Array.replicate 124 none
  statics := none }

def pool1 : Array CpInfo := pool [(2, .class_ 4), (1, u "java/lang/Object"), (0, u "<init>"), (0, u "()V"), (0, .long 48), (1, .long 9), (1, .methodref 12 13), (0, .class_ 14), (0, .nameAndType 15 16), (0, u "com/example/godwit/godwit/link/Ascii"), (0, u "isLetterOrDigit"), (0, u "(I)Z"), (0, .class_ 18), (0, u "com/example/godwit/godwit/link/AsciiIsLetterOrDigitPinLaw"), (2, u "law"), (0, u "(II)Z")] 3

def k1m0 : Method := { name := "<init>", desc := "()V", sig := { parameters := [], returnType := none }, accessFlags := 2, code := none }
def k1c1 : Code := { maxStack := 4, maxLocals := 8, code := code, exceptionTable := #[], attributes := #[] }
def k1m1 : Method := { name := "law", desc := "(II)Z", sig := { parameters := [.int, .int], returnType := some .boolean }, accessFlags := 9, code := some k1c1 }
/-- com/example/godwit/godwit/link/AsciiIsLetterOrDigitPinLaw -/
def k1 : Class := { plain "com/example/godwit/godwit/link/AsciiIsLetterOrDigitPinLaw" (some 0) with
  accessFlags := 49
  interfaces := #[]
  cf := some (fileOf pool1 17 #[] #[{ accessFlags := 2, nameIndex := 5, descriptorIndex := 6, attributes := #[] }, { accessFlags := 9, nameIndex := 21, descriptorIndex := 22, attributes := #[] }] 49 2 #[] #[])
  fields := #[]
  methods := #[k1m0, k1m1]
  instanceTypes := #[]
  staticTypes := #[]
  resolved := Array.replicate 26 none
  statics := none }

def pool2 : Array CpInfo := pool [(2, .class_ 4), (1, u "java/lang/Object"), (0, u "<init>"), (0, u "()V"), (25, .class_ 33), (0, u "com/example/godwit/godwit/link/Ascii"), (2, u "isLetterOrDigit"), (0, u "(I)Z")] 13

def k2m0 : Method := { name := "<init>", desc := "()V", sig := { parameters := [], returnType := none }, accessFlags := 2, code := none }
def k2c1 : Code := { maxStack := 2, maxLocals := 1, code := prog_7_method_2_code, exceptionTable := #[], attributes := #[] }
def k2m1 : Method := { name := "isLetterOrDigit", desc := "(I)Z", sig := { parameters := [.int], returnType := some .boolean }, accessFlags := 8, code := some k2c1 }
/-- com/example/godwit/godwit/link/Ascii -/
def k2 : Class := { plain "com/example/godwit/godwit/link/Ascii" (some 0) with
  accessFlags := 48
  interfaces := #[]
  cf := some (fileOf pool2 32 #[] #[{ accessFlags := 2, nameIndex := 5, descriptorIndex := 6, attributes := #[] }, { accessFlags := 8, nameIndex := 36, descriptorIndex := 37, attributes := #[] }] 48 2 #[] #[])
  fields := #[]
  methods := #[k2m0, k2m1]
  instanceTypes := #[]
  staticTypes := #[]
  resolved := Array.replicate 51 none
  statics := none }

def pool3 : Array CpInfo := pool [(1, u "java/lang/Cloneable"), (0, .class_ 1), (0, u "java/lang/Object"), (0, .class_ 3)] 3

/-- java/lang/Cloneable -/
def k3 : Class := { plain "java/lang/Cloneable" (some 0) with
  accessFlags := 1537
  interfaces := #[]
  cf := some (fileOf pool3 2 #[] #[] 1537 4 #[] #[])
  fields := #[]
  methods := #[]
  instanceTypes := #[]
  staticTypes := #[]
  resolved := Array.replicate 8 none
  statics := none }

def pool4 : Array CpInfo := pool [(1, u "java/io/Serializable"), (0, .class_ 1), (0, u "java/lang/Object"), (0, .class_ 3)] 3

/-- java/io/Serializable -/
def k4 : Class := { plain "java/io/Serializable" (some 0) with
  accessFlags := 1537
  interfaces := #[]
  cf := some (fileOf pool4 2 #[] #[] 1537 4 #[] #[])
  fields := #[]
  methods := #[]
  instanceTypes := #[]
  staticTypes := #[]
  resolved := Array.replicate 8 none
  statics := none }

/-- the primitive byte -/
def k5 : Class := { plain "byte" none with kind := .primitive 'B', accessFlags := 0x411 }
/-- [B -/
def k6 : Class := { plain "[B" (some 0) with kind := .array 5 .byte, interfaces := #[3, 4], accessFlags := 1041 }

/-- the primitive int -/
def k7 : Class := { plain "int" none with kind := .primitive 'I', accessFlags := 0x411 }
/-- [I -/
def k8 : Class := { plain "[I" (some 0) with kind := .array 7 .int, interfaces := #[3, 4], accessFlags := 1041 }

def heap : Heap := #[]
def classes : Array Class := #[k0, k1, k2, k3, k4, k5, k6, k7, k8]
def interned : List (Array UInt16 × Addr) := []
def slotsUsed : Nat := 0
def theMethod : MethodId := ⟨1, 1⟩
def args0 : Array Value := #[.int 65, .int 1]
def aboutOver (below : List Frame) : State where
  vm := { classes := classes, interned := interned.toArray }
  heap := heap
  slotsUsed := slotsUsed
  threads := #[{ frames := .invoking theMethod args0 :: below }]
def below0 : List Frame := [.native { method := ⟨0, 0⟩, args := #[] }]
def about1 : State := aboutOver below0
def p0 : Program := .bare "" "" ""
def e0 : Env := launch0.env 0 0 0
theorem w_frames : about1.frames = Frame.invoking theMethod args0 :: below0 := rfl
set_option maxRecDepth 65536 in
theorem w_args : argsFit about1.vm theMethod args0 = true := by decide +kernel
set_option maxRecDepth 65536 in
theorem w_heap : heapFits about1 = true := by decide +kernel
set_option maxRecDepth 65536 in
theorem w_runnable : about1.curStatus? = some .runnable := by decide +kernel
set_option maxRecDepth 65536 in
theorem w_alone : about1.alone = true := by decide +kernel
set_option maxRecDepth 65536 in
theorem w_named : about1.methodNamed? x = some theMethod := by decide +kernel
set_option maxRecDepth 65536 in
theorem w_hears : about1.hears theMethod below0 = true := by decide +kernel
set_option maxRecDepth 65536 in
theorem w_ripe : about1.ripe theMethod args0 below0 = true := by decide +kernel
theorem w_running : about1.status = .running := rfl
set_option maxRecDepth 65536 in
theorem w_room : about1.hasRoom e0.platform room_1 = true :=
  launch0.hasRoom_least _ room_1 (by decide +kernel) (by decide +kernel) (by decide +kernel) (by decide +kernel) (by decide +kernel) (by decide +kernel)
theorem allAtoms_all (ts : List Jvm.Cond) (a : Array Jvm.Value) (st : Jvm.State) : (allAtoms ts).before a st = ts.all (fun c => c.before a st) := by
  induction ts with
  | nil => rfl
  | cons c t ih =>
    show (Jvm.Cond.and c (allAtoms t)).before a st = _
    rw [Jvm.Cond.before_and, ih, List.all_cons]
def words1 : List Jvm.Cond := Jvm.Cond.code x code maxLocals ret :: tables_1
/-- a 'code' word, met by the world's own term for the bytes: nothing is compared byte by byte -/
theorem code_word {y : MethodName} {bytes : ByteArray} {mx : Nat} {rt : Option FieldType} {a : Array Value} {s : State} {m : MethodId} {meth : Method} {c : Code} (h1 : s.methodNamed? y = some m) (h2 : s.vm.method? m = some meth) (h3 : meth.code = some c) (h4 : c.code = bytes)
    (h5 : (c.maxLocals == mx && c.exceptionTable.isEmpty && decide (c.maxStack ≤ mostOperands) && decide (meth.sig.returnType = rt) && !meth.locks && decide (parseMethodDescriptor y.desc = some meth.sig)) = true) : (Jvm.Cond.code y bytes mx rt).before a s = true := by
  simp only [Bool.and_eq_true, beq_iff_eq, Bool.not_eq_true', decide_eq_true_eq] at h5
  obtain ⟨⟨⟨⟨⟨g1, g2⟩, g3⟩, g4⟩, g5⟩, g6⟩ := h5
  simp [Cond.before, Cond.holds, Cond.value, h1, h2, h3, h4, g1, g2, g3, g4, g5, g6]
def isCode : Jvm.Cond → Bool
  | .code _ _ _ _ => true
  | _ => false
theorem all_split {L : List Jvm.Cond} {P : Jvm.Cond → Bool} (h1 : L.all (fun c => isCode c || P c) = true) (h2 : ∀ c ∈ L.filter isCode, P c = true) : L.all P = true := by
  refine List.all_eq_true.mpr fun c hc => ?_
  have h := List.all_eq_true.mp h1 c hc
  rcases Bool.eq_false_or_eq_true (isCode c) with hi | hi
  · exact h2 c (List.mem_filter.mpr ⟨hc, hi⟩)
  · simpa [hi] using h
set_option maxRecDepth 65536 in
theorem w_c0 : (Jvm.Cond.code x code maxLocals ret).before args0 about1 = true := code_word (m := ⟨1, 1⟩) (meth := k1m1) (c := k1c1) (by decide +kernel) rfl rfl rfl (by decide +kernel)
set_option maxRecDepth 65536 in
theorem w_c1 : (Jvm.Cond.code ({ cls := "com/example/godwit/godwit/link/Ascii", name := "isLetterOrDigit", desc := "(I)Z" } : Jvm.MethodName) prog_7_method_2_code (1 : Nat) (Option.some Jvm.ClassFile.FieldType.boolean)).before args0 about1 = true := code_word (m := ⟨2, 1⟩) (meth := k2m1) (c := k2c1) (by decide +kernel) rfl rfl rfl (by decide +kernel)
def codes1 : List Jvm.Cond := [Jvm.Cond.code x code maxLocals ret, Jvm.Cond.code ({ cls := "com/example/godwit/godwit/link/Ascii", name := "isLetterOrDigit", desc := "(I)Z" } : Jvm.MethodName) prog_7_method_2_code (1 : Nat) (Option.some Jvm.ClassFile.FieldType.boolean)]
set_option maxRecDepth 65536 in
theorem codes_eq : words1.filter isCode = codes1 := rfl
theorem w_codes : ∀ c ∈ words1.filter isCode, c.before args0 about1 = true := by
  rw [codes_eq]
  intro c hc
  simp only [codes1, List.mem_cons, List.not_mem_nil, or_false] at hc
  rcases hc with rfl | rfl
  · exact w_c0
  · exact w_c1
set_option maxRecDepth 65536 in
theorem w_t1 : words1.all (fun c => isCode c || c.before args0 about1) = true := by decide +kernel
theorem w_tables : (allAtoms (Jvm.Cond.code x code maxLocals ret :: tables_1)).before args0 about1 = true := by
  rw [allAtoms_all]
  show words1.all (fun c => c.before args0 about1) = true
  refine all_split ?_ w_codes
  rw [w_t1]
set_option maxRecDepth 65536 in
theorem w_case : (Jvm.Cond.and given_1 narrow_1).before args0 about1 = true := by decide +kernel
theorem w_applies : (headSpec (Jvm.Cond.code x code maxLocals ret :: tables_1) room_1).applies x e0.platform about1 = true :=
  (Spec.applies_iff w_frames).mpr ⟨w_running, w_runnable, w_alone, w_named, w_hears, w_ripe, w_room, w_tables⟩
theorem atStart : AtStart classFile x code maxLocals ret World_1 tables_1 room_1 Calls_1 rest_1 Pre_1 launch0 p0 e0 about1 theMethod args0 below0 :=
  ⟨lists_1, trivial, launch0.admits_env _ _ _, launch0.least_env, fairChoices_fair.cas, fairChoices_fair.clock, w_frames, w_args, w_heap, w_applies, trivial, trivial, w_case⟩
end start1
theorem witness_1 : WitnessClaimed_1 := ⟨start1.p0, start1.e0, start1.about1, start1.theMethod, start1.args0, start1.below0, start1.atStart⟩
end Jvm.Pilot.@@N@@
