import JvmDerived
import JvmDerived.Pilot.@@N@@Statement
import JvmDerived.Pilot.@@N@@Code
set_option linter.unusedVariables false
set_option linter.unusedSimpArgs false
namespace Jvm.Pilot.@@N@@
open Jvm Jvm.ClassFile Sem Op Lib Jvm.Free Jvm.Stand Jvm.LawKit Jvm.RoadKit Bundle Jvm.Pilot.@@N@@.Jvm.D

section Own
variable {p : Program} {l : Launch} {e : Env} {R : Room} {s : State} {m : MethodId} {args : Array Value} {below : List Frame} {meth : Method} {c : Code} {T : State} {locs : List Loc} {cells slots : Nat} {Qo : Option Value → Heap → List Loc → Prop} {C N : Nat}
/-- the run goes on from U to a return that answers Qo -/
def own_Done (p : Program) (e : Env) (below : List Frame) (s : State) (Qo : Option Value → Heap → List Loc → Prop) (C N : Nat) (U : State) : Prop :=
  ∃ s₂ o, Steps p.tables e below U s₂ ∧ s₂.status = .running ∧ Ended s₂ below o ∧ (∃ v L, o = .returned v ∧ Qo v s₂.heap L ∧ FrameEnd s o s₂ L C N)
theorem own_go {U U' : State} (h : ∀ t, Steps p.tables e below U' t → Steps p.tables e below U t) (d : own_Done p e below s Qo C N U') : own_Done p e below s Qo C N U := by
  obtain ⟨s₂, o, h1, h2⟩ := d
  exact ⟨s₂, o, h _ h1, h2⟩
theorem own_join {U U' : State} (h : own_Done p e below s Qo C N U' → own_Done p e below s Qo C N U) (d : own_Done p e below s Qo C N U') : own_Done p e below s Qo C N U := h d
theorem own_sta_keep {Z : State} {h h' : Heap} {C n d : String} {v : Value} (F : Sta Z h C n d v) (K : Keep h h' []) : Sta Z h' C n d v := by
  obtain ⟨cf, i, k, f, st, cell, h1, h2, h3, h4, h5, r⟩ := F
  exact ⟨cf, i, k, f, st, cell, h1, h2, h3, h4, K.2.1 st cell h5 (fun q => nomatch q), r⟩
theorem own_at {c : Cell} {z j : Int32} {vs : List Value} {d v : Value} {i : Nat} (S : c.slots.size = z.toNatClampNeg) (H : Has c vs d) (q : ¬ j < 0 ∧ j < z) (hj : j.toNatClampNeg = i) (hv : vs.getD i d = v) : c.slots[j.toNatClampNeg]? = some v := by
  have h := inb_of S q
  rw [H _ (Nat.lt_of_not_le fun k => h (Or.inr k)), hj, hv]
/-- an array of ints, bytes, chars .. by what its places hold -/
def own_Arf (Z : State) (h : Heap) (a : Addr) (k : ClassId) (ty : FieldType) (n : Int32) (f : Int32 → Int32) : Prop :=
  ∃ c : Cell, Arr Z h a c ty ∧ c.cls = k ∧ c.slots.size = n.toNatClampNeg ∧ ¬ n < 0 ∧ ∀ j : Int32, ¬ j < 0 → j < n → c.slots[j.toNatClampNeg]? = some (.int (f j))
section Arf
variable {Z : State} {h h' : Heap} {a b : Addr} {k : ClassId} {ty : FieldType} {n : Int32} {f : Int32 → Int32}
theorem own_Arf.lt (F : own_Arf Z h a k ty n f) : a < h.size := by obtain ⟨c, A, -⟩ := F; exact A.lt
theorem own_Arf.ext (F : own_Arf Z h a k ty n f) (E : Ext h h') : own_Arf Z h' a k ty n f := by obtain ⟨c, A, r⟩ := F; exact ⟨c, A.ext E, r⟩
theorem own_Arf.other {sl : Nat} {v : Value} (F : own_Arf Z h b k ty n f) (W : Wr h h' a sl v) (q : b ≠ a) : own_Arf Z h' b k ty n f := by obtain ⟨c, A, r⟩ := F; exact ⟨c, A.other W q, r⟩
theorem own_Arf.keep {ws : List Addr} (F : own_Arf Z h a k ty n f) (K : Keep h h' ws) (q : a ∉ ws) : own_Arf Z h' a k ty n f := by obtain ⟨c, A, r⟩ := F; exact ⟨c, ⟨K.2.1 a c A.1 q, A.2⟩, r⟩
theorem own_Arf.new (A : Arr Z h a (newA k ty n) ty) (q : ¬ n < 0) (hd : defaultValue ty = .int 0) : own_Arf Z h a k ty n (fun _ => (0 : Int32)) :=
  ⟨_, A, rfl, sz_new _ _ _, q, fun j h1 h2 => by
    have h3 := inb_of (sz_new k ty n) (z := n) (j := j) ⟨h1, h2⟩
    rw [sz_new] at h3
    rw [get_new h3, hd]⟩
theorem own_Arf.set {c : Cell} {j v : Int32} (A : Arr Z h a c ty) (q1 : c.cls = k) (S : c.slots.size = n.toNatClampNeg) (q3 : ¬ n < 0) (H : ∀ j : Int32, ¬ j < 0 → j < n → c.slots[j.toNatClampNeg]? = some (.int (f j))) (hj : ¬ j < 0 ∧ j < n) (W : Wr h h' a j.toNatClampNeg (.int v)) :
    own_Arf Z h' a k ty n (fun i => if i = j then v else f i) :=
  ⟨c.setSlot j.toNatClampNeg (.int v), A.same W, q1, by rw [sz_set]; exact S, q3, fun i h1 h2 => by
    by_cases e : i = j
    · rw [get_hit (inb_of S hj) e]; simp only [if_pos e]
    · rw [get_miss hj.1 h1 e, H i h1 h2]; simp only [if_neg e]⟩
end Arf
theorem own_ret (X : Stand p l e R s m args below meth c T locs cells slots) {v : Option Value} {g : JFrame} (hlk : meth.locks = false) (hv : meth.sig.returnType = none → v = none) (hC : cells ≤ C) (hN : slots ≤ N)
    (st : ∀ fs, (∀ (f : JFrame) (acts : List Action), f.method = m → f.locked = none → f.entered = [] → (doReturn e (T.setTop f) acts v).1 = T.setFrames fs) → Steps p.tables e below (T.setTop g) (T.setFrames fs)) (hQ : Qo v T.heap locs) : own_Done p e below s Qo C N (T.setTop g) := by
  obtain ⟨fs, hr, hrun, hended, hW, hsame⟩ := X.leave (v := v) hv hlk
  exact ⟨_, _, st fs hr, hrun, hended, _, _, rfl, hQ, ⟨_, rfl⟩, hW, hsame.mono hC hN⟩
theorem own_retI (X : Stand p l e R s m args below meth c T locs cells slots) (hx : p.tables.exec = Jvm.exec) {pc : Nat} {Ls : Array Slot} {z : Int32} {rest : List Value} (hret : meth.sig.returnType = some .int) (hd : decode c.code pc = .ok (.ireturn, 1)) {fs : List Frame}
    (hl : ∀ (f : JFrame) (acts : List Action), f.method = m → f.locked = none → f.entered = [] → (doReturn e (T.setTop f) acts (some (.int z))).1 = T.setFrames fs) : Steps p.tables e below (T.setTop (mkF m pc Ls (.int z :: rest))) (T.setFrames fs) := by
  exact retOut X hx hret rfl (Or.inl ⟨rfl, Or.inl rfl, z, rfl⟩) hd hl
theorem own_retJ (X : Stand p l e R s m args below meth c T locs cells slots) (hx : p.tables.exec = Jvm.exec) {pc : Nat} {Ls : Array Slot} {z : Int64} {rest : List Value} (hret : meth.sig.returnType = some .long) (hd : decode c.code pc = .ok (.lreturn, 1)) {fs : List Frame}
    (hl : ∀ (f : JFrame) (acts : List Action), f.method = m → f.locked = none → f.entered = [] → (doReturn e (T.setTop f) acts (some (.long z))).1 = T.setFrames fs) : Steps p.tables e below (T.setTop (mkF m pc Ls (.long z :: rest))) (T.setFrames fs) := by
  exact retOut X hx hret rfl (Or.inr (Or.inl ⟨rfl, rfl, z, rfl⟩)) hd hl
theorem own_retR (X : Stand p l e R s m args below meth c T locs cells slots) (hx : p.tables.exec = Jvm.exec) {pc : Nat} {Ls : Array Slot} {w : Value} {t : FieldType} {rest : List Value} (hret : meth.sig.returnType = some t) (ht : t.isReference = true) (hw : w.isRef = true) (hn : narrow t w = w) (hd : decode c.code pc = .ok (.areturn, 1)) {fs : List Frame}
    (hl : ∀ (f : JFrame) (acts : List Action), f.method = m → f.locked = none → f.entered = [] → (doReturn e (T.setTop f) acts (some w)).1 = T.setFrames fs) : Steps p.tables e below (T.setTop (mkF m pc Ls (w :: rest))) (T.setFrames fs) := by
  exact retOut X hx hret hn (Or.inr (Or.inr (Or.inr (Or.inr ⟨rfl, ht, hw⟩)))) hd hl
/-- the same where Strings may be interned meanwhile -/
def own_DoneW (p : Program) (e : Env) (below : List Frame) (s : State) (Z : State) (EL : List (String × Nat)) (Qo : Option Value → Heap → List Loc → Prop) (C N : Nat) (U : State) : Prop :=
  ∃ s₂ o, Steps p.tables e below U s₂ ∧ s₂.status = .running ∧ Ended s₂ below o ∧ (∃ v L, o = .returned v ∧ Qo v s₂.heap L ∧ CHr Z EL s.vm s.heap s₂.vm s₂.heap ∧ ReturnedEndW s o s₂ L C N)
theorem own_goW {Z : State} {EL : List (String × Nat)} {U U' : State} (h : ∀ t, Steps p.tables e below U' t → Steps p.tables e below U t) (d : own_DoneW p e below s Z EL Qo C N U') : own_DoneW p e below s Z EL Qo C N U := by
  obtain ⟨s₂, o, h1, h2⟩ := d
  exact ⟨s₂, o, h _ h1, h2⟩
theorem own_joinW {Z : State} {EL : List (String × Nat)} {U U' : State} (h : own_DoneW p e below s Z EL Qo C N U' → own_DoneW p e below s Z EL Qo C N U) (d : own_DoneW p e below s Z EL Qo C N U') : own_DoneW p e below s Z EL Qo C N U := h d
theorem own_retW {Z : State} {EL : List (String × Nat)} {vm₁ : Vm} (X : Stand p l e R (s.setVm vm₁) m args below meth c T locs cells slots) {n : Nat} (hS : s.Since vm₁ n) (hn : n ≤ T.heap.size) (hC : CHr Z EL s.vm s.heap T.vm T.heap) {v : Option Value} {g : JFrame} (hlk : meth.locks = false) (hv : meth.sig.returnType = none → v = none) (hCc : cells ≤ C) (hN : slots ≤ N)
    (st : ∀ fs, (∀ (f : JFrame) (acts : List Action), f.method = m → f.locked = none → f.entered = [] → (doReturn e (T.setTop f) acts v).1 = T.setFrames fs) → Steps p.tables e below (T.setTop g) (T.setFrames fs)) (hQ : Qo v T.heap locs) : own_DoneW p e below s Z EL Qo C N (T.setTop g) := by
  obtain ⟨fs, hr, hrun, hended, hE⟩ := X.leaveW hS hn (v := v) hv hlk
  exact ⟨_, _, st fs hr, hrun, hended, _, _, rfl, hQ, hC, hE.1, hE.2.1, hE.2.2.1, hE.2.2.2.mono hCc hN⟩
end Own

theorem d3_0 : decode prog_2_method_1_code 0 = .ok (.aload_n 0, 1) := by decide +kernel
theorem d3_1 : decode prog_2_method_1_code 1 = .ok (.invokespecial 1, 3) := by decide +kernel
theorem d3_4 : decode prog_2_method_1_code 4 = .ok (.aload_n 0, 1) := by decide +kernel
theorem d3_5 : decode prog_2_method_1_code 5 = .ok (.sipush 256, 3) := by decide +kernel
theorem d3_8 : decode prog_2_method_1_code 8 = .ok (.newarray .byte, 2) := by decide +kernel
theorem d3_10 : decode prog_2_method_1_code 10 = .ok (.putfield 7, 3) := by decide +kernel
theorem d3_13 : decode prog_2_method_1_code 13 = .ok (.aload_n 0, 1) := by decide +kernel
theorem d3_14 : decode prog_2_method_1_code 14 = .ok (.iload_n 1, 1) := by decide +kernel
theorem d3_15 : decode prog_2_method_1_code 15 = .ok (.putfield 13, 3) := by decide +kernel
theorem d3_18 : decode prog_2_method_1_code 18 = .ok (.return_, 1) := by decide +kernel
theorem own_pn0 : plainName "com/example/grantsmith/grantsmith/HeaderFields" = true := by first | (simp [plainName, overriddenIn]; done) | decide +kernel
theorem own_ef3 (m : MethodId) (x0 : Addr) (x1 : Int32) : entryFrame m #[(.ref x0), (.int x1)] 2 = mkF m 0 #[.val (.ref x0), .val (.int x1)] [] := by first | (simp [entryFrame, mkF, argsToLocals, Value.category]; done) | rfl
def Q3 (Z : State) (a0 : Addr) (p1 : Int32) (h0 : Heap) (n0 : Nat) (v : Option Value) (h : Heap) (L : List Loc) : Prop := v = none ∧ Fr n0 L ∧ Keep h0 h [a0] ∧ Exa Z h a0 "com/example/grantsmith/grantsmith/HeaderFields" ∧ ∃ (b : Addr) (k : ClassId), h0.size ≤ b ∧ Fld Z h a0 "com/example/grantsmith/grantsmith/HeaderFields" "fields" "[B" (.ref b) ∧ Arv Z h b k .byte (256 : Int32) [] (defaultValue .byte)
set_option maxRecDepth 65536 in
set_option maxHeartbeats 40000000 in
theorem rm3 (l : Launch) (Z : State) (aw : Array Value) (hw : ∀ d ∈ tables_1, d.before aw Z = true) (ws : List Jvm.Cond) (a0 : Addr) (p1 : Int32) (h0 : Heap) (n0 : Nat) (Z0 : n0 ≤ h0.size) (E_a : Exa Z h0 a0 "com/example/grantsmith/grantsmith/HeaderFields") (F_0 : Fld Z h0 a0 "com/example/grantsmith/grantsmith/HeaderFields" "fields" "[B" .null) (F_1 : Fld Z h0 a0 "com/example/grantsmith/grantsmith/HeaderFields" "maxBytes" "I" (.int (0 : Int32))) (g_a0 : n0 ≤ a0) :
    MetFree l (⟨"com/example/grantsmith/grantsmith/HeaderFields", "<init>", "(I)V"⟩ : MethodName) (head1 (Jvm.Cond.code (⟨"com/example/grantsmith/grantsmith/HeaderFields", "<init>", "(I)V"⟩ : MethodName) prog_2_method_1_code 2 none :: ws) ({ frames := 1, cells := 1, slots := 256, locals := 12 } : Room)) (fun a U => a = #[(.ref a0), (.int p1)] ∧ Z.Warmed39 U.vm ∧ U.heap = h0) (fun _ _ _ _ _ => True) (fun _ U o U' => ∃ v L, o = .returned v ∧ (Q3 Z a0 p1 h0 n0) v U'.heap L ∧ FrameEnd U o U' L ({ frames := 1, cells := 1, slots := 256, locals := 12 } : Room).cells ({ frames := 1, cells := 1, slots := 256, locals := 12 } : Room).slots) := by
  refine MetFree.of_bodySF (plainFor_of_name own_pn0) hisR ?_
  intro p e s m args below meth c s₁ Bd hml0 hP hK
  obtain ⟨rfl, hZ, hh⟩ := hP
  have hx := Bd.exec
  have hby := Bd.bytes
  have hml : c.maxLocals = 2 := hml0
  have hown : s.vm.findClass "com/example/grantsmith/grantsmith/HeaderFields" = some m.cls := findClass_of_methodNamed Bd.named
  have hnm := (name_of_methodNamed Bd.named Bd.method).1
  have hlk : meth.locks = false := BodyLoose.notSynchronized (by assumption)
  have X0 : Stand p l e ({ frames := 1, cells := 1, slots := 256, locals := 12 } : Room) s m #[(.ref a0), (.int p1)] below meth c s₁ [] 0 0 := Stand.of_body Bd
  have e0 : s₁.heap = h0 := by rw [← hh, Bd.state]; rfl
  have N0 := Fr.nil n0
  show own_Done p e below s (Q3 Z a0 p1 h0 n0) ({ frames := 1, cells := 1, slots := 256, locals := 12 } : Room).cells ({ frames := 1, cells := 1, slots := 256, locals := 12 } : Room).slots (s₁.setTop (entryFrame m #[(.ref a0), (.int p1)] 2))
  refine own_go (U' := s₁.setTop (mkF m 0 #[.val (.ref a0), .val (.int p1)] [])) (fun _ k => castTop (own_ef3 m a0 p1) k) ?_
  refine own_go (U' := s₁.setTop (mkF m 1 #[.val (.ref a0), .val (.int p1)] [(.ref a0)])) (fun _ k => XS.aloadN X0.here hx rfl (hb hby d3_0) rfl rfl k) ?_
  obtain ⟨T1, X1, e1, st1⟩ := initO X0 hx hZ hown (hw _ (List.mem_of_getElem? (i := 31) rfl)) (hw _ (List.mem_of_getElem? (i := 7) rfl)) (hw _ (List.mem_of_getElem? (i := 8) rfl)) e0 (g := (mkF m 1 #[.val (.ref a0), .val (.int p1)] [(.ref a0)])) rfl (by rw [hml]; rfl) rfl (hb hby d3_1) (by decide) (W := 0) (by show 2 * 0 + _ ≤ _; exact Nat.le_of_eq rfl) (by decide)
  refine own_go (U' := T1.setTop (mkF m 4 #[.val (.ref a0), .val (.int p1)] [])) (fun _ k => st1 _ k) ?_
  refine own_go (U' := T1.setTop (mkF m 5 #[.val (.ref a0), .val (.int p1)] [(.ref a0)])) (fun _ k => XS.aloadN X1.here hx rfl (hb hby d3_4) rfl rfl k) ?_
  refine own_go (U' := T1.setTop (mkF m 8 #[.val (.ref a0), .val (.int p1)] [(.int (256 : Int32)), (.ref a0)])) (fun _ k => XS.sipush X1.here hx rfl (hb hby d3_5) k) ?_
  obtain ⟨T2, h2, k2, X2, e2, E2, A2, st2⟩ := newP X1 hx hZ (hw _ (List.mem_of_getElem? (i := 14) rfl)) e1 (g := (mkF m 8 #[.val (.ref a0), .val (.int p1)] [(.int (256 : Int32)), (.ref a0)])) rfl (hb hby d3_8) rfl (by decide) (cap := 256) (by decide) (by decide) (by decide) (by decide)
  obtain ⟨b2, g2⟩ : ∃ z, z = h0.size := ⟨_, rfl⟩
  have g_b2 : n0 ≤ b2 := Nat.le_trans Z0 (Nat.le_of_eq g2.symm)
  have sz_b2 : h0.size ≤ b2 := Nat.le_trans (Keep.refl h0 [a0]).1 (Nat.le_of_eq g2.symm)
  have ne_a0_b2 : a0 ≠ b2 := Nat.ne_of_lt (Nat.lt_of_lt_of_le E_a.lt (Nat.le_of_eq g2.symm))
  rw [← g2] at A2 st2
  have c2_0 : Exa Z h2 a0 "com/example/grantsmith/grantsmith/HeaderFields" := E_a.ext E2
  have c2_1 : Fld Z h2 a0 "com/example/grantsmith/grantsmith/HeaderFields" "fields" "[B" .null := F_0.ext E2
  have c2_2 : Fld Z h2 a0 "com/example/grantsmith/grantsmith/HeaderFields" "maxBytes" "I" (.int (0 : Int32)) := F_1.ext E2
  have Z2 : n0 ≤ h2.size := Nat.le_trans Z0 E2.1
  have K2 := Keep.ext (Keep.refl h0 [a0]) E2
  have V_b2 : Arv Z h2 b2 k2 .byte (256 : Int32) [] (defaultValue .byte) := Arv.new A2 (by decide)
  refine own_go (U' := T2.setTop (mkF m 10 #[.val (.ref a0), .val (.int p1)] [(.ref b2), (.ref a0)])) (fun _ k => st2 _ k) ?_
  obtain ⟨T3, h3, X3, e3, W3, st3⟩ := putF X2 hx hZ hown (host := "") (Or.inl (hw _ (List.mem_of_getElem? (i := 32) rfl))) Via.refl e2 c2_1 c2_0 (Or.inl (hw _ (List.mem_of_getElem? (i := 33) rfl))) (hw _ (List.mem_of_getElem? (i := 26) rfl)) (ty := (.array .byte)) (by decide) rfl rfl (g := (mkF m 10 #[.val (.ref a0), .val (.int p1)] [(.ref b2), (.ref a0)])) rfl rfl (hb hby d3_10)
  have c3_0 : Exa Z h3 a0 "com/example/grantsmith/grantsmith/HeaderFields" := c2_0.wr W3
  have c3_2 : Fld Z h3 a0 "com/example/grantsmith/grantsmith/HeaderFields" "maxBytes" "I" (.int (0 : Int32)) := c2_2.other W3 (Or.inr (slot_ne (Or.inr (hw _ (List.mem_of_getElem? (i := 35) rfl))) (Or.inl (hw _ (List.mem_of_getElem? (i := 33) rfl))) (by decide) (t := .int) (t' := (.array .byte)) (by decide) (by decide)))
  have c3_3 : Arv Z h3 b2 k2 .byte (256 : Int32) [] (defaultValue .byte) := V_b2.other W3 (Ne.symm ne_a0_b2)
  have w3 : Fld Z h3 a0 "com/example/grantsmith/grantsmith/HeaderFields" "fields" "[B" (.ref b2) := c2_1.same W3
  have Z3 : n0 ≤ h3.size := Nat.le_trans Z2 (Keep.of_wr W3).1
  have K3 := Keep.wr K2 W3 (Or.inl (by simp))
  have N3 := Fr.snoc X3 N0 g_a0
  refine own_go (U' := T3.setTop (mkF m 13 #[.val (.ref a0), .val (.int p1)] [])) (fun _ k => st3 _ k) ?_
  refine own_go (U' := T3.setTop (mkF m 14 #[.val (.ref a0), .val (.int p1)] [(.ref a0)])) (fun _ k => XS.aloadN X3.here hx rfl (hb hby d3_13) rfl rfl k) ?_
  refine own_go (U' := T3.setTop (mkF m 15 #[.val (.ref a0), .val (.int p1)] [(.int p1), (.ref a0)])) (fun _ k => XS.iloadN X3.here hx rfl (hb hby d3_14) rfl k) ?_
  obtain ⟨T4, h4, X4, e4, W4, st4⟩ := putF X3 hx hZ hown (host := "") (Or.inl (hw _ (List.mem_of_getElem? (i := 34) rfl))) Via.refl e3 c3_2 c3_0 (Or.inr ⟨(hw _ (List.mem_of_getElem? (i := 35) rfl)), rfl, hnm⟩) (hw _ (List.mem_of_getElem? (i := 26) rfl)) (ty := .int) (by decide) rfl rfl (g := (mkF m 15 #[.val (.ref a0), .val (.int p1)] [(.int p1), (.ref a0)])) rfl rfl (hb hby d3_15)
  have c4_0 : Exa Z h4 a0 "com/example/grantsmith/grantsmith/HeaderFields" := c3_0.wr W4
  have c4_1 : Fld Z h4 a0 "com/example/grantsmith/grantsmith/HeaderFields" "fields" "[B" (.ref b2) := w3.other W4 (Or.inr (slot_ne (Or.inl (hw _ (List.mem_of_getElem? (i := 33) rfl))) (Or.inr (hw _ (List.mem_of_getElem? (i := 35) rfl))) (by decide) (t := (.array .byte)) (t' := .int) (by decide) (by decide)))
  have c4_3 : Arv Z h4 b2 k2 .byte (256 : Int32) [] (defaultValue .byte) := c3_3.other W4 (Ne.symm ne_a0_b2)
  have w4 : Fld Z h4 a0 "com/example/grantsmith/grantsmith/HeaderFields" "maxBytes" "I" (.int p1) := c3_2.same W4
  have Z4 : n0 ≤ h4.size := Nat.le_trans Z3 (Keep.of_wr W4).1
  have K4 := Keep.wr K3 W4 (Or.inl (by simp))
  have N4 := Fr.snoc X4 N3 g_a0
  refine own_go (U' := T4.setTop (mkF m 18 #[.val (.ref a0), .val (.int p1)] [])) (fun _ k => st4 _ k) ?_
  refine own_ret X4 (v := none) hlk (fun _ => rfl) (by decide) (by decide) (fun fs hr => X4.returnOut hx Bd.returns (hb hby d3_18) hr) ?_
  show (Q3 Z a0 p1 h0 n0) _ T4.heap _
  rw [e4]
  exact ⟨rfl, N4, K4, c4_0, ⟨_, _, sz_b2, c4_1, c4_3⟩⟩
theorem d5_0 : decode prog_2_method_4_code 0 = .ok (.aload_n 0, 1) := by decide +kernel
theorem d5_1 : decode prog_2_method_4_code 1 = .ok (.getfield 7, 3) := by decide +kernel
theorem d5_4 : decode prog_2_method_4_code 4 = .ok (.arraylength, 1) := by decide +kernel
theorem d5_5 : decode prog_2_method_4_code 5 = .ok (.i2l, 1) := by decide +kernel
theorem d5_6 : decode prog_2_method_4_code 6 = .ok (.lreturn, 1) := by decide +kernel
theorem own_ef5 (m : MethodId) (x0 : Addr) : entryFrame m #[(.ref x0)] 1 = mkF m 0 #[.val (.ref x0)] [] := by first | (simp [entryFrame, mkF, argsToLocals, Value.category]; done) | rfl
def f_5 (a0 : Addr) (b1 : Addr) (k1 : ClassId) : Int64 := ((256 : Int32).toInt64)
def Q5 (Z : State) (a0 : Addr) (b1 : Addr) (k1 : ClassId) (h0 : Heap) (n0 : Nat) (v : Option Value) (h : Heap) (L : List Loc) : Prop := v = some (.long (f_5 a0 b1 k1)) ∧ Fr n0 L ∧ h = h0
set_option maxRecDepth 65536 in
set_option maxHeartbeats 40000000 in
theorem rm5 (l : Launch) (Z : State) (aw : Array Value) (hw : ∀ d ∈ tables_1, d.before aw Z = true) (ws : List Jvm.Cond) (a0 : Addr) (b1 : Addr) (k1 : ClassId) (h0 : Heap) (n0 : Nat) (Z0 : n0 ≤ h0.size) (F_f : Fld Z h0 a0 "com/example/grantsmith/grantsmith/HeaderFields" "fields" "[B" (.ref b1)) (V_b : Arv Z h0 b1 k1 .byte (256 : Int32) [] (defaultValue .byte)) :
    MetFree l (⟨"com/example/grantsmith/grantsmith/HeaderFields", "heldBytes", "()J"⟩ : MethodName) (head1 (Jvm.Cond.code (⟨"com/example/grantsmith/grantsmith/HeaderFields", "heldBytes", "()J"⟩ : MethodName) prog_2_method_4_code 1 (some .long) :: ws) ({ frames := 0, cells := 0, slots := 0, locals := 0 } : Room)) (fun a U => a = #[(.ref a0)] ∧ Z.Warmed39 U.vm ∧ U.heap = h0) (fun _ _ _ _ _ => True) (fun _ U o U' => ∃ v L, o = .returned v ∧ (Q5 Z a0 b1 k1 h0 n0) v U'.heap L ∧ FrameEnd U o U' L ({ frames := 0, cells := 0, slots := 0, locals := 0 } : Room).cells ({ frames := 0, cells := 0, slots := 0, locals := 0 } : Room).slots) := by
  refine MetFree.of_bodySF (plainFor_of_name own_pn0) hisR ?_
  intro p e s m args below meth c s₁ Bd hml0 hP hK
  obtain ⟨rfl, hZ, hh⟩ := hP
  have hx := Bd.exec
  have hby := Bd.bytes
  have hml : c.maxLocals = 1 := hml0
  have hown : s.vm.findClass "com/example/grantsmith/grantsmith/HeaderFields" = some m.cls := findClass_of_methodNamed Bd.named
  have hnm := (name_of_methodNamed Bd.named Bd.method).1
  have hlk : meth.locks = false := BodyLoose.notSynchronized (by assumption)
  have X0 : Stand p l e ({ frames := 0, cells := 0, slots := 0, locals := 0 } : Room) s m #[(.ref a0)] below meth c s₁ [] 0 0 := Stand.of_body Bd
  have e0 : s₁.heap = h0 := by rw [← hh, Bd.state]; rfl
  have N0 := Fr.nil n0
  show own_Done p e below s (Q5 Z a0 b1 k1 h0 n0) ({ frames := 0, cells := 0, slots := 0, locals := 0 } : Room).cells ({ frames := 0, cells := 0, slots := 0, locals := 0 } : Room).slots (s₁.setTop (entryFrame m #[(.ref a0)] 1))
  refine own_go (U' := s₁.setTop (mkF m 0 #[.val (.ref a0)] [])) (fun _ k => castTop (own_ef5 m a0) k) ?_
  refine own_go (U' := s₁.setTop (mkF m 1 #[.val (.ref a0)] [(.ref a0)])) (fun _ k => XS.aloadN X0.here hx rfl (hb hby d5_0) rfl rfl k) ?_
  obtain ⟨T5, X5, e5, st5⟩ := getF X0 hx hZ hown (host := "") (Or.inl (hw _ (List.mem_of_getElem? (i := 32) rfl))) Via.refl e0 F_f (g := (mkF m 1 #[.val (.ref a0)] [(.ref a0)])) rfl rfl (hb hby d5_1)
  refine own_go (U' := T5.setTop (mkF m 4 #[.val (.ref a0)] [(.ref b1)])) (fun _ k => st5 _ k) ?_
  have V6 := V_b
  obtain ⟨cl6, Ar6, q6, S6, Ng6, Hh6, G6⟩ := V6
  have hl6 := len_of S6 Ng6
  refine own_go (U' := T5.setTop (mkF m 5 #[.val (.ref a0)] [(.int (256 : Int32))])) (fun _ k => X5.arraylength hx (by rw [e5]; exact Ar6.1) (State.isArrayOf_alike hZ.alike Ar6.2.1) (g := (mkF m 4 #[.val (.ref a0)] [(.ref b1)])) rfl rfl (hb hby d5_4) _ (by rw [hl6]; exact k)) ?_
  refine own_go (U' := T5.setTop (mkF m 6 #[.val (.ref a0)] [(.long ((256 : Int32).toInt64))])) (fun _ k => XS.i2l X5.here hx rfl (hb hby d5_5) rfl k) ?_
  refine own_ret X5 (v := (some (.long ((256 : Int32).toInt64)))) hlk (fun h => by rw [Bd.returns] at h; cases h) (by decide) (by decide) (fun fs hr => own_retJ X5 hx Bd.returns (hb hby d5_6) hr) ?_
  show (Q5 Z a0 b1 k1 h0 n0) _ T5.heap _
  rw [e5]
  exact ⟨by first | (simp only [f_5]; done) | rfl | (simp [f_5]; done), N0, rfl⟩
theorem d1_0 : decode prog_7_method_1_code 0 = .ok (.aload_n 0, 1) := by decide +kernel
theorem d1_1 : decode prog_7_method_1_code 1 = .ok (.invokespecial 1, 3) := by decide +kernel
theorem d1_4 : decode prog_7_method_1_code 4 = .ok (.aload_n 0, 1) := by decide +kernel
theorem d1_5 : decode prog_7_method_1_code 5 = .ok (.getstatic 7, 3) := by decide +kernel
theorem d1_8 : decode prog_7_method_1_code 8 = .ok (.putfield 13, 3) := by decide +kernel
theorem d1_11 : decode prog_7_method_1_code 11 = .ok (.aload_n 0, 1) := by decide +kernel
theorem d1_12 : decode prog_7_method_1_code 12 = .ok (.sipush 256, 3) := by decide +kernel
theorem d1_15 : decode prog_7_method_1_code 15 = .ok (.newarray .byte, 2) := by decide +kernel
theorem d1_17 : decode prog_7_method_1_code 17 = .ok (.putfield 18, 3) := by decide +kernel
theorem d1_20 : decode prog_7_method_1_code 20 = .ok (.aload_n 0, 1) := by decide +kernel
theorem d1_21 : decode prog_7_method_1_code 21 = .ok (.iconst 0, 1) := by decide +kernel
theorem d1_22 : decode prog_7_method_1_code 22 = .ok (.newarray .byte, 2) := by decide +kernel
theorem d1_24 : decode prog_7_method_1_code 24 = .ok (.putfield 22, 3) := by decide +kernel
theorem d1_27 : decode prog_7_method_1_code 27 = .ok (.aload_n 0, 1) := by decide +kernel
theorem d1_28 : decode prog_7_method_1_code 28 = .ok (.iload_n 1, 1) := by decide +kernel
theorem d1_29 : decode prog_7_method_1_code 29 = .ok (.putfield 25, 3) := by decide +kernel
theorem d1_32 : decode prog_7_method_1_code 32 = .ok (.aload_n 0, 1) := by decide +kernel
theorem d1_33 : decode prog_7_method_1_code 33 = .ok (.iload_n 2, 1) := by decide +kernel
theorem d1_34 : decode prog_7_method_1_code 34 = .ok (.putfield 29, 3) := by decide +kernel
theorem d1_37 : decode prog_7_method_1_code 37 = .ok (.aload_n 0, 1) := by decide +kernel
theorem d1_38 : decode prog_7_method_1_code 38 = .ok (.iload_n 1, 1) := by decide +kernel
theorem d1_39 : decode prog_7_method_1_code 39 = .ok (.putfield 32, 3) := by decide +kernel
theorem d1_42 : decode prog_7_method_1_code 42 = .ok (.aload_n 0, 1) := by decide +kernel
theorem d1_43 : decode prog_7_method_1_code 43 = .ok (.new 35, 3) := by decide +kernel
theorem d1_46 : decode prog_7_method_1_code 46 = .ok (.dup, 1) := by decide +kernel
theorem d1_47 : decode prog_7_method_1_code 47 = .ok (.iload_n 1, 1) := by decide +kernel
theorem d1_48 : decode prog_7_method_1_code 48 = .ok (.invokespecial 37, 3) := by decide +kernel
theorem own_pd0 : parseMethodDescriptor "(I)V" = some ⟨[.int], none⟩ := by decide +kernel
theorem d1_51 : decode prog_7_method_1_code 51 = .ok (.putfield 40, 3) := by decide +kernel
theorem d1_54 : decode prog_7_method_1_code 54 = .ok (.return_, 1) := by decide +kernel
theorem own_pn1 : plainName "com/example/grantsmith/grantsmith/RequestParser" = true := by first | (simp [plainName, overriddenIn]; done) | decide +kernel
theorem own_ef1 (m : MethodId) (x0 : Addr) (x1 : Int32) (x2 : Int32) : entryFrame m #[(.ref x0), (.int x1), (.int x2)] 3 = mkF m 0 #[.val (.ref x0), .val (.int x1), .val (.int x2)] [] := by first | (simp [entryFrame, mkF, argsToLocals, Value.category]; done) | rfl
def Q1 (Z : State) (a0 : Addr) (p1 : Int32) (p2 : Int32) (wq : Addr) (h0 : Heap) (n0 : Nat) (v : Option Value) (h : Heap) (L : List Loc) : Prop := v = none ∧ Fr n0 L ∧ Keep h0 h [a0] ∧ Exa Z h a0 "com/example/grantsmith/grantsmith/RequestParser" ∧ ∃ (x1 : Addr) (k1 : ClassId) (x2 : Addr) (k2 : ClassId) (x3 : Addr) (x4 : Addr) (k4 : ClassId), Fld Z h a0 "com/example/grantsmith/grantsmith/RequestParser" "line" "[B" (.ref x1) ∧ Arv Z h x1 k1 .byte (256 : Int32) [] (defaultValue .byte) ∧ Fld Z h a0 "com/example/grantsmith/grantsmith/RequestParser" "body" "[B" (.ref x2) ∧ Arv Z h x2 k2 .byte (0 : Int32) [] (defaultValue .byte) ∧ Fld Z h a0 "com/example/grantsmith/grantsmith/RequestParser" "requestLineBytes" "I" (.int (0 : Int32)) ∧ Fld Z h a0 "com/example/grantsmith/grantsmith/RequestParser" "headers" "Lcom/example/grantsmith/grantsmith/HeaderFields;" (.ref x3) ∧ Exa Z h x3 "com/example/grantsmith/grantsmith/HeaderFields" ∧ Fld Z h x3 "com/example/grantsmith/grantsmith/HeaderFields" "fields" "[B" (.ref x4) ∧ Arv Z h x4 k4 .byte (256 : Int32) [] (defaultValue .byte) ∧ Fld Z h a0 "com/example/grantsmith/grantsmith/RequestParser" "request" "Lcom/example/grantsmith/grantsmith/Request;" .null
set_option maxRecDepth 65536 in
set_option maxHeartbeats 40000000 in
theorem rm1 (l : Launch) (Z : State) (aw : Array Value) (hw : ∀ d ∈ tables_1, d.before aw Z = true) (ws : List Jvm.Cond) (a0 : Addr) (p1 : Int32) (p2 : Int32) (wq : Addr) (h0 : Heap) (n0 : Nat) (Z0 : n0 ≤ h0.size) (E_a : Exa Z h0 a0 "com/example/grantsmith/grantsmith/RequestParser") (S_q : Sta Z h0 "com/example/grantsmith/grantsmith/RequestParser$State" "REQUEST_LINE" "Lcom/example/grantsmith/grantsmith/RequestParser$State;" (.ref wq)) (F_0 : Fld Z h0 a0 "com/example/grantsmith/grantsmith/RequestParser" "state" "Lcom/example/grantsmith/grantsmith/RequestParser$State;" .null) (F_1 : Fld Z h0 a0 "com/example/grantsmith/grantsmith/RequestParser" "line" "[B" .null) (F_2 : Fld Z h0 a0 "com/example/grantsmith/grantsmith/RequestParser" "body" "[B" .null) (F_3 : Fld Z h0 a0 "com/example/grantsmith/grantsmith/RequestParser" "maxHeadBytes" "I" (.int (0 : Int32))) (F_4 : Fld Z h0 a0 "com/example/grantsmith/grantsmith/RequestParser" "maxBodyBytes" "I" (.int (0 : Int32))) (F_5 : Fld Z h0 a0 "com/example/grantsmith/grantsmith/RequestParser" "lineBudget" "I" (.int (0 : Int32))) (F_6 : Fld Z h0 a0 "com/example/grantsmith/grantsmith/RequestParser" "headers" "Lcom/example/grantsmith/grantsmith/HeaderFields;" .null) (F_7 : Fld Z h0 a0 "com/example/grantsmith/grantsmith/RequestParser" "requestLineBytes" "I" (.int (0 : Int32))) (F_8 : Fld Z h0 a0 "com/example/grantsmith/grantsmith/RequestParser" "request" "Lcom/example/grantsmith/grantsmith/Request;" .null) (g_a0 : n0 ≤ a0) :
    MetFree l (⟨"com/example/grantsmith/grantsmith/RequestParser", "<init>", "(II)V"⟩ : MethodName) (head1 (Jvm.Cond.code (⟨"com/example/grantsmith/grantsmith/RequestParser", "<init>", "(II)V"⟩ : MethodName) prog_7_method_1_code 3 none :: ws) ({ frames := 2, cells := 4, slots := 515, locals := 27 } : Room)) (fun a U => a = #[(.ref a0), (.int p1), (.int p2)] ∧ Z.Warmed39 U.vm ∧ U.heap = h0) (fun _ _ _ _ _ => True) (fun _ U o U' => ∃ v L, o = .returned v ∧ (Q1 Z a0 p1 p2 wq h0 n0) v U'.heap L ∧ FrameEnd U o U' L ({ frames := 2, cells := 4, slots := 515, locals := 27 } : Room).cells ({ frames := 2, cells := 4, slots := 515, locals := 27 } : Room).slots) := by
  refine MetFree.of_bodySF (plainFor_of_name own_pn1) hisR ?_
  intro p e s m args below meth c s₁ Bd hml0 hP hK
  obtain ⟨rfl, hZ, hh⟩ := hP
  have hx := Bd.exec
  have hby := Bd.bytes
  have hml : c.maxLocals = 3 := hml0
  have hown : s.vm.findClass "com/example/grantsmith/grantsmith/RequestParser" = some m.cls := findClass_of_methodNamed Bd.named
  have hnm := (name_of_methodNamed Bd.named Bd.method).1
  have hlk : meth.locks = false := BodyLoose.notSynchronized (by assumption)
  have X0 : Stand p l e ({ frames := 2, cells := 4, slots := 515, locals := 27 } : Room) s m #[(.ref a0), (.int p1), (.int p2)] below meth c s₁ [] 0 0 := Stand.of_body Bd
  have e0 : s₁.heap = h0 := by rw [← hh, Bd.state]; rfl
  have N0 := Fr.nil n0
  show own_Done p e below s (Q1 Z a0 p1 p2 wq h0 n0) ({ frames := 2, cells := 4, slots := 515, locals := 27 } : Room).cells ({ frames := 2, cells := 4, slots := 515, locals := 27 } : Room).slots (s₁.setTop (entryFrame m #[(.ref a0), (.int p1), (.int p2)] 3))
  refine own_go (U' := s₁.setTop (mkF m 0 #[.val (.ref a0), .val (.int p1), .val (.int p2)] [])) (fun _ k => castTop (own_ef1 m a0 p1 p2) k) ?_
  refine own_go (U' := s₁.setTop (mkF m 1 #[.val (.ref a0), .val (.int p1), .val (.int p2)] [(.ref a0)])) (fun _ k => XS.aloadN X0.here hx rfl (hb hby d1_0) rfl rfl k) ?_
  obtain ⟨T7, X7, e7, st7⟩ := initO X0 hx hZ hown (hw _ (List.mem_of_getElem? (i := 6) rfl)) (hw _ (List.mem_of_getElem? (i := 7) rfl)) (hw _ (List.mem_of_getElem? (i := 8) rfl)) e0 (g := (mkF m 1 #[.val (.ref a0), .val (.int p1), .val (.int p2)] [(.ref a0)])) rfl (by rw [hml]; rfl) rfl (hb hby d1_1) (by decide) (W := 0) (by show 2 * 0 + _ ≤ _; exact Nat.le_of_eq rfl) (by decide)
  refine own_go (U' := T7.setTop (mkF m 4 #[.val (.ref a0), .val (.int p1), .val (.int p2)] [])) (fun _ k => st7 _ k) ?_
  refine own_go (U' := T7.setTop (mkF m 5 #[.val (.ref a0), .val (.int p1), .val (.int p2)] [(.ref a0)])) (fun _ k => XS.aloadN X7.here hx rfl (hb hby d1_4) rfl rfl k) ?_
  obtain ⟨T8, X8, e8, st8⟩ := getS2 X7 hx hZ hown (host := "") (Or.inl (hw _ (List.mem_of_getElem? (i := 9) rfl))) Via.refl e7 S_q (g := (mkF m 5 #[.val (.ref a0), .val (.int p1), .val (.int p2)] [(.ref a0)])) rfl (hb hby d1_5)
  refine own_go (U' := T8.setTop (mkF m 8 #[.val (.ref a0), .val (.int p1), .val (.int p2)] [(.ref wq), (.ref a0)])) (fun _ k => st8 _ k) ?_
  obtain ⟨T9, h9, X9, e9, W9, st9⟩ := putF X8 hx hZ hown (host := "") (Or.inl (hw _ (List.mem_of_getElem? (i := 12) rfl))) Via.refl e8 F_0 E_a (Or.inl (hw _ (List.mem_of_getElem? (i := 13) rfl))) (hw _ (List.mem_of_getElem? (i := 1) rfl)) (ty := (.object "com/example/grantsmith/grantsmith/RequestParser$State")) (by decide) rfl rfl (g := (mkF m 8 #[.val (.ref a0), .val (.int p1), .val (.int p2)] [(.ref wq), (.ref a0)])) rfl rfl (hb hby d1_8)
  have c9_0 : Exa Z h9 a0 "com/example/grantsmith/grantsmith/RequestParser" := E_a.wr W9
  have c9_1 : Sta Z h9 "com/example/grantsmith/grantsmith/RequestParser$State" "REQUEST_LINE" "Lcom/example/grantsmith/grantsmith/RequestParser$State;" (.ref wq) := S_q.wr W9
  have c9_3 : Fld Z h9 a0 "com/example/grantsmith/grantsmith/RequestParser" "line" "[B" .null := F_1.other W9 (Or.inr (slot_ne (Or.inl (hw _ (List.mem_of_getElem? (i := 16) rfl))) (Or.inl (hw _ (List.mem_of_getElem? (i := 13) rfl))) (by decide) (t := (.array .byte)) (t' := (.object "com/example/grantsmith/grantsmith/RequestParser$State")) (by decide) (by decide)))
  have c9_4 : Fld Z h9 a0 "com/example/grantsmith/grantsmith/RequestParser" "body" "[B" .null := F_2.other W9 (Or.inr (slot_ne (Or.inl (hw _ (List.mem_of_getElem? (i := 18) rfl))) (Or.inl (hw _ (List.mem_of_getElem? (i := 13) rfl))) (by decide) (t := (.array .byte)) (t' := (.object "com/example/grantsmith/grantsmith/RequestParser$State")) (by decide) (by decide)))
  have c9_5 : Fld Z h9 a0 "com/example/grantsmith/grantsmith/RequestParser" "maxHeadBytes" "I" (.int (0 : Int32)) := F_3.other W9 (Or.inr (slot_ne (Or.inr (hw _ (List.mem_of_getElem? (i := 20) rfl))) (Or.inl (hw _ (List.mem_of_getElem? (i := 13) rfl))) (by decide) (t := .int) (t' := (.object "com/example/grantsmith/grantsmith/RequestParser$State")) (by decide) (by decide)))
  have c9_6 : Fld Z h9 a0 "com/example/grantsmith/grantsmith/RequestParser" "maxBodyBytes" "I" (.int (0 : Int32)) := F_4.other W9 (Or.inr (slot_ne (Or.inr (hw _ (List.mem_of_getElem? (i := 22) rfl))) (Or.inl (hw _ (List.mem_of_getElem? (i := 13) rfl))) (by decide) (t := .int) (t' := (.object "com/example/grantsmith/grantsmith/RequestParser$State")) (by decide) (by decide)))
  have c9_7 : Fld Z h9 a0 "com/example/grantsmith/grantsmith/RequestParser" "lineBudget" "I" (.int (0 : Int32)) := F_5.other W9 (Or.inr (slot_ne (Or.inl (hw _ (List.mem_of_getElem? (i := 24) rfl))) (Or.inl (hw _ (List.mem_of_getElem? (i := 13) rfl))) (by decide) (t := .int) (t' := (.object "com/example/grantsmith/grantsmith/RequestParser$State")) (by decide) (by decide)))
  have c9_8 : Fld Z h9 a0 "com/example/grantsmith/grantsmith/RequestParser" "headers" "Lcom/example/grantsmith/grantsmith/HeaderFields;" .null := F_6.other W9 (Or.inr (slot_ne (Or.inr (hw _ (List.mem_of_getElem? (i := 37) rfl))) (Or.inl (hw _ (List.mem_of_getElem? (i := 13) rfl))) (by decide) (t := (.object "com/example/grantsmith/grantsmith/HeaderFields")) (t' := (.object "com/example/grantsmith/grantsmith/RequestParser$State")) (by decide) (by decide)))
  have c9_9 : Fld Z h9 a0 "com/example/grantsmith/grantsmith/RequestParser" "requestLineBytes" "I" (.int (0 : Int32)) := F_7.other W9 (Or.inr (slot_ne (Or.inl (hw _ (List.mem_of_getElem? (i := 44) rfl))) (Or.inl (hw _ (List.mem_of_getElem? (i := 13) rfl))) (by decide) (t := .int) (t' := (.object "com/example/grantsmith/grantsmith/RequestParser$State")) (by decide) (by decide)))
  have c9_10 : Fld Z h9 a0 "com/example/grantsmith/grantsmith/RequestParser" "request" "Lcom/example/grantsmith/grantsmith/Request;" .null := F_8.other W9 (Or.inr (slot_ne (Or.inl (hw _ (List.mem_of_getElem? (i := 51) rfl))) (Or.inl (hw _ (List.mem_of_getElem? (i := 13) rfl))) (by decide) (t := (.object "com/example/grantsmith/grantsmith/Request")) (t' := (.object "com/example/grantsmith/grantsmith/RequestParser$State")) (by decide) (by decide)))
  have w9 : Fld Z h9 a0 "com/example/grantsmith/grantsmith/RequestParser" "state" "Lcom/example/grantsmith/grantsmith/RequestParser$State;" (.ref wq) := F_0.same W9
  have Z9 : n0 ≤ h9.size := Nat.le_trans Z0 (Keep.of_wr W9).1
  have K9 := Keep.wr (Keep.refl h0 [a0]) W9 (Or.inl (by simp))
  have N9 := Fr.snoc X9 N0 g_a0
  refine own_go (U' := T9.setTop (mkF m 11 #[.val (.ref a0), .val (.int p1), .val (.int p2)] [])) (fun _ k => st9 _ k) ?_
  refine own_go (U' := T9.setTop (mkF m 12 #[.val (.ref a0), .val (.int p1), .val (.int p2)] [(.ref a0)])) (fun _ k => XS.aloadN X9.here hx rfl (hb hby d1_11) rfl rfl k) ?_
  refine own_go (U' := T9.setTop (mkF m 15 #[.val (.ref a0), .val (.int p1), .val (.int p2)] [(.int (256 : Int32)), (.ref a0)])) (fun _ k => XS.sipush X9.here hx rfl (hb hby d1_12) k) ?_
  obtain ⟨T10, h10, k10, X10, e10, E10, A10, st10⟩ := newP X9 hx hZ (hw _ (List.mem_of_getElem? (i := 14) rfl)) e9 (g := (mkF m 15 #[.val (.ref a0), .val (.int p1), .val (.int p2)] [(.int (256 : Int32)), (.ref a0)])) rfl (hb hby d1_15) rfl (by decide) (cap := 256) (by decide) (by decide) (by decide) (by decide)
  obtain ⟨b10, g10⟩ : ∃ z, z = h9.size := ⟨_, rfl⟩
  have g_b10 : n0 ≤ b10 := Nat.le_trans Z9 (Nat.le_of_eq g10.symm)
  have sz_b10 : h0.size ≤ b10 := Nat.le_trans K9.1 (Nat.le_of_eq g10.symm)
  have ne_a0_b10 : a0 ≠ b10 := Nat.ne_of_lt (Nat.lt_of_lt_of_le c9_0.lt (Nat.le_of_eq g10.symm))
  rw [← g10] at A10 st10
  have c10_0 : Exa Z h10 a0 "com/example/grantsmith/grantsmith/RequestParser" := c9_0.ext E10
  have c10_1 : Sta Z h10 "com/example/grantsmith/grantsmith/RequestParser$State" "REQUEST_LINE" "Lcom/example/grantsmith/grantsmith/RequestParser$State;" (.ref wq) := c9_1.ext E10
  have c10_2 : Fld Z h10 a0 "com/example/grantsmith/grantsmith/RequestParser" "state" "Lcom/example/grantsmith/grantsmith/RequestParser$State;" (.ref wq) := w9.ext E10
  have c10_3 : Fld Z h10 a0 "com/example/grantsmith/grantsmith/RequestParser" "line" "[B" .null := c9_3.ext E10
  have c10_4 : Fld Z h10 a0 "com/example/grantsmith/grantsmith/RequestParser" "body" "[B" .null := c9_4.ext E10
  have c10_5 : Fld Z h10 a0 "com/example/grantsmith/grantsmith/RequestParser" "maxHeadBytes" "I" (.int (0 : Int32)) := c9_5.ext E10
  have c10_6 : Fld Z h10 a0 "com/example/grantsmith/grantsmith/RequestParser" "maxBodyBytes" "I" (.int (0 : Int32)) := c9_6.ext E10
  have c10_7 : Fld Z h10 a0 "com/example/grantsmith/grantsmith/RequestParser" "lineBudget" "I" (.int (0 : Int32)) := c9_7.ext E10
  have c10_8 : Fld Z h10 a0 "com/example/grantsmith/grantsmith/RequestParser" "headers" "Lcom/example/grantsmith/grantsmith/HeaderFields;" .null := c9_8.ext E10
  have c10_9 : Fld Z h10 a0 "com/example/grantsmith/grantsmith/RequestParser" "requestLineBytes" "I" (.int (0 : Int32)) := c9_9.ext E10
  have c10_10 : Fld Z h10 a0 "com/example/grantsmith/grantsmith/RequestParser" "request" "Lcom/example/grantsmith/grantsmith/Request;" .null := c9_10.ext E10
  have Z10 : n0 ≤ h10.size := Nat.le_trans Z9 E10.1
  have K10 := Keep.ext K9 E10
  have V_b10 : Arv Z h10 b10 k10 .byte (256 : Int32) [] (defaultValue .byte) := Arv.new A10 (by decide)
  refine own_go (U' := T10.setTop (mkF m 17 #[.val (.ref a0), .val (.int p1), .val (.int p2)] [(.ref b10), (.ref a0)])) (fun _ k => st10 _ k) ?_
  obtain ⟨T11, h11, X11, e11, W11, st11⟩ := putF X10 hx hZ hown (host := "") (Or.inl (hw _ (List.mem_of_getElem? (i := 15) rfl))) Via.refl e10 c10_3 c10_0 (Or.inl (hw _ (List.mem_of_getElem? (i := 16) rfl))) (hw _ (List.mem_of_getElem? (i := 1) rfl)) (ty := (.array .byte)) (by decide) rfl rfl (g := (mkF m 17 #[.val (.ref a0), .val (.int p1), .val (.int p2)] [(.ref b10), (.ref a0)])) rfl rfl (hb hby d1_17)
  have c11_0 : Exa Z h11 a0 "com/example/grantsmith/grantsmith/RequestParser" := c10_0.wr W11
  have c11_1 : Sta Z h11 "com/example/grantsmith/grantsmith/RequestParser$State" "REQUEST_LINE" "Lcom/example/grantsmith/grantsmith/RequestParser$State;" (.ref wq) := c10_1.wr W11
  have c11_2 : Fld Z h11 a0 "com/example/grantsmith/grantsmith/RequestParser" "state" "Lcom/example/grantsmith/grantsmith/RequestParser$State;" (.ref wq) := c10_2.other W11 (Or.inr (slot_ne (Or.inl (hw _ (List.mem_of_getElem? (i := 13) rfl))) (Or.inl (hw _ (List.mem_of_getElem? (i := 16) rfl))) (by decide) (t := (.object "com/example/grantsmith/grantsmith/RequestParser$State")) (t' := (.array .byte)) (by decide) (by decide)))
  have c11_4 : Fld Z h11 a0 "com/example/grantsmith/grantsmith/RequestParser" "body" "[B" .null := c10_4.other W11 (Or.inr (slot_ne (Or.inl (hw _ (List.mem_of_getElem? (i := 18) rfl))) (Or.inl (hw _ (List.mem_of_getElem? (i := 16) rfl))) (by decide) (t := (.array .byte)) (t' := (.array .byte)) (by decide) (by decide)))
  have c11_5 : Fld Z h11 a0 "com/example/grantsmith/grantsmith/RequestParser" "maxHeadBytes" "I" (.int (0 : Int32)) := c10_5.other W11 (Or.inr (slot_ne (Or.inr (hw _ (List.mem_of_getElem? (i := 20) rfl))) (Or.inl (hw _ (List.mem_of_getElem? (i := 16) rfl))) (by decide) (t := .int) (t' := (.array .byte)) (by decide) (by decide)))
  have c11_6 : Fld Z h11 a0 "com/example/grantsmith/grantsmith/RequestParser" "maxBodyBytes" "I" (.int (0 : Int32)) := c10_6.other W11 (Or.inr (slot_ne (Or.inr (hw _ (List.mem_of_getElem? (i := 22) rfl))) (Or.inl (hw _ (List.mem_of_getElem? (i := 16) rfl))) (by decide) (t := .int) (t' := (.array .byte)) (by decide) (by decide)))
  have c11_7 : Fld Z h11 a0 "com/example/grantsmith/grantsmith/RequestParser" "lineBudget" "I" (.int (0 : Int32)) := c10_7.other W11 (Or.inr (slot_ne (Or.inl (hw _ (List.mem_of_getElem? (i := 24) rfl))) (Or.inl (hw _ (List.mem_of_getElem? (i := 16) rfl))) (by decide) (t := .int) (t' := (.array .byte)) (by decide) (by decide)))
  have c11_8 : Fld Z h11 a0 "com/example/grantsmith/grantsmith/RequestParser" "headers" "Lcom/example/grantsmith/grantsmith/HeaderFields;" .null := c10_8.other W11 (Or.inr (slot_ne (Or.inr (hw _ (List.mem_of_getElem? (i := 37) rfl))) (Or.inl (hw _ (List.mem_of_getElem? (i := 16) rfl))) (by decide) (t := (.object "com/example/grantsmith/grantsmith/HeaderFields")) (t' := (.array .byte)) (by decide) (by decide)))
  have c11_9 : Fld Z h11 a0 "com/example/grantsmith/grantsmith/RequestParser" "requestLineBytes" "I" (.int (0 : Int32)) := c10_9.other W11 (Or.inr (slot_ne (Or.inl (hw _ (List.mem_of_getElem? (i := 44) rfl))) (Or.inl (hw _ (List.mem_of_getElem? (i := 16) rfl))) (by decide) (t := .int) (t' := (.array .byte)) (by decide) (by decide)))
  have c11_10 : Fld Z h11 a0 "com/example/grantsmith/grantsmith/RequestParser" "request" "Lcom/example/grantsmith/grantsmith/Request;" .null := c10_10.other W11 (Or.inr (slot_ne (Or.inl (hw _ (List.mem_of_getElem? (i := 51) rfl))) (Or.inl (hw _ (List.mem_of_getElem? (i := 16) rfl))) (by decide) (t := (.object "com/example/grantsmith/grantsmith/Request")) (t' := (.array .byte)) (by decide) (by decide)))
  have c11_11 : Arv Z h11 b10 k10 .byte (256 : Int32) [] (defaultValue .byte) := V_b10.other W11 (Ne.symm ne_a0_b10)
  have w11 : Fld Z h11 a0 "com/example/grantsmith/grantsmith/RequestParser" "line" "[B" (.ref b10) := c10_3.same W11
  have Z11 : n0 ≤ h11.size := Nat.le_trans Z10 (Keep.of_wr W11).1
  have K11 := Keep.wr K10 W11 (Or.inl (by simp))
  have N11 := Fr.snoc X11 N9 g_a0
  refine own_go (U' := T11.setTop (mkF m 20 #[.val (.ref a0), .val (.int p1), .val (.int p2)] [])) (fun _ k => st11 _ k) ?_
  refine own_go (U' := T11.setTop (mkF m 21 #[.val (.ref a0), .val (.int p1), .val (.int p2)] [(.ref a0)])) (fun _ k => XS.aloadN X11.here hx rfl (hb hby d1_20) rfl rfl k) ?_
  refine own_go (U' := T11.setTop (mkF m 22 #[.val (.ref a0), .val (.int p1), .val (.int p2)] [(.int (0 : Int32)), (.ref a0)])) (fun _ k => XS.iconst X11.here hx rfl (hb hby d1_21) k) ?_
  obtain ⟨T12, h12, k12, X12, e12, E12, A12, st12⟩ := newP X11 hx hZ (hw _ (List.mem_of_getElem? (i := 14) rfl)) e11 (g := (mkF m 22 #[.val (.ref a0), .val (.int p1), .val (.int p2)] [(.int (0 : Int32)), (.ref a0)])) rfl (hb hby d1_22) rfl (by decide) (cap := 0) (by decide) (by decide) (by decide) (by decide)
  obtain ⟨b12, g12⟩ : ∃ z, z = h11.size := ⟨_, rfl⟩
  have g_b12 : n0 ≤ b12 := Nat.le_trans Z11 (Nat.le_of_eq g12.symm)
  have sz_b12 : h0.size ≤ b12 := Nat.le_trans K11.1 (Nat.le_of_eq g12.symm)
  have ne_a0_b12 : a0 ≠ b12 := Nat.ne_of_lt (Nat.lt_of_lt_of_le c11_0.lt (Nat.le_of_eq g12.symm))
  have ne_b10_b12 : b10 ≠ b12 := Nat.ne_of_lt (Nat.lt_of_lt_of_le c11_11.lt (Nat.le_of_eq g12.symm))
  rw [← g12] at A12 st12
  have c12_0 : Exa Z h12 a0 "com/example/grantsmith/grantsmith/RequestParser" := c11_0.ext E12
  have c12_1 : Sta Z h12 "com/example/grantsmith/grantsmith/RequestParser$State" "REQUEST_LINE" "Lcom/example/grantsmith/grantsmith/RequestParser$State;" (.ref wq) := c11_1.ext E12
  have c12_2 : Fld Z h12 a0 "com/example/grantsmith/grantsmith/RequestParser" "state" "Lcom/example/grantsmith/grantsmith/RequestParser$State;" (.ref wq) := c11_2.ext E12
  have c12_3 : Fld Z h12 a0 "com/example/grantsmith/grantsmith/RequestParser" "line" "[B" (.ref b10) := w11.ext E12
  have c12_4 : Fld Z h12 a0 "com/example/grantsmith/grantsmith/RequestParser" "body" "[B" .null := c11_4.ext E12
  have c12_5 : Fld Z h12 a0 "com/example/grantsmith/grantsmith/RequestParser" "maxHeadBytes" "I" (.int (0 : Int32)) := c11_5.ext E12
  have c12_6 : Fld Z h12 a0 "com/example/grantsmith/grantsmith/RequestParser" "maxBodyBytes" "I" (.int (0 : Int32)) := c11_6.ext E12
  have c12_7 : Fld Z h12 a0 "com/example/grantsmith/grantsmith/RequestParser" "lineBudget" "I" (.int (0 : Int32)) := c11_7.ext E12
  have c12_8 : Fld Z h12 a0 "com/example/grantsmith/grantsmith/RequestParser" "headers" "Lcom/example/grantsmith/grantsmith/HeaderFields;" .null := c11_8.ext E12
  have c12_9 : Fld Z h12 a0 "com/example/grantsmith/grantsmith/RequestParser" "requestLineBytes" "I" (.int (0 : Int32)) := c11_9.ext E12
  have c12_10 : Fld Z h12 a0 "com/example/grantsmith/grantsmith/RequestParser" "request" "Lcom/example/grantsmith/grantsmith/Request;" .null := c11_10.ext E12
  have c12_11 : Arv Z h12 b10 k10 .byte (256 : Int32) [] (defaultValue .byte) := c11_11.ext E12
  have Z12 : n0 ≤ h12.size := Nat.le_trans Z11 E12.1
  have K12 := Keep.ext K11 E12
  have V_b12 : Arv Z h12 b12 k12 .byte (0 : Int32) [] (defaultValue .byte) := Arv.new A12 (by decide)
  refine own_go (U' := T12.setTop (mkF m 24 #[.val (.ref a0), .val (.int p1), .val (.int p2)] [(.ref b12), (.ref a0)])) (fun _ k => st12 _ k) ?_
  obtain ⟨T13, h13, X13, e13, W13, st13⟩ := putF X12 hx hZ hown (host := "") (Or.inl (hw _ (List.mem_of_getElem? (i := 17) rfl))) Via.refl e12 c12_4 c12_0 (Or.inl (hw _ (List.mem_of_getElem? (i := 18) rfl))) (hw _ (List.mem_of_getElem? (i := 1) rfl)) (ty := (.array .byte)) (by decide) rfl rfl (g := (mkF m 24 #[.val (.ref a0), .val (.int p1), .val (.int p2)] [(.ref b12), (.ref a0)])) rfl rfl (hb hby d1_24)
  have c13_0 : Exa Z h13 a0 "com/example/grantsmith/grantsmith/RequestParser" := c12_0.wr W13
  have c13_1 : Sta Z h13 "com/example/grantsmith/grantsmith/RequestParser$State" "REQUEST_LINE" "Lcom/example/grantsmith/grantsmith/RequestParser$State;" (.ref wq) := c12_1.wr W13
  have c13_2 : Fld Z h13 a0 "com/example/grantsmith/grantsmith/RequestParser" "state" "Lcom/example/grantsmith/grantsmith/RequestParser$State;" (.ref wq) := c12_2.other W13 (Or.inr (slot_ne (Or.inl (hw _ (List.mem_of_getElem? (i := 13) rfl))) (Or.inl (hw _ (List.mem_of_getElem? (i := 18) rfl))) (by decide) (t := (.object "com/example/grantsmith/grantsmith/RequestParser$State")) (t' := (.array .byte)) (by decide) (by decide)))
  have c13_3 : Fld Z h13 a0 "com/example/grantsmith/grantsmith/RequestParser" "line" "[B" (.ref b10) := c12_3.other W13 (Or.inr (slot_ne (Or.inl (hw _ (List.mem_of_getElem? (i := 16) rfl))) (Or.inl (hw _ (List.mem_of_getElem? (i := 18) rfl))) (by decide) (t := (.array .byte)) (t' := (.array .byte)) (by decide) (by decide)))
  have c13_5 : Fld Z h13 a0 "com/example/grantsmith/grantsmith/RequestParser" "maxHeadBytes" "I" (.int (0 : Int32)) := c12_5.other W13 (Or.inr (slot_ne (Or.inr (hw _ (List.mem_of_getElem? (i := 20) rfl))) (Or.inl (hw _ (List.mem_of_getElem? (i := 18) rfl))) (by decide) (t := .int) (t' := (.array .byte)) (by decide) (by decide)))
  have c13_6 : Fld Z h13 a0 "com/example/grantsmith/grantsmith/RequestParser" "maxBodyBytes" "I" (.int (0 : Int32)) := c12_6.other W13 (Or.inr (slot_ne (Or.inr (hw _ (List.mem_of_getElem? (i := 22) rfl))) (Or.inl (hw _ (List.mem_of_getElem? (i := 18) rfl))) (by decide) (t := .int) (t' := (.array .byte)) (by decide) (by decide)))
  have c13_7 : Fld Z h13 a0 "com/example/grantsmith/grantsmith/RequestParser" "lineBudget" "I" (.int (0 : Int32)) := c12_7.other W13 (Or.inr (slot_ne (Or.inl (hw _ (List.mem_of_getElem? (i := 24) rfl))) (Or.inl (hw _ (List.mem_of_getElem? (i := 18) rfl))) (by decide) (t := .int) (t' := (.array .byte)) (by decide) (by decide)))
  have c13_8 : Fld Z h13 a0 "com/example/grantsmith/grantsmith/RequestParser" "headers" "Lcom/example/grantsmith/grantsmith/HeaderFields;" .null := c12_8.other W13 (Or.inr (slot_ne (Or.inr (hw _ (List.mem_of_getElem? (i := 37) rfl))) (Or.inl (hw _ (List.mem_of_getElem? (i := 18) rfl))) (by decide) (t := (.object "com/example/grantsmith/grantsmith/HeaderFields")) (t' := (.array .byte)) (by decide) (by decide)))
  have c13_9 : Fld Z h13 a0 "com/example/grantsmith/grantsmith/RequestParser" "requestLineBytes" "I" (.int (0 : Int32)) := c12_9.other W13 (Or.inr (slot_ne (Or.inl (hw _ (List.mem_of_getElem? (i := 44) rfl))) (Or.inl (hw _ (List.mem_of_getElem? (i := 18) rfl))) (by decide) (t := .int) (t' := (.array .byte)) (by decide) (by decide)))
  have c13_10 : Fld Z h13 a0 "com/example/grantsmith/grantsmith/RequestParser" "request" "Lcom/example/grantsmith/grantsmith/Request;" .null := c12_10.other W13 (Or.inr (slot_ne (Or.inl (hw _ (List.mem_of_getElem? (i := 51) rfl))) (Or.inl (hw _ (List.mem_of_getElem? (i := 18) rfl))) (by decide) (t := (.object "com/example/grantsmith/grantsmith/Request")) (t' := (.array .byte)) (by decide) (by decide)))
  have c13_11 : Arv Z h13 b10 k10 .byte (256 : Int32) [] (defaultValue .byte) := c12_11.other W13 (Ne.symm ne_a0_b10)
  have c13_12 : Arv Z h13 b12 k12 .byte (0 : Int32) [] (defaultValue .byte) := V_b12.other W13 (Ne.symm ne_a0_b12)
  have w13 : Fld Z h13 a0 "com/example/grantsmith/grantsmith/RequestParser" "body" "[B" (.ref b12) := c12_4.same W13
  have Z13 : n0 ≤ h13.size := Nat.le_trans Z12 (Keep.of_wr W13).1
  have K13 := Keep.wr K12 W13 (Or.inl (by simp))
  have N13 := Fr.snoc X13 N11 g_a0
  refine own_go (U' := T13.setTop (mkF m 27 #[.val (.ref a0), .val (.int p1), .val (.int p2)] [])) (fun _ k => st13 _ k) ?_
  refine own_go (U' := T13.setTop (mkF m 28 #[.val (.ref a0), .val (.int p1), .val (.int p2)] [(.ref a0)])) (fun _ k => XS.aloadN X13.here hx rfl (hb hby d1_27) rfl rfl k) ?_
  refine own_go (U' := T13.setTop (mkF m 29 #[.val (.ref a0), .val (.int p1), .val (.int p2)] [(.int p1), (.ref a0)])) (fun _ k => XS.iloadN X13.here hx rfl (hb hby d1_28) rfl k) ?_
  obtain ⟨T14, h14, X14, e14, W14, st14⟩ := putF X13 hx hZ hown (host := "") (Or.inl (hw _ (List.mem_of_getElem? (i := 19) rfl))) Via.refl e13 c13_5 c13_0 (Or.inr ⟨(hw _ (List.mem_of_getElem? (i := 20) rfl)), rfl, hnm⟩) (hw _ (List.mem_of_getElem? (i := 1) rfl)) (ty := .int) (by decide) rfl rfl (g := (mkF m 29 #[.val (.ref a0), .val (.int p1), .val (.int p2)] [(.int p1), (.ref a0)])) rfl rfl (hb hby d1_29)
  have c14_0 : Exa Z h14 a0 "com/example/grantsmith/grantsmith/RequestParser" := c13_0.wr W14
  have c14_1 : Sta Z h14 "com/example/grantsmith/grantsmith/RequestParser$State" "REQUEST_LINE" "Lcom/example/grantsmith/grantsmith/RequestParser$State;" (.ref wq) := c13_1.wr W14
  have c14_2 : Fld Z h14 a0 "com/example/grantsmith/grantsmith/RequestParser" "state" "Lcom/example/grantsmith/grantsmith/RequestParser$State;" (.ref wq) := c13_2.other W14 (Or.inr (slot_ne (Or.inl (hw _ (List.mem_of_getElem? (i := 13) rfl))) (Or.inr (hw _ (List.mem_of_getElem? (i := 20) rfl))) (by decide) (t := (.object "com/example/grantsmith/grantsmith/RequestParser$State")) (t' := .int) (by decide) (by decide)))
  have c14_3 : Fld Z h14 a0 "com/example/grantsmith/grantsmith/RequestParser" "line" "[B" (.ref b10) := c13_3.other W14 (Or.inr (slot_ne (Or.inl (hw _ (List.mem_of_getElem? (i := 16) rfl))) (Or.inr (hw _ (List.mem_of_getElem? (i := 20) rfl))) (by decide) (t := (.array .byte)) (t' := .int) (by decide) (by decide)))
  have c14_4 : Fld Z h14 a0 "com/example/grantsmith/grantsmith/RequestParser" "body" "[B" (.ref b12) := w13.other W14 (Or.inr (slot_ne (Or.inl (hw _ (List.mem_of_getElem? (i := 18) rfl))) (Or.inr (hw _ (List.mem_of_getElem? (i := 20) rfl))) (by decide) (t := (.array .byte)) (t' := .int) (by decide) (by decide)))
  have c14_6 : Fld Z h14 a0 "com/example/grantsmith/grantsmith/RequestParser" "maxBodyBytes" "I" (.int (0 : Int32)) := c13_6.other W14 (Or.inr (slot_ne (Or.inr (hw _ (List.mem_of_getElem? (i := 22) rfl))) (Or.inr (hw _ (List.mem_of_getElem? (i := 20) rfl))) (by decide) (t := .int) (t' := .int) (by decide) (by decide)))
  have c14_7 : Fld Z h14 a0 "com/example/grantsmith/grantsmith/RequestParser" "lineBudget" "I" (.int (0 : Int32)) := c13_7.other W14 (Or.inr (slot_ne (Or.inl (hw _ (List.mem_of_getElem? (i := 24) rfl))) (Or.inr (hw _ (List.mem_of_getElem? (i := 20) rfl))) (by decide) (t := .int) (t' := .int) (by decide) (by decide)))
  have c14_8 : Fld Z h14 a0 "com/example/grantsmith/grantsmith/RequestParser" "headers" "Lcom/example/grantsmith/grantsmith/HeaderFields;" .null := c13_8.other W14 (Or.inr (slot_ne (Or.inr (hw _ (List.mem_of_getElem? (i := 37) rfl))) (Or.inr (hw _ (List.mem_of_getElem? (i := 20) rfl))) (by decide) (t := (.object "com/example/grantsmith/grantsmith/HeaderFields")) (t' := .int) (by decide) (by decide)))
  have c14_9 : Fld Z h14 a0 "com/example/grantsmith/grantsmith/RequestParser" "requestLineBytes" "I" (.int (0 : Int32)) := c13_9.other W14 (Or.inr (slot_ne (Or.inl (hw _ (List.mem_of_getElem? (i := 44) rfl))) (Or.inr (hw _ (List.mem_of_getElem? (i := 20) rfl))) (by decide) (t := .int) (t' := .int) (by decide) (by decide)))
  have c14_10 : Fld Z h14 a0 "com/example/grantsmith/grantsmith/RequestParser" "request" "Lcom/example/grantsmith/grantsmith/Request;" .null := c13_10.other W14 (Or.inr (slot_ne (Or.inl (hw _ (List.mem_of_getElem? (i := 51) rfl))) (Or.inr (hw _ (List.mem_of_getElem? (i := 20) rfl))) (by decide) (t := (.object "com/example/grantsmith/grantsmith/Request")) (t' := .int) (by decide) (by decide)))
  have c14_11 : Arv Z h14 b10 k10 .byte (256 : Int32) [] (defaultValue .byte) := c13_11.other W14 (Ne.symm ne_a0_b10)
  have c14_12 : Arv Z h14 b12 k12 .byte (0 : Int32) [] (defaultValue .byte) := c13_12.other W14 (Ne.symm ne_a0_b12)
  have w14 : Fld Z h14 a0 "com/example/grantsmith/grantsmith/RequestParser" "maxHeadBytes" "I" (.int p1) := c13_5.same W14
  have Z14 : n0 ≤ h14.size := Nat.le_trans Z13 (Keep.of_wr W14).1
  have K14 := Keep.wr K13 W14 (Or.inl (by simp))
  have N14 := Fr.snoc X14 N13 g_a0
  refine own_go (U' := T14.setTop (mkF m 32 #[.val (.ref a0), .val (.int p1), .val (.int p2)] [])) (fun _ k => st14 _ k) ?_
  refine own_go (U' := T14.setTop (mkF m 33 #[.val (.ref a0), .val (.int p1), .val (.int p2)] [(.ref a0)])) (fun _ k => XS.aloadN X14.here hx rfl (hb hby d1_32) rfl rfl k) ?_
  refine own_go (U' := T14.setTop (mkF m 34 #[.val (.ref a0), .val (.int p1), .val (.int p2)] [(.int p2), (.ref a0)])) (fun _ k => XS.iloadN X14.here hx rfl (hb hby d1_33) rfl k) ?_
  obtain ⟨T15, h15, X15, e15, W15, st15⟩ := putF X14 hx hZ hown (host := "") (Or.inl (hw _ (List.mem_of_getElem? (i := 21) rfl))) Via.refl e14 c14_6 c14_0 (Or.inr ⟨(hw _ (List.mem_of_getElem? (i := 22) rfl)), rfl, hnm⟩) (hw _ (List.mem_of_getElem? (i := 1) rfl)) (ty := .int) (by decide) rfl rfl (g := (mkF m 34 #[.val (.ref a0), .val (.int p1), .val (.int p2)] [(.int p2), (.ref a0)])) rfl rfl (hb hby d1_34)
  have c15_0 : Exa Z h15 a0 "com/example/grantsmith/grantsmith/RequestParser" := c14_0.wr W15
  have c15_1 : Sta Z h15 "com/example/grantsmith/grantsmith/RequestParser$State" "REQUEST_LINE" "Lcom/example/grantsmith/grantsmith/RequestParser$State;" (.ref wq) := c14_1.wr W15
  have c15_2 : Fld Z h15 a0 "com/example/grantsmith/grantsmith/RequestParser" "state" "Lcom/example/grantsmith/grantsmith/RequestParser$State;" (.ref wq) := c14_2.other W15 (Or.inr (slot_ne (Or.inl (hw _ (List.mem_of_getElem? (i := 13) rfl))) (Or.inr (hw _ (List.mem_of_getElem? (i := 22) rfl))) (by decide) (t := (.object "com/example/grantsmith/grantsmith/RequestParser$State")) (t' := .int) (by decide) (by decide)))
  have c15_3 : Fld Z h15 a0 "com/example/grantsmith/grantsmith/RequestParser" "line" "[B" (.ref b10) := c14_3.other W15 (Or.inr (slot_ne (Or.inl (hw _ (List.mem_of_getElem? (i := 16) rfl))) (Or.inr (hw _ (List.mem_of_getElem? (i := 22) rfl))) (by decide) (t := (.array .byte)) (t' := .int) (by decide) (by decide)))
  have c15_4 : Fld Z h15 a0 "com/example/grantsmith/grantsmith/RequestParser" "body" "[B" (.ref b12) := c14_4.other W15 (Or.inr (slot_ne (Or.inl (hw _ (List.mem_of_getElem? (i := 18) rfl))) (Or.inr (hw _ (List.mem_of_getElem? (i := 22) rfl))) (by decide) (t := (.array .byte)) (t' := .int) (by decide) (by decide)))
  have c15_5 : Fld Z h15 a0 "com/example/grantsmith/grantsmith/RequestParser" "maxHeadBytes" "I" (.int p1) := w14.other W15 (Or.inr (slot_ne (Or.inr (hw _ (List.mem_of_getElem? (i := 20) rfl))) (Or.inr (hw _ (List.mem_of_getElem? (i := 22) rfl))) (by decide) (t := .int) (t' := .int) (by decide) (by decide)))
  have c15_7 : Fld Z h15 a0 "com/example/grantsmith/grantsmith/RequestParser" "lineBudget" "I" (.int (0 : Int32)) := c14_7.other W15 (Or.inr (slot_ne (Or.inl (hw _ (List.mem_of_getElem? (i := 24) rfl))) (Or.inr (hw _ (List.mem_of_getElem? (i := 22) rfl))) (by decide) (t := .int) (t' := .int) (by decide) (by decide)))
  have c15_8 : Fld Z h15 a0 "com/example/grantsmith/grantsmith/RequestParser" "headers" "Lcom/example/grantsmith/grantsmith/HeaderFields;" .null := c14_8.other W15 (Or.inr (slot_ne (Or.inr (hw _ (List.mem_of_getElem? (i := 37) rfl))) (Or.inr (hw _ (List.mem_of_getElem? (i := 22) rfl))) (by decide) (t := (.object "com/example/grantsmith/grantsmith/HeaderFields")) (t' := .int) (by decide) (by decide)))
  have c15_9 : Fld Z h15 a0 "com/example/grantsmith/grantsmith/RequestParser" "requestLineBytes" "I" (.int (0 : Int32)) := c14_9.other W15 (Or.inr (slot_ne (Or.inl (hw _ (List.mem_of_getElem? (i := 44) rfl))) (Or.inr (hw _ (List.mem_of_getElem? (i := 22) rfl))) (by decide) (t := .int) (t' := .int) (by decide) (by decide)))
  have c15_10 : Fld Z h15 a0 "com/example/grantsmith/grantsmith/RequestParser" "request" "Lcom/example/grantsmith/grantsmith/Request;" .null := c14_10.other W15 (Or.inr (slot_ne (Or.inl (hw _ (List.mem_of_getElem? (i := 51) rfl))) (Or.inr (hw _ (List.mem_of_getElem? (i := 22) rfl))) (by decide) (t := (.object "com/example/grantsmith/grantsmith/Request")) (t' := .int) (by decide) (by decide)))
  have c15_11 : Arv Z h15 b10 k10 .byte (256 : Int32) [] (defaultValue .byte) := c14_11.other W15 (Ne.symm ne_a0_b10)
  have c15_12 : Arv Z h15 b12 k12 .byte (0 : Int32) [] (defaultValue .byte) := c14_12.other W15 (Ne.symm ne_a0_b12)
  have w15 : Fld Z h15 a0 "com/example/grantsmith/grantsmith/RequestParser" "maxBodyBytes" "I" (.int p2) := c14_6.same W15
  have Z15 : n0 ≤ h15.size := Nat.le_trans Z14 (Keep.of_wr W15).1
  have K15 := Keep.wr K14 W15 (Or.inl (by simp))
  have N15 := Fr.snoc X15 N14 g_a0
  refine own_go (U' := T15.setTop (mkF m 37 #[.val (.ref a0), .val (.int p1), .val (.int p2)] [])) (fun _ k => st15 _ k) ?_
  refine own_go (U' := T15.setTop (mkF m 38 #[.val (.ref a0), .val (.int p1), .val (.int p2)] [(.ref a0)])) (fun _ k => XS.aloadN X15.here hx rfl (hb hby d1_37) rfl rfl k) ?_
  refine own_go (U' := T15.setTop (mkF m 39 #[.val (.ref a0), .val (.int p1), .val (.int p2)] [(.int p1), (.ref a0)])) (fun _ k => XS.iloadN X15.here hx rfl (hb hby d1_38) rfl k) ?_
  obtain ⟨T16, h16, X16, e16, W16, st16⟩ := putF X15 hx hZ hown (host := "") (Or.inl (hw _ (List.mem_of_getElem? (i := 23) rfl))) Via.refl e15 c15_7 c15_0 (Or.inl (hw _ (List.mem_of_getElem? (i := 24) rfl))) (hw _ (List.mem_of_getElem? (i := 1) rfl)) (ty := .int) (by decide) rfl rfl (g := (mkF m 39 #[.val (.ref a0), .val (.int p1), .val (.int p2)] [(.int p1), (.ref a0)])) rfl rfl (hb hby d1_39)
  have c16_0 : Exa Z h16 a0 "com/example/grantsmith/grantsmith/RequestParser" := c15_0.wr W16
  have c16_1 : Sta Z h16 "com/example/grantsmith/grantsmith/RequestParser$State" "REQUEST_LINE" "Lcom/example/grantsmith/grantsmith/RequestParser$State;" (.ref wq) := c15_1.wr W16
  have c16_2 : Fld Z h16 a0 "com/example/grantsmith/grantsmith/RequestParser" "state" "Lcom/example/grantsmith/grantsmith/RequestParser$State;" (.ref wq) := c15_2.other W16 (Or.inr (slot_ne (Or.inl (hw _ (List.mem_of_getElem? (i := 13) rfl))) (Or.inl (hw _ (List.mem_of_getElem? (i := 24) rfl))) (by decide) (t := (.object "com/example/grantsmith/grantsmith/RequestParser$State")) (t' := .int) (by decide) (by decide)))
  have c16_3 : Fld Z h16 a0 "com/example/grantsmith/grantsmith/RequestParser" "line" "[B" (.ref b10) := c15_3.other W16 (Or.inr (slot_ne (Or.inl (hw _ (List.mem_of_getElem? (i := 16) rfl))) (Or.inl (hw _ (List.mem_of_getElem? (i := 24) rfl))) (by decide) (t := (.array .byte)) (t' := .int) (by decide) (by decide)))
  have c16_4 : Fld Z h16 a0 "com/example/grantsmith/grantsmith/RequestParser" "body" "[B" (.ref b12) := c15_4.other W16 (Or.inr (slot_ne (Or.inl (hw _ (List.mem_of_getElem? (i := 18) rfl))) (Or.inl (hw _ (List.mem_of_getElem? (i := 24) rfl))) (by decide) (t := (.array .byte)) (t' := .int) (by decide) (by decide)))
  have c16_5 : Fld Z h16 a0 "com/example/grantsmith/grantsmith/RequestParser" "maxHeadBytes" "I" (.int p1) := c15_5.other W16 (Or.inr (slot_ne (Or.inr (hw _ (List.mem_of_getElem? (i := 20) rfl))) (Or.inl (hw _ (List.mem_of_getElem? (i := 24) rfl))) (by decide) (t := .int) (t' := .int) (by decide) (by decide)))
  have c16_6 : Fld Z h16 a0 "com/example/grantsmith/grantsmith/RequestParser" "maxBodyBytes" "I" (.int p2) := w15.other W16 (Or.inr (slot_ne (Or.inr (hw _ (List.mem_of_getElem? (i := 22) rfl))) (Or.inl (hw _ (List.mem_of_getElem? (i := 24) rfl))) (by decide) (t := .int) (t' := .int) (by decide) (by decide)))
  have c16_8 : Fld Z h16 a0 "com/example/grantsmith/grantsmith/RequestParser" "headers" "Lcom/example/grantsmith/grantsmith/HeaderFields;" .null := c15_8.other W16 (Or.inr (slot_ne (Or.inr (hw _ (List.mem_of_getElem? (i := 37) rfl))) (Or.inl (hw _ (List.mem_of_getElem? (i := 24) rfl))) (by decide) (t := (.object "com/example/grantsmith/grantsmith/HeaderFields")) (t' := .int) (by decide) (by decide)))
  have c16_9 : Fld Z h16 a0 "com/example/grantsmith/grantsmith/RequestParser" "requestLineBytes" "I" (.int (0 : Int32)) := c15_9.other W16 (Or.inr (slot_ne (Or.inl (hw _ (List.mem_of_getElem? (i := 44) rfl))) (Or.inl (hw _ (List.mem_of_getElem? (i := 24) rfl))) (by decide) (t := .int) (t' := .int) (by decide) (by decide)))
  have c16_10 : Fld Z h16 a0 "com/example/grantsmith/grantsmith/RequestParser" "request" "Lcom/example/grantsmith/grantsmith/Request;" .null := c15_10.other W16 (Or.inr (slot_ne (Or.inl (hw _ (List.mem_of_getElem? (i := 51) rfl))) (Or.inl (hw _ (List.mem_of_getElem? (i := 24) rfl))) (by decide) (t := (.object "com/example/grantsmith/grantsmith/Request")) (t' := .int) (by decide) (by decide)))
  have c16_11 : Arv Z h16 b10 k10 .byte (256 : Int32) [] (defaultValue .byte) := c15_11.other W16 (Ne.symm ne_a0_b10)
  have c16_12 : Arv Z h16 b12 k12 .byte (0 : Int32) [] (defaultValue .byte) := c15_12.other W16 (Ne.symm ne_a0_b12)
  have w16 : Fld Z h16 a0 "com/example/grantsmith/grantsmith/RequestParser" "lineBudget" "I" (.int p1) := c15_7.same W16
  have Z16 : n0 ≤ h16.size := Nat.le_trans Z15 (Keep.of_wr W16).1
  have K16 := Keep.wr K15 W16 (Or.inl (by simp))
  have N16 := Fr.snoc X16 N15 g_a0
  refine own_go (U' := T16.setTop (mkF m 42 #[.val (.ref a0), .val (.int p1), .val (.int p2)] [])) (fun _ k => st16 _ k) ?_
  refine own_go (U' := T16.setTop (mkF m 43 #[.val (.ref a0), .val (.int p1), .val (.int p2)] [(.ref a0)])) (fun _ k => XS.aloadN X16.here hx rfl (hb hby d1_42) rfl rfl k) ?_
  obtain ⟨T17, h17, X17, e17, E17, A17, D17, -, st17⟩ := newO X16 hx hZ hown (hw _ (List.mem_of_getElem? (i := 25) rfl)) (hw _ (List.mem_of_getElem? (i := 26) rfl)) (hw _ (List.mem_of_getElem? (i := 27) rfl)) e16 (g := (mkF m 43 #[.val (.ref a0), .val (.int p1), .val (.int p2)] [(.ref a0)])) rfl (hb hby d1_43) (by decide) (by decide)
  obtain ⟨b17, g17⟩ : ∃ z, z = h16.size := ⟨_, rfl⟩
  have g_b17 : n0 ≤ b17 := Nat.le_trans Z16 (Nat.le_of_eq g17.symm)
  have sz_b17 : h0.size ≤ b17 := Nat.le_trans K16.1 (Nat.le_of_eq g17.symm)
  have ne_a0_b17 : a0 ≠ b17 := Nat.ne_of_lt (Nat.lt_of_lt_of_le c16_0.lt (Nat.le_of_eq g17.symm))
  have ne_b10_b17 : b10 ≠ b17 := Nat.ne_of_lt (Nat.lt_of_lt_of_le c16_11.lt (Nat.le_of_eq g17.symm))
  have ne_b12_b17 : b12 ≠ b17 := Nat.ne_of_lt (Nat.lt_of_lt_of_le c16_12.lt (Nat.le_of_eq g17.symm))
  rw [← g17] at A17 D17 st17
  have c17_0 : Exa Z h17 a0 "com/example/grantsmith/grantsmith/RequestParser" := c16_0.ext E17
  have c17_1 : Sta Z h17 "com/example/grantsmith/grantsmith/RequestParser$State" "REQUEST_LINE" "Lcom/example/grantsmith/grantsmith/RequestParser$State;" (.ref wq) := c16_1.ext E17
  have c17_2 : Fld Z h17 a0 "com/example/grantsmith/grantsmith/RequestParser" "state" "Lcom/example/grantsmith/grantsmith/RequestParser$State;" (.ref wq) := c16_2.ext E17
  have c17_3 : Fld Z h17 a0 "com/example/grantsmith/grantsmith/RequestParser" "line" "[B" (.ref b10) := c16_3.ext E17
  have c17_4 : Fld Z h17 a0 "com/example/grantsmith/grantsmith/RequestParser" "body" "[B" (.ref b12) := c16_4.ext E17
  have c17_5 : Fld Z h17 a0 "com/example/grantsmith/grantsmith/RequestParser" "maxHeadBytes" "I" (.int p1) := c16_5.ext E17
  have c17_6 : Fld Z h17 a0 "com/example/grantsmith/grantsmith/RequestParser" "maxBodyBytes" "I" (.int p2) := c16_6.ext E17
  have c17_7 : Fld Z h17 a0 "com/example/grantsmith/grantsmith/RequestParser" "lineBudget" "I" (.int p1) := w16.ext E17
  have c17_8 : Fld Z h17 a0 "com/example/grantsmith/grantsmith/RequestParser" "headers" "Lcom/example/grantsmith/grantsmith/HeaderFields;" .null := c16_8.ext E17
  have c17_9 : Fld Z h17 a0 "com/example/grantsmith/grantsmith/RequestParser" "requestLineBytes" "I" (.int (0 : Int32)) := c16_9.ext E17
  have c17_10 : Fld Z h17 a0 "com/example/grantsmith/grantsmith/RequestParser" "request" "Lcom/example/grantsmith/grantsmith/Request;" .null := c16_10.ext E17
  have c17_11 : Arv Z h17 b10 k10 .byte (256 : Int32) [] (defaultValue .byte) := c16_11.ext E17
  have c17_12 : Arv Z h17 b12 k12 .byte (0 : Int32) [] (defaultValue .byte) := c16_12.ext E17
  have Z17 : n0 ≤ h17.size := Nat.le_trans Z16 E17.1
  have K17 := Keep.ext K16 E17
  have F17_33 : Fld Z h17 b17 "com/example/grantsmith/grantsmith/HeaderFields" "fields" "[B" .null := D17 (Or.inl (hw _ (List.mem_of_getElem? (i := 33) rfl))) (ty := (.array .byte)) (by decide)
  have F17_35 : Fld Z h17 b17 "com/example/grantsmith/grantsmith/HeaderFields" "maxBytes" "I" (.int (0 : Int32)) := D17 (Or.inr (hw _ (List.mem_of_getElem? (i := 35) rfl))) (ty := .int) (by decide)
  refine own_go (U' := T17.setTop (mkF m 46 #[.val (.ref a0), .val (.int p1), .val (.int p2)] [(.ref b17), (.ref a0)])) (fun _ k => st17 _ k) ?_
  refine own_go (U' := T17.setTop (mkF m 47 #[.val (.ref a0), .val (.int p1), .val (.int p2)] [(.ref b17), (.ref b17), (.ref a0)])) (fun _ k => XS.dup X17.here hx rfl (hb hby d1_46) rfl rfl k) ?_
  refine own_go (U' := T17.setTop (mkF m 48 #[.val (.ref a0), .val (.int p1), .val (.int p2)] [(.int p1), (.ref b17), (.ref b17), (.ref a0)])) (fun _ k => XS.iloadN X17.here hx rfl (hb hby d1_47) rfl k) ?_
  obtain ⟨_, _, ⟨T18, L18, k18, n18⟩, -, X18, ⟨Lc18, hQ18, l18, y18, z18⟩, st18⟩ := X17.specialBack hx (y := (⟨"com/example/grantsmith/grantsmith/HeaderFields", "<init>", "(I)V"⟩ : MethodName)) rfl hown (mvT hZ (hw _ (List.mem_of_getElem? (i := 28) rfl))) (mvT hZ (hw _ (List.mem_of_getElem? (i := 29) rfl))) (mvT hZ (hw _ (List.mem_of_getElem? (i := 30) rfl))) (by decide) (backOf (W := 2) (rm3 l Z aw hw [] b17 p1 h17 n0 Z17 A17 F17_33 F17_35 (by first | assumption | decide)) hZ (hw _ (List.mem_of_getElem? (i := 30) rfl)) (hw _ (List.mem_of_getElem? (i := 27) rfl)) (by decide) (by decide)) (g := (mkF m 48 #[.val (.ref a0), .val (.int p1), .val (.int p2)] [(.int p1), (.ref b17), (.ref b17), (.ref a0)])) rfl (by rw [hml]; rfl) (Steps.refl _) (a := b17) (argsL := [(.int p1)]) (rest := [(.ref b17), (.ref a0)]) (lenOf own_pd0 rfl) rfl (by show 2 * 0 + _ ≤ _; exact Nat.le_of_eq rfl) (hb hby d1_48) (fun _ _ => ⟨rfl, e17, (by decide : 3 + 1 ≤ _), (by decide : 259 + 256 ≤ _)⟩)
  dsimp only [Pt.U, Pt.locs, Pt.cells, Pt.slots] at X18 l18 y18 z18 st18 hQ18
  subst l18 y18 z18
  obtain ⟨rfl, N18q, K18q, xE18, bb18, kk18, sb18, xF18, xV18⟩ := hQ18
  have N18 := Fr.app N16 N18q
  have ne_a0_bb18 : a0 ≠ bb18 := Nat.ne_of_lt (Nat.lt_of_lt_of_le c17_0.lt sb18)
  have ne_b10_bb18 : b10 ≠ bb18 := Nat.ne_of_lt (Nat.lt_of_lt_of_le c17_11.lt sb18)
  have ne_b12_bb18 : b12 ≠ bb18 := Nat.ne_of_lt (Nat.lt_of_lt_of_le c17_12.lt sb18)
  have ne_b17_bb18 : b17 ≠ bb18 := Nat.ne_of_lt (Nat.lt_of_lt_of_le A17.lt sb18)
  have g_bb18 : n0 ≤ bb18 := Nat.le_trans Z17 sb18
  have sz_bb18 : h0.size ≤ bb18 := Nat.le_trans K17.1 sb18
  have c18_0 : Exa Z T18.heap a0 "com/example/grantsmith/grantsmith/RequestParser" := c17_0.keep K18q
  have c18_2 : Fld Z T18.heap a0 "com/example/grantsmith/grantsmith/RequestParser" "state" "Lcom/example/grantsmith/grantsmith/RequestParser$State;" (.ref wq) := c17_2.keep K18q (ninS ne_a0_b17 nin0)
  have c18_3 : Fld Z T18.heap a0 "com/example/grantsmith/grantsmith/RequestParser" "line" "[B" (.ref b10) := c17_3.keep K18q (ninS ne_a0_b17 nin0)
  have c18_4 : Fld Z T18.heap a0 "com/example/grantsmith/grantsmith/RequestParser" "body" "[B" (.ref b12) := c17_4.keep K18q (ninS ne_a0_b17 nin0)
  have c18_5 : Fld Z T18.heap a0 "com/example/grantsmith/grantsmith/RequestParser" "maxHeadBytes" "I" (.int p1) := c17_5.keep K18q (ninS ne_a0_b17 nin0)
  have c18_6 : Fld Z T18.heap a0 "com/example/grantsmith/grantsmith/RequestParser" "maxBodyBytes" "I" (.int p2) := c17_6.keep K18q (ninS ne_a0_b17 nin0)
  have c18_7 : Fld Z T18.heap a0 "com/example/grantsmith/grantsmith/RequestParser" "lineBudget" "I" (.int p1) := c17_7.keep K18q (ninS ne_a0_b17 nin0)
  have c18_8 : Fld Z T18.heap a0 "com/example/grantsmith/grantsmith/RequestParser" "headers" "Lcom/example/grantsmith/grantsmith/HeaderFields;" .null := c17_8.keep K18q (ninS ne_a0_b17 nin0)
  have c18_9 : Fld Z T18.heap a0 "com/example/grantsmith/grantsmith/RequestParser" "requestLineBytes" "I" (.int (0 : Int32)) := c17_9.keep K18q (ninS ne_a0_b17 nin0)
  have c18_10 : Fld Z T18.heap a0 "com/example/grantsmith/grantsmith/RequestParser" "request" "Lcom/example/grantsmith/grantsmith/Request;" .null := c17_10.keep K18q (ninS ne_a0_b17 nin0)
  have c18_11 : Arv Z T18.heap b10 k10 .byte (256 : Int32) [] (defaultValue .byte) := c17_11.keep K18q (ninS ne_b10_b17 nin0)
  have c18_12 : Arv Z T18.heap b12 k12 .byte (0 : Int32) [] (defaultValue .byte) := c17_12.keep K18q (ninS ne_b12_b17 nin0)
  have c18_13 : Exa Z T18.heap b17 "com/example/grantsmith/grantsmith/HeaderFields" := A17.keep K18q
  have Z18 : n0 ≤ T18.heap.size := Nat.le_trans Z17 K18q.1
  have K18 := Keep.trans K17 K18q (allS (Or.inr sz_b17) all0)
  refine own_go (U' := T18.setTop (mkF m 51 #[.val (.ref a0), .val (.int p1), .val (.int p2)] [(.ref b17), (.ref a0)])) (fun _ k => st18.trans k) ?_
  obtain ⟨T19, h19, X19, e19, W19, st19⟩ := putF X18 hx hZ hown (host := "") (Or.inl (hw _ (List.mem_of_getElem? (i := 36) rfl))) Via.refl rfl c18_8 c18_0 (Or.inr ⟨(hw _ (List.mem_of_getElem? (i := 37) rfl)), rfl, hnm⟩) (hw _ (List.mem_of_getElem? (i := 1) rfl)) (ty := (.object "com/example/grantsmith/grantsmith/HeaderFields")) (by decide) rfl rfl (g := (mkF m 51 #[.val (.ref a0), .val (.int p1), .val (.int p2)] [(.ref b17), (.ref a0)])) rfl rfl (hb hby d1_51)
  have c19_0 : Exa Z h19 a0 "com/example/grantsmith/grantsmith/RequestParser" := c18_0.wr W19
  have c19_1 : Fld Z h19 a0 "com/example/grantsmith/grantsmith/RequestParser" "state" "Lcom/example/grantsmith/grantsmith/RequestParser$State;" (.ref wq) := c18_2.other W19 (Or.inr (slot_ne (Or.inl (hw _ (List.mem_of_getElem? (i := 13) rfl))) (Or.inr (hw _ (List.mem_of_getElem? (i := 37) rfl))) (by decide) (t := (.object "com/example/grantsmith/grantsmith/RequestParser$State")) (t' := (.object "com/example/grantsmith/grantsmith/HeaderFields")) (by decide) (by decide)))
  have c19_2 : Fld Z h19 a0 "com/example/grantsmith/grantsmith/RequestParser" "line" "[B" (.ref b10) := c18_3.other W19 (Or.inr (slot_ne (Or.inl (hw _ (List.mem_of_getElem? (i := 16) rfl))) (Or.inr (hw _ (List.mem_of_getElem? (i := 37) rfl))) (by decide) (t := (.array .byte)) (t' := (.object "com/example/grantsmith/grantsmith/HeaderFields")) (by decide) (by decide)))
  have c19_3 : Fld Z h19 a0 "com/example/grantsmith/grantsmith/RequestParser" "body" "[B" (.ref b12) := c18_4.other W19 (Or.inr (slot_ne (Or.inl (hw _ (List.mem_of_getElem? (i := 18) rfl))) (Or.inr (hw _ (List.mem_of_getElem? (i := 37) rfl))) (by decide) (t := (.array .byte)) (t' := (.object "com/example/grantsmith/grantsmith/HeaderFields")) (by decide) (by decide)))
  have c19_4 : Fld Z h19 a0 "com/example/grantsmith/grantsmith/RequestParser" "maxHeadBytes" "I" (.int p1) := c18_5.other W19 (Or.inr (slot_ne (Or.inr (hw _ (List.mem_of_getElem? (i := 20) rfl))) (Or.inr (hw _ (List.mem_of_getElem? (i := 37) rfl))) (by decide) (t := .int) (t' := (.object "com/example/grantsmith/grantsmith/HeaderFields")) (by decide) (by decide)))
  have c19_5 : Fld Z h19 a0 "com/example/grantsmith/grantsmith/RequestParser" "maxBodyBytes" "I" (.int p2) := c18_6.other W19 (Or.inr (slot_ne (Or.inr (hw _ (List.mem_of_getElem? (i := 22) rfl))) (Or.inr (hw _ (List.mem_of_getElem? (i := 37) rfl))) (by decide) (t := .int) (t' := (.object "com/example/grantsmith/grantsmith/HeaderFields")) (by decide) (by decide)))
  have c19_6 : Fld Z h19 a0 "com/example/grantsmith/grantsmith/RequestParser" "lineBudget" "I" (.int p1) := c18_7.other W19 (Or.inr (slot_ne (Or.inl (hw _ (List.mem_of_getElem? (i := 24) rfl))) (Or.inr (hw _ (List.mem_of_getElem? (i := 37) rfl))) (by decide) (t := .int) (t' := (.object "com/example/grantsmith/grantsmith/HeaderFields")) (by decide) (by decide)))
  have c19_8 : Fld Z h19 a0 "com/example/grantsmith/grantsmith/RequestParser" "requestLineBytes" "I" (.int (0 : Int32)) := c18_9.other W19 (Or.inr (slot_ne (Or.inl (hw _ (List.mem_of_getElem? (i := 44) rfl))) (Or.inr (hw _ (List.mem_of_getElem? (i := 37) rfl))) (by decide) (t := .int) (t' := (.object "com/example/grantsmith/grantsmith/HeaderFields")) (by decide) (by decide)))
  have c19_9 : Fld Z h19 a0 "com/example/grantsmith/grantsmith/RequestParser" "request" "Lcom/example/grantsmith/grantsmith/Request;" .null := c18_10.other W19 (Or.inr (slot_ne (Or.inl (hw _ (List.mem_of_getElem? (i := 51) rfl))) (Or.inr (hw _ (List.mem_of_getElem? (i := 37) rfl))) (by decide) (t := (.object "com/example/grantsmith/grantsmith/Request")) (t' := (.object "com/example/grantsmith/grantsmith/HeaderFields")) (by decide) (by decide)))
  have c19_10 : Arv Z h19 b10 k10 .byte (256 : Int32) [] (defaultValue .byte) := c18_11.other W19 (Ne.symm ne_a0_b10)
  have c19_11 : Arv Z h19 b12 k12 .byte (0 : Int32) [] (defaultValue .byte) := c18_12.other W19 (Ne.symm ne_a0_b12)
  have c19_12 : Exa Z h19 b17 "com/example/grantsmith/grantsmith/HeaderFields" := xE18.wr W19
  have c19_13 : Fld Z h19 b17 "com/example/grantsmith/grantsmith/HeaderFields" "fields" "[B" (.ref bb18) := xF18.other W19 (Or.inl (Ne.symm ne_a0_b17))
  have c19_14 : Arv Z h19 bb18 kk18 .byte (256 : Int32) [] (defaultValue .byte) := xV18.other W19 (Ne.symm ne_a0_bb18)
  have w19 : Fld Z h19 a0 "com/example/grantsmith/grantsmith/RequestParser" "headers" "Lcom/example/grantsmith/grantsmith/HeaderFields;" (.ref b17) := c18_8.same W19
  have Z19 : n0 ≤ h19.size := Nat.le_trans Z18 (Keep.of_wr W19).1
  have K19 := Keep.wr K18 W19 (Or.inl (by simp))
  have N19 := Fr.snoc X19 N18 g_a0
  refine own_go (U' := T19.setTop (mkF m 54 #[.val (.ref a0), .val (.int p1), .val (.int p2)] [])) (fun _ k => st19 _ k) ?_
  refine own_ret X19 (v := none) hlk (fun _ => rfl) (by decide) (by decide) (fun fs hr => X19.returnOut hx Bd.returns (hb hby d1_54) hr) ?_
  show (Q1 Z a0 p1 p2 wq h0 n0) _ T19.heap _
  rw [e19]
  exact ⟨rfl, N19, K19, c19_0, ⟨_, _, _, _, _, _, _, c19_2, c19_10, c19_3, c19_11, c19_8, w19, c19_12, c19_13, c19_14, c19_9⟩⟩
theorem d4_0 : decode prog_7_method_3_code 0 = .ok (.aload_n 0, 1) := by decide +kernel
theorem d4_1 : decode prog_7_method_3_code 1 = .ok (.getfield 18, 3) := by decide +kernel
theorem d4_4 : decode prog_7_method_3_code 4 = .ok (.arraylength, 1) := by decide +kernel
theorem d4_5 : decode prog_7_method_3_code 5 = .ok (.aload_n 0, 1) := by decide +kernel
theorem d4_6 : decode prog_7_method_3_code 6 = .ok (.getfield 22, 3) := by decide +kernel
theorem d4_9 : decode prog_7_method_3_code 9 = .ok (.arraylength, 1) := by decide +kernel
theorem d4_10 : decode prog_7_method_3_code 10 = .ok (.iadd, 1) := by decide +kernel
theorem d4_11 : decode prog_7_method_3_code 11 = .ok (.aload_n 0, 1) := by decide +kernel
theorem d4_12 : decode prog_7_method_3_code 12 = .ok (.getfield 108, 3) := by decide +kernel
theorem d4_15 : decode prog_7_method_3_code 15 = .ok (.iadd, 1) := by decide +kernel
theorem d4_16 : decode prog_7_method_3_code 16 = .ok (.i2l, 1) := by decide +kernel
theorem d4_17 : decode prog_7_method_3_code 17 = .ok (.aload_n 0, 1) := by decide +kernel
theorem d4_18 : decode prog_7_method_3_code 18 = .ok (.getfield 40, 3) := by decide +kernel
theorem d4_21 : decode prog_7_method_3_code 21 = .ok (.invokevirtual 111, 3) := by decide +kernel
theorem own_pd1 : parseMethodDescriptor "()J" = some ⟨[], some .long⟩ := by decide +kernel
theorem d4_24 : decode prog_7_method_3_code 24 = .ok (.ladd, 1) := by decide +kernel
theorem d4_25 : decode prog_7_method_3_code 25 = .ok (.lstore_n 1, 1) := by decide +kernel
theorem d4_26 : decode prog_7_method_3_code 26 = .ok (.aload_n 0, 1) := by decide +kernel
theorem d4_27 : decode prog_7_method_3_code 27 = .ok (.getfield 74, 3) := by decide +kernel
theorem d4_30 : decode prog_7_method_3_code 30 = .ok (.ifnonnull 7, 3) := by decide +kernel
theorem d4_33 : decode prog_7_method_3_code 33 = .ok (.lload_n 1, 1) := by decide +kernel
theorem d4_34 : decode prog_7_method_3_code 34 = .ok (.goto 14, 3) := by decide +kernel
theorem d4_48 : decode prog_7_method_3_code 48 = .ok (.lreturn, 1) := by decide +kernel
theorem own_ef4 (m : MethodId) (x0 : Addr) : entryFrame m #[(.ref x0)] 3 = mkF m 0 #[.val (.ref x0), .unset, .unset] [] := by first | (simp [entryFrame, mkF, argsToLocals, Value.category]; done) | rfl
def f_4 (a0 : Addr) (x1 : Addr) (k1 : ClassId) (x2 : Addr) (k2 : ClassId) (x3 : Addr) (x4 : Addr) (k4 : ClassId) : Int64 := (((256 : Int32).toInt64) + (f_5 x3 x4 k4))
def Q4 (Z : State) (a0 : Addr) (x1 : Addr) (k1 : ClassId) (x2 : Addr) (k2 : ClassId) (x3 : Addr) (x4 : Addr) (k4 : ClassId) (h0 : Heap) (n0 : Nat) (v : Option Value) (h : Heap) (L : List Loc) : Prop := v = some (.long (f_4 a0 x1 k1 x2 k2 x3 x4 k4)) ∧ Fr n0 L ∧ h = h0
set_option maxRecDepth 65536 in
set_option maxHeartbeats 40000000 in
theorem rm4 (l : Launch) (Z : State) (aw : Array Value) (hw : ∀ d ∈ tables_1, d.before aw Z = true) (ws : List Jvm.Cond) (a0 : Addr) (x1 : Addr) (k1 : ClassId) (x2 : Addr) (k2 : ClassId) (x3 : Addr) (x4 : Addr) (k4 : ClassId) (h0 : Heap) (n0 : Nat) (Z0 : n0 ≤ h0.size) (P_0 : Fld Z h0 a0 "com/example/grantsmith/grantsmith/RequestParser" "line" "[B" (.ref x1)) (P_1 : Arv Z h0 x1 k1 .byte (256 : Int32) [] (defaultValue .byte)) (P_2 : Fld Z h0 a0 "com/example/grantsmith/grantsmith/RequestParser" "body" "[B" (.ref x2)) (P_3 : Arv Z h0 x2 k2 .byte (0 : Int32) [] (defaultValue .byte)) (P_4 : Fld Z h0 a0 "com/example/grantsmith/grantsmith/RequestParser" "requestLineBytes" "I" (.int (0 : Int32))) (P_5 : Fld Z h0 a0 "com/example/grantsmith/grantsmith/RequestParser" "headers" "Lcom/example/grantsmith/grantsmith/HeaderFields;" (.ref x3)) (P_6 : Exa Z h0 x3 "com/example/grantsmith/grantsmith/HeaderFields") (P_7 : Fld Z h0 x3 "com/example/grantsmith/grantsmith/HeaderFields" "fields" "[B" (.ref x4)) (P_8 : Arv Z h0 x4 k4 .byte (256 : Int32) [] (defaultValue .byte)) (P_9 : Fld Z h0 a0 "com/example/grantsmith/grantsmith/RequestParser" "request" "Lcom/example/grantsmith/grantsmith/Request;" .null) :
    MetFree l (⟨"com/example/grantsmith/grantsmith/RequestParser", "heldBytes", "()J"⟩ : MethodName) (head1 (Jvm.Cond.code (⟨"com/example/grantsmith/grantsmith/RequestParser", "heldBytes", "()J"⟩ : MethodName) prog_7_method_3_code 3 (some .long) :: ws) ({ frames := 1, cells := 0, slots := 0, locals := 14 } : Room)) (fun a U => a = #[(.ref a0)] ∧ Z.Warmed39 U.vm ∧ U.heap = h0) (fun _ _ _ _ _ => True) (fun _ U o U' => ∃ v L, o = .returned v ∧ (Q4 Z a0 x1 k1 x2 k2 x3 x4 k4 h0 n0) v U'.heap L ∧ FrameEnd U o U' L ({ frames := 1, cells := 0, slots := 0, locals := 14 } : Room).cells ({ frames := 1, cells := 0, slots := 0, locals := 14 } : Room).slots) := by
  refine MetFree.of_bodySF (plainFor_of_name own_pn1) hisR ?_
  intro p e s m args below meth c s₁ Bd hml0 hP hK
  obtain ⟨rfl, hZ, hh⟩ := hP
  have hx := Bd.exec
  have hby := Bd.bytes
  have hml : c.maxLocals = 3 := hml0
  have hown : s.vm.findClass "com/example/grantsmith/grantsmith/RequestParser" = some m.cls := findClass_of_methodNamed Bd.named
  have hnm := (name_of_methodNamed Bd.named Bd.method).1
  have hlk : meth.locks = false := BodyLoose.notSynchronized (by assumption)
  have X0 : Stand p l e ({ frames := 1, cells := 0, slots := 0, locals := 14 } : Room) s m #[(.ref a0)] below meth c s₁ [] 0 0 := Stand.of_body Bd
  have e0 : s₁.heap = h0 := by rw [← hh, Bd.state]; rfl
  have N0 := Fr.nil n0
  show own_Done p e below s (Q4 Z a0 x1 k1 x2 k2 x3 x4 k4 h0 n0) ({ frames := 1, cells := 0, slots := 0, locals := 14 } : Room).cells ({ frames := 1, cells := 0, slots := 0, locals := 14 } : Room).slots (s₁.setTop (entryFrame m #[(.ref a0)] 3))
  refine own_go (U' := s₁.setTop (mkF m 0 #[.val (.ref a0), .unset, .unset] [])) (fun _ k => castTop (own_ef4 m a0) k) ?_
  refine own_go (U' := s₁.setTop (mkF m 1 #[.val (.ref a0), .unset, .unset] [(.ref a0)])) (fun _ k => XS.aloadN X0.here hx rfl (hb hby d4_0) rfl rfl k) ?_
  obtain ⟨T20, X20, e20, st20⟩ := getF X0 hx hZ hown (host := "") (Or.inl (hw _ (List.mem_of_getElem? (i := 15) rfl))) Via.refl e0 P_0 (g := (mkF m 1 #[.val (.ref a0), .unset, .unset] [(.ref a0)])) rfl rfl (hb hby d4_1)
  refine own_go (U' := T20.setTop (mkF m 4 #[.val (.ref a0), .unset, .unset] [(.ref x1)])) (fun _ k => st20 _ k) ?_
  have V21 := P_1
  obtain ⟨cl21, Ar21, q21, S21, Ng21, Hh21, G21⟩ := V21
  have hl21 := len_of S21 Ng21
  refine own_go (U' := T20.setTop (mkF m 5 #[.val (.ref a0), .unset, .unset] [(.int (256 : Int32))])) (fun _ k => X20.arraylength hx (by rw [e20]; exact Ar21.1) (State.isArrayOf_alike hZ.alike Ar21.2.1) (g := (mkF m 4 #[.val (.ref a0), .unset, .unset] [(.ref x1)])) rfl rfl (hb hby d4_4) _ (by rw [hl21]; exact k)) ?_
  refine own_go (U' := T20.setTop (mkF m 6 #[.val (.ref a0), .unset, .unset] [(.ref a0), (.int (256 : Int32))])) (fun _ k => XS.aloadN X20.here hx rfl (hb hby d4_5) rfl rfl k) ?_
  obtain ⟨T22, X22, e22, st22⟩ := getF X20 hx hZ hown (host := "") (Or.inl (hw _ (List.mem_of_getElem? (i := 17) rfl))) Via.refl e20 P_2 (g := (mkF m 6 #[.val (.ref a0), .unset, .unset] [(.ref a0), (.int (256 : Int32))])) rfl rfl (hb hby d4_6)
  refine own_go (U' := T22.setTop (mkF m 9 #[.val (.ref a0), .unset, .unset] [(.ref x2), (.int (256 : Int32))])) (fun _ k => st22 _ k) ?_
  have V23 := P_3
  obtain ⟨cl23, Ar23, q23, S23, Ng23, Hh23, G23⟩ := V23
  have hl23 := len_of S23 Ng23
  refine own_go (U' := T22.setTop (mkF m 10 #[.val (.ref a0), .unset, .unset] [(.int (0 : Int32)), (.int (256 : Int32))])) (fun _ k => X22.arraylength hx (by rw [e22]; exact Ar23.1) (State.isArrayOf_alike hZ.alike Ar23.2.1) (g := (mkF m 9 #[.val (.ref a0), .unset, .unset] [(.ref x2), (.int (256 : Int32))])) rfl rfl (hb hby d4_9) _ (by rw [hl23]; exact k)) ?_
  refine own_go (U' := T22.setTop (mkF m 11 #[.val (.ref a0), .unset, .unset] [(.int (256 : Int32))])) (fun _ k => XS.iadd X22.here hx rfl (hb hby d4_10) rfl k) ?_
  refine own_go (U' := T22.setTop (mkF m 12 #[.val (.ref a0), .unset, .unset] [(.ref a0), (.int (256 : Int32))])) (fun _ k => XS.aloadN X22.here hx rfl (hb hby d4_11) rfl rfl k) ?_
  obtain ⟨T24, X24, e24, st24⟩ := getF X22 hx hZ hown (host := "") (Or.inl (hw _ (List.mem_of_getElem? (i := 43) rfl))) Via.refl e22 P_4 (g := (mkF m 12 #[.val (.ref a0), .unset, .unset] [(.ref a0), (.int (256 : Int32))])) rfl rfl (hb hby d4_12)
  refine own_go (U' := T24.setTop (mkF m 15 #[.val (.ref a0), .unset, .unset] [(.int (0 : Int32)), (.int (256 : Int32))])) (fun _ k => st24 _ k) ?_
  refine own_go (U' := T24.setTop (mkF m 16 #[.val (.ref a0), .unset, .unset] [(.int (256 : Int32))])) (fun _ k => XS.iadd X24.here hx rfl (hb hby d4_15) rfl k) ?_
  refine own_go (U' := T24.setTop (mkF m 17 #[.val (.ref a0), .unset, .unset] [(.long ((256 : Int32).toInt64))])) (fun _ k => XS.i2l X24.here hx rfl (hb hby d4_16) rfl k) ?_
  refine own_go (U' := T24.setTop (mkF m 18 #[.val (.ref a0), .unset, .unset] [(.ref a0), (.long ((256 : Int32).toInt64))])) (fun _ k => XS.aloadN X24.here hx rfl (hb hby d4_17) rfl rfl k) ?_
  obtain ⟨T25, X25, e25, st25⟩ := getF X24 hx hZ hown (host := "") (Or.inl (hw _ (List.mem_of_getElem? (i := 36) rfl))) Via.refl e24 P_5 (g := (mkF m 18 #[.val (.ref a0), .unset, .unset] [(.ref a0), (.long ((256 : Int32).toInt64))])) rfl rfl (hb hby d4_18)
  refine own_go (U' := T25.setTop (mkF m 21 #[.val (.ref a0), .unset, .unset] [(.ref x3), (.long ((256 : Int32).toInt64))])) (fun _ k => st25 _ k) ?_
  obtain ⟨cq26, kq26, q26a, q26b, q26c⟩ := isOf hZ e25 P_6
  obtain ⟨_, _, ⟨T26, L26, k26, n26⟩, -, X26, ⟨Lc26, hQ26, l26, y26, z26⟩, st26⟩ := X25.virtualBack hx (y := (⟨"com/example/grantsmith/grantsmith/HeaderFields", "heldBytes", "()J"⟩ : MethodName)) (z := (⟨"com/example/grantsmith/grantsmith/HeaderFields", "heldBytes", "()J"⟩ : MethodName)) hown (mvT hZ (hw _ (List.mem_of_getElem? (i := 45) rfl))) (mvT hZ (hw _ (List.mem_of_getElem? (i := 46) rfl))) (notFace_of_selects (args := #[]) (mvT hZ (hw _ (List.mem_of_getElem? (i := 48) rfl)))) (mvT hZ (hw _ (List.mem_of_getElem? (i := 48) rfl))) (mvT hZ (hw _ (List.mem_of_getElem? (i := 47) rfl))) (by decide) (backOf (W := 2) (rm5 l Z aw hw [] x3 x4 k4 h0 n0 Z0 P_7 P_8) hZ (hw _ (List.mem_of_getElem? (i := 49) rfl)) (hw _ (List.mem_of_getElem? (i := 27) rfl)) (by decide) (by decide)) q26a q26c (g := (mkF m 21 #[.val (.ref a0), .unset, .unset] [(.ref x3), (.long ((256 : Int32).toInt64))])) rfl (by rw [hml]; rfl) (Steps.refl _) (argsL := []) (rest := [(.long ((256 : Int32).toInt64))]) (lenOf own_pd1 rfl) rfl (by show 2 * 0 + _ ≤ _; exact Nat.le_of_eq rfl) (hb hby d4_21) (fun _ _ => ⟨rfl, e25, (by decide : 0 + 0 ≤ _), (by decide : 0 + 0 ≤ _)⟩)
  dsimp only [Pt.U, Pt.locs, Pt.cells, Pt.slots] at X26 l26 y26 z26 st26 hQ26
  subst l26 y26 z26
  obtain ⟨rfl, N26q, e26⟩ := hQ26
  have N26 := Fr.app N0 N26q
  refine own_go (U' := T26.setTop (mkF m 24 #[.val (.ref a0), .unset, .unset] [(.long (f_5 x3 x4 k4)), (.long ((256 : Int32).toInt64))])) (fun _ k => st26.trans k) ?_
  refine own_go (U' := T26.setTop (mkF m 25 #[.val (.ref a0), .unset, .unset] [(.long (((256 : Int32).toInt64) + (f_5 x3 x4 k4)))])) (fun _ k => XS.ladd X26.here hx rfl (hb hby d4_24) rfl k) ?_
  refine own_go (U' := T26.setTop (mkF m 26 #[.val (.ref a0), .val (.long (((256 : Int32).toInt64) + (f_5 x3 x4 k4))), .second] [])) (fun _ k => XS.lstoreN X26.here hx rfl (hb hby d4_25) rfl (l' := #[.val (.ref a0), .val (.long (((256 : Int32).toInt64) + (f_5 x3 x4 k4))), .second]) rfl k) ?_
  refine own_go (U' := T26.setTop (mkF m 27 #[.val (.ref a0), .val (.long (((256 : Int32).toInt64) + (f_5 x3 x4 k4))), .second] [(.ref a0)])) (fun _ k => XS.aloadN X26.here hx rfl (hb hby d4_26) rfl rfl k) ?_
  obtain ⟨T27, X27, e27, st27⟩ := getF X26 hx hZ hown (host := "") (Or.inl (hw _ (List.mem_of_getElem? (i := 50) rfl))) Via.refl e26 P_9 (g := (mkF m 27 #[.val (.ref a0), .val (.long (((256 : Int32).toInt64) + (f_5 x3 x4 k4))), .second] [(.ref a0)])) rfl rfl (hb hby d4_27)
  refine own_go (U' := T27.setTop (mkF m 30 #[.val (.ref a0), .val (.long (((256 : Int32).toInt64) + (f_5 x3 x4 k4))), .second] [.null])) (fun _ k => st27 _ k) ?_
  refine own_go (U' := T27.setTop (mkF m 33 #[.val (.ref a0), .val (.long (((256 : Int32).toInt64) + (f_5 x3 x4 k4))), .second] [])) (fun _ k => XS.ifnonnullNo X27.here hx rfl (hb hby d4_30) rfl k) ?_
  refine own_go (U' := T27.setTop (mkF m 34 #[.val (.ref a0), .val (.long (((256 : Int32).toInt64) + (f_5 x3 x4 k4))), .second] [(.long (((256 : Int32).toInt64) + (f_5 x3 x4 k4)))])) (fun _ k => XS.lloadN X27.here hx rfl (hb hby d4_33) rfl k) ?_
  refine own_go (U' := T27.setTop (mkF m 48 #[.val (.ref a0), .val (.long (((256 : Int32).toInt64) + (f_5 x3 x4 k4))), .second] [(.long (((256 : Int32).toInt64) + (f_5 x3 x4 k4)))])) (fun _ k => XS.goto X27.here hx rfl (pc0 := 34) (pc' := 48) rfl (hb hby d4_34) (by decide) (by decide) k) ?_
  refine own_ret X27 (v := (some (.long (((256 : Int32).toInt64) + (f_5 x3 x4 k4))))) hlk (fun h => by rw [Bd.returns] at h; cases h) (by decide) (by decide) (fun fs hr => own_retJ X27 hx Bd.returns (hb hby d4_48) hr) ?_
  show (Q4 Z a0 x1 k1 x2 k2 x3 x4 k4 h0 n0) _ T27.heap _
  rw [e27]
  exact ⟨by first | (simp only [f_4]; done) | rfl | (simp [f_4]; done), N26, rfl⟩

theorem own_512 (a0 x1 : Addr) (k1 : ClassId) (x2 : Addr) (k2 : ClassId) (x3 x4 : Addr) (k4 : ClassId) : f_4 a0 x1 k1 x2 k2 x3 x4 k4 = 512 := by
  show (_ : Int64) = 512
  unfold f_4 f_5
  decide

theorem own_pd2 : parseMethodDescriptor "(II)V" = some ⟨[.int, .int], none⟩ := by decide +kernel
theorem own_pn2 : plainName "com/example/grantsmith/grantsmith/RequestParserHeldBytesPinLaw" = true := by first | (simp [plainName, overriddenIn]; done) | decide +kernel
theorem own_ef0 (m : MethodId) (x0 : Int32) (x1 : Int32) : entryFrame m #[(.int x0), (.int x1)] maxLocals = mkF m 0 #[.val (.int x0), .val (.int x1), .unset, .unset, .unset, .unset, .unset, .unset, .unset] [] := by first | (simp [entryFrame, mkF, argsToLocals, Value.category, maxLocals]; done) | rfl
def Q0 (Z : State) (p0 : Int32) (p1 : Int32) (wq : Addr) (h0 : Heap) (n0 : Nat) (v : Option Value) (h : Heap) (L : List Loc) : Prop := v = some (.int 1) ∧ Fr n0 L
set_option maxRecDepth 65536 in
set_option maxHeartbeats 40000000 in
theorem rm0 (l : Launch) (Z : State) (aw : Array Value) (hw : ∀ d ∈ tables_1, d.before aw Z = true) (ws : List Jvm.Cond) (p0 : Int32) (p1 : Int32) (wq : Addr) (h0 : Heap) (n0 : Nat) (Z0 : n0 ≤ h0.size) (S_q : Sta Z h0 "com/example/grantsmith/grantsmith/RequestParser$State" "REQUEST_LINE" "Lcom/example/grantsmith/grantsmith/RequestParser$State;" (.ref wq)) :
    MetFree l x (head1 (Jvm.Cond.code x code maxLocals ret :: ws) room_1) (fun a U => a = #[(.int p0), (.int p1)] ∧ Z.Warmed39 U.vm ∧ U.heap = h0) (fun _ _ _ _ _ => True) (fun _ U o U' => ∃ v L, o = .returned v ∧ (Q0 Z p0 p1 wq h0 n0) v U'.heap L ∧ FrameEnd U o U' L room_1.cells room_1.slots) := by
  refine MetFree.of_bodySF (plainFor_of_name own_pn2) hisR ?_
  intro p e s m args below meth c s₁ Bd hml0 hP hK
  obtain ⟨rfl, hZ, hh⟩ := hP
  have hx := Bd.exec
  have hby := Bd.bytes
  have hml : c.maxLocals = 9 := hml0
  have hown : s.vm.findClass "com/example/grantsmith/grantsmith/RequestParserHeldBytesPinLaw" = some m.cls := findClass_of_methodNamed Bd.named
  have hnm := (name_of_methodNamed Bd.named Bd.method).1
  have hlk : meth.locks = false := BodyLoose.notSynchronized (by assumption)
  have X0 : Stand p l e room_1 s m #[(.int p0), (.int p1)] below meth c s₁ [] 0 0 := Stand.of_body Bd
  have e0 : s₁.heap = h0 := by rw [← hh, Bd.state]; rfl
  have N0 := Fr.nil n0
  show own_Done p e below s (Q0 Z p0 p1 wq h0 n0) room_1.cells room_1.slots (s₁.setTop (entryFrame m #[(.int p0), (.int p1)] maxLocals))
  refine own_go (U' := s₁.setTop (mkF m 0 #[.val (.int p0), .val (.int p1), .unset, .unset, .unset, .unset, .unset, .unset, .unset] [])) (fun _ k => castTop (own_ef0 m p0 p1) k) ?_
  obtain ⟨T28, h28, X28, e28, E28, A28, D28, -, st28⟩ := newO X0 hx hZ hown (hw _ (List.mem_of_getElem? (i := 0) rfl)) (hw _ (List.mem_of_getElem? (i := 1) rfl)) (hw _ (List.mem_of_getElem? (i := 2) rfl)) e0 (g := (mkF m 0 #[.val (.int p0), .val (.int p1), .unset, .unset, .unset, .unset, .unset, .unset, .unset] [])) rfl (hb hby at_0) (by decide) (by decide)
  obtain ⟨b28, g28⟩ : ∃ z, z = h0.size := ⟨_, rfl⟩
  have g_b28 : n0 ≤ b28 := Nat.le_trans Z0 (Nat.le_of_eq g28.symm)
  have sz_b28 : h0.size ≤ b28 := Nat.le_trans (Keep.refl h0 []).1 (Nat.le_of_eq g28.symm)
  rw [← g28] at A28 D28 st28
  have c28_0 : Sta Z h28 "com/example/grantsmith/grantsmith/RequestParser$State" "REQUEST_LINE" "Lcom/example/grantsmith/grantsmith/RequestParser$State;" (.ref wq) := S_q.ext E28
  have Z28 : n0 ≤ h28.size := Nat.le_trans Z0 E28.1
  have K28 := Keep.ext (Keep.refl h0 []) E28
  have F28_13 : Fld Z h28 b28 "com/example/grantsmith/grantsmith/RequestParser" "state" "Lcom/example/grantsmith/grantsmith/RequestParser$State;" .null := D28 (Or.inl (hw _ (List.mem_of_getElem? (i := 13) rfl))) (ty := (.object "com/example/grantsmith/grantsmith/RequestParser$State")) (by decide)
  have F28_16 : Fld Z h28 b28 "com/example/grantsmith/grantsmith/RequestParser" "line" "[B" .null := D28 (Or.inl (hw _ (List.mem_of_getElem? (i := 16) rfl))) (ty := (.array .byte)) (by decide)
  have F28_18 : Fld Z h28 b28 "com/example/grantsmith/grantsmith/RequestParser" "body" "[B" .null := D28 (Or.inl (hw _ (List.mem_of_getElem? (i := 18) rfl))) (ty := (.array .byte)) (by decide)
  have F28_20 : Fld Z h28 b28 "com/example/grantsmith/grantsmith/RequestParser" "maxHeadBytes" "I" (.int (0 : Int32)) := D28 (Or.inr (hw _ (List.mem_of_getElem? (i := 20) rfl))) (ty := .int) (by decide)
  have F28_22 : Fld Z h28 b28 "com/example/grantsmith/grantsmith/RequestParser" "maxBodyBytes" "I" (.int (0 : Int32)) := D28 (Or.inr (hw _ (List.mem_of_getElem? (i := 22) rfl))) (ty := .int) (by decide)
  have F28_24 : Fld Z h28 b28 "com/example/grantsmith/grantsmith/RequestParser" "lineBudget" "I" (.int (0 : Int32)) := D28 (Or.inl (hw _ (List.mem_of_getElem? (i := 24) rfl))) (ty := .int) (by decide)
  have F28_37 : Fld Z h28 b28 "com/example/grantsmith/grantsmith/RequestParser" "headers" "Lcom/example/grantsmith/grantsmith/HeaderFields;" .null := D28 (Or.inr (hw _ (List.mem_of_getElem? (i := 37) rfl))) (ty := (.object "com/example/grantsmith/grantsmith/HeaderFields")) (by decide)
  have F28_44 : Fld Z h28 b28 "com/example/grantsmith/grantsmith/RequestParser" "requestLineBytes" "I" (.int (0 : Int32)) := D28 (Or.inl (hw _ (List.mem_of_getElem? (i := 44) rfl))) (ty := .int) (by decide)
  have F28_51 : Fld Z h28 b28 "com/example/grantsmith/grantsmith/RequestParser" "request" "Lcom/example/grantsmith/grantsmith/Request;" .null := D28 (Or.inl (hw _ (List.mem_of_getElem? (i := 51) rfl))) (ty := (.object "com/example/grantsmith/grantsmith/Request")) (by decide)
  refine own_go (U' := T28.setTop (mkF m 3 #[.val (.int p0), .val (.int p1), .unset, .unset, .unset, .unset, .unset, .unset, .unset] [(.ref b28)])) (fun _ k => st28 _ k) ?_
  refine own_go (U' := T28.setTop (mkF m 4 #[.val (.int p0), .val (.int p1), .unset, .unset, .unset, .unset, .unset, .unset, .unset] [(.ref b28), (.ref b28)])) (fun _ k => XS.dup X28.here hx rfl (hb hby at_3) rfl rfl k) ?_
  refine own_go (U' := T28.setTop (mkF m 5 #[.val (.int p0), .val (.int p1), .unset, .unset, .unset, .unset, .unset, .unset, .unset] [(.int p0), (.ref b28), (.ref b28)])) (fun _ k => XS.iloadN X28.here hx rfl (hb hby at_4) rfl k) ?_
  refine own_go (U' := T28.setTop (mkF m 6 #[.val (.int p0), .val (.int p1), .unset, .unset, .unset, .unset, .unset, .unset, .unset] [(.int p1), (.int p0), (.ref b28), (.ref b28)])) (fun _ k => XS.iloadN X28.here hx rfl (hb hby at_5) rfl k) ?_
  obtain ⟨_, _, ⟨T29, L29, k29, n29⟩, -, X29, ⟨Lc29, hQ29, l29, y29, z29⟩, st29⟩ := X28.specialBack hx (y := (⟨"com/example/grantsmith/grantsmith/RequestParser", "<init>", "(II)V"⟩ : MethodName)) rfl hown (mvT hZ (hw _ (List.mem_of_getElem? (i := 3) rfl))) (mvT hZ (hw _ (List.mem_of_getElem? (i := 4) rfl))) (mvT hZ (hw _ (List.mem_of_getElem? (i := 5) rfl))) (by decide) (backOf (W := 1) (rm1 l Z aw hw [] b28 p0 p1 wq h28 n0 Z28 A28 c28_0 F28_13 F28_16 F28_18 F28_20 F28_22 F28_24 F28_37 F28_44 F28_51 (by first | assumption | decide)) hZ (hw _ (List.mem_of_getElem? (i := 5) rfl)) (hw _ (List.mem_of_getElem? (i := 2) rfl)) (by decide) (by decide)) (g := (mkF m 6 #[.val (.int p0), .val (.int p1), .unset, .unset, .unset, .unset, .unset, .unset, .unset] [(.int p1), (.int p0), (.ref b28), (.ref b28)])) rfl (by rw [hml]; rfl) (Steps.refl _) (a := b28) (argsL := [(.int p0), (.int p1)]) (rest := [(.ref b28)]) (lenOf own_pd2 rfl) rfl (by show 2 * 0 + _ ≤ _; exact Nat.le_of_eq rfl) (hb hby at_6) (fun _ _ => ⟨rfl, e28, (by decide : 1 + 4 ≤ _), (by decide : 16 + 515 ≤ _)⟩)
  dsimp only [Pt.U, Pt.locs, Pt.cells, Pt.slots] at X29 l29 y29 z29 st29 hQ29
  subst l29 y29 z29
  obtain ⟨rfl, N29q, K29q, xE29, x1_29, k1_29, x2_29, k2_29, x3_29, x4_29, k4_29, o0_29, o1_29, o2_29, o3_29, o4_29, o5_29, o6_29, o7_29, o8_29, o9_29⟩ := hQ29
  have N29 := Fr.app N0 N29q
  have c29_1 : Exa Z T29.heap b28 "com/example/grantsmith/grantsmith/RequestParser" := A28.keep K29q
  have Z29 : n0 ≤ T29.heap.size := Nat.le_trans Z28 K29q.1
  have K29 := Keep.trans K28 K29q (allS (Or.inr sz_b28) all0)
  refine own_go (U' := T29.setTop (mkF m 9 #[.val (.int p0), .val (.int p1), .unset, .unset, .unset, .unset, .unset, .unset, .unset] [(.ref b28)])) (fun _ k => st29.trans k) ?_
  refine own_go (U' := T29.setTop (mkF m 10 #[.val (.int p0), .val (.int p1), .val (.ref b28), .unset, .unset, .unset, .unset, .unset, .unset] [])) (fun _ k => XS.astoreN X29.here hx rfl (hb hby at_9) rfl rfl (l' := #[.val (.int p0), .val (.int p1), .val (.ref b28), .unset, .unset, .unset, .unset, .unset, .unset]) rfl k) ?_
  refine own_go (U' := T29.setTop (mkF m 11 #[.val (.int p0), .val (.int p1), .val (.ref b28), .unset, .unset, .unset, .unset, .unset, .unset] [(.ref b28)])) (fun _ k => XS.aloadN X29.here hx rfl (hb hby at_10) rfl rfl k) ?_
  obtain ⟨cq30, kq30, q30a, q30b, q30c⟩ := isOf hZ rfl xE29
  obtain ⟨_, _, ⟨T30, L30, k30, n30⟩, -, X30, ⟨Lc30, hQ30, l30, y30, z30⟩, st30⟩ := X29.virtualBack hx (y := (⟨"com/example/grantsmith/grantsmith/RequestParser", "heldBytes", "()J"⟩ : MethodName)) (z := (⟨"com/example/grantsmith/grantsmith/RequestParser", "heldBytes", "()J"⟩ : MethodName)) hown (mvT hZ (hw _ (List.mem_of_getElem? (i := 38) rfl))) (mvT hZ (hw _ (List.mem_of_getElem? (i := 39) rfl))) (notFace_of_selects (args := #[]) (mvT hZ (hw _ (List.mem_of_getElem? (i := 41) rfl)))) (mvT hZ (hw _ (List.mem_of_getElem? (i := 41) rfl))) (mvT hZ (hw _ (List.mem_of_getElem? (i := 40) rfl))) (by decide) (backOf (W := 0) (rm4 l Z aw hw [] b28 x1_29 k1_29 x2_29 k2_29 x3_29 x4_29 k4_29 T29.heap n0 Z29 o0_29 o1_29 o2_29 o3_29 o4_29 o5_29 o6_29 o7_29 o8_29 o9_29) hZ (hw _ (List.mem_of_getElem? (i := 42) rfl)) (hw _ (List.mem_of_getElem? (i := 2) rfl)) (by decide) (by decide)) q30a q30c (g := (mkF m 11 #[.val (.int p0), .val (.int p1), .val (.ref b28), .unset, .unset, .unset, .unset, .unset, .unset] [(.ref b28)])) rfl (by rw [hml]; rfl) (Steps.refl _) (argsL := []) (rest := []) (lenOf own_pd1 rfl) rfl (by show 2 * 0 + _ ≤ _; exact Nat.le_of_eq rfl) (hb hby at_11) (fun _ _ => ⟨rfl, rfl, (by decide : 5 + 0 ≤ _), (by decide : 531 + 0 ≤ _)⟩)
  dsimp only [Pt.U, Pt.locs, Pt.cells, Pt.slots] at X30 l30 y30 z30 st30 hQ30
  subst l30 y30 z30
  obtain ⟨rfl, N30q, e30⟩ := hQ30
  have N30 := Fr.app N29 N30q
  refine own_go (U' := T30.setTop (mkF m 14 #[.val (.int p0), .val (.int p1), .val (.ref b28), .unset, .unset, .unset, .unset, .unset, .unset] [(.long (f_4 b28 x1_29 k1_29 x2_29 k2_29 x3_29 x4_29 k4_29))])) (fun _ k => st30.trans k) ?_
  generalize hy14 : (f_4 b28 x1_29 k1_29 x2_29 k2_29 x3_29 x4_29 k4_29) = y14
  refine own_go (U' := T30.setTop (mkF m 15 #[.val (.int p0), .val (.int p1), .val (.ref b28), .val (.long y14), .second, .unset, .unset, .unset, .unset] [])) (fun _ k => XS.lstoreN X30.here hx rfl (hb hby at_14) rfl (l' := #[.val (.int p0), .val (.int p1), .val (.ref b28), .val (.long y14), .second, .unset, .unset, .unset, .unset]) rfl k) ?_
  refine own_go (U' := T30.setTop (mkF m 16 #[.val (.int p0), .val (.int p1), .val (.ref b28), .val (.long y14), .second, .unset, .unset, .unset, .unset] [(.ref b28)])) (fun _ k => XS.aloadN X30.here hx rfl (hb hby at_15) rfl rfl k) ?_
  obtain ⟨cq31, kq31, q31a, q31b, q31c⟩ := isOf hZ e30 xE29
  obtain ⟨_, _, ⟨T31, L31, k31, n31⟩, -, X31, ⟨Lc31, hQ31, l31, y31, z31⟩, st31⟩ := X30.virtualBack hx (y := (⟨"com/example/grantsmith/grantsmith/RequestParser", "heldBytes", "()J"⟩ : MethodName)) (z := (⟨"com/example/grantsmith/grantsmith/RequestParser", "heldBytes", "()J"⟩ : MethodName)) hown (mvT hZ (hw _ (List.mem_of_getElem? (i := 38) rfl))) (mvT hZ (hw _ (List.mem_of_getElem? (i := 39) rfl))) (notFace_of_selects (args := #[]) (mvT hZ (hw _ (List.mem_of_getElem? (i := 41) rfl)))) (mvT hZ (hw _ (List.mem_of_getElem? (i := 41) rfl))) (mvT hZ (hw _ (List.mem_of_getElem? (i := 40) rfl))) (by decide) (backOf (W := 0) (rm4 l Z aw hw [] b28 x1_29 k1_29 x2_29 k2_29 x3_29 x4_29 k4_29 T29.heap n0 Z29 o0_29 o1_29 o2_29 o3_29 o4_29 o5_29 o6_29 o7_29 o8_29 o9_29) hZ (hw _ (List.mem_of_getElem? (i := 42) rfl)) (hw _ (List.mem_of_getElem? (i := 2) rfl)) (by decide) (by decide)) q31a q31c (g := (mkF m 16 #[.val (.int p0), .val (.int p1), .val (.ref b28), .val (.long y14), .second, .unset, .unset, .unset, .unset] [(.ref b28)])) rfl (by rw [hml]; rfl) (Steps.refl _) (argsL := []) (rest := []) (lenOf own_pd1 rfl) rfl (by show 2 * 0 + _ ≤ _; exact Nat.le_of_eq rfl) (hb hby at_16) (fun _ _ => ⟨rfl, e30, (by decide : 5 + 0 ≤ _), (by decide : 531 + 0 ≤ _)⟩)
  dsimp only [Pt.U, Pt.locs, Pt.cells, Pt.slots] at X31 l31 y31 z31 st31 hQ31
  subst l31 y31 z31
  obtain ⟨rfl, N31q, e31⟩ := hQ31
  have N31 := Fr.app N30 N31q
  refine own_go (U' := T31.setTop (mkF m 19 #[.val (.int p0), .val (.int p1), .val (.ref b28), .val (.long y14), .second, .unset, .unset, .unset, .unset] [(.long (f_4 b28 x1_29 k1_29 x2_29 k2_29 x3_29 x4_29 k4_29))])) (fun _ k => st31.trans k) ?_
  generalize hy19 : (f_4 b28 x1_29 k1_29 x2_29 k2_29 x3_29 x4_29 k4_29) = y19
  refine own_go (U' := T31.setTop (mkF m 21 #[.val (.int p0), .val (.int p1), .val (.ref b28), .val (.long y14), .second, .val (.long y19), .second, .unset, .unset] [])) (fun _ k => XS.lstore X31.here hx rfl (hb hby at_19) rfl (l' := #[.val (.int p0), .val (.int p1), .val (.ref b28), .val (.long y14), .second, .val (.long y19), .second, .unset, .unset]) rfl k) ?_
  refine own_go (U' := T31.setTop (mkF m 24 #[.val (.int p0), .val (.int p1), .val (.ref b28), .val (.long y14), .second, .val (.long y19), .second, .unset, .unset] [(.long (512 : Int64))])) (fun _ k => X31.ldc2Long hx hown (mvT hZ (hw _ (List.mem_of_getElem? (i := 52) rfl))) (g := (mkF m 21 #[.val (.int p0), .val (.int p1), .val (.ref b28), .val (.long y14), .second, .val (.long y19), .second, .unset, .unset] [])) rfl (hb hby at_21) _ k) ?_
  refine own_go (U' := T31.setTop (mkF m 26 #[.val (.int p0), .val (.int p1), .val (.ref b28), .val (.long y14), .second, .val (.long y19), .second, .val (.long (512 : Int64)), .second] [])) (fun _ k => XS.lstore X31.here hx rfl (hb hby at_24) rfl (l' := #[.val (.int p0), .val (.int p1), .val (.ref b28), .val (.long y14), .second, .val (.long y19), .second, .val (.long (512 : Int64)), .second]) rfl k) ?_
  refine own_go (U' := T31.setTop (mkF m 27 #[.val (.int p0), .val (.int p1), .val (.ref b28), .val (.long y14), .second, .val (.long y19), .second, .val (.long (512 : Int64)), .second] [(.long y14)])) (fun _ k => XS.lloadN X31.here hx rfl (hb hby at_26) rfl k) ?_
  refine own_go (U' := T31.setTop (mkF m 29 #[.val (.int p0), .val (.int p1), .val (.ref b28), .val (.long y14), .second, .val (.long y19), .second, .val (.long (512 : Int64)), .second] [(.long (512 : Int64)), (.long y14)])) (fun _ k => XS.lload X31.here hx rfl (hb hby at_27) rfl k) ?_
  refine own_go (U' := T31.setTop (mkF m 30 #[.val (.int p0), .val (.int p1), .val (.ref b28), .val (.long y14), .second, .val (.long y19), .second, .val (.long (512 : Int64)), .second] [(.int (lcmpW y14 (512 : Int64)))])) (fun _ k => XS.lcmp X31.here hx rfl (hb hby at_29) rfl k) ?_
  have hc30_32 : y14 = (512 : Int64) := (hy14).symm.trans (own_512 _ _ _ _ _ _ _ _)
  refine own_go (U' := T31.setTop (mkF m 33 #[.val (.int p0), .val (.int p1), .val (.ref b28), .val (.long y14), .second, .val (.long y19), .second, .val (.long (512 : Int64)), .second] [])) (fun _ k => XS.ifNo X31.here hx rfl (hb hby at_30) rfl ((if0 _ _).trans (teq ((lw_eq _ _).mpr hc30_32)).2) k) ?_
  refine own_go (U' := T31.setTop (mkF m 35 #[.val (.int p0), .val (.int p1), .val (.ref b28), .val (.long y14), .second, .val (.long y19), .second, .val (.long (512 : Int64)), .second] [(.long y19)])) (fun _ k => XS.lload X31.here hx rfl (hb hby at_33) rfl k) ?_
  refine own_go (U' := T31.setTop (mkF m 37 #[.val (.int p0), .val (.int p1), .val (.ref b28), .val (.long y14), .second, .val (.long y19), .second, .val (.long (512 : Int64)), .second] [(.long (512 : Int64)), (.long y19)])) (fun _ k => XS.lload X31.here hx rfl (hb hby at_35) rfl k) ?_
  refine own_go (U' := T31.setTop (mkF m 38 #[.val (.int p0), .val (.int p1), .val (.ref b28), .val (.long y14), .second, .val (.long y19), .second, .val (.long (512 : Int64)), .second] [(.int (lcmpW y19 (512 : Int64)))])) (fun _ k => XS.lcmp X31.here hx rfl (hb hby at_37) rfl k) ?_
  have hc38_33 : y19 = (512 : Int64) := (hy19).symm.trans (own_512 _ _ _ _ _ _ _ _)
  refine own_go (U' := T31.setTop (mkF m 41 #[.val (.int p0), .val (.int p1), .val (.ref b28), .val (.long y14), .second, .val (.long y19), .second, .val (.long (512 : Int64)), .second] [])) (fun _ k => XS.ifNo X31.here hx rfl (hb hby at_38) rfl ((if0 _ _).trans (teq ((lw_eq _ _).mpr hc38_33)).2) k) ?_
  refine own_go (U' := T31.setTop (mkF m 42 #[.val (.int p0), .val (.int p1), .val (.ref b28), .val (.long y14), .second, .val (.long y19), .second, .val (.long (512 : Int64)), .second] [(.int (1 : Int32))])) (fun _ k => XS.iconst X31.here hx rfl (hb hby at_41) k) ?_
  refine own_go (U' := T31.setTop (mkF m 46 #[.val (.int p0), .val (.int p1), .val (.ref b28), .val (.long y14), .second, .val (.long y19), .second, .val (.long (512 : Int64)), .second] [(.int (1 : Int32))])) (fun _ k => XS.goto X31.here hx rfl (pc0 := 42) (pc' := 46) rfl (hb hby at_42) (by decide) (by decide) k) ?_
  refine own_ret X31 (v := (some (.int (1 : Int32)))) hlk (fun h => by rw [Bd.returns] at h; cases h) (by decide) (by decide) (fun fs hr => retN X31 hx (t := .boolean) Bd.returns (by simp) (hb hby at_46) hr) ?_
  show (Q0 Z p0 p1 wq h0 n0) _ T31.heap _
  rw [e31]
  exact ⟨rfl, N31⟩
set_option maxRecDepth 65536 in
set_option maxHeartbeats 40000000 in
theorem comes_1 {Post : Tables → Env → Array Value → State → Outcome → State → Prop} (hpost : ∀ tb e args s v u, (limb_1_1.after args s (.returned v) u = true ∧ limb_1_2.after args s (.returned v) u = true ∧ True) → FrameEnd s (.returned v) u (Jvm.fieldLocs frame_1_writes args s ++ Jvm.arrayLocs frame_1_arrays args s ++ Jvm.staticLocs frame_1_statics s) 24 1152 → Post tb e args s (.returned v) u) :
    ArmFor flags0 classFile x code maxLocals ret World_1 tables_1 room_1 Calls_1 rest_1 Pre_1 Post := by
  intro l hfl _ _ p e ha hc hk s m args below hf hA hF happ hP
  obtain ⟨hcalls, hrest, hpre⟩ := hP
  obtain ⟨-, -, -, hnamed, -, -, -, hat⟩ := (Spec.applies_iff hf).mp happ
  obtain ⟨hg, hn⟩ := and_e (Cond.before_iff.mp (show (Jvm.Cond.and given_1 narrow_1).before args s = true from hpre))
  obtain ⟨hcnt, hg0⟩ := and_e hg
  obtain ⟨hv0, hg1⟩ := and_e hg0
  have hv1 := hg1
  obtain ⟨w0, w1, rfl⟩ : ∃ w0 w1 : Value, args = #[w0, w1] := by
    have hs : args.size = 2 := by simpa [Cond.value, given_1] using hcnt
    obtain ⟨L⟩ := args
    match L, hs with
    | [w0, w1], _ => exact ⟨w0, w1, rfl⟩
  have hw := fun d (hd : d ∈ tables_1) => atoms_spec (ws := Jvm.Cond.code x code maxLocals ret :: tables_1) hat d (List.mem_cons_of_mem _ hd)
  have hfit : Fit s := fun {y c} hc i hi => by
    obtain ⟨ha, rfl⟩ := Array.getElem?_eq_some_iff.mp hc
    have q := List.all_eq_true.mp ((Array.all_eq_true_iff_forall_mem.mp hF) _ (Array.getElem_mem ha)) i (List.mem_range.mpr hi)
    simpa [Array.getElem?_eq_getElem hi] using q
  obtain ⟨i0, ei0⟩ := is_v hv0
  obtain rfl : w0 = (.int i0) := Option.some.inj ei0
  obtain ⟨i1, ei1⟩ := is_v hv1
  obtain rfl : w1 = (.int i1) := Option.some.inj ei1
  obtain ⟨wq, ew⟩ := exa_v hn
  have S_q := Sta.start ew (Or.inr ⟨hw _ (List.mem_of_getElem? (i := 10) rfl), hw _ (List.mem_of_getElem? (i := 11) rfl)⟩)
  obtain ⟨n, o, h1, h2, h3, _, L, rfl, ⟨rfl, N⟩, hq⟩ := rm0 l s _ hw tables_1 i0 i1 wq s.heap s.heap.size (Nat.le_refl _) S_q p e ha hc hk s m _ below hf ((Spec.applies_iff_loose hf).mp happ).1 ⟨rfl, State.Warmed39.refl s, rfl⟩ trivial
  refine ⟨n, _, h1, h2, h3, hpost _ _ _ _ _ _ ⟨Cond.after_iff.mpr rfl, Cond.after_iff.mpr (eq_i res_at (Term.int_eval (1)) rfl), trivial⟩ ⟨hq.1, hq.2.1, (hq.2.2.sift fun y hy => Or.inr (N y hy)).mono (by decide) (by decide)⟩⟩
theorem main_1_1 : Claimed_1_1 := comes_1 fun _ _ _ _ _ _ h hF => ⟨h.1, hF⟩
theorem main_1_2 : Claimed_1_2 := comes_1 fun _ _ _ _ _ _ h hF => ⟨h.2.1, hF⟩
end Jvm.Pilot.@@N@@
namespace Jvm.Pilot.@@N@@
open Jvm Jvm.ClassFile Sem Op Lib Jvm.Free Jvm.Stand Jvm.Pilot.@@N@@.Jvm.D
/-! MADE BY PROGRAM (witnessworld.py) out of the Statement's table words and the real class files: 14 classes; the members and pool entries that the words name. The judged class is class 1, her method 1. -/
namespace start1
open Jvm.ClassFile
def u (s : String) : CpInfo := .utf8 (stringToUtf16 s)
/-- a pool by its gaps: so many unusable entries, then the entry; so many at the end -/
def gap : Nat → List CpInfo → List CpInfo
  | 0, r => r
  | n + 1, r => .unusable :: gap n r
def poolList (es : List (Nat × CpInfo)) (last : Nat) : List CpInfo := es.foldr (fun e r => gap e.1 (e.2 :: r)) (gap last [])
def pool (es : List (Nat × CpInfo)) (last : Nat) : Array CpInfo := ⟨poolList es last⟩
def fileOf (pool : Array CpInfo) (this : Nat) (attrs : Array Attribute := #[]) (ms : Array MethodInfo := #[]) (fl : Nat := 33) (sup : Nat := 0) (ifs : Array Nat := #[]) (fds : Array FieldInfo := #[]) : ClassFile where
  minorVersion := 0
  majorVersion := 65
  constantPool := pool
  accessFlags := fl
  thisClass := this
  superClass := sup
  interfaces := ifs
  fields := fds
  methods := ms
  attributes := attrs
def plain (name : String) (sup : Option ClassId) : Class where
  name := name
  kind := .ordinary
  loader := none
  accessFlags := 33
  super := sup
  interfaces := #[]
  cf := none
  fields := #[]
  methods := #[]
  instanceTypes := #[]
  staticTypes := #[]
  resolved := #[]
  callSites := []
  init := .initialized
  statics := none
  mirror := none

def pool0 : Array CpInfo := pool [(5, u "<init>"), (0, u "()V"), (1, .class_ 10), (1, u "java/lang/Object")] 113

def k0c0 : Code := { maxStack := 0, maxLocals := 1, code := object_method_1_code, exceptionTable := #[], attributes := #[] }
def k0m0 : Method := { name := "<init>", desc := "()V", sig := { parameters := [], returnType := none }, accessFlags := 1, code := some k0c0 }
/-- java/lang/Object -/
def k0 : Class := { plain "java/lang/Object" none with
  accessFlags := 33
  interfaces := #[]
  cf := some (fileOf pool0 8 #[] #[{ accessFlags := 1, nameIndex := 5, descriptorIndex := 6, attributes := #[] }] 33 0 #[] #[])
  fields := #[]
  methods := #[k0m0]
  instanceTypes := #[]
  staticTypes := #[]
  resolved := Array.replicate 124 none
  statics := none }

def pool1 : Array CpInfo := pool [(2, .class_ 4), (1, u "java/lang/Object"), (0, u "<init>"), (0, u "()V"), (0, .class_ 8), (0, u "com/example/grantsmith/grantsmith/RequestParser"), (0, .methodref 7 10), (0, .nameAndType 5 11), (0, u "(II)V"), (0, .methodref 7 13), (0, .nameAndType 14 15), (0, u "heldBytes"), (0, u "()J"), (0, .long 512), (1, .class_ 19), (0, u "com/example/grantsmith/grantsmith/RequestParserHeldBytesPinLaw"), (2, u "law"), (0, u "(II)Z")] 3

def k1m0 : Method := { name := "<init>", desc := "()V", sig := { parameters := [], returnType := none }, accessFlags := 2, code := none }
def k1c1 : Code := { maxStack := 4, maxLocals := 9, code := code, exceptionTable := #[], attributes := #[] }
def k1m1 : Method := { name := "law", desc := "(II)Z", sig := { parameters := [.int, .int], returnType := some .boolean }, accessFlags := 9, code := some k1c1 }
/-- com/example/grantsmith/grantsmith/RequestParserHeldBytesPinLaw -/
def k1 : Class := { plain "com/example/grantsmith/grantsmith/RequestParserHeldBytesPinLaw" (some 0) with
  accessFlags := 49
  interfaces := #[]
  cf := some (fileOf pool1 18 #[] #[{ accessFlags := 2, nameIndex := 5, descriptorIndex := 6, attributes := #[] }, { accessFlags := 9, nameIndex := 22, descriptorIndex := 23, attributes := #[] }] 49 2 #[] #[])
  fields := #[]
  methods := #[k1m0, k1m1]
  instanceTypes := #[]
  staticTypes := #[]
  resolved := Array.replicate 27 none
  statics := none }

def pool2 : Array CpInfo := pool [(1, .methodref 2 3), (0, .class_ 4), (0, .nameAndType 5 6), (0, u "java/lang/Object"), (0, u "<init>"), (0, u "()V"), (0, .fieldref 8 9), (0, .class_ 10), (0, .nameAndType 11 12), (0, u "com/example/grantsmith/grantsmith/RequestParser$State"), (0, u "REQUEST_LINE"), (0, u "Lcom/example/grantsmith/grantsmith/RequestParser$State;"), (0, .fieldref 14 15), (0, .class_ 16), (0, .nameAndType 17 12), (0, u "com/example/grantsmith/grantsmith/RequestParser"), (0, u "state"), (0, .fieldref 14 19), (0, .nameAndType 20 21), (0, u "line"), (0, u "[B"), (0, .fieldref 14 23), (0, .nameAndType 24 21), (0, u "body"), (0, .fieldref 14 26), (0, .nameAndType 27 28), (0, u "maxHeadBytes"), (0, u "I"), (0, .fieldref 14 30), (0, .nameAndType 31 28), (0, u "maxBodyBytes"), (0, .fieldref 14 33), (0, .nameAndType 34 28), (0, u "lineBudget"), (0, .class_ 36), (0, u "com/example/grantsmith/grantsmith/HeaderFields"), (0, .methodref 35 38), (0, .nameAndType 5 39), (0, u "(I)V"), (0, .fieldref 14 41), (0, .nameAndType 42 43), (0, u "headers"), (0, u "Lcom/example/grantsmith/grantsmith/HeaderFields;"), (14, .class_ 60), (1, u "com/example/grantsmith/grantsmith/RequestParser$Progress"), (13, .fieldref 14 75), (0, .nameAndType 76 77), (0, u "request"), (0, u "Lcom/example/grantsmith/grantsmith/Request;"), (4, u "method"), (0, u "Ljava/lang/String;"), (2, u "path"), (2, u "bodyLength"), (11, u "()J"), (6, .fieldref 14 109), (0, .nameAndType 110 28), (0, u "requestLineBytes"), (0, .methodref 35 112), (0, .nameAndType 113 101), (0, u "heldBytes"), (5, u "started"), (0, u "Z"), (15, u "http11"), (75, u "lineLength"), (102, u "remaining"), (0, u "J"), (126, u "MAX_CHUNK_LINE_BYTES"), (2, u "HEX_DIGITS"), (0, u "(II)V")] 39

def k2c0 : Code := { maxStack := 4, maxLocals := 3, code := prog_7_method_1_code, exceptionTable := #[], attributes := #[] }
def k2m0 : Method := { name := "<init>", desc := "(II)V", sig := { parameters := [.int, .int], returnType := none }, accessFlags := 0, code := some k2c0 }
def k2c1 : Code := { maxStack := 4, maxLocals := 3, code := prog_7_method_3_code, exceptionTable := #[], attributes := #[] }
def k2m1 : Method := { name := "heldBytes", desc := "()J", sig := { parameters := [], returnType := some .long }, accessFlags := 0, code := some k2c1 }
/-- com/example/grantsmith/grantsmith/RequestParser -/
def k2 : Class := { plain "com/example/grantsmith/grantsmith/RequestParser" (some 0) with
  accessFlags := 48
  interfaces := #[]
  cf := some (fileOf pool2 14 #[.nestMembers #[8, 58]] #[{ accessFlags := 0, nameIndex := 5, descriptorIndex := 447, attributes := #[] }, { accessFlags := 0, nameIndex := 113, descriptorIndex := 101, attributes := #[] }] 48 2 #[] #[{ accessFlags := 26, nameIndex := 443, descriptorIndex := 28, attributes := #[] }, { accessFlags := 26, nameIndex := 446, descriptorIndex := 83, attributes := #[] }, { accessFlags := 18, nameIndex := 27, descriptorIndex := 28, attributes := #[] }, { accessFlags := 18, nameIndex := 31, descriptorIndex := 28, attributes := #[] }, { accessFlags := 2, nameIndex := 17, descriptorIndex := 12, attributes := #[] }, { accessFlags := 2, nameIndex := 119, descriptorIndex := 120, attributes := #[] }, { accessFlags := 2, nameIndex := 20, descriptorIndex := 21, attributes := #[] }, { accessFlags := 2, nameIndex := 212, descriptorIndex := 28, attributes := #[] }, { accessFlags := 2, nameIndex := 34, descriptorIndex := 28, attributes := #[] }, { accessFlags := 2, nameIndex := 82, descriptorIndex := 83, attributes := #[] }, { accessFlags := 2, nameIndex := 86, descriptorIndex := 83, attributes := #[] }, { accessFlags := 2, nameIndex := 136, descriptorIndex := 120, attributes := #[] }, { accessFlags := 2, nameIndex := 110, descriptorIndex := 28, attributes := #[] }, { accessFlags := 18, nameIndex := 42, descriptorIndex := 43, attributes := #[] }, { accessFlags := 2, nameIndex := 24, descriptorIndex := 21, attributes := #[] }, { accessFlags := 2, nameIndex := 89, descriptorIndex := 28, attributes := #[] }, { accessFlags := 2, nameIndex := 315, descriptorIndex := 316, attributes := #[] }, { accessFlags := 2, nameIndex := 76, descriptorIndex := 77, attributes := #[] }])
  fields := #[{ name := "MAX_CHUNK_LINE_BYTES", type := .int, accessFlags := 26, slot := 0, constantValue := 0 }, { name := "HEX_DIGITS", type := (.object "java/lang/String"), accessFlags := 26, slot := 1, constantValue := 0 }, { name := "maxHeadBytes", type := .int, accessFlags := 18, slot := 0, constantValue := 0 }, { name := "maxBodyBytes", type := .int, accessFlags := 18, slot := 1, constantValue := 0 }, { name := "state", type := (.object "com/example/grantsmith/grantsmith/RequestParser$State"), accessFlags := 2, slot := 2, constantValue := 0 }, { name := "started", type := .boolean, accessFlags := 2, slot := 3, constantValue := 0 }, { name := "line", type := (.array .byte), accessFlags := 2, slot := 4, constantValue := 0 }, { name := "lineLength", type := .int, accessFlags := 2, slot := 5, constantValue := 0 }, { name := "lineBudget", type := .int, accessFlags := 2, slot := 6, constantValue := 0 }, { name := "method", type := (.object "java/lang/String"), accessFlags := 2, slot := 7, constantValue := 0 }, { name := "path", type := (.object "java/lang/String"), accessFlags := 2, slot := 8, constantValue := 0 }, { name := "http11", type := .boolean, accessFlags := 2, slot := 9, constantValue := 0 }, { name := "requestLineBytes", type := .int, accessFlags := 2, slot := 10, constantValue := 0 }, { name := "headers", type := (.object "com/example/grantsmith/grantsmith/HeaderFields"), accessFlags := 18, slot := 11, constantValue := 0 }, { name := "body", type := (.array .byte), accessFlags := 2, slot := 12, constantValue := 0 }, { name := "bodyLength", type := .int, accessFlags := 2, slot := 13, constantValue := 0 }, { name := "remaining", type := .long, accessFlags := 2, slot := 14, constantValue := 0 }, { name := "request", type := (.object "com/example/grantsmith/grantsmith/Request"), accessFlags := 2, slot := 15, constantValue := 0 }]
  methods := #[k2m0, k2m1]
  instanceTypes := #[.int, .int, (.object "com/example/grantsmith/grantsmith/RequestParser$State"), .boolean, (.array .byte), .int, .int, (.object "java/lang/String"), (.object "java/lang/String"), .boolean, .int, (.object "com/example/grantsmith/grantsmith/HeaderFields"), (.array .byte), .int, .long, (.object "com/example/grantsmith/grantsmith/Request")]
  staticTypes := #[.int, (.object "java/lang/String")]
  resolved := Array.replicate 487 none
  statics := none }

def pool3 : Array CpInfo := pool [(1, .class_ 2), (0, u "java/lang/constant/Constable"), (0, .class_ 4), (0, u "java/lang/Object")] 6

/-- java/lang/constant/Constable -/
def k3 : Class := { plain "java/lang/constant/Constable" (some 0) with
  accessFlags := 1537
  interfaces := #[]
  cf := some (fileOf pool3 1 #[] #[] 1537 3 #[] #[])
  fields := #[]
  methods := #[]
  instanceTypes := #[]
  staticTypes := #[]
  resolved := Array.replicate 11 none
  statics := none }

def pool4 : Array CpInfo := pool [(1, .class_ 2), (0, u "java/lang/Comparable"), (0, .class_ 4), (0, u "java/lang/Object")] 7

/-- java/lang/Comparable -/
def k4 : Class := { plain "java/lang/Comparable" (some 0) with
  accessFlags := 1537
  interfaces := #[]
  cf := some (fileOf pool4 1 #[] #[] 1537 3 #[] #[])
  fields := #[]
  methods := #[]
  instanceTypes := #[]
  staticTypes := #[]
  resolved := Array.replicate 12 none
  statics := none }

def pool5 : Array CpInfo := pool [(1, .class_ 2), (0, u "java/io/Serializable"), (0, .class_ 4), (0, u "java/lang/Object")] 2

/-- java/io/Serializable -/
def k5 : Class := { plain "java/io/Serializable" (some 0) with
  accessFlags := 1537
  interfaces := #[]
  cf := some (fileOf pool5 1 #[] #[] 1537 3 #[] #[])
  fields := #[]
  methods := #[]
  instanceTypes := #[]
  staticTypes := #[]
  resolved := Array.replicate 7 none
  statics := none }

def pool6 : Array CpInfo := pool [(2, .class_ 4), (1, u "java/lang/Enum"), (0, u "name"), (0, u "Ljava/lang/String;"), (2, u "ordinal"), (0, u "I"), (1, .class_ 14), (1, u "java/lang/Object"), (4, u "hash"), (86, .class_ 108), (1, u "java/lang/Enum$EnumDesc"), (2, .class_ 112), (0, u "java/lang/constant/Constable"), (0, .class_ 114), (0, u "java/lang/Comparable"), (0, .class_ 116), (0, u "java/io/Serializable")] 87

/-- java/lang/Enum -/
def k6 : Class := { plain "java/lang/Enum" (some 0) with
  accessFlags := 1057
  interfaces := #[3, 4, 5]
  cf := some (fileOf pool6 2 #[.nestMembers #[106]] #[] 1057 12 #[111, 113, 115] #[{ accessFlags := 18, nameIndex := 5, descriptorIndex := 6, attributes := #[] }, { accessFlags := 18, nameIndex := 9, descriptorIndex := 10, attributes := #[] }, { accessFlags := 2, nameIndex := 19, descriptorIndex := 10, attributes := #[] }])
  fields := #[{ name := "name", type := (.object "java/lang/String"), accessFlags := 18, slot := 0, constantValue := 0 }, { name := "ordinal", type := .int, accessFlags := 18, slot := 1, constantValue := 0 }, { name := "hash", type := .int, accessFlags := 2, slot := 2, constantValue := 0 }]
  methods := #[]
  instanceTypes := #[(.object "java/lang/String"), .int, .int]
  staticTypes := #[]
  resolved := Array.replicate 204 none
  statics := none }

def pool7 : Array CpInfo := pool [(1, .class_ 2), (0, u "com/example/grantsmith/grantsmith/RequestParser$State"), (2, u "REQUEST_LINE"), (0, u "Lcom/example/grantsmith/grantsmith/RequestParser$State;"), (2, u "HEADERS"), (2, u "BODY"), (2, u "CHUNK_SIZE"), (2, u "CHUNK_DATA"), (2, u "CHUNK_END"), (2, u "TRAILERS"), (2, u "DONE"), (2, u "$VALUES"), (0, u "[Lcom/example/grantsmith/grantsmith/RequestParser$State;"), (6, .class_ 40), (1, u "java/lang/Enum"), (31, .class_ 73), (0, u "com/example/grantsmith/grantsmith/RequestParser")] 2

/-- com/example/grantsmith/grantsmith/RequestParser$State -/
def k7 : Class := { plain "com/example/grantsmith/grantsmith/RequestParser$State" (some 6) with
  accessFlags := 16432
  interfaces := #[]
  cf := some (fileOf pool7 1 #[.nestHost 72] #[] 16432 38 #[] #[{ accessFlags := 16409, nameIndex := 5, descriptorIndex := 6, attributes := #[] }, { accessFlags := 16409, nameIndex := 9, descriptorIndex := 6, attributes := #[] }, { accessFlags := 16409, nameIndex := 12, descriptorIndex := 6, attributes := #[] }, { accessFlags := 16409, nameIndex := 15, descriptorIndex := 6, attributes := #[] }, { accessFlags := 16409, nameIndex := 18, descriptorIndex := 6, attributes := #[] }, { accessFlags := 16409, nameIndex := 21, descriptorIndex := 6, attributes := #[] }, { accessFlags := 16409, nameIndex := 24, descriptorIndex := 6, attributes := #[] }, { accessFlags := 16409, nameIndex := 27, descriptorIndex := 6, attributes := #[] }, { accessFlags := 4122, nameIndex := 30, descriptorIndex := 31, attributes := #[] }])
  fields := #[{ name := "REQUEST_LINE", type := (.object "com/example/grantsmith/grantsmith/RequestParser$State"), accessFlags := 16409, slot := 0, constantValue := 0 }, { name := "HEADERS", type := (.object "com/example/grantsmith/grantsmith/RequestParser$State"), accessFlags := 16409, slot := 1, constantValue := 0 }, { name := "BODY", type := (.object "com/example/grantsmith/grantsmith/RequestParser$State"), accessFlags := 16409, slot := 2, constantValue := 0 }, { name := "CHUNK_SIZE", type := (.object "com/example/grantsmith/grantsmith/RequestParser$State"), accessFlags := 16409, slot := 3, constantValue := 0 }, { name := "CHUNK_DATA", type := (.object "com/example/grantsmith/grantsmith/RequestParser$State"), accessFlags := 16409, slot := 4, constantValue := 0 }, { name := "CHUNK_END", type := (.object "com/example/grantsmith/grantsmith/RequestParser$State"), accessFlags := 16409, slot := 5, constantValue := 0 }, { name := "TRAILERS", type := (.object "com/example/grantsmith/grantsmith/RequestParser$State"), accessFlags := 16409, slot := 6, constantValue := 0 }, { name := "DONE", type := (.object "com/example/grantsmith/grantsmith/RequestParser$State"), accessFlags := 16409, slot := 7, constantValue := 0 }, { name := "$VALUES", type := (.array (.object "com/example/grantsmith/grantsmith/RequestParser$State")), accessFlags := 4122, slot := 8, constantValue := 0 }]
  methods := #[]
  instanceTypes := #[(.object "java/lang/String"), .int, .int]
  staticTypes := #[(.object "com/example/grantsmith/grantsmith/RequestParser$State"), (.object "com/example/grantsmith/grantsmith/RequestParser$State"), (.object "com/example/grantsmith/grantsmith/RequestParser$State"), (.object "com/example/grantsmith/grantsmith/RequestParser$State"), (.object "com/example/grantsmith/grantsmith/RequestParser$State"), (.object "com/example/grantsmith/grantsmith/RequestParser$State"), (.object "com/example/grantsmith/grantsmith/RequestParser$State"), (.object "com/example/grantsmith/grantsmith/RequestParser$State"), (.array (.object "com/example/grantsmith/grantsmith/RequestParser$State"))]
  resolved := Array.replicate 76 none
  statics := some 0 }

def pool8 : Array CpInfo := pool [(1, .methodref 2 3), (0, .class_ 4), (0, .nameAndType 5 6), (0, u "java/lang/Object"), (0, u "<init>"), (0, u "()V"), (0, .fieldref 8 9), (0, .class_ 10), (0, .nameAndType 11 12), (0, u "com/example/grantsmith/grantsmith/HeaderFields"), (0, u "fields"), (0, u "[B"), (0, .fieldref 8 14), (0, .nameAndType 15 16), (0, u "maxBytes"), (0, u "I"), (19, u "length"), (70, u "TOKEN_SYMBOLS"), (0, u "Ljava/lang/String;"), (1, u "(I)V"), (9, u "heldBytes"), (0, u "()J")] 2

def k8c0 : Code := { maxStack := 2, maxLocals := 2, code := prog_2_method_1_code, exceptionTable := #[], attributes := #[] }
def k8m0 : Method := { name := "<init>", desc := "(I)V", sig := { parameters := [.int], returnType := none }, accessFlags := 0, code := some k8c0 }
def k8c1 : Code := { maxStack := 2, maxLocals := 1, code := prog_2_method_4_code, exceptionTable := #[], attributes := #[] }
def k8m1 : Method := { name := "heldBytes", desc := "()J", sig := { parameters := [], returnType := some .long }, accessFlags := 0, code := some k8c1 }
/-- com/example/grantsmith/grantsmith/HeaderFields -/
def k8 : Class := { plain "com/example/grantsmith/grantsmith/HeaderFields" (some 0) with
  accessFlags := 48
  interfaces := #[]
  cf := some (fileOf pool8 8 #[] #[{ accessFlags := 0, nameIndex := 5, descriptorIndex := 110, attributes := #[] }, { accessFlags := 0, nameIndex := 120, descriptorIndex := 121, attributes := #[] }] 48 2 #[] #[{ accessFlags := 26, nameIndex := 107, descriptorIndex := 108, attributes := #[] }, { accessFlags := 18, nameIndex := 15, descriptorIndex := 16, attributes := #[] }, { accessFlags := 2, nameIndex := 11, descriptorIndex := 12, attributes := #[] }, { accessFlags := 2, nameIndex := 36, descriptorIndex := 16, attributes := #[] }])
  fields := #[{ name := "TOKEN_SYMBOLS", type := (.object "java/lang/String"), accessFlags := 26, slot := 0, constantValue := 0 }, { name := "maxBytes", type := .int, accessFlags := 18, slot := 0, constantValue := 0 }, { name := "fields", type := (.array .byte), accessFlags := 2, slot := 1, constantValue := 0 }, { name := "length", type := .int, accessFlags := 2, slot := 2, constantValue := 0 }]
  methods := #[k8m0, k8m1]
  instanceTypes := #[.int, (.array .byte), .int]
  staticTypes := #[(.object "java/lang/String")]
  resolved := Array.replicate 124 none
  statics := none }

def pool9 : Array CpInfo := pool [(1, u "java/lang/Cloneable"), (0, .class_ 1), (0, u "java/lang/Object"), (0, .class_ 3)] 3

/-- java/lang/Cloneable -/
def k9 : Class := { plain "java/lang/Cloneable" (some 0) with
  accessFlags := 1537
  interfaces := #[]
  cf := some (fileOf pool9 2 #[] #[] 1537 4 #[] #[])
  fields := #[]
  methods := #[]
  instanceTypes := #[]
  staticTypes := #[]
  resolved := Array.replicate 8 none
  statics := none }

/-- the primitive byte -/
def k10 : Class := { plain "byte" none with kind := .primitive 'B', accessFlags := 0x411 }
/-- [B -/
def k11 : Class := { plain "[B" (some 0) with kind := .array 10 .byte, interfaces := #[9, 5], accessFlags := 1041 }

/-- the primitive int -/
def k12 : Class := { plain "int" none with kind := .primitive 'I', accessFlags := 0x411 }
/-- [I -/
def k13 : Class := { plain "[I" (some 0) with kind := .array 12 .int, interfaces := #[9, 5], accessFlags := 1041 }

def heap : Heap := #[{ cls := 7, slots := #[.ref 1, .null, .null, .null, .null, .null, .null, .null, .null], vm := .statics 7 },
  { cls := 7, slots := #[.null, .int 0, .int 0], vm := .none }]
def classes : Array Class := #[k0, k1, k2, k3, k4, k5, k6, k7, k8, k9, k10, k11, k12, k13]
def interned : List (Array UInt16 × Addr) := []
def slotsUsed : Nat := 12
def theMethod : MethodId := ⟨1, 1⟩
def args0 : Array Value := #[.int 5, .int 2]
def aboutOver (below : List Frame) : State where
  vm := { classes := classes, interned := interned.toArray }
  heap := heap
  slotsUsed := slotsUsed
  threads := #[{ frames := .invoking theMethod args0 :: below }]
def below0 : List Frame := [.native { method := ⟨0, 0⟩, args := #[] }]
def about1 : State := aboutOver below0
def p0 : Program := .bare "" "" ""
def e0 : Env := launch0.env 0 0 0
theorem w_frames : about1.frames = Frame.invoking theMethod args0 :: below0 := rfl
set_option maxRecDepth 65536 in
theorem w_args : argsFit about1.vm theMethod args0 = true := by decide +kernel
set_option maxRecDepth 65536 in
theorem w_heap : heapFits about1 = true := by decide +kernel
set_option maxRecDepth 65536 in
theorem w_runnable : about1.curStatus? = some .runnable := by decide +kernel
set_option maxRecDepth 65536 in
theorem w_alone : about1.alone = true := by decide +kernel
set_option maxRecDepth 65536 in
theorem w_named : about1.methodNamed? x = some theMethod := by decide +kernel
set_option maxRecDepth 65536 in
theorem w_hears : about1.hears theMethod below0 = true := by decide +kernel
set_option maxRecDepth 65536 in
theorem w_ripe : about1.ripe theMethod args0 below0 = true := by decide +kernel
theorem w_running : about1.status = .running := rfl
set_option maxRecDepth 65536 in
theorem w_room : about1.hasRoom e0.platform room_1 = true :=
  launch0.hasRoom_least _ room_1 (by decide +kernel) (by decide +kernel) (by decide +kernel) (by decide +kernel) (by decide +kernel) (by decide +kernel)
theorem allAtoms_all (ts : List Jvm.Cond) (a : Array Jvm.Value) (st : Jvm.State) : (allAtoms ts).before a st = ts.all (fun c => c.before a st) := by
  induction ts with
  | nil => rfl
  | cons c t ih =>
    show (Jvm.Cond.and c (allAtoms t)).before a st = _
    rw [Jvm.Cond.before_and, ih, List.all_cons]
def words1 : List Jvm.Cond := Jvm.Cond.code x code maxLocals ret :: tables_1
/-- a 'code' word, met by the world's own term for the bytes: nothing is compared byte by byte -/
theorem code_word {y : MethodName} {bytes : ByteArray} {mx : Nat} {rt : Option FieldType} {a : Array Value} {s : State} {m : MethodId} {meth : Method} {c : Code} (h1 : s.methodNamed? y = some m) (h2 : s.vm.method? m = some meth) (h3 : meth.code = some c) (h4 : c.code = bytes)
    (h5 : (c.maxLocals == mx && c.exceptionTable.isEmpty && decide (c.maxStack ≤ mostOperands) && decide (meth.sig.returnType = rt) && !meth.locks && decide (parseMethodDescriptor y.desc = some meth.sig)) = true) : (Jvm.Cond.code y bytes mx rt).before a s = true := by
  simp only [Bool.and_eq_true, beq_iff_eq, Bool.not_eq_true', decide_eq_true_eq] at h5
  obtain ⟨⟨⟨⟨⟨g1, g2⟩, g3⟩, g4⟩, g5⟩, g6⟩ := h5
  simp [Cond.before, Cond.holds, Cond.value, h1, h2, h3, h4, g1, g2, g3, g4, g5, g6]
def isCode : Jvm.Cond → Bool
  | .code _ _ _ _ => true
  | _ => false
theorem all_split {L : List Jvm.Cond} {P : Jvm.Cond → Bool} (h1 : L.all (fun c => isCode c || P c) = true) (h2 : ∀ c ∈ L.filter isCode, P c = true) : L.all P = true := by
  refine List.all_eq_true.mpr fun c hc => ?_
  have h := List.all_eq_true.mp h1 c hc
  rcases Bool.eq_false_or_eq_true (isCode c) with hi | hi
  · exact h2 c (List.mem_filter.mpr ⟨hc, hi⟩)
  · simpa [hi] using h
set_option maxRecDepth 65536 in
theorem w_c0 : (Jvm.Cond.code x code maxLocals ret).before args0 about1 = true := code_word (m := ⟨1, 1⟩) (meth := k1m1) (c := k1c1) (by decide +kernel) rfl rfl rfl (by decide +kernel)
set_option maxRecDepth 65536 in
theorem w_c1 : (Jvm.Cond.code ({ cls := "com/example/grantsmith/grantsmith/RequestParser", name := "<init>", desc := "(II)V" } : Jvm.MethodName) prog_7_method_1_code (3 : Nat) (Option.none : Option Jvm.ClassFile.FieldType)).before args0 about1 = true := code_word (m := ⟨2, 0⟩) (meth := k2m0) (c := k2c0) (by decide +kernel) rfl rfl rfl (by decide +kernel)
set_option maxRecDepth 65536 in
theorem w_c2 : (Jvm.Cond.code ({ cls := "java/lang/Object", name := "<init>", desc := "()V" } : Jvm.MethodName) object_method_1_code (1 : Nat) (Option.none : Option Jvm.ClassFile.FieldType)).before args0 about1 = true := code_word (m := ⟨0, 0⟩) (meth := k0m0) (c := k0c0) (by decide +kernel) rfl rfl rfl (by decide +kernel)
set_option maxRecDepth 65536 in
theorem w_c3 : (Jvm.Cond.code ({ cls := "com/example/grantsmith/grantsmith/HeaderFields", name := "<init>", desc := "(I)V" } : Jvm.MethodName) prog_2_method_1_code (2 : Nat) (Option.none : Option Jvm.ClassFile.FieldType)).before args0 about1 = true := code_word (m := ⟨8, 0⟩) (meth := k8m0) (c := k8c0) (by decide +kernel) rfl rfl rfl (by decide +kernel)
set_option maxRecDepth 65536 in
theorem w_c4 : (Jvm.Cond.code ({ cls := "com/example/grantsmith/grantsmith/RequestParser", name := "heldBytes", desc := "()J" } : Jvm.MethodName) prog_7_method_3_code (3 : Nat) (Option.some Jvm.ClassFile.FieldType.long)).before args0 about1 = true := code_word (m := ⟨2, 1⟩) (meth := k2m1) (c := k2c1) (by decide +kernel) rfl rfl rfl (by decide +kernel)
set_option maxRecDepth 65536 in
theorem w_c5 : (Jvm.Cond.code ({ cls := "com/example/grantsmith/grantsmith/HeaderFields", name := "heldBytes", desc := "()J" } : Jvm.MethodName) prog_2_method_4_code (1 : Nat) (Option.some Jvm.ClassFile.FieldType.long)).before args0 about1 = true := code_word (m := ⟨8, 1⟩) (meth := k8m1) (c := k8c1) (by decide +kernel) rfl rfl rfl (by decide +kernel)
def codes1 : List Jvm.Cond := [Jvm.Cond.code x code maxLocals ret, Jvm.Cond.code ({ cls := "com/example/grantsmith/grantsmith/RequestParser", name := "<init>", desc := "(II)V" } : Jvm.MethodName) prog_7_method_1_code (3 : Nat) (Option.none : Option Jvm.ClassFile.FieldType), Jvm.Cond.code ({ cls := "java/lang/Object", name := "<init>", desc := "()V" } : Jvm.MethodName) object_method_1_code (1 : Nat) (Option.none : Option Jvm.ClassFile.FieldType), Jvm.Cond.code ({ cls := "com/example/grantsmith/grantsmith/HeaderFields", name := "<init>", desc := "(I)V" } : Jvm.MethodName) prog_2_method_1_code (2 : Nat) (Option.none : Option Jvm.ClassFile.FieldType), Jvm.Cond.code ({ cls := "com/example/grantsmith/grantsmith/RequestParser", name := "heldBytes", desc := "()J" } : Jvm.MethodName) prog_7_method_3_code (3 : Nat) (Option.some Jvm.ClassFile.FieldType.long), Jvm.Cond.code ({ cls := "com/example/grantsmith/grantsmith/HeaderFields", name := "heldBytes", desc := "()J" } : Jvm.MethodName) prog_2_method_4_code (1 : Nat) (Option.some Jvm.ClassFile.FieldType.long)]
set_option maxRecDepth 65536 in
theorem codes_eq : words1.filter isCode = codes1 := rfl
theorem w_codes : ∀ c ∈ words1.filter isCode, c.before args0 about1 = true := by
  rw [codes_eq]
  intro c hc
  simp only [codes1, List.mem_cons, List.not_mem_nil, or_false] at hc
  rcases hc with rfl | rfl | rfl | rfl | rfl | rfl
  · exact w_c0
  · exact w_c1
  · exact w_c2
  · exact w_c3
  · exact w_c4
  · exact w_c5
set_option maxRecDepth 65536 in
theorem w_t1 : (words1.take 24).all (fun c => isCode c || c.before args0 about1) = true := by decide +kernel
set_option maxRecDepth 65536 in
theorem w_t2 : ((words1.drop 24).take 24).all (fun c => isCode c || c.before args0 about1) = true := by decide +kernel
set_option maxRecDepth 65536 in
theorem w_t3 : ((words1.drop 24).drop 24).all (fun c => isCode c || c.before args0 about1) = true := by decide +kernel
theorem w_tables : (allAtoms (Jvm.Cond.code x code maxLocals ret :: tables_1)).before args0 about1 = true := by
  rw [allAtoms_all]
  show words1.all (fun c => c.before args0 about1) = true
  refine all_split ?_ w_codes
  rw [← List.take_append_drop 24 words1, List.all_append, w_t1, ← List.take_append_drop 24 (words1.drop 24), List.all_append, w_t2, w_t3]
  rfl
set_option maxRecDepth 65536 in
theorem w_case : (Jvm.Cond.and given_1 narrow_1).before args0 about1 = true := by decide +kernel
theorem w_applies : (headSpec (Jvm.Cond.code x code maxLocals ret :: tables_1) room_1).applies x e0.platform about1 = true :=
  (Spec.applies_iff w_frames).mpr ⟨w_running, w_runnable, w_alone, w_named, w_hears, w_ripe, w_room, w_tables⟩
theorem atStart : AtStart classFile x code maxLocals ret World_1 tables_1 room_1 Calls_1 rest_1 Pre_1 launch0 p0 e0 about1 theMethod args0 below0 :=
  ⟨lists_1, trivial, launch0.admits_env _ _ _, launch0.least_env, fairChoices_fair.cas, fairChoices_fair.clock, w_frames, w_args, w_heap, w_applies, trivial, trivial, w_case⟩
end start1
theorem witness_1 : WitnessClaimed_1 := ⟨start1.p0, start1.e0, start1.about1, start1.theMethod, start1.args0, start1.below0, start1.atStart⟩
end Jvm.Pilot.@@N@@
